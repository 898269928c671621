import JvmDerived
import JvmDerived.Pilot.@@N@@Statement
import JvmDerived.Pilot.@@N@@Code
set_option linter.unusedVariables false
set_option linter.unusedSimpArgs false
namespace Jvm.Pilot.@@N@@
open Jvm Jvm.ClassFile Sem Op Lib Jvm.Free Jvm.Stand Jvm.LawKit Jvm.RoadKit Bundle Jvm.Pilot.@@N@@.Jvm.D
/-! OWN KIT 1: a goal 'the run goes on to a good end', and a block of plain instructions taken in one step (own_blk) -/
def own_Go (tb : Tables) (e : Env) (below : List Frame) (Q : Outcome → State → Prop) (S : State) : Prop :=
  ∃ s₂ o, Steps tb e below S s₂ ∧ s₂.status = .running ∧ Ended s₂ below o ∧ Q o s₂
theorem own_go {tb : Tables} {e : Env} {below : List Frame} {Q : Outcome → State → Prop} {S S' : State} (h : ∀ t, Steps tb e below S' t → Steps tb e below S t) (k : own_Go tb e below Q S') : own_Go tb e below Q S := by
  obtain ⟨s2, o, a, b, c, d⟩ := k
  exact ⟨s2, o, h _ a, b, c, d⟩
/-- what a contract asks of the end -/
def own_Fin (s : State) (C S : Nat) (q : Option Value → Heap → List Loc → Prop) (o : Outcome) (U : State) : Prop :=
  ∃ v L, o = .returned v ∧ q v U.heap L ∧ FrameEnd s o U L C S
/-! local variables as lists -/
def own_nth : List Slot → Nat → Option Slot
  | [], _ => none
  | a :: _, 0 => some a
  | _ :: r, n + 1 => own_nth r n
def own_put : List Slot → Nat → Slot → List Slot
  | [], _, _ => []
  | _ :: r, 0, x => x :: r
  | a :: r, n + 1, x => a :: own_put r n x
theorem own_nth_eq : ∀ (ls : List Slot) (k : Nat), (Array.mk ls)[k]? = own_nth ls k := by
  intro ls k
  show (Array.mk ls)[k]? = _
  rw [List.getElem?_toArray]
  induction ls generalizing k with
  | nil => rfl
  | cons a r ih => cases k with
    | zero => rfl
    | succ n => exact ih n
theorem own_put_eq : ∀ (ls : List Slot) (k : Nat) (x : Slot), (Array.mk ls).setIfInBounds k x = Array.mk (own_put ls k x) := by
  intro ls k x
  have h : ls.set k x = own_put ls k x := by
    induction ls generalizing k with
    | nil => rfl
    | cons a r ih => cases k with
      | zero => rfl
      | succ n => show a :: r.set n x = a :: own_put r n x; rw [ih]
  rw [← h]
  exact List.setIfInBounds_toArray _ _ _
theorem own_nth_lt {ls : List Slot} {k : Nat} {x : Slot} (h : own_nth ls k = some x) : k < (Array.mk ls).size := by
  rw [← own_nth_eq] at h
  exact (Array.getElem?_eq_some_iff.mp h).1
theorem own_size (ls : List Slot) (k : Nat) (x : Slot) : (Array.mk (own_put ls k x)).size = (Array.mk ls).size := by
  rw [← own_put_eq]; exact Array.size_setIfInBounds
theorem own_setAt {ls : List Slot} {k : Nat} (x : Slot) (h : k < (Array.mk ls).size) : setAt (Array.mk ls) k x = some (Array.mk (own_put ls k x)) := by
  rw [← own_put_eq]
  exact if_pos h
def own_self (ls : List Slot) (k : Nat) (v : Value) : Option (List Slot) :=
  match v.category with
  | 2 => match own_nth ls (k + 1) with
    | none => none
    | some .unset => some (own_put (own_put ls k (.val v)) (k + 1) .second)
    | some .second => some (own_put (own_put ls k (.val v)) (k + 1) .second)
    | some (.val w) => match w.category with
      | 2 => match own_nth ls (k + 2) with
        | none => none
        | some _ => some (own_put (own_put (own_put ls k (.val v)) (k + 2) .unset) (k + 1) .second)
      | _ => some (own_put (own_put ls k (.val v)) (k + 1) .second)
  | _ => some (own_put ls k (.val v))
def own_sto (ls : List Slot) (k : Nat) (v : Value) : Option (List Slot) :=
  match own_nth ls k with
  | none => none
  | some .unset => own_self ls k v
  | some .second => own_self (own_put ls (k - 1) .unset) k v
  | some (.val w) => match w.category with
    | 2 => match own_nth ls (k + 1) with
      | none => none
      | some _ => own_self (own_put ls (k + 1) .unset) k v
    | _ => own_self ls k v
theorem own_storeSelf (l : Array Slot) (i : Nat) (v : Value) : storeSelf l i v = (setAt l i (.val v)).bind fun l => if v.category = 2 then l[i + 1]?.bind fun o => (match o with
    | .val old => if old.category = 2 then (setAt l (i + 2) .unset).bind fun l2 => setAt l2 (i + 1) .second else setAt l (i + 1) .second
    | _ => setAt l (i + 1) .second) else some l := rfl
theorem own_storeLocals (l : Array Slot) (i : Nat) (v : Value) : storeLocals l i v = l[i]?.bind fun o => (match o with
    | .second => (setAt l (i - 1) .unset).bind fun l2 => storeSelf l2 i v
    | .val old => if old.category = 2 then (setAt l (i + 1) .unset).bind fun l2 => storeSelf l2 i v else storeSelf l i v
    | .unset => storeSelf l i v) := rfl
theorem own_nth_ne {ls : List Slot} {k j : Nat} {x : Slot} (h : j ≠ k) : own_nth (own_put ls k x) j = own_nth ls j := by
  rw [← own_nth_eq, ← own_nth_eq, ← own_put_eq]
  exact Array.getElem?_setIfInBounds_ne (Ne.symm h)
theorem own_self_ok {ls ls' : List Slot} {k : Nat} {v : Value} (hk : k < (Array.mk ls).size) (h : own_self ls k v = some ls') : storeSelf (Array.mk ls) k v = some (Array.mk ls') := by
  rw [own_storeSelf, own_setAt _ hk]
  show (if v.category = 2 then _ else _) = _
  unfold own_self at h
  split at h
  · rename_i hc
    rw [if_pos hc, own_nth_eq, own_nth_ne (by omega)]
    split at h
    · cases h
    · rename_i hn
      cases h
      rw [hn]
      exact own_setAt _ (by rw [own_size]; exact own_nth_lt hn)
    · rename_i hn
      cases h
      rw [hn]
      exact own_setAt _ (by rw [own_size]; exact own_nth_lt hn)
    · rename_i w hn
      rw [hn]
      show (if w.category = 2 then _ else _) = _
      split at h
      · rename_i hw
        rw [if_pos hw]
        split at h
        · cases h
        · rename_i y hy
          cases h
          rw [own_setAt _ (by rw [own_size]; exact own_nth_lt hy)]
          exact own_setAt _ (by rw [own_size, own_size]; exact own_nth_lt hn)
      · rename_i hw
        cases h
        rw [if_neg (fun q => hw q)]
        exact own_setAt _ (by rw [own_size]; exact own_nth_lt hn)
  · rename_i hc
    cases h
    rw [if_neg (fun q => hc q)]
theorem own_sto_ok {ls ls' : List Slot} {k : Nat} {v : Value} (h : own_sto ls k v = some ls') : storeLocals (Array.mk ls) k v = some (Array.mk ls') := by
  rw [own_storeLocals, own_nth_eq]
  unfold own_sto at h
  split at h
  · cases h
  · rename_i hn
    rw [hn]
    exact own_self_ok (own_nth_lt hn) h
  · rename_i hn
    rw [hn]
    have := own_nth_lt hn
    show ((setAt _ (k - 1) .unset).bind _) = _
    rw [own_setAt _ (by omega)]
    exact own_self_ok (by rw [own_size]; exact this) h
  · rename_i w hn
    rw [hn]
    have := own_nth_lt hn
    show (if w.category = 2 then _ else _) = _
    split at h
    · rename_i hw
      rw [if_pos hw]
      split at h
      · cases h
      · rename_i y hy
        rw [own_setAt _ (own_nth_lt hy)]
        exact own_self_ok (by rw [own_size]; exact this) h
    · rename_i hw
      rw [if_neg (fun q => hw q)]
      exact own_self_ok this h
/-! the conditions of a branch, said of whole numbers -/
def own_c0 : ClassFile.Cond → Int32 → Prop
  | .eq, a => a.toInt = 0
  | .ne, a => a.toInt ≠ 0
  | .lt, a => a.toInt < 0
  | .ge, a => 0 ≤ a.toInt
  | .gt, a => 0 < a.toInt
  | .le, a => a.toInt ≤ 0
def own_ic : ClassFile.Cond → Int32 → Int32 → Prop
  | .eq, a, b => a.toInt = b.toInt
  | .ne, a, b => a.toInt ≠ b.toInt
  | .lt, a, b => a.toInt < b.toInt
  | .ge, a, b => b.toInt ≤ a.toInt
  | .gt, a, b => b.toInt < a.toInt
  | .le, a, b => a.toInt ≤ b.toInt
theorem own_ic_ok (cd : ClassFile.Cond) (a b : Int32) : if_icmp.holds cd a b = true ↔ own_ic cd a b := by
  cases cd
  · show ((a == b) = true) ↔ a.toInt = b.toInt
    rw [beq_iff_eq, Int32.toInt_inj]
  · show ((a != b) = true) ↔ a.toInt ≠ b.toInt
    rw [bne_iff_ne, ne_eq, ne_eq, Int32.toInt_inj]
  · show (decide (a < b) = true) ↔ a.toInt < b.toInt
    rw [decide_eq_true_eq, Int32.lt_iff_toInt_lt]
  · show (decide (a ≥ b) = true) ↔ b.toInt ≤ a.toInt
    rw [decide_eq_true_eq, ge_iff_le, Int32.le_iff_toInt_le]
  · show (decide (a > b) = true) ↔ b.toInt < a.toInt
    rw [decide_eq_true_eq, gt_iff_lt, Int32.lt_iff_toInt_lt]
  · show (decide (a ≤ b) = true) ↔ a.toInt ≤ b.toInt
    rw [decide_eq_true_eq, Int32.le_iff_toInt_le]
theorem own_c0_ok (cd : ClassFile.Cond) (a : Int32) : ifCond.holds cd a = true ↔ own_c0 cd a := by
  have h : ifCond.holds cd a = if_icmp.holds cd a 0 := by cases cd <;> rfl
  rw [h, own_ic_ok]
  cases cd <;> exact Iff.rfl
/-! what is read of an array -/
def own_at (Z : State) (h : Heap) (a : Addr) (ty : FieldType) (j : Int32) (v : Value) : Prop := ∃ cl, Arr Z h a cl ty ∧ ¬ (j < 0 ∨ cl.slots.size ≤ j.toNatClampNeg) ∧ cl.slots[j.toNatClampNeg]? = some v
def own_ln (Z : State) (h : Heap) (a : Addr) (N : Int32) : Prop := ∃ cl ty, Arr Z h a cl ty ∧ cl.slots.size.toInt32 = N
/-! one plain instruction: what it asks (obligations) and where it goes on. ds: the branches' decisions; vs: the values that are read of the heap -/
def own_len : Instr → Nat
  | .iload _ => 2 | .lload _ => 2 | .fload _ => 2 | .dload _ => 2 | .aload _ => 2
  | .istore _ => 2 | .lstore _ => 2 | .fstore _ => 2 | .dstore _ => 2 | .astore _ => 2
  | .bipush _ => 2 | .ldc _ => 2 | .newarray _ => 2
  | .sipush _ => 3 | .ldc_w _ => 3 | .ldc2_w _ => 3 | .iinc _ _ => 3 | .goto _ => 3 | .ifCond _ _ => 3 | .if_icmp _ _ => 3 | .if_acmp _ _ => 3 | .ifnull _ => 3 | .ifnonnull _ => 3
  | .getfield _ => 3 | .putfield _ => 3 | .getstatic _ => 3 | .putstatic _ => 3 | .invokevirtual _ => 3 | .invokespecial _ => 3 | .invokestatic _ => 3 | .new _ => 3 | .anewarray _ => 3 | .checkcast _ => 3 | .instanceof _ => 3
  | .invokeinterface _ _ => 5 | .invokedynamic _ => 5
  | _ => 1
def own_tgt (pc : Nat) : Int → Option Nat
  | .ofNat n => some (pc + n)
  | .negSucc n => bif Nat.ble (n + 1) pc then some (pc - (n + 1)) else none
theorem own_tgt_ok {pc t : Nat} {o : Int} (h : own_tgt pc o = some t) : 0 ≤ (pc : Int) + o ∧ ((pc : Int) + o).toNat = t := by
  cases o with
  | ofNat n =>
    have h1 : pc + n = t := Option.some.inj h
    rw [Int.ofNat_eq_natCast]
    omega
  | negSucc n =>
    have h1 : (bif Nat.ble (n + 1) pc then some (pc - (n + 1)) else none) = some t := h
    cases hb : Nat.ble (n + 1) pc with
    | false => rw [hb] at h1; cases h1
    | true =>
      rw [hb] at h1
      have h2 : pc - (n + 1) = t := Option.some.inj h1
      have h3 := Nat.le_of_ble_eq_true hb
      rw [Int.negSucc_eq]
      omega
def own_key : List (Nat × Value) → Nat → Option Value
  | [], _ => none
  | (q, v) :: r, k => bif Nat.beq q k then some v else own_key r k
def own_fld : List (Nat × String × String × String) → Nat → Option (String × String × String)
  | [], _ => none
  | (q, v) :: r, k => bif Nat.beq q k then some v else own_fld r k
def own_ldI (ls : List Slot) (j : Nat) (k : Value → Prop) : Prop := match own_nth ls j with | some (.val (.int v)) => k (.int v) | _ => False
def own_ldL (ls : List Slot) (j : Nat) (k : Value → Prop) : Prop := match own_nth ls j with | some (.val (.long v)) => k (.long v) | _ => False
def own_ldD (ls : List Slot) (j : Nat) (k : Value → Prop) : Prop := match own_nth ls j with | some (.val (.double v)) => k (.double v) | _ => False
def own_ldA (ls : List Slot) (j : Nat) (k : Value → Prop) : Prop := match own_nth ls j with | some (.val (.ref a)) => k (.ref a) | some (.val .null) => k .null | _ => False
def own_stI (ls : List Slot) (st : List Value) (j : Nat) (k : List Slot → List Value → Prop) : Prop := match st with | .int x :: r => (match own_sto ls j (.int x) with | some l => k l r | none => False) | _ => False
def own_stL (ls : List Slot) (st : List Value) (j : Nat) (k : List Slot → List Value → Prop) : Prop := match st with | .long x :: r => (match own_sto ls j (.long x) with | some l => k l r | none => False) | _ => False
def own_stD (ls : List Slot) (st : List Value) (j : Nat) (k : List Slot → List Value → Prop) : Prop := match st with | .double x :: r => (match own_sto ls j (.double x) with | some l => k l r | none => False) | _ => False
def own_stA (ls : List Slot) (st : List Value) (j : Nat) (k : List Slot → List Value → Prop) : Prop := match st with | .ref x :: r => (match own_sto ls j (.ref x) with | some l => k l r | none => False) | .null :: r => (match own_sto ls j .null with | some l => k l r | none => False) | _ => False
def own_i1 (st : List Value) (f : Int32 → Value) (k : List Value → Prop) : Prop := match st with | .int x :: r => k (f x :: r) | _ => False
def own_l1 (st : List Value) (f : Int64 → Value) (k : List Value → Prop) : Prop := match st with | .long x :: r => k (f x :: r) | _ => False
def own_i2 (st : List Value) (g : Int32 → Int32 → Prop) (f : Int32 → Int32 → Value) (k : List Value → Prop) : Prop := match st with | .int y :: .int x :: r => g x y ∧ k (f x y :: r) | _ => False
def own_p2 (st : List Value) (f : Int32 → Int32 → Value) (k : List Value → Prop) : Prop := match st with | .int y :: .int x :: r => k (f x y :: r) | _ => False
def own_q2 (st : List Value) (f : Int64 → Int64 → Value) (k : List Value → Prop) : Prop := match st with | .long y :: .long x :: r => k (f x y :: r) | _ => False
def own_l2 (st : List Value) (g : Int64 → Int64 → Prop) (f : Int64 → Int64 → Value) (k : List Value → Prop) : Prop := match st with | .long y :: .long x :: r => g x y ∧ k (f x y :: r) | _ => False
def own_li (st : List Value) (f : Int64 → Int32 → Value) (k : List Value → Prop) : Prop := match st with | .int y :: .long x :: r => k (f x y :: r) | _ => False
def own_d2 (st : List Value) (f : UInt64 → UInt64 → UInt64) (k : List Value → Prop) : Prop := match st with | .double y :: .double x :: r => Jvm.Free.Fl.NoNaN64 (f x y) ∧ k (.double (f x y) :: r) | _ => False
def own_ca (st : List Value) (k : List Value → Prop) : Prop := match st with | x :: r => (match x.category with | 1 => k (x :: r) | _ => False) | _ => False
def own_al (Z : State) (h : Heap) (ty : FieldType) (st : List Value) (vs : List Value) (k : List Value → List Value → Prop) : Prop :=
  match st with | .int j :: .ref a :: r => (match vs with | v :: vs' => own_at Z h a ty j v ∧ k vs' (v :: r) | [] => False) | _ => False
def own_br (ds : List Bool) (C : Prop) (kt kn : List Bool → Prop) : Prop :=
  match ds with | true :: d => C ∧ kt d | false :: d => (¬ C) ∧ kn d | [] => False
def own_jp (pc : Nat) (o : Int) (k : Nat → Prop) : Prop := match own_tgt pc o with | some t => k t | none => False
def own_st (Kt : List (Nat × Value)) (Ft : List (Nat × String × String × String)) (Z : State) (h : Heap) (i : Instr) (pc : Nat) (ds : List Bool) (vs : List Value) (ls : List Slot) (st : List Value)
    (kf : List Bool → List Value → List Slot → List Value → Prop) (kj : Nat → List Bool → List Value → List Slot → List Value → Prop) : Prop :=
  match i with
  | .iload j => own_ldI ls j fun v => kf ds vs ls (v :: st)
  | .iload_n j => own_ldI ls j.val fun v => kf ds vs ls (v :: st)
  | .lload j => own_ldL ls j fun v => kf ds vs ls (v :: st)
  | .lload_n j => own_ldL ls j.val fun v => kf ds vs ls (v :: st)
  | .dload j => own_ldD ls j fun v => kf ds vs ls (v :: st)
  | .dload_n j => own_ldD ls j.val fun v => kf ds vs ls (v :: st)
  | .aload j => own_ldA ls j fun v => kf ds vs ls (v :: st)
  | .aload_n j => own_ldA ls j.val fun v => kf ds vs ls (v :: st)
  | .istore j => own_stI ls st j fun l r => kf ds vs l r
  | .istore_n j => own_stI ls st j.val fun l r => kf ds vs l r
  | .lstore j => own_stL ls st j fun l r => kf ds vs l r
  | .lstore_n j => own_stL ls st j.val fun l r => kf ds vs l r
  | .dstore j => own_stD ls st j fun l r => kf ds vs l r
  | .dstore_n j => own_stD ls st j.val fun l r => kf ds vs l r
  | .astore j => own_stA ls st j fun l r => kf ds vs l r
  | .astore_n j => own_stA ls st j.val fun l r => kf ds vs l r
  | .iconst n => kf ds vs ls (.int (Int32.ofInt n) :: st)
  | .bipush n => (match vs with | .int v :: vs' => (Int8.ofInt n).toInt32 = v ∧ kf ds vs' ls (.int v :: st) | _ => False)
  | .sipush n => (match vs with | .int v :: vs' => (Int16.ofInt n).toInt32 = v ∧ kf ds vs' ls (.int v :: st) | _ => False)
  | .lconst n => kf ds vs ls (.long (Int64.ofNat n) :: st)
  | .dconst n => kf ds vs ls (.double (match n.val with | 0 => 0 | _ => 4607182418800017408) :: st)
  | .aconst_null => kf ds vs ls (.null :: st)
  | .ldc n => (match own_key Kt n with | some (.int v) => kf ds vs ls (.int v :: st) | _ => False)
  | .ldc2_w n => (match own_key Kt n with | some (.long v) => kf ds vs ls (.long v :: st) | some (.double v) => kf ds vs ls (.double v :: st) | _ => False)
  | .iadd => own_p2 st (fun x y => .int (x + y)) fun r => kf ds vs ls r
  | .isub => own_p2 st (fun x y => .int (x - y)) fun r => kf ds vs ls r
  | .imul => own_p2 st (fun x y => .int (x * y)) fun r => kf ds vs ls r
  | .idiv => own_i2 st (fun _ y => y ≠ 0) (fun x y => .int (x / y)) fun r => kf ds vs ls r
  | .irem => own_i2 st (fun _ y => y ≠ 0) (fun x y => .int (x % y)) fun r => kf ds vs ls r
  | .iand => own_p2 st (fun x y => .int (x &&& y)) fun r => kf ds vs ls r
  | .ior => own_p2 st (fun x y => .int (x ||| y)) fun r => kf ds vs ls r
  | .ixor => own_p2 st (fun x y => .int (x ^^^ y)) fun r => kf ds vs ls r
  | .ishl => own_p2 st (fun x y => .int (x <<< (y &&& 31))) fun r => kf ds vs ls r
  | .ishr => own_p2 st (fun x y => .int (x >>> (y &&& 31))) fun r => kf ds vs ls r
  | .iushr => own_p2 st (fun x y => .int (Jvm.Free.XT.ushr x y)) fun r => kf ds vs ls r
  | .ineg => own_i1 st (fun x => .int (-x)) fun r => kf ds vs ls r
  | .i2l => own_i1 st (fun x => .long x.toInt64) fun r => kf ds vs ls r
  | .i2b => own_i1 st (fun x => .int x.toInt8.toInt32) fun r => kf ds vs ls r
  | .i2s => own_i1 st (fun x => .int x.toInt16.toInt32) fun r => kf ds vs ls r
  | .i2c => own_i1 st (fun x => .int x.toUInt32.toUInt16.toUInt32.toInt32) fun r => kf ds vs ls r
  | .i2d => own_i1 st (fun x => .double (FP.i2d x)) fun r => kf ds vs ls r
  | .l2i => own_l1 st (fun x => .int x.toInt32) fun r => kf ds vs ls r
  | .l2d => own_l1 st (fun x => .double (FP.l2d x)) fun r => kf ds vs ls r
  | .ladd => own_q2 st (fun x y => .long (x + y)) fun r => kf ds vs ls r
  | .lsub => own_q2 st (fun x y => .long (x - y)) fun r => kf ds vs ls r
  | .lmul => own_q2 st (fun x y => .long (x * y)) fun r => kf ds vs ls r
  | .ldiv => own_l2 st (fun _ y => y ≠ 0) (fun x y => .long (x / y)) fun r => kf ds vs ls r
  | .land => own_q2 st (fun x y => .long (x &&& y)) fun r => kf ds vs ls r
  | .lneg => own_l1 st (fun x => .long (-x)) fun r => kf ds vs ls r
  | .lshr => own_li st (fun x y => .long (x >>> (y.toInt64 &&& 63))) fun r => kf ds vs ls r
  | .lushr => own_li st (fun x y => .long (Jvm.Free.XT.ushrL x y)) fun r => kf ds vs ls r
  | .lcmp => own_q2 st (fun x y => .int (Jvm.Free.XT.cmpL x y)) fun r => kf ds vs ls r
  | .dadd => own_d2 st FP.dadd fun r => kf ds vs ls r
  | .dsub => own_d2 st FP.dsub fun r => kf ds vs ls r
  | .dmul => own_d2 st FP.dmul fun r => kf ds vs ls r
  | .ddiv => own_d2 st FP.ddiv fun r => kf ds vs ls r
  | .dneg => (match st with | .double x :: r => kf ds vs ls (.double (FP.dneg x) :: r) | _ => False)
  | .dcmp o => (match st with | .double y :: .double x :: r => kf ds vs ls (.int (cmpValue (FP.dcmp x y) o) :: r) | _ => False)
  | .iinc j n => (match own_nth ls j with | some (.val (.int x)) => (match own_sto ls j (.int (x + Int32.ofInt n)) with | some l => kf ds vs l st | none => False) | _ => False)
  | .dup => own_ca st fun st => (match st with | x :: r => kf ds vs ls (x :: x :: r) | _ => False)
  | .pop => own_ca st fun st => (match st with | _ :: r => kf ds vs ls r | _ => False)
  | .dup2 => own_ca st fun st => (match st with | x :: r => own_ca r fun r => (match r with | y :: q => kf ds vs ls (x :: y :: x :: y :: q) | _ => False) | _ => False)
  | .goto o => own_jp pc o fun t => kj t ds vs ls st
  | .ifCond cd o => (match st with | .int x :: r => own_br ds (own_c0 cd x) (fun d => own_jp pc o fun t => kj t d vs ls r) (fun d => kf d vs ls r) | _ => False)
  | .if_icmp cd o => (match st with | .int y :: .int x :: r => own_br ds (own_ic cd x y) (fun d => own_jp pc o fun t => kj t d vs ls r) (fun d => kf d vs ls r) | _ => False)
  | .ifnull o => (match st with | .null :: r => own_jp pc o fun t => kj t ds vs ls r | .ref _ :: r => kf ds vs ls r | _ => False)
  | .ifnonnull o => (match st with | .ref _ :: r => own_jp pc o fun t => kj t ds vs ls r | .null :: r => kf ds vs ls r | _ => False)
  | .arraylength => (match st with | .ref a :: r => (match vs with | .int N :: vs' => own_ln Z h a N ∧ kf ds vs' ls (.int N :: r) | _ => False) | _ => False)
  | .iaload => own_al Z h .int st vs fun vs' r => kf ds vs' ls r
  | .daload => own_al Z h .double st vs fun vs' r => kf ds vs' ls r
  | .laload => own_al Z h .long st vs fun vs' r => kf ds vs' ls r
  | .getfield n => (match st with | .ref a :: r => (match vs with | v :: vs' => (match own_fld Ft n with | some (C, f, d) => Fld Z h a C f d v ∧ kf ds vs' ls (v :: r) | none => False) | [] => False) | _ => False)
  | _ => False
theorem own_ldI_e {ls : List Slot} {j : Nat} {k : Value → Prop} (H : own_ldI ls j k) : ∃ v, own_nth ls j = some (.val (.int v)) ∧ k (.int v) := by
  unfold own_ldI at H
  split at H
  · exact ⟨_, by assumption, H⟩
  · exact H.elim
theorem own_ldL_e {ls : List Slot} {j : Nat} {k : Value → Prop} (H : own_ldL ls j k) : ∃ v, own_nth ls j = some (.val (.long v)) ∧ k (.long v) := by
  unfold own_ldL at H
  split at H
  · exact ⟨_, by assumption, H⟩
  · exact H.elim
theorem own_ldD_e {ls : List Slot} {j : Nat} {k : Value → Prop} (H : own_ldD ls j k) : ∃ v, own_nth ls j = some (.val (.double v)) ∧ k (.double v) := by
  unfold own_ldD at H
  split at H
  · exact ⟨_, by assumption, H⟩
  · exact H.elim
theorem own_ldA_e {ls : List Slot} {j : Nat} {k : Value → Prop} (H : own_ldA ls j k) : ∃ v, own_nth ls j = some (.val v) ∧ v.isRef = true ∧ k v := by
  unfold own_ldA at H
  split at H
  · exact ⟨_, by assumption, rfl, H⟩
  · exact ⟨_, by assumption, rfl, H⟩
  · exact H.elim
theorem own_stI_e {ls : List Slot} {st : List Value} {j : Nat} {k : List Slot → List Value → Prop} (H : own_stI ls st j k) : ∃ x r l, st = .int x :: r ∧ storeLocals (Array.mk ls) j (.int x) = some (Array.mk l) ∧ k l r := by
  unfold own_stI at H
  split at H
  · split at H
    · exact ⟨_, _, _, rfl, own_sto_ok (by assumption), H⟩
    · exact H.elim
  · exact H.elim
theorem own_stL_e {ls : List Slot} {st : List Value} {j : Nat} {k : List Slot → List Value → Prop} (H : own_stL ls st j k) : ∃ x r l, st = .long x :: r ∧ storeLocals (Array.mk ls) j (.long x) = some (Array.mk l) ∧ k l r := by
  unfold own_stL at H
  split at H
  · split at H
    · exact ⟨_, _, _, rfl, own_sto_ok (by assumption), H⟩
    · exact H.elim
  · exact H.elim
theorem own_stD_e {ls : List Slot} {st : List Value} {j : Nat} {k : List Slot → List Value → Prop} (H : own_stD ls st j k) : ∃ x r l, st = .double x :: r ∧ storeLocals (Array.mk ls) j (.double x) = some (Array.mk l) ∧ k l r := by
  unfold own_stD at H
  split at H
  · split at H
    · exact ⟨_, _, _, rfl, own_sto_ok (by assumption), H⟩
    · exact H.elim
  · exact H.elim
theorem own_stA_e {ls : List Slot} {st : List Value} {j : Nat} {k : List Slot → List Value → Prop} (H : own_stA ls st j k) : ∃ x r l, st = x :: r ∧ x.isRef = true ∧ storeLocals (Array.mk ls) j x = some (Array.mk l) ∧ k l r := by
  unfold own_stA at H
  split at H
  · split at H
    · exact ⟨_, _, _, rfl, rfl, own_sto_ok (by assumption), H⟩
    · exact H.elim
  · split at H
    · exact ⟨_, _, _, rfl, rfl, own_sto_ok (by assumption), H⟩
    · exact H.elim
  · exact H.elim
theorem own_i1_e {st : List Value} {f : Int32 → Value} {k : List Value → Prop} (H : own_i1 st f k) : ∃ x r, st = .int x :: r ∧ k (f x :: r) := by
  unfold own_i1 at H
  split at H
  · exact ⟨_, _, rfl, H⟩
  · exact H.elim
theorem own_l1_e {st : List Value} {f : Int64 → Value} {k : List Value → Prop} (H : own_l1 st f k) : ∃ x r, st = .long x :: r ∧ k (f x :: r) := by
  unfold own_l1 at H
  split at H
  · exact ⟨_, _, rfl, H⟩
  · exact H.elim
theorem own_i2_e {st : List Value} {g : Int32 → Int32 → Prop} {f : Int32 → Int32 → Value} {k : List Value → Prop} (H : own_i2 st g f k) : ∃ x y r, st = .int y :: .int x :: r ∧ g x y ∧ k (f x y :: r) := by
  unfold own_i2 at H
  split at H
  · exact ⟨_, _, _, rfl, H⟩
  · exact H.elim
theorem own_p2_e {st : List Value} {f : Int32 → Int32 → Value} {k : List Value → Prop} (H : own_p2 st f k) : ∃ x y r, st = .int y :: .int x :: r ∧ k (f x y :: r) := by
  unfold own_p2 at H
  split at H
  · exact ⟨_, _, _, rfl, H⟩
  · exact H.elim
theorem own_l2_e {st : List Value} {g : Int64 → Int64 → Prop} {f : Int64 → Int64 → Value} {k : List Value → Prop} (H : own_l2 st g f k) : ∃ x y r, st = .long y :: .long x :: r ∧ g x y ∧ k (f x y :: r) := by
  unfold own_l2 at H
  split at H
  · exact ⟨_, _, _, rfl, H⟩
  · exact H.elim
theorem own_q2_e {st : List Value} {f : Int64 → Int64 → Value} {k : List Value → Prop} (H : own_q2 st f k) : ∃ x y r, st = .long y :: .long x :: r ∧ k (f x y :: r) := by
  unfold own_q2 at H
  split at H
  · exact ⟨_, _, _, rfl, H⟩
  · exact H.elim
theorem own_li_e {st : List Value} {f : Int64 → Int32 → Value} {k : List Value → Prop} (H : own_li st f k) : ∃ x y r, st = .int y :: .long x :: r ∧ k (f x y :: r) := by
  unfold own_li at H
  split at H
  · exact ⟨_, _, _, rfl, H⟩
  · exact H.elim
theorem own_d2_e {st : List Value} {f : UInt64 → UInt64 → UInt64} {k : List Value → Prop} (H : own_d2 st f k) : ∃ x y r, st = .double y :: .double x :: r ∧ Jvm.Free.Fl.NoNaN64 (f x y) ∧ k (.double (f x y) :: r) := by
  unfold own_d2 at H
  split at H
  · exact ⟨_, _, _, rfl, H⟩
  · exact H.elim
theorem own_ca_e {st : List Value} {k : List Value → Prop} (H : own_ca st k) : ∃ x r, st = x :: r ∧ x.category = 1 ∧ k (x :: r) := by
  unfold own_ca at H
  split at H
  · split at H
    · exact ⟨_, _, rfl, by assumption, H⟩
    · exact H.elim
  · exact H.elim
theorem own_al_e {Z : State} {h : Heap} {ty : FieldType} {st vs : List Value} {k : List Value → List Value → Prop} (H : own_al Z h ty st vs k) : ∃ j a r v vs', st = .int j :: .ref a :: r ∧ vs = v :: vs' ∧ own_at Z h a ty j v ∧ k vs' (v :: r) := by
  unfold own_al at H
  split at H
  · split at H
    · exact ⟨_, _, _, _, _, rfl, rfl, H⟩
    · exact H.elim
  · exact H.elim
theorem own_br_e {ds : List Bool} {C : Prop} {kt kn : List Bool → Prop} (H : own_br ds C kt kn) : (C ∧ ∃ d, kt d) ∨ ((¬ C) ∧ ∃ d, kn d) := by
  unfold own_br at H
  split at H
  · exact Or.inl ⟨H.1, _, H.2⟩
  · exact Or.inr ⟨H.1, _, H.2⟩
  · exact H.elim
theorem own_jp_e {pc : Nat} {o : Int} {k : Nat → Prop} (H : own_jp pc o k) : ∃ t, 0 ≤ (pc : Int) + o ∧ ((pc : Int) + o).toNat = t ∧ k t := by
  unfold own_jp at H
  split at H
  · rename_i t ht
    exact ⟨t, (own_tgt_ok ht).1, (own_tgt_ok ht).2, H⟩
  · exact H.elim
def own_kw (own : String) (a0 : Array Value) (Z : State) : Nat × Value → Prop
  | (n, .int v) => (Jvm.Cond.constant own n v).before a0 Z = true
  | (n, .long v) => (Jvm.Cond.constantLong own n v).before a0 Z = true
  | (n, .double v) => (Jvm.Cond.constantDouble own n v).before a0 Z = true
  | _ => False
def own_ks (own : String) (a0 : Array Value) (Z : State) : List (Nat × Value) → Prop
  | [] => True
  | x :: r => own_kw own a0 Z x ∧ own_ks own a0 Z r
def own_fs (own : String) (a0 : Array Value) (Z : State) : List (Nat × String × String × String) → Prop
  | [] => True
  | (n, C, f, d) :: r => (Jvm.Cond.fieldLink own n C f d).before a0 Z = true ∧ own_fs own a0 Z r
theorem own_key_e {own : String} {a0 : Array Value} {Z : State} {n : Nat} {v : Value} : ∀ {Kt : List (Nat × Value)}, own_ks own a0 Z Kt → own_key Kt n = some v → own_kw own a0 Z (n, v)
  | [], _, h => by cases h
  | (q, w) :: r, hk, h => by
    have h' : (bif Nat.beq q n then some w else own_key r n) = some v := h
    cases hb : Nat.beq q n with
    | true =>
      rw [hb] at h'
      have e1 : w = v := Option.some.inj h'
      have e2 := Nat.eq_of_beq_eq_true hb
      subst e1 e2
      exact hk.1
    | false =>
      rw [hb] at h'
      exact own_key_e hk.2 h'
theorem own_fld_e {own : String} {a0 : Array Value} {Z : State} {n : Nat} {C f d : String} : ∀ {Ft : List (Nat × String × String × String)}, own_fs own a0 Z Ft → own_fld Ft n = some (C, f, d) → (Jvm.Cond.fieldLink own n C f d).before a0 Z = true
  | [], _, h => by cases h
  | (q, C', f', d') :: r, hk, h => by
    have h' : (bif Nat.beq q n then some (C', f', d') else own_fld r n) = some (C, f, d) := h
    cases hb : Nat.beq q n with
    | true =>
      rw [hb] at h'
      have e1 : (C', f', d') = (C, f, d) := Option.some.inj h'
      have e2 := Nat.eq_of_beq_eq_true hb
      cases e1
      subst e2
      exact hk.1
    | false =>
      rw [hb] at h'
      exact own_fld_e hk.2 h'
section OwnRun
variable {p : Program} {l : Launch} {e : Env} {R : Room} {s : State} {m : MethodId} {args : Array Value} {below : List Frame} {meth : Method} {c : Code} {T : State} {locs : List Loc} {cells slots : Nat} {Z : State} {a0 : Array Value} {h : Heap} {Q : Outcome → State → Prop} {own : String}
/-- the run goes on well from pc with these locals and this stack, at whatever state of the same heap -/
def own_Aft (X : Stand p l e R s m args below meth c T locs cells slots) (h : Heap) (Q : Outcome → State → Prop) (pc : Nat) (ls : List Slot) (st : List Value) : Prop :=
  ∀ T', Stand p l e R s m args below meth c T' locs cells slots → T'.heap = h → own_Go p.tables e below Q (T'.setTop (mkF m pc (Array.mk ls) st))
set_option maxHeartbeats 4000000 in
theorem own_st_ok (X : Stand p l e R s m args below meth c T locs cells slots) (hx : p.tables.exec = Jvm.exec) (hZ : Z.Warmed39 s.vm) (hown : s.vm.findClass own = some m.cls) (eT : T.heap = h) {Kt : List (Nat × Value)} {Ft : List (Nat × String × String × String)} (hK : own_ks own a0 Z Kt) (hF : own_fs own a0 Z Ft)
    {i : Instr} {pc : Nat} (hd : decode c.code pc = .ok (i, own_len i)) {ds : List Bool} {vs : List Value} {ls : List Slot} {st : List Value} {kf : List Bool → List Value → List Slot → List Value → Prop} {kj : Nat → List Bool → List Value → List Slot → List Value → Prop}
    (H : own_st Kt Ft Z h i pc ds vs ls st kf kj) (Hf : ∀ ds vs ls st, kf ds vs ls st → own_Aft X h Q (pc + own_len i) ls st) (Hj : ∀ t ds vs ls st, kj t ds vs ls st → own_Aft X h Q t ls st) :
    own_Go p.tables e below Q (T.setTop (mkF m pc (Array.mk ls) st)) := by
  cases i with
  | iload j =>
    have H : (own_ldI ls j fun v => kf ds vs ls (v :: st)) := H
    obtain ⟨v, hn, hk⟩ := own_ldI_e H
    exact own_go (fun t k => XS.iload X.here hx rfl hd ((own_nth_eq _ _).trans hn) k) (Hf _ _ _ _ hk T X eT)
  | iload_n j =>
    have H : (own_ldI ls j.val fun v => kf ds vs ls (v :: st)) := H
    obtain ⟨v, hn, hk⟩ := own_ldI_e H
    exact own_go (fun t k => XS.iloadN X.here hx rfl hd ((own_nth_eq _ _).trans hn) k) (Hf _ _ _ _ hk T X eT)
  | lload j =>
    have H : (own_ldL ls j fun v => kf ds vs ls (v :: st)) := H
    obtain ⟨v, hn, hk⟩ := own_ldL_e H
    exact own_go (fun t k => XT.lload X.here hx rfl hd ((own_nth_eq _ _).trans hn) k) (Hf _ _ _ _ hk T X eT)
  | lload_n j =>
    have H : (own_ldL ls j.val fun v => kf ds vs ls (v :: st)) := H
    obtain ⟨v, hn, hk⟩ := own_ldL_e H
    exact own_go (fun t k => XT.lloadN X.here hx rfl hd ((own_nth_eq _ _).trans hn) k) (Hf _ _ _ _ hk T X eT)
  | dload j =>
    have H : (own_ldD ls j fun v => kf ds vs ls (v :: st)) := H
    obtain ⟨v, hn, hk⟩ := own_ldD_e H
    exact own_go (fun t k => XS.dload X.here hx rfl hd ((own_nth_eq _ _).trans hn) k) (Hf _ _ _ _ hk T X eT)
  | dload_n j =>
    have H : (own_ldD ls j.val fun v => kf ds vs ls (v :: st)) := H
    obtain ⟨v, hn, hk⟩ := own_ldD_e H
    exact own_go (fun t k => XS.dloadN X.here hx rfl hd ((own_nth_eq _ _).trans hn) k) (Hf _ _ _ _ hk T X eT)
  | aload j =>
    have H : (own_ldA ls j fun v => kf ds vs ls (v :: st)) := H
    obtain ⟨v, hn, hv, hk⟩ := own_ldA_e H
    exact own_go (fun t k => XS.aload X.here hx rfl hd ((own_nth_eq _ _).trans hn) hv k) (Hf _ _ _ _ hk T X eT)
  | aload_n j =>
    have H : (own_ldA ls j.val fun v => kf ds vs ls (v :: st)) := H
    obtain ⟨v, hn, hv, hk⟩ := own_ldA_e H
    exact own_go (fun t k => XS.aloadN X.here hx rfl hd ((own_nth_eq _ _).trans hn) hv k) (Hf _ _ _ _ hk T X eT)
  | istore j =>
    have H : (own_stI ls st j fun l r => kf ds vs l r) := H
    obtain ⟨x, r, l', rfl, hl, hk⟩ := own_stI_e H
    exact own_go (fun t k => XS.istore X.here hx rfl hd rfl hl k) (Hf _ _ _ _ hk T X eT)
  | istore_n j =>
    have H : (own_stI ls st j.val fun l r => kf ds vs l r) := H
    obtain ⟨x, r, l', rfl, hl, hk⟩ := own_stI_e H
    exact own_go (fun t k => XS.istoreN X.here hx rfl hd rfl hl k) (Hf _ _ _ _ hk T X eT)
  | lstore j =>
    have H : (own_stL ls st j fun l r => kf ds vs l r) := H
    obtain ⟨x, r, l', rfl, hl, hk⟩ := own_stL_e H
    exact own_go (fun t k => XT.lstore X.here hx rfl hd rfl hl k) (Hf _ _ _ _ hk T X eT)
  | lstore_n j =>
    have H : (own_stL ls st j.val fun l r => kf ds vs l r) := H
    obtain ⟨x, r, l', rfl, hl, hk⟩ := own_stL_e H
    exact own_go (fun t k => XT.lstoreN X.here hx rfl hd rfl hl k) (Hf _ _ _ _ hk T X eT)
  | dstore j =>
    have H : (own_stD ls st j fun l r => kf ds vs l r) := H
    obtain ⟨x, r, l', rfl, hl, hk⟩ := own_stD_e H
    exact own_go (fun t k => XS.dstore X.here hx rfl hd rfl hl k) (Hf _ _ _ _ hk T X eT)
  | dstore_n j =>
    have H : (own_stD ls st j.val fun l r => kf ds vs l r) := H
    obtain ⟨x, r, l', rfl, hl, hk⟩ := own_stD_e H
    exact own_go (fun t k => XS.dstoreN X.here hx rfl hd rfl hl k) (Hf _ _ _ _ hk T X eT)
  | astore j =>
    have H : (own_stA ls st j fun l r => kf ds vs l r) := H
    obtain ⟨x, r, l', rfl, hv, hl, hk⟩ := own_stA_e H
    exact own_go (fun t k => XS.astore X.here hx rfl hd rfl hv hl k) (Hf _ _ _ _ hk T X eT)
  | astore_n j =>
    have H : (own_stA ls st j.val fun l r => kf ds vs l r) := H
    obtain ⟨x, r, l', rfl, hv, hl, hk⟩ := own_stA_e H
    exact own_go (fun t k => XS.astoreN X.here hx rfl hd rfl hv hl k) (Hf _ _ _ _ hk T X eT)
  | iconst n => exact own_go (fun t k => XS.iconst X.here hx rfl hd k) (Hf _ _ _ _ H T X eT)
  | bipush n =>
    have H' : (match (generalizing := false) vs with | .int v :: vs' => (Int8.ofInt n).toInt32 = v ∧ kf ds vs' ls (.int v :: st) | _ => False) := H
    split at H'
    · obtain ⟨hv, hk⟩ := H'
      subst hv
      exact own_go (fun t k => XS.bipush X.here hx rfl hd k) (Hf _ _ _ _ hk T X eT)
    · exact H'.elim
  | sipush n =>
    have H' : (match (generalizing := false) vs with | .int v :: vs' => (Int16.ofInt n).toInt32 = v ∧ kf ds vs' ls (.int v :: st) | _ => False) := H
    split at H'
    · obtain ⟨hv, hk⟩ := H'
      subst hv
      exact own_go (fun t k => XS.sipush X.here hx rfl hd k) (Hf _ _ _ _ hk T X eT)
    · exact H'.elim
  | lconst n => exact own_go (fun t k => XT.lconst X.here hx rfl hd k) (Hf _ _ _ _ H T X eT)
  | dconst n =>
    match n, hd, H, Hf with
    | ⟨0, _⟩, hd, H, Hf => exact own_go (fun t k => XS.dconst0 X.here hx rfl hd rfl k) (Hf _ _ _ _ H T X eT)
    | ⟨1, _⟩, hd, H, Hf => exact own_go (fun t k => XS.dconst1 X.here hx rfl hd rfl k) (Hf _ _ _ _ H T X eT)
  | aconst_null => exact own_go (fun t k => XS.aconstNull X.here hx rfl hd k) (Hf _ _ _ _ H T X eT)
  | ldc n =>
    have H' : (match (generalizing := false) own_key Kt n with | some (.int v) => kf ds vs ls (.int v :: st) | _ => False) := H
    split at H'
    · rename_i v hv
      exact own_go (X.ldcInt hx hown (mv hZ (own_key_e hK hv)) (g := mkF m pc (Array.mk ls) st) rfl hd) (Hf _ _ _ _ H' T X eT)
    · exact H'.elim
  | ldc2_w n =>
    have H' : (match (generalizing := false) own_key Kt n with | some (.long v) => kf ds vs ls (.long v :: st) | some (.double v) => kf ds vs ls (.double v :: st) | _ => False) := H
    split at H'
    · rename_i v hv
      exact own_go (X.ldc2Long hx hown (mv hZ (own_key_e hK hv)) (g := mkF m pc (Array.mk ls) st) rfl hd) (Hf _ _ _ _ H' T X eT)
    · rename_i v hv
      exact own_go (X.ldc2DoubleC hx hown (mv hZ (own_key_e hK hv)) (g := mkF m pc (Array.mk ls) st) rfl hd) (Hf _ _ _ _ H' T X eT)
    · exact H'.elim
  | iadd =>
    have H : (own_p2 st (fun x y => .int (x + y)) fun r => kf ds vs ls r) := H
    obtain ⟨x, y, r, rfl, hk⟩ := own_p2_e H
    exact own_go (fun t k => XS.iadd X.here hx rfl hd rfl k) (Hf _ _ _ _ hk T X eT)
  | isub =>
    have H : (own_p2 st (fun x y => .int (x - y)) fun r => kf ds vs ls r) := H
    obtain ⟨x, y, r, rfl, hk⟩ := own_p2_e H
    exact own_go (fun t k => XS.isub X.here hx rfl hd rfl k) (Hf _ _ _ _ hk T X eT)
  | imul =>
    have H : (own_p2 st (fun x y => .int (x * y)) fun r => kf ds vs ls r) := H
    obtain ⟨x, y, r, rfl, hk⟩ := own_p2_e H
    exact own_go (fun t k => XS.imul X.here hx rfl hd rfl k) (Hf _ _ _ _ hk T X eT)
  | idiv =>
    have H : (own_i2 st (fun _ y => y ≠ 0) (fun x y => .int (x / y)) fun r => kf ds vs ls r) := H
    obtain ⟨x, y, r, rfl, hg, hk⟩ := own_i2_e H
    exact own_go (fun t k => XS.idiv X.here hx rfl hd rfl hg k) (Hf _ _ _ _ hk T X eT)
  | irem =>
    have H : (own_i2 st (fun _ y => y ≠ 0) (fun x y => .int (x % y)) fun r => kf ds vs ls r) := H
    obtain ⟨x, y, r, rfl, hg, hk⟩ := own_i2_e H
    exact own_go (fun t k => iremM X hx (g := mkF m pc (Array.mk ls) _) rfl hd rfl hg k) (Hf _ _ _ _ hk T X eT)
  | iand =>
    have H : (own_p2 st (fun x y => .int (x &&& y)) fun r => kf ds vs ls r) := H
    obtain ⟨x, y, r, rfl, hk⟩ := own_p2_e H
    exact own_go (fun t k => XS.iand X.here hx rfl hd rfl k) (Hf _ _ _ _ hk T X eT)
  | ior =>
    have H : (own_p2 st (fun x y => .int (x ||| y)) fun r => kf ds vs ls r) := H
    obtain ⟨x, y, r, rfl, hk⟩ := own_p2_e H
    exact own_go (fun t k => XT.ior X.here hx rfl hd rfl k) (Hf _ _ _ _ hk T X eT)
  | ixor =>
    have H : (own_p2 st (fun x y => .int (x ^^^ y)) fun r => kf ds vs ls r) := H
    obtain ⟨x, y, r, rfl, hk⟩ := own_p2_e H
    exact own_go (fun t k => XT.ixor X.here hx rfl hd rfl k) (Hf _ _ _ _ hk T X eT)
  | ishl =>
    have H : (own_p2 st (fun x y => .int (x <<< (y &&& 31))) fun r => kf ds vs ls r) := H
    obtain ⟨x, y, r, rfl, hk⟩ := own_p2_e H
    exact own_go (fun t k => XT.ishl X.here hx rfl hd rfl k) (Hf _ _ _ _ hk T X eT)
  | ishr =>
    have H : (own_p2 st (fun x y => .int (x >>> (y &&& 31))) fun r => kf ds vs ls r) := H
    obtain ⟨x, y, r, rfl, hk⟩ := own_p2_e H
    exact own_go (fun t k => XT.ishr X.here hx rfl hd rfl k) (Hf _ _ _ _ hk T X eT)
  | iushr =>
    have H : (own_p2 st (fun x y => .int (Jvm.Free.XT.ushr x y)) fun r => kf ds vs ls r) := H
    obtain ⟨x, y, r, rfl, hk⟩ := own_p2_e H
    exact own_go (fun t k => XT.iushr X.here hx rfl hd rfl k) (Hf _ _ _ _ hk T X eT)
  | ineg =>
    have H : (own_i1 st (fun x => .int (-x)) fun r => kf ds vs ls r) := H
    obtain ⟨x, r, rfl, hk⟩ := own_i1_e H
    exact own_go (fun t k => XS.ineg X.here hx rfl hd rfl k) (Hf _ _ _ _ hk T X eT)
  | i2l =>
    have H : (own_i1 st (fun x => .long x.toInt64) fun r => kf ds vs ls r) := H
    obtain ⟨x, r, rfl, hk⟩ := own_i1_e H
    exact own_go (fun t k => XT.i2l X.here hx rfl hd rfl k) (Hf _ _ _ _ hk T X eT)
  | i2b =>
    have H : (own_i1 st (fun x => .int x.toInt8.toInt32) fun r => kf ds vs ls r) := H
    obtain ⟨x, r, rfl, hk⟩ := own_i1_e H
    exact own_go (fun t k => XT.i2b X.here hx rfl hd rfl k) (Hf _ _ _ _ hk T X eT)
  | i2s =>
    have H : (own_i1 st (fun x => .int x.toInt16.toInt32) fun r => kf ds vs ls r) := H
    obtain ⟨x, r, rfl, hk⟩ := own_i1_e H
    exact own_go (fun t k => XT.i2s X.here hx rfl hd rfl k) (Hf _ _ _ _ hk T X eT)
  | i2c =>
    have H : (own_i1 st (fun x => .int x.toUInt32.toUInt16.toUInt32.toInt32) fun r => kf ds vs ls r) := H
    obtain ⟨x, r, rfl, hk⟩ := own_i1_e H
    exact own_go (fun t k => XT.i2c X.here hx rfl hd rfl k) (Hf _ _ _ _ hk T X eT)
  | i2d =>
    have H : (own_i1 st (fun x => .double (FP.i2d x)) fun r => kf ds vs ls r) := H
    obtain ⟨x, r, rfl, hk⟩ := own_i1_e H
    exact own_go (fun t k => XS.i2dS X.here hx rfl hd rfl rfl k) (Hf _ _ _ _ hk T X eT)
  | l2i =>
    have H : (own_l1 st (fun x => .int x.toInt32) fun r => kf ds vs ls r) := H
    obtain ⟨x, r, rfl, hk⟩ := own_l1_e H
    exact own_go (fun t k => XT.l2i X.here hx rfl hd rfl k) (Hf _ _ _ _ hk T X eT)
  | l2d =>
    have H : (own_l1 st (fun x => .double (FP.l2d x)) fun r => kf ds vs ls r) := H
    obtain ⟨x, r, rfl, hk⟩ := own_l1_e H
    exact own_go (fun t k => XS.l2dS X.here hx rfl hd rfl rfl k) (Hf _ _ _ _ hk T X eT)
  | ladd =>
    have H : (own_q2 st (fun x y => .long (x + y)) fun r => kf ds vs ls r) := H
    obtain ⟨x, y, r, rfl, hk⟩ := own_q2_e H
    exact own_go (fun t k => XT.ladd X.here hx rfl hd rfl k) (Hf _ _ _ _ hk T X eT)
  | lsub =>
    have H : (own_q2 st (fun x y => .long (x - y)) fun r => kf ds vs ls r) := H
    obtain ⟨x, y, r, rfl, hk⟩ := own_q2_e H
    exact own_go (fun t k => XT.lsub X.here hx rfl hd rfl k) (Hf _ _ _ _ hk T X eT)
  | lmul =>
    have H : (own_q2 st (fun x y => .long (x * y)) fun r => kf ds vs ls r) := H
    obtain ⟨x, y, r, rfl, hk⟩ := own_q2_e H
    exact own_go (fun t k => XT.lmul X.here hx rfl hd rfl k) (Hf _ _ _ _ hk T X eT)
  | ldiv =>
    have H : (own_l2 st (fun _ y => y ≠ 0) (fun x y => .long (x / y)) fun r => kf ds vs ls r) := H
    obtain ⟨x, y, r, rfl, hg, hk⟩ := own_l2_e H
    exact own_go (fun t k => XT.ldiv X.here hx rfl hd rfl hg k) (Hf _ _ _ _ hk T X eT)
  | land =>
    have H : (own_q2 st (fun x y => .long (x &&& y)) fun r => kf ds vs ls r) := H
    obtain ⟨x, y, r, rfl, hk⟩ := own_q2_e H
    exact own_go (fun t k => XT.land X.here hx rfl hd rfl k) (Hf _ _ _ _ hk T X eT)
  | lneg =>
    have H : (own_l1 st (fun x => .long (-x)) fun r => kf ds vs ls r) := H
    obtain ⟨x, r, rfl, hk⟩ := own_l1_e H
    exact own_go (fun t k => XT.lneg X.here hx rfl hd rfl k) (Hf _ _ _ _ hk T X eT)
  | lshr =>
    have H : (own_li st (fun x y => .long (x >>> (y.toInt64 &&& 63))) fun r => kf ds vs ls r) := H
    obtain ⟨x, y, r, rfl, hk⟩ := own_li_e H
    exact own_go (fun t k => XT.lshr X.here hx rfl hd rfl k) (Hf _ _ _ _ hk T X eT)
  | lushr =>
    have H : (own_li st (fun x y => .long (Jvm.Free.XT.ushrL x y)) fun r => kf ds vs ls r) := H
    obtain ⟨x, y, r, rfl, hk⟩ := own_li_e H
    exact own_go (fun t k => XT.lushr X.here hx rfl hd rfl k) (Hf _ _ _ _ hk T X eT)
  | lcmp =>
    have H : (own_q2 st (fun x y => .int (Jvm.Free.XT.cmpL x y)) fun r => kf ds vs ls r) := H
    obtain ⟨x, y, r, rfl, hk⟩ := own_q2_e H
    exact own_go (fun t k => XT.lcmp X.here hx rfl hd rfl k) (Hf _ _ _ _ hk T X eT)
  | dadd =>
    have H : (own_d2 st FP.dadd fun r => kf ds vs ls r) := H
    obtain ⟨x, y, r, rfl, hg, hk⟩ := own_d2_e H
    exact own_go (fun t k => XS.daddS X.here hx rfl hd rfl hg rfl k) (Hf _ _ _ _ hk T X eT)
  | dsub =>
    have H : (own_d2 st FP.dsub fun r => kf ds vs ls r) := H
    obtain ⟨x, y, r, rfl, hg, hk⟩ := own_d2_e H
    exact own_go (fun t k => XS.dsubS X.here hx rfl hd rfl hg rfl k) (Hf _ _ _ _ hk T X eT)
  | dmul =>
    have H : (own_d2 st FP.dmul fun r => kf ds vs ls r) := H
    obtain ⟨x, y, r, rfl, hg, hk⟩ := own_d2_e H
    exact own_go (fun t k => XS.dmulS X.here hx rfl hd rfl hg rfl k) (Hf _ _ _ _ hk T X eT)
  | ddiv =>
    have H : (own_d2 st FP.ddiv fun r => kf ds vs ls r) := H
    obtain ⟨x, y, r, rfl, hg, hk⟩ := own_d2_e H
    exact own_go (fun t k => XS.ddivS X.here hx rfl hd rfl hg rfl k) (Hf _ _ _ _ hk T X eT)
  | dneg =>
    have H' : (match (generalizing := false) st with | .double x :: r => kf ds vs ls (.double (FP.dneg x) :: r) | _ => False) := H
    split at H'
    · exact own_go (fun t k => XS.dnegS X.here hx rfl hd rfl rfl k) (Hf _ _ _ _ H' T X eT)
    · exact H'.elim
  | dcmp o =>
    have H' : (match (generalizing := false) st with | .double y :: .double x :: r => kf ds vs ls (.int (cmpValue (FP.dcmp x y) o) :: r) | _ => False) := H
    split at H'
    · exact own_go (fun t k => XS.dcmpS X.here hx rfl hd rfl rfl k) (Hf _ _ _ _ H' T X eT)
    · exact H'.elim
  | iinc j n =>
    have H' : (match (generalizing := false) own_nth ls j with | some (.val (.int x)) => (match (generalizing := false) own_sto ls j (.int (x + Int32.ofInt n)) with | some l => kf ds vs l st | none => False) | _ => False) := H
    split at H'
    · rename_i x hn
      split at H'
      · rename_i l' hl
        exact own_go (fun t k => XS.iinc X.here hx rfl hd ((own_nth_eq _ _).trans hn) (own_sto_ok hl) k) (Hf _ _ _ _ H' T X eT)
      · exact H'.elim
    · exact H'.elim
  | dup =>
    have H : (own_ca st fun st => (match st with | x :: r => kf ds vs ls (x :: x :: r) | _ => False)) := H
    obtain ⟨x, r, rfl, hc, hk⟩ := own_ca_e H
    exact own_go (fun t k => XS.dup X.here hx rfl hd rfl hc k) (Hf _ _ _ _ hk T X eT)
  | pop =>
    have H : (own_ca st fun st => (match st with | _ :: r => kf ds vs ls r | _ => False)) := H
    obtain ⟨x, r, rfl, hc, hk⟩ := own_ca_e H
    exact own_go (fun t k => XT.pop X.here hx rfl hd rfl hc k) (Hf _ _ _ _ hk T X eT)
  | dup2 =>
    have H : (own_ca st fun st => (match st with | x :: r => own_ca r fun r => (match r with | y :: q => kf ds vs ls (x :: y :: x :: y :: q) | _ => False) | _ => False)) := H
    obtain ⟨x, r, rfl, hc, hk⟩ := own_ca_e H
    obtain ⟨y, q, rfl, hc', hk'⟩ := own_ca_e hk
    exact own_go (fun t k => XT.dup2 X.here hx rfl hd rfl hc hc' k) (Hf _ _ _ _ hk' T X eT)
  | goto o =>
    have H : (own_jp pc o fun t => kj t ds vs ls st) := H
    obtain ⟨t', h1, h2, hk⟩ := own_jp_e H
    exact own_go (fun t k => XS.goto X.here hx rfl rfl hd h1 h2 k) (Hj _ _ _ _ _ hk T X eT)
  | ifCond cd o =>
    have H' : (match (generalizing := false) st with | .int x :: r => own_br ds (own_c0 cd x) (fun d => own_jp pc o fun t => kj t d vs ls r) (fun d => kf d vs ls r) | _ => False) := H
    split at H'
    · rename_i x r
      rcases own_br_e H' with ⟨hC, d, hk⟩ | ⟨hC, d, hk⟩
      · obtain ⟨t', h1, h2, hk⟩ := own_jp_e hk
        exact own_go (fun t k => XS.ifYes X.here hx rfl rfl hd rfl ((own_c0_ok _ _).mpr hC) h1 h2 k) (Hj _ _ _ _ _ hk T X eT)
      · have hc : ifCond.holds cd x = false := by
          cases hb : ifCond.holds cd x with
          | false => rfl
          | true => exact absurd ((own_c0_ok _ _).mp hb) hC
        exact own_go (fun t k => XS.ifNo X.here hx rfl hd rfl hc k) (Hf _ _ _ _ hk T X eT)
    · exact H'.elim
  | if_icmp cd o =>
    have H' : (match (generalizing := false) st with | .int y :: .int x :: r => own_br ds (own_ic cd x y) (fun d => own_jp pc o fun t => kj t d vs ls r) (fun d => kf d vs ls r) | _ => False) := H
    split at H'
    · rename_i y x r
      rcases own_br_e H' with ⟨hC, d, hk⟩ | ⟨hC, d, hk⟩
      · obtain ⟨t', h1, h2, hk⟩ := own_jp_e hk
        exact own_go (fun t k => XS.icmpYes X.here hx rfl rfl hd rfl ((own_ic_ok _ _ _).mpr hC) h1 h2 k) (Hj _ _ _ _ _ hk T X eT)
      · have hc : if_icmp.holds cd x y = false := by
          cases hb : if_icmp.holds cd x y with
          | false => rfl
          | true => exact absurd ((own_ic_ok _ _ _).mp hb) hC
        exact own_go (fun t k => XS.icmpNo X.here hx rfl hd rfl hc k) (Hf _ _ _ _ hk T X eT)
    · exact H'.elim
  | ifnull o =>
    have H' : (match (generalizing := false) st with | .null :: r => own_jp pc o fun t => kj t ds vs ls r | .ref _ :: r => kf ds vs ls r | _ => False) := H
    split at H'
    · obtain ⟨t', h1, h2, hk⟩ := own_jp_e H'
      exact own_go (fun t k => XS.ifnullYes X.here hx rfl rfl hd rfl h1 h2 k) (Hj _ _ _ _ _ hk T X eT)
    · exact own_go (fun t k => XS.ifnullNo X.here hx rfl hd rfl k) (Hf _ _ _ _ H' T X eT)
    · exact H'.elim
  | ifnonnull o =>
    have H' : (match (generalizing := false) st with | .ref _ :: r => own_jp pc o fun t => kj t ds vs ls r | .null :: r => kf ds vs ls r | _ => False) := H
    split at H'
    · obtain ⟨t', h1, h2, hk⟩ := own_jp_e H'
      exact own_go (fun t k => XT.ifnonnullYes X.here hx rfl rfl hd rfl h1 h2 k) (Hj _ _ _ _ _ hk T X eT)
    · exact own_go (fun t k => XT.ifnonnullNo X.here hx rfl hd rfl k) (Hf _ _ _ _ H' T X eT)
    · exact H'.elim
  | arraylength =>
    have H' : (match (generalizing := false) st with | .ref a :: r => (match (generalizing := false) vs with | .int N :: vs' => own_ln Z h a N ∧ kf ds vs' ls (.int N :: r) | _ => False) | _ => False) := H
    split at H'
    · split at H'
      · rename_i a r N vs'
        obtain ⟨⟨cl, ty, A, hN⟩, hk⟩ := H'
        subst hN
        exact own_go (X.arraylength hx (by rw [eT]; exact A.1) (State.isArrayOf_alike hZ.alike A.2.1) (g := mkF m pc (Array.mk ls) _) rfl rfl hd) (Hf _ _ _ _ hk T X eT)
      · exact H'.elim
    · exact H'.elim
  | iaload =>
    have H : (own_al Z h .int st vs fun vs' r => kf ds vs' ls r) := H
    obtain ⟨j, a, r, v, vs', rfl, rfl, ⟨cl, A, hin, hv⟩, hk⟩ := own_al_e H
    exact own_go (X.iaload hx (by rw [eT]; exact A.1) (State.isArrayOf_alike hZ.alike A.2.1) A.2.2 hin hv (g := mkF m pc (Array.mk ls) _) rfl rfl hd) (Hf _ _ _ _ hk T X eT)
  | daload =>
    have H : (own_al Z h .double st vs fun vs' r => kf ds vs' ls r) := H
    obtain ⟨j, a, r, v, vs', rfl, rfl, ⟨cl, A, hin, hv⟩, hk⟩ := own_al_e H
    exact own_go (X.daload hx (by rw [eT]; exact A.1) (State.isArrayOf_alike hZ.alike A.2.1) A.2.2 hin hv (g := mkF m pc (Array.mk ls) _) rfl rfl hd) (Hf _ _ _ _ hk T X eT)
  | laload =>
    have H : (own_al Z h .long st vs fun vs' r => kf ds vs' ls r) := H
    obtain ⟨j, a, r, v, vs', rfl, rfl, ⟨cl, A, hin, hv⟩, hk⟩ := own_al_e H
    exact own_go (X.laload hx (by rw [eT]; exact A.1) (State.isArrayOf_alike hZ.alike A.2.1) A.2.2 hin hv (g := mkF m pc (Array.mk ls) _) rfl rfl hd) (Hf _ _ _ _ hk T X eT)
  | getfield n =>
    have H' : (match (generalizing := false) st with | .ref a :: r => (match (generalizing := false) vs with | v :: vs' => (match (generalizing := false) own_fld Ft n with | some (C, f, d) => Fld Z h a C f d v ∧ kf ds vs' ls (v :: r) | none => False) | [] => False) | _ => False) := H
    split at H'
    · split at H'
      · split at H'
        · rename_i a r v vs' o C f d hf
          obtain ⟨T', X', e', st'⟩ := getF X hx hZ hown (host := "") (Or.inl (own_fld_e hF hf)) Via.refl eT H'.1 (g := mkF m pc (Array.mk ls) _) rfl rfl hd
          exact own_go st' (Hf _ _ _ _ H'.2 T' X' e')
        · exact H'.elim
      · exact H'.elim
    · exact H'.elim
  | _ => exact H.elim
def own_from : List (Nat × Instr) → Nat → List (Nat × Instr)
  | [], _ => []
  | (q, i) :: r, pc => bif Nat.beq q pc then (q, i) :: r else own_from r pc
def own_dec (code : ByteArray) (tab : List (Nat × Instr)) : Prop := ∀ e ∈ tab, decode code e.1 = .ok (e.2, own_len e.2)
def own_seq : List (Nat × Instr) → Bool
  | (q, i) :: (q', i') :: r => Nat.beq q' (q + own_len i) && own_seq ((q', i') :: r)
  | _ => true
theorem own_from_sub : ∀ {full : List (Nat × Instr)} {t : Nat}, (∀ e ∈ own_from full t, e ∈ full) ∧ (own_seq full = true → own_seq (own_from full t) = true) ∧ (∀ q i r, own_from full t = (q, i) :: r → q = t)
  | [], t => ⟨fun e h => h, fun h => h, fun q i r h => by cases h⟩
  | (q, i) :: r, t => by
    have ih := own_from_sub (full := r) (t := t)
    cases hb : Nat.beq q t with
    | true =>
      have e : own_from ((q, i) :: r) t = (q, i) :: r := by show (bif Nat.beq q t then _ else _) = _; rw [hb]; rfl
      rw [e]
      refine ⟨fun e h => h, fun h => h, fun q' i' r' h => ?_⟩
      cases h
      exact Nat.eq_of_beq_eq_true hb
    | false =>
      have e : own_from ((q, i) :: r) t = own_from r t := by show (bif Nat.beq q t then _ else _) = _; rw [hb]; rfl
      rw [e]
      refine ⟨fun e h => List.mem_cons_of_mem _ (ih.1 e h), fun h => ih.2.1 ?_, ih.2.2⟩
      cases r with
      | nil => rfl
      | cons a r' =>
        obtain ⟨q', i'⟩ := a
        have h' : (Nat.beq q' (q + own_len i) && own_seq ((q', i') :: r')) = true := h
        exact (Bool.and_eq_true_iff.mp h').2
/-! a block: n plain instructions from the table's row at hand on -/
def own_wp (Kt : List (Nat × Value)) (Ft : List (Nat × String × String × String)) (Z : State) (h : Heap) (full : List (Nat × Instr)) (P : Nat → List Slot → List Value → Prop) : Nat → List (Nat × Instr) → List Bool → List Value → List Slot → List Value → Prop
  | _, [], _, _, _, _ => False
  | 0, (q, _) :: _, _, _, ls, st => P q ls st
  | n + 1, (q, i) :: r, ds, vs, ls, st => own_st Kt Ft Z h i q ds vs ls st (fun ds vs ls st => own_wp Kt Ft Z h full P n r ds vs ls st) (fun t ds vs ls st => own_wp Kt Ft Z h full P n (own_from full t) ds vs ls st)
theorem own_wp_ok {code : ByteArray} {full : List (Nat × Instr)} (hdec : own_dec code full) (hseq : own_seq full = true) (hby : c.code = code) (hx : p.tables.exec = Jvm.exec) (hZ : Z.Warmed39 s.vm) (hown : s.vm.findClass own = some m.cls) {Kt : List (Nat × Value)} {Ft : List (Nat × String × String × String)} (hK : own_ks own a0 Z Kt) (hF : own_fs own a0 Z Ft) (X : Stand p l e R s m args below meth c T locs cells slots) :
    ∀ (n : Nat) (tab : List (Nat × Instr)) (ds : List Bool) (vs : List Value) (ls : List Slot) (st : List Value), (∀ e ∈ tab, e ∈ full) → own_seq tab = true → own_wp Kt Ft Z h full (own_Aft X h Q) n tab ds vs ls st →
      ∃ q i r, tab = (q, i) :: r ∧ own_Aft X h Q q ls st
  | _, [], _, _, _, _, _, _, H => by cases ‹Nat› <;> exact H.elim
  | 0, (q, i) :: r, ds, vs, ls, st, _, _, H => ⟨q, i, r, rfl, H⟩
  | n + 1, (q, i) :: r, ds, vs, ls, st, hsub, hs, H => by
    refine ⟨q, i, r, rfl, fun T' X' e' => ?_⟩
    have hd : decode c.code q = .ok (i, own_len i) := by rw [hby]; exact hdec (q, i) (hsub (q, i) (List.mem_cons_self ..))
    have H1 : own_st Kt Ft Z h i q ds vs ls st (fun ds vs ls st => own_wp Kt Ft Z h full (own_Aft X h Q) n r ds vs ls st) (fun t ds vs ls st => own_wp Kt Ft Z h full (own_Aft X h Q) n (own_from full t) ds vs ls st) := H
    clear H
    refine own_st_ok X' hx hZ hown e' hK hF hd H1 (fun ds vs ls st hk => ?_) (fun t ds vs ls st hk => ?_)
    · cases r with
      | nil =>
        obtain ⟨q', i', r', e1, -⟩ := own_wp_ok hdec hseq hby hx hZ hown hK hF X n [] ds vs ls st (fun e he => absurd he (List.not_mem_nil)) rfl hk
        cases e1
      | cons a r' =>
        obtain ⟨q1, i1⟩ := a
        have h' : (Nat.beq q1 (q + own_len i) && own_seq ((q1, i1) :: r')) = true := hs
        obtain ⟨g1, g2⟩ := Bool.and_eq_true_iff.mp h'
        obtain ⟨q', i', r'', e1, e2⟩ := own_wp_ok hdec hseq hby hx hZ hown hK hF X n ((q1, i1) :: r') ds vs ls st (fun e he => hsub e (List.mem_cons_of_mem _ he)) g2 hk
        cases e1
        rw [← Nat.eq_of_beq_eq_true g1]
        exact e2
    · obtain ⟨q', i', r'', e1, e2⟩ := own_wp_ok hdec hseq hby hx hZ hown hK hF X n (own_from full t) ds vs ls st (own_from_sub.1) (own_from_sub.2.1 hseq) hk
      rw [← own_from_sub.2.2 _ _ _ e1]
      exact e2
/-- **A BLOCK**: n plain instructions from pc on, in one step -/
theorem own_blk {code : ByteArray} {full : List (Nat × Instr)} (hdec : own_dec code full) (hseq : own_seq full = true) (hby : c.code = code) (hx : p.tables.exec = Jvm.exec) (hZ : Z.Warmed39 s.vm) (hown : s.vm.findClass own = some m.cls) {Kt : List (Nat × Value)} {Ft : List (Nat × String × String × String)} (hK : own_ks own a0 Z Kt) (hF : own_fs own a0 Z Ft)
    (n : Nat) (ds : List Bool) (vs : List Value) (X : Stand p l e R s m args below meth c T locs cells slots) (eT : T.heap = h) {pc : Nat} {ls : List Slot} {st : List Value} (H : own_wp Kt Ft Z h full (own_Aft X h Q) n (own_from full pc) ds vs ls st) : own_Go p.tables e below Q (T.setTop (mkF m pc (Array.mk ls) st)) := by
  obtain ⟨q, i, r, e1, e2⟩ := own_wp_ok hdec hseq hby hx hZ hown hK hF X n (own_from full pc) ds vs ls st (own_from_sub.1) (own_from_sub.2.1 hseq) H
  rw [← own_from_sub.2.2 _ _ _ e1]
  exact e2 T X eT
/-- **A RETURN** of a value -/
theorem own_ret (X : Stand p l e R s m args below meth c T locs cells slots) (hx : p.tables.exec = Jvm.exec) (hlocks : meth.locks = false) (eT : T.heap = h) {C S : Nat} {q : Option Value → Heap → List Loc → Prop} {pc : Nat} {ls : List Slot} {w : Value} {rest : List Value} {t : FieldType} {i : Instr} (hret : meth.sig.returnType = some t) (hn : narrow t w = w)
    (hi : (i = .ireturn ∧ (t = .int ∨ t = .boolean ∨ t = .byte ∨ t = .char ∨ t = .short) ∧ ∃ z, w = .int z) ∨ (i = .lreturn ∧ t = .long ∧ ∃ z, w = .long z) ∨ (i = .dreturn ∧ t = .double ∧ ∃ z, w = .double z) ∨ (i = .freturn ∧ t = .float ∧ ∃ z, w = .float z) ∨ (i = .areturn ∧ t.isReference = true ∧ w.isRef = true))
    (hd : decode c.code pc = .ok (i, 1)) (hC : cells ≤ C) (hS : slots ≤ S) (hq : q (some w) h locs) : own_Go p.tables e below (own_Fin s C S q) (T.setTop (mkF m pc (Array.mk ls) (w :: rest))) := by
  obtain ⟨fs, hr, hrun, hended, hW, hsame⟩ := X.leave (v := some w) (fun h => by rw [hret] at h; cases h) hlocks
  refine ⟨_, _, retOut X hx hret hn hi hd hr, hrun, hended, some w, locs, rfl, ?_, ⟨_, rfl⟩, hW, hsame.mono hC hS⟩
  show q (some w) T.heap locs
  rw [eT]; exact hq
/-- **A RETURN** of nothing -/
theorem own_retV (X : Stand p l e R s m args below meth c T locs cells slots) (hx : p.tables.exec = Jvm.exec) (hlocks : meth.locks = false) (eT : T.heap = h) {C S : Nat} {q : Option Value → Heap → List Loc → Prop} {pc : Nat} {ls : List Slot} (hret : meth.sig.returnType = none)
    (hd : decode c.code pc = .ok (.return_, 1)) (hC : cells ≤ C) (hS : slots ≤ S) (hq : q none h locs) : own_Go p.tables e below (own_Fin s C S q) (T.setTop (mkF m pc (Array.mk ls) [])) := by
  obtain ⟨fs, hr, hrun, hended, hW, hsame⟩ := X.leave (v := none) (fun _ => rfl) hlocks
  refine ⟨_, _, X.returnOut hx hret hd hr, hrun, hended, none, locs, rfl, ?_, ⟨_, rfl⟩, hW, hsame.mono hC hS⟩
  show q none T.heap locs
  rw [eT]; exact hq
end OwnRun
/-! OWN KIT 2: steps that change the heap, and calls, as steps of own_Go -/
section OwnHeap
variable {p : Program} {l : Launch} {e : Env} {R : Room} {s : State} {m : MethodId} {args : Array Value} {below : List Frame} {meth : Method} {c : Code} {T : State} {locs : List Loc} {cells slots : Nat} {Z : State} {a0 : Array Value} {h h' : Heap} {Q : Outcome → State → Prop} {own : String} {pc : Nat} {ls : List Slot} {st : List Value}
/-- an array with just these values -/
def own_A (Z : State) (h : Heap) (a : Addr) (ty : FieldType) (vs : List Value) : Prop := ∃ cl : Cell, Arr Z h a cl ty ∧ cl.slots.toList = vs
theorem own_A.ext {a : Addr} {ty : FieldType} {vs : List Value} (A : own_A Z h a ty vs) (E : Ext h h') : own_A Z h' a ty vs := by
  obtain ⟨cl, A, q⟩ := A
  exact ⟨cl, A.ext E, q⟩
theorem own_A.keep {a : Addr} {ty : FieldType} {vs : List Value} {ws : List Addr} (A : own_A Z h a ty vs) (K : Keep h h' ws) (q : a ∉ ws) : own_A Z h' a ty vs := by
  obtain ⟨cl, A, r⟩ := A
  exact ⟨cl, ⟨K.2.1 a cl A.1 q, A.2⟩, r⟩
theorem own_A.other {a b : Addr} {ty : FieldType} {vs : List Value} {sl : Nat} {v : Value} (A : own_A Z h b ty vs) (W : Wr h h' a sl v) (hne : b ≠ a) : own_A Z h' b ty vs := by
  obtain ⟨cl, A, r⟩ := A
  exact ⟨cl, A.other W hne, r⟩
theorem own_A.same {a : Addr} {ty : FieldType} {vs : List Value} {sl : Nat} {v : Value} (A : own_A Z h a ty vs) (W : Wr h h' a sl v) : own_A Z h' a ty (vs.set sl v) := by
  obtain ⟨cl, A, r⟩ := A
  refine ⟨_, A.same W, ?_⟩
  subst r
  exact Array.toList_setIfInBounds
theorem own_A.lt {a : Addr} {ty : FieldType} {vs : List Value} (A : own_A Z h a ty vs) : a < h.size := by
  obtain ⟨cl, A, -⟩ := A
  exact A.lt
theorem own_A.at {a : Addr} {ty : FieldType} {vs : List Value} {v : Value} (A : own_A Z h a ty vs) (j : Int32) (k : Nat) (h0 : j.toInt = k) (hv : vs[k]? = some v) : own_at Z h a ty j v := by
  obtain ⟨cl, A, r⟩ := A
  have e1 : j.toNatClampNeg = k := by rw [Int32.toNatClampNeg, h0]; rfl
  have e2 : cl.slots[k]? = some v := by rw [← Array.getElem?_toList, r]; exact hv
  refine ⟨cl, A, ?_, by rw [e1]; exact e2⟩
  rintro (q | q)
  · rw [Int32.lt_iff_toInt_lt, h0] at q
    have : (0 : Int32).toInt = 0 := rfl
    omega
  · rw [e1] at q
    exact absurd (Array.getElem?_eq_some_iff.mp e2).1 (by omega)
theorem own_A.ln {a : Addr} {ty : FieldType} {vs : List Value} (A : own_A Z h a ty vs) (N : Int32) (hN : vs.length.toInt32 = N) : own_ln Z h a N := by
  obtain ⟨cl, A, r⟩ := A
  refine ⟨cl, ty, A, ?_⟩
  rw [← hN, ← r, Array.length_toList]
theorem own_A.inb {a : Addr} {ty : FieldType} {vs : List Value} (A : own_A Z h a ty vs) : ∃ cl : Cell, Arr Z h a cl ty ∧ cl.slots.size = vs.length := by
  obtain ⟨cl, A, r⟩ := A
  exact ⟨cl, A, by rw [← r, Array.length_toList]⟩
theorem own_idx {j : Int32} {k n : Nat} (h0 : j.toInt = k) (hk : k < n) : ¬ (j < 0 ∨ n ≤ j.toNatClampNeg) := by
  have e1 : j.toNatClampNeg = k := by rw [Int32.toNatClampNeg, h0]; rfl
  rintro (q | q)
  · rw [Int32.lt_iff_toInt_lt, h0] at q
    have : (0 : Int32).toInt = 0 := rfl
    omega
  · omega
/-- new C -/
theorem own_new (X : Stand p l e R s m args below meth c T locs cells slots) (hx : p.tables.exec = Jvm.exec) (hZ : Z.Warmed39 s.vm) {C : String} {index n : Nat} (hown : s.vm.findClass own = some m.cls) (w : (Cond.classLink own index C).before a0 Z = true) (wi : (Cond.instantiable C n).before a0 Z = true) (wz : (Cond.initialized C).before a0 Z = true) (eT : T.heap = h)
    (hd : decode c.code pc = .ok (.new index, 3)) (hc : cells + 1 ≤ R.cells) (hl : slots + n ≤ R.slots)
    (k : ∀ T' h' a, a = h.size → Stand p l e R s m args below meth c T' locs (cells + 1) (slots + n) → T'.heap = h' → Ext h h' → Exa Z h' a C → (∀ {O nm d : String} {ty : FieldType}, Laid Z a0 C O nm d → parseFieldDescriptor d = some ty → Fld Z h' a O nm d (defaultValue ty)) →
      own_Go p.tables e below Q (T'.setTop (mkF m (pc + 3) (Array.mk ls) (.ref a :: st)))) : own_Go p.tables e below Q (T.setTop (mkF m pc (Array.mk ls) st)) := by
  obtain ⟨T', h', X', e', E, A, D, -, st'⟩ := newO X hx hZ hown w wi wz eT (g := mkF m pc (Array.mk ls) st) rfl hd hc hl
  exact own_go st' (k T' h' _ rfl X' e' E A D)
/-- newarray of a plain kind, of a length that is known -/
theorem own_newP (X : Stand p l e R s m args below meth c T locs cells slots) (hx : p.tables.exec = Jvm.exec) (hZ : Z.Warmed39 s.vm) {aty : ArrayType} (w : (Cond.arrayClass (newarray.typeOf aty)).before a0 Z = true) (eT : T.heap = h)
    {n : Int32} (N : Nat) (hN : n.toInt = N) {cap : Nat} (hcap : N ≤ cap) (hb : cap * 8 ≤ 536870912) (hd : decode c.code pc = .ok (.newarray aty, 2)) (hc : cells + 1 ≤ R.cells) (hl : slots + cap ≤ R.slots)
    (k : ∀ T' h' a, a = h.size → Stand p l e R s m args below meth c T' locs (cells + 1) (slots + cap) → T'.heap = h' → Ext h h' → own_A Z h' a (newarray.typeOf aty) (List.replicate N (defaultValue (newarray.typeOf aty))) →
      own_Go p.tables e below Q (T'.setTop (mkF m (pc + 2) (Array.mk ls) (.ref a :: st)))) : own_Go p.tables e below Q (T.setTop (mkF m pc (Array.mk ls) (.int n :: st))) := by
  have e1 : n.toNatClampNeg = N := by rw [Int32.toNatClampNeg, hN]; rfl
  have hn : ¬ n < 0 := by
    rw [Int32.lt_iff_toInt_lt, hN]
    have : (0 : Int32).toInt = 0 := rfl
    omega
  obtain ⟨T', h', cA, X', e', E, A, st'⟩ := newP X hx hZ w eT (g := mkF m pc (Array.mk ls) (.int n :: st)) rfl hd rfl hn (cap := cap) (by rw [e1]; exact hcap) hb hc hl
  refine own_go st' (k T' h' _ rfl X' e' E ⟨_, A, ?_⟩)
  show (Array.replicate n.toNatClampNeg _).toList = _
  rw [e1]; exact Array.toList_replicate
/-- dastore -/
theorem own_sD (X : Stand p l e R s m args below meth c T locs cells slots) (hx : p.tables.exec = Jvm.exec) (hZ : Z.Warmed39 s.vm) (eT : T.heap = h) {a : Addr} {vs : List Value} (A : own_A Z h a .double vs) {j : Int32} (kk : Nat) (hj : j.toInt = kk) (hk : kk < vs.length) {x : UInt64} (hd : decode c.code pc = .ok (.dastore, 1))
    (k : ∀ T' h', Stand p l e R s m args below meth c T' (locs ++ [⟨a, kk⟩]) cells slots → T'.heap = h' → Wr h h' a kk (.double x) → own_A Z h' a .double (vs.set kk (.double x)) → own_Go p.tables e below Q (T'.setTop (mkF m (pc + 1) (Array.mk ls) st))) :
    own_Go p.tables e below Q (T.setTop (mkF m pc (Array.mk ls) (.double x :: .int j :: .ref a :: st))) := by
  have e1 : j.toNatClampNeg = kk := by rw [Int32.toNatClampNeg, hj]; rfl
  have A' := A
  obtain ⟨cl, Ar, hs⟩ := A.inb
  obtain ⟨T', h', X', e', W, st'⟩ := stD X hx hZ eT Ar (j := j) (x := x) (by rw [hs]; exact own_idx hj hk) (g := mkF m pc (Array.mk ls) (.double x :: .int j :: .ref a :: st)) rfl rfl hd
  rw [e1] at X' W
  exact own_go st' (k T' h' X' e' W (A'.same W))
/-- iastore -/
theorem own_sI (X : Stand p l e R s m args below meth c T locs cells slots) (hx : p.tables.exec = Jvm.exec) (hZ : Z.Warmed39 s.vm) (eT : T.heap = h) {a : Addr} {vs : List Value} (A : own_A Z h a .int vs) {j : Int32} (kk : Nat) (hj : j.toInt = kk) (hk : kk < vs.length) {x : Int32} (hd : decode c.code pc = .ok (.iastore, 1))
    (k : ∀ T' h', Stand p l e R s m args below meth c T' (locs ++ [⟨a, kk⟩]) cells slots → T'.heap = h' → Wr h h' a kk (.int x) → own_A Z h' a .int (vs.set kk (.int x)) → own_Go p.tables e below Q (T'.setTop (mkF m (pc + 1) (Array.mk ls) st))) :
    own_Go p.tables e below Q (T.setTop (mkF m pc (Array.mk ls) (.int x :: .int j :: .ref a :: st))) := by
  have e1 : j.toNatClampNeg = kk := by rw [Int32.toNatClampNeg, hj]; rfl
  have A' := A
  obtain ⟨cl, Ar, hs⟩ := A.inb
  obtain ⟨T', h', X', e', W, st'⟩ := stI X hx hZ eT Ar (j := j) (x := x) (by rw [hs]; exact own_idx hj hk) (g := mkF m pc (Array.mk ls) (.int x :: .int j :: .ref a :: st)) rfl rfl hd
  rw [e1] at X' W
  exact own_go st' (k T' h' X' e' W (A'.same W))
/-- putfield -/
theorem own_putF (X : Stand p l e R s m args below meth c T locs cells slots) (hx : p.tables.exec = Jvm.exec) (hZ : Z.Warmed39 s.vm) {O n d C : String} {index kk : Nat} {ty : FieldType} (hown : s.vm.findClass own = some m.cls) (w : (Cond.fieldLink own index O n d).before a0 Z = true)
    (eT : T.heap = h) {a : Addr} {v old : Value} (F : Fld Z h a O n d old) (E : Exa Z h a C) (L : (Cond.lays C O n d).before a0 Z = true ∨ ((Cond.laysFinal C O n d).before a0 Z = true ∧ own = O ∧ meth.name = "<init>")) (wi : (Cond.instantiable C kk).before a0 Z = true)
    (hty : parseFieldDescriptor d = some ty) (hn : narrow ty v = v) (hf : fits ty v = true) (hd : decode c.code pc = .ok (.putfield index, 3))
    (k : ∀ T' h', Stand p l e R s m args below meth c T' (locs ++ [⟨a, Jvm.RoadKit.slotOf Z O n d⟩]) cells slots → T'.heap = h' → Wr h h' a (Jvm.RoadKit.slotOf Z O n d) v → Fld Z h' a O n d v → Exa Z h' a C → own_Go p.tables e below Q (T'.setTop (mkF m (pc + 3) (Array.mk ls) st))) :
    own_Go p.tables e below Q (T.setTop (mkF m pc (Array.mk ls) (v :: .ref a :: st))) := by
  obtain ⟨T', h', X', e', W, st'⟩ := putF X hx hZ hown (host := "") (Or.inl w) Via.refl eT F E L wi hty hn hf (g := mkF m pc (Array.mk ls) (v :: .ref a :: st)) rfl rfl hd
  exact own_go st' (k T' h' X' e' W (F.same W) (E.wr W))
/-- Object.<init> -/
theorem own_initO (X : Stand p l e R s m args below meth c T locs cells slots) (hx : p.tables.exec = Jvm.exec) (hZ : Z.Warmed39 s.vm) {idx : Nat} (hown : s.vm.findClass own = some m.cls) (w1 : (Cond.methodLink own idx Lib.objectInit).before a0 Z = true) (w2 : (Cond.instanceMethod Lib.objectInit).before a0 Z = true)
    (w3 : (Cond.code Lib.objectInit ⟨#[0xb1]⟩ 1 none).before a0 Z = true) (eT : T.heap = h) (hsize : ls.length = c.maxLocals) {a : Addr} (hd : decode c.code pc = .ok (.invokespecial idx, 3))
    (hf : 1 ≤ R.frames) (W : Nat) (hW : (st.map fun v => v.category).sum ≤ W) (hl : W + 12 ≤ R.locals)
    (k : ∀ T', Stand p l e R s m args below meth c T' locs cells slots → T'.heap = h → own_Go p.tables e below Q (T'.setTop (mkF m (pc + 3) (Array.mk ls) st))) :
    own_Go p.tables e below Q (T.setTop (mkF m pc (Array.mk ls) (.ref a :: st))) := by
  obtain ⟨T', X', e', st'⟩ := initO X hx hZ hown w1 w2 w3 eT (g := mkF m pc (Array.mk ls) (.ref a :: st)) rfl hsize rfl hd hf (W := W) (by show 2 * 0 + _ ≤ _; omega) hl
  exact own_go st' (k T' X' e')
/-- a static call, by the callee's contract -/
theorem own_callS (X : Stand p l e R s m args below meth c T locs cells slots) (hx : p.tables.exec = Jvm.exec) (hZ : Z.Warmed39 s.vm) (hown : s.vm.findClass own = some m.cls) {index : Nat} {y : MethodName} {bytes : ByteArray} {maxL : Nat} {ret : Option FieldType} {rm : Room}
    (w1 : (Cond.methodLink own index y).before a0 Z = true) (w2 : (Cond.static y).before a0 Z = true) (w3 : (Cond.initialized y.cls).before a0 Z = true) (w4 : (Cond.code y bytes maxL ret).before a0 Z = true) (hy : y.cls ≠ "java/lang/invoke/MethodHandle" ∧ y.cls ≠ "java/lang/invoke/VarHandle")
    (eT : T.heap = h) (argsL : List Value) {ps : List FieldType} {r : Option FieldType} (hpd : parseMethodDescriptor y.desc = some ⟨ps, r⟩) (hlen : argsL.length = ps.length) {q : Option Value → Heap → List Loc → Prop}
    (hM : MetFree l y (head1 [Cond.code y bytes maxL ret] rm) (fun a U => a = argsL.toArray ∧ Z.Warmed39 U.vm ∧ U.heap = h) (fun _ _ _ _ _ => True) (fun _ U o U' => own_Fin U rm.cells rm.slots q o U'))
    (hsize : ls.length = c.maxLocals) (W : Nat) {full : List Value} (hst : full = argsL.reverse ++ st) (hW : (st.map fun v => v.category).sum ≤ W) (hd : decode c.code pc = .ok (.invokestatic index, 3)) (hf : rm.frames + 1 ≤ R.frames) (hl : W + (maxL + 11) + rm.locals ≤ R.locals) (hcc : cells + rm.cells ≤ R.cells) (hss : slots + rm.slots ≤ R.slots)
    (k : ∀ T' v L, Stand p l e R s m args below meth c T' (locs ++ L) (cells + rm.cells) (slots + rm.slots) → q v T'.heap L → own_Go p.tables e below Q (T'.setTop (mkF m (pc + 3) (Array.mk ls) (v.toList ++ st)))) :
    own_Go p.tables e below Q (T.setTop (mkF m pc (Array.mk ls) full)) := by
  subst hst
  obtain ⟨v, vm1, ⟨T', L', k', n'⟩, -, X', ⟨Lc, hq, l1, y1, z1⟩, st'⟩ := Jvm.LawKit.callS X hx hown (mvT hZ w1) (mvT hZ w2) (mvT hZ w3) (mvT hZ w4) hy (backOf (W := W) (Q := q) hM hZ w4 w3 hf hl) (g := mkF m pc (Array.mk ls) (argsL.reverse ++ st)) rfl hsize (argsL := argsL) (rest := st) (lenOf hpd hlen) rfl (by show 2 * 0 + _ ≤ _; omega) hd (fun _ _ => ⟨rfl, eT, hcc, hss⟩)
  dsimp only [Pt.U, Pt.locs, Pt.cells, Pt.slots] at X' l1 y1 z1 st' hq
  subst l1 y1 z1
  exact own_go st' (k T' v Lc X' hq)
/-- a constructor, by its contract -/
theorem own_callI (X : Stand p l e R s m args below meth c T locs cells slots) (hx : p.tables.exec = Jvm.exec) (hZ : Z.Warmed39 s.vm) (hown : s.vm.findClass own = some m.cls) {index : Nat} {y : MethodName} (hy1 : y.name = "<init>") {bytes : ByteArray} {maxL : Nat} {rm : Room}
    (w1 : (Cond.methodLink own index y).before a0 Z = true) (w2 : (Cond.instanceMethod y).before a0 Z = true) (w3 : (Cond.initialized y.cls).before a0 Z = true) (w4 : (Cond.code y bytes maxL none).before a0 Z = true) (hy : y.cls ≠ "java/lang/invoke/MethodHandle" ∧ y.cls ≠ "java/lang/invoke/VarHandle")
    (eT : T.heap = h) (a : Addr) (argsL : List Value) {ps : List FieldType} {r : Option FieldType} (hpd : parseMethodDescriptor y.desc = some ⟨ps, r⟩) (hlen : argsL.length = ps.length) {q : Option Value → Heap → List Loc → Prop}
    (hM : MetFree l y (head1 [Cond.code y bytes maxL none] rm) (fun b U => b = (.ref a :: argsL).toArray ∧ Z.Warmed39 U.vm ∧ U.heap = h) (fun _ _ _ _ _ => True) (fun _ U o U' => own_Fin U rm.cells rm.slots q o U'))
    (hsize : ls.length = c.maxLocals) (W : Nat) {full : List Value} (hst : full = argsL.reverse ++ .ref a :: st) (hW : (st.map fun v => v.category).sum ≤ W) (hd : decode c.code pc = .ok (.invokespecial index, 3)) (hf : rm.frames + 1 ≤ R.frames) (hl : W + (maxL + 11) + rm.locals ≤ R.locals) (hcc : cells + rm.cells ≤ R.cells) (hss : slots + rm.slots ≤ R.slots)
    (k : ∀ T' v L, Stand p l e R s m args below meth c T' (locs ++ L) (cells + rm.cells) (slots + rm.slots) → q v T'.heap L → own_Go p.tables e below Q (T'.setTop (mkF m (pc + 3) (Array.mk ls) (v.toList ++ st)))) :
    own_Go p.tables e below Q (T.setTop (mkF m pc (Array.mk ls) full)) := by
  subst hst
  obtain ⟨v, vm1, ⟨T', L', k', n'⟩, -, X', ⟨Lc, hq, l1, y1, z1⟩, st'⟩ := X.specialBack hx hy1 hown (mvT hZ w1) (mvT hZ w2) (mvT hZ w4) hy (backOf (W := W) (Q := q) hM hZ w4 w3 hf hl) (g := mkF m pc (Array.mk ls) (argsL.reverse ++ .ref a :: st)) rfl hsize (Steps.refl _) (a := a) (argsL := argsL) (rest := st) (lenOf hpd hlen) rfl (by show 2 * 0 + _ ≤ _; omega) hd (fun _ _ => ⟨rfl, eT, hcc, hss⟩)
  dsimp only [Pt.U, Pt.locs, Pt.cells, Pt.slots] at X' l1 y1 z1 st' hq
  subst l1 y1 z1
  exact own_go (fun t k => st'.trans k) (k T' v Lc X' hq)
/-- an instance method, by its contract -/
theorem own_callV (X : Stand p l e R s m args below meth c T locs cells slots) (hx : p.tables.exec = Jvm.exec) (hZ : Z.Warmed39 s.vm) (hown : s.vm.findClass own = some m.cls) {index : Nat} {C : String} {y : MethodName} {bytes : ByteArray} {maxL : Nat} {ret : Option FieldType} {rm : Room}
    (w1 : (Cond.methodLink own index y).before a0 Z = true) (w2 : (Cond.declares y).before a0 Z = true) (w5 : (Cond.selects C y y).before a0 Z = true) (w6 : (Cond.instanceMethod y).before a0 Z = true) (w3 : (Cond.initialized y.cls).before a0 Z = true) (w4 : (Cond.code y bytes maxL ret).before a0 Z = true) (hy : y.cls ≠ "java/lang/invoke/MethodHandle" ∧ y.cls ≠ "java/lang/invoke/VarHandle")
    (eT : T.heap = h) {a : Addr} (E : Exa Z h a C) (argsL : List Value) {ps : List FieldType} {r : Option FieldType} (hpd : parseMethodDescriptor y.desc = some ⟨ps, r⟩) (hlen : argsL.length = ps.length) {q : Option Value → Heap → List Loc → Prop}
    (hM : MetFree l y (head1 [Cond.code y bytes maxL ret] rm) (fun b U => b = (.ref a :: argsL).toArray ∧ Z.Warmed39 U.vm ∧ U.heap = h) (fun _ _ _ _ _ => True) (fun _ U o U' => own_Fin U rm.cells rm.slots q o U'))
    (hsize : ls.length = c.maxLocals) (W : Nat) {full : List Value} (hst : full = argsL.reverse ++ .ref a :: st) (hW : (st.map fun v => v.category).sum ≤ W) (hd : decode c.code pc = .ok (.invokevirtual index, 3)) (hf : rm.frames + 1 ≤ R.frames) (hl : W + (maxL + 11) + rm.locals ≤ R.locals) (hcc : cells + rm.cells ≤ R.cells) (hss : slots + rm.slots ≤ R.slots)
    (k : ∀ T' v L, Stand p l e R s m args below meth c T' (locs ++ L) (cells + rm.cells) (slots + rm.slots) → q v T'.heap L → own_Go p.tables e below Q (T'.setTop (mkF m (pc + 3) (Array.mk ls) (v.toList ++ st)))) :
    own_Go p.tables e below Q (T.setTop (mkF m pc (Array.mk ls) full)) := by
  subst hst
  obtain ⟨cB, kB, i1, i2, i3⟩ := isOf (T := T) hZ eT E
  obtain ⟨v, vm1, ⟨T', L', k', n'⟩, -, X', ⟨Lc, hq, l1, y1, z1⟩, st'⟩ := X.virtualBack hx (y := y) (z := y) hown (mvT hZ w1) (mvT hZ w2) (notFace_of_selects (args := #[]) (mvT hZ w5)) (mvT hZ w5) (mvT hZ w6) hy (backOf (W := W) (Q := q) hM hZ w4 w3 hf hl) i1 i3 (g := mkF m pc (Array.mk ls) (argsL.reverse ++ .ref a :: st)) rfl hsize (Steps.refl _) (argsL := argsL) (rest := st) (lenOf hpd hlen) rfl (by show 2 * 0 + _ ≤ _; omega) hd (fun _ _ => ⟨rfl, eT, hcc, hss⟩)
  dsimp only [Pt.U, Pt.locs, Pt.cells, Pt.slots] at X' l1 y1 z1 st' hq
  subst l1 y1 z1
  exact own_go (fun t k => st'.trans k) (k T' v Lc X' hq)
end OwnHeap
/-- a body's contract, entered: the walk begins at pc 0 -/
theorem own_body {l : Launch} {x : MethodName} {bytes : ByteArray} {maxL : Nat} {ret : Option FieldType} {ws : List Jvm.Cond} {rm : Room} {C S : Nat} {Z : State} {as' : Array Value} {h0 : Heap} {q : Option Value → Heap → List Loc → Prop} (hx : plainFor x = true)
    {ls0 : List Slot} (hent : ∀ m : MethodId, entryFrame m as' maxL = mkF m 0 (Array.mk ls0) [])
    (body : ∀ (p : Program) (e : Env) (s : State) (m : MethodId) (below : List Frame) (meth : Method) (c : Code) (T : State), p.tables.exec = Jvm.exec → c.code = bytes → c.maxLocals = maxL → s.vm.findClass x.cls = some m.cls → meth.name = x.name → meth.locks = false → meth.sig.returnType = ret → Z.Warmed39 s.vm → Stand p l e rm s m as' below meth c T [] 0 0 → T.heap = h0 →
      own_Go p.tables e below (own_Fin s C S q) (T.setTop (mkF m 0 (Array.mk ls0) []))) :
    MetFree l x (head1 (Jvm.Cond.code x bytes maxL ret :: ws) rm) (fun a U => a = as' ∧ Z.Warmed39 U.vm ∧ U.heap = h0) (fun _ _ _ _ _ => True) (fun _ U o U' => own_Fin U C S q o U') := by
  refine MetFree.of_bodySF hx hisR ?_
  intro p e s m args below meth c s₁ Bd hml0 hP hK
  obtain ⟨rfl, hZ, hh⟩ := hP
  have e0 : s₁.heap = h0 := by rw [← hh, Bd.state]; rfl
  rw [hent m]
  exact body p e s m below meth c s₁ Bd.exec Bd.bytes hml0 (findClass_of_methodNamed Bd.named) (name_of_methodNamed Bd.named Bd.method).1 Bd.notSynchronized Bd.returns hZ (Stand.of_body Bd) e0
/-! OWN KIT 3: doubles by their value in units of 2^-1074; rounding is monotone; what is a whole number of 2^-g and small is exact -/
def own_z (a : UInt64) : Int := FP.Core.zval FP.Core.b64 (FP.Core.val64 a)
def own_num (a : UInt64) : Prop := FP.Core.val64 a ≠ .nan
theorem own_fin_num {a : UInt64} (h : FP.Core.DFin a) : own_num a := FP.Core.DFin.ne_nan h
theorem own_nn {a : UInt64} (h : own_num a) : Jvm.Free.Fl.NoNaN64 a := Jvm.Free.Fl.val64_no.mpr h
theorem own_cmp {a b : UInt64} (ha : own_num a) (hb : own_num b) : FP.dcmp a b = some (compare (own_z a) (own_z b)) := FP.Core.dcmp_zval ha hb
theorem own_lt {a b : UInt64} (ha : own_num a) (hb : own_num b) (h : own_z a < own_z b) : FP.dcmp a b = some .lt := FP.Core.dcmp_lt.mpr ⟨ha, hb, h⟩
theorem own_gt {a b : UInt64} (ha : own_num a) (hb : own_num b) (h : own_z b < own_z a) : FP.dcmp a b = some .gt := FP.Core.dcmp_gt.mpr ⟨ha, hb, h⟩
theorem own_eq {a b : UInt64} (ha : own_num a) (hb : own_num b) (h : own_z a = own_z b) : FP.dcmp a b = some .eq := FP.Core.dcmp_eq.mpr ⟨ha, hb, h⟩
theorem own_num_add {a b : UInt64} (ha : FP.Core.DFin a) (hb : FP.Core.DFin b) : own_num (FP.dadd a b) :=
  Jvm.Free.Fl.val64_no.mp (Jvm.Free.Fl.dadd_out (own_nn (own_fin_num ha)) (Jvm.Free.Fl.fin64_core.mpr hb))
theorem own_num_sub {a b : UInt64} (ha : FP.Core.DFin a) (hb : FP.Core.DFin b) : own_num (FP.dsub a b) :=
  Jvm.Free.Fl.val64_no.mp (Jvm.Free.Fl.dsub_out (own_nn (own_fin_num ha)) (Jvm.Free.Fl.fin64_core.mpr hb))
theorem own_num_mul {a b : UInt64} (ha : FP.Core.DFin a) (hb : FP.Core.DFin b) : own_num (FP.dmul a b) :=
  Jvm.Free.Fl.val64_no.mp (Jvm.Free.Fl.dmul_out (Jvm.Free.Fl.fin64_core.mpr ha) (Jvm.Free.Fl.fin64_core.mpr hb))
theorem own_num_div {a b : UInt64} (ha : own_num a) (hb : FP.Core.DFin b) (hz : own_z b ≠ 0) : own_num (FP.ddiv a b) := by
  refine Jvm.Free.Fl.val64_no.mp (Jvm.Free.Fl.ddiv_out (own_nn ha) (Jvm.Free.Fl.fin64_core.mpr hb) ((Jvm.Free.Fl.nz64_iff b).mpr fun q => hz ?_))
  exact (FP.Core.zval_eq_zero (own_fin_num hb)).mpr q
theorem own_add_le {a b v : UInt64} (ha : FP.Core.DFin a) (hb : FP.Core.DFin b) (hv : own_num v) (h : own_z a + own_z b ≤ own_z v) : own_z (FP.dadd a b) ≤ own_z v := by
  show FP.Core.zval FP.Core.b64 (FP.Core.val64 (FP.Core.dadd a b)) ≤ _
  rw [FP.Core.val64_dadd]
  exact FP.Core.sum_le FP.Core.good_b64 ha hb (FP.Core.val64_fits _) (FP.Core.val64_fits _) (FP.Core.val64_fits _) hv h
theorem own_add_ge {a b v : UInt64} (ha : FP.Core.DFin a) (hb : FP.Core.DFin b) (hv : own_num v) (h : own_z v ≤ own_z a + own_z b) : own_z v ≤ own_z (FP.dadd a b) := by
  show _ ≤ FP.Core.zval FP.Core.b64 (FP.Core.val64 (FP.Core.dadd a b))
  rw [FP.Core.val64_dadd]
  exact FP.Core.sum_ge FP.Core.good_b64 ha hb (FP.Core.val64_fits _) (FP.Core.val64_fits _) (FP.Core.val64_fits _) hv h
theorem own_neg_fin {b : UInt64} (hb : FP.Core.DFin b) : ∃ s c q, FP.Core.negate (FP.Core.val64 b) = .fin s c q := by
  obtain ⟨s, c, q, e⟩ := hb
  exact ⟨!s, c, q, by rw [e]; rfl⟩
theorem own_sub_le {a b v : UInt64} (ha : FP.Core.DFin a) (hb : FP.Core.DFin b) (hv : own_num v) (h : own_z a - own_z b ≤ own_z v) : own_z (FP.dsub a b) ≤ own_z v := by
  show FP.Core.zval FP.Core.b64 (FP.Core.val64 (FP.Core.dsub a b)) ≤ _
  rw [FP.Core.val64_dsub]
  exact FP.Core.sum_le FP.Core.good_b64 ha (own_neg_fin hb) (FP.Core.val64_fits _) (FP.Core.negate_fits (FP.Core.val64_fits _)) (FP.Core.val64_fits _) hv (by rw [FP.Core.zval_negate]; exact h)
theorem own_sub_ge {a b v : UInt64} (ha : FP.Core.DFin a) (hb : FP.Core.DFin b) (hv : own_num v) (h : own_z v ≤ own_z a - own_z b) : own_z v ≤ own_z (FP.dsub a b) := by
  show _ ≤ FP.Core.zval FP.Core.b64 (FP.Core.val64 (FP.Core.dsub a b))
  rw [FP.Core.val64_dsub]
  exact FP.Core.sum_ge FP.Core.good_b64 ha (own_neg_fin hb) (FP.Core.val64_fits _) (FP.Core.negate_fits (FP.Core.val64_fits _)) (FP.Core.val64_fits _) hv (by rw [FP.Core.zval_negate]; exact h)
theorem own_pow1 : 2 ^ (FP.Core.b64.qmin - 2 * FP.Core.b64.qmin).toNat = FP.Core.one64 := by
  rw [← FP.Core.pow_qmin64, FP.Core.qmin_b64]; rfl
theorem own_mul_le {a b v : UInt64} (ha : FP.Core.DFin a) (hb : FP.Core.DFin b) (hv : own_num v) (h : own_z a * own_z b ≤ own_z v * (FP.Core.one64 : Int)) : own_z (FP.dmul a b) ≤ own_z v := by
  obtain ⟨s, c, q, e1⟩ := ha
  obtain ⟨t, d, r, e2⟩ := hb
  have f1 : FP.Core.fits FP.Core.b64 (.fin s c q) := e1 ▸ FP.Core.val64_fits a
  have f2 : FP.Core.fits FP.Core.b64 (.fin t d r) := e2 ▸ FP.Core.val64_fits b
  obtain ⟨g1, g2, g3⟩ := FP.Core.product_units f1 f2
  show FP.Core.zval FP.Core.b64 (FP.Core.val64 (FP.Core.dmul a b)) ≤ FP.Core.zval FP.Core.b64 (FP.Core.val64 v)
  unfold own_z at h
  rw [FP.Core.val64_dmul, e1, e2, g1]
  rw [e1, e2] at h
  have hq := FP.Core.qmin_neg FP.Core.good_b64
  refine FP.Core.zval_round_le FP.Core.good_b64 (e0 := 2 * FP.Core.b64.qmin) (FP.Core.val64_fits v) hv (by omega) g2 ?_
  rw [g3, own_pow1, FP.Core.signed_xor]
  exact h
theorem own_mul_ge {a b v : UInt64} (ha : FP.Core.DFin a) (hb : FP.Core.DFin b) (hv : own_num v) (h : own_z v * (FP.Core.one64 : Int) ≤ own_z a * own_z b) : own_z v ≤ own_z (FP.dmul a b) := by
  obtain ⟨s, c, q, e1⟩ := ha
  obtain ⟨t, d, r, e2⟩ := hb
  have f1 : FP.Core.fits FP.Core.b64 (.fin s c q) := e1 ▸ FP.Core.val64_fits a
  have f2 : FP.Core.fits FP.Core.b64 (.fin t d r) := e2 ▸ FP.Core.val64_fits b
  obtain ⟨g1, g2, g3⟩ := FP.Core.product_units f1 f2
  show FP.Core.zval FP.Core.b64 (FP.Core.val64 v) ≤ FP.Core.zval FP.Core.b64 (FP.Core.val64 (FP.Core.dmul a b))
  unfold own_z at h
  rw [FP.Core.val64_dmul, e1, e2, g1]
  rw [e1, e2] at h
  have hq := FP.Core.qmin_neg FP.Core.good_b64
  refine FP.Core.zval_round_ge FP.Core.good_b64 (e0 := 2 * FP.Core.b64.qmin) (FP.Core.val64_fits v) hv (by omega) g2 ?_
  rw [g3, own_pow1, FP.Core.signed_xor]
  exact h
/-- the quotient's magnitude against a double's -/
theorem own_div_mag {a b v : UInt64} {s t : Bool} {c d : Nat} {q r : Int} (e1 : FP.Core.val64 a = .fin s c q) (e2 : FP.Core.val64 b = .fin t d r) (hd : 0 < d) (hv : own_num v) :
    FP.Core.val64 (FP.ddiv a b) = FP.Core.roundRatio FP.Core.b64 (s != t) c d (q - r) ∧
    (FP.Core.zmag FP.Core.b64 (FP.Core.val64 a) * FP.Core.one64 ≤ FP.Core.zmag FP.Core.b64 (FP.Core.val64 v) * FP.Core.zmag FP.Core.b64 (FP.Core.val64 b) → FP.Core.zmag FP.Core.b64 (FP.Core.val64 (FP.ddiv a b)) ≤ FP.Core.zmag FP.Core.b64 (FP.Core.val64 v)) ∧
    (FP.Core.zmag FP.Core.b64 (FP.Core.val64 v) * FP.Core.zmag FP.Core.b64 (FP.Core.val64 b) ≤ FP.Core.zmag FP.Core.b64 (FP.Core.val64 a) * FP.Core.one64 → FP.Core.zmag FP.Core.b64 (FP.Core.val64 v) ≤ FP.Core.zmag FP.Core.b64 (FP.Core.val64 (FP.ddiv a b))) := by
  have f1 : FP.Core.fits FP.Core.b64 (.fin s c q) := e1 ▸ FP.Core.val64_fits a
  have f2 : FP.Core.fits FP.Core.b64 (.fin t d r) := e2 ▸ FP.Core.val64_fits b
  have hq := FP.Core.qmin_b64
  have k1 := f1.2.1
  have k2 := f2.2.1
  have E : FP.Core.val64 (FP.ddiv a b) = FP.Core.roundRatio FP.Core.b64 (s != t) c d (q - r) := by
    show FP.Core.val64 (FP.Core.ddiv a b) = _
    rw [FP.Core.val64_ddiv, e1, e2]
    show (if d = 0 then _ else _) = _
    rw [if_neg (by omega)]
  have A1 : FP.Core.inUnits c (q - r) (FP.Core.b64.qmin - (r - FP.Core.b64.qmin)) = FP.Core.zmag FP.Core.b64 (FP.Core.val64 a) * FP.Core.one64 := by
    rw [e1]
    show c * 2 ^ _ = c * 2 ^ _ * 2 ^ 1074
    rw [Nat.mul_assoc, ← Nat.pow_add]
    congr 2
    omega
  have A2 : 2 ^ (FP.Core.b64.qmin - (FP.Core.b64.qmin - (r - FP.Core.b64.qmin))).toNat * d = FP.Core.zmag FP.Core.b64 (FP.Core.val64 b) := by
    rw [e2]
    show _ = d * 2 ^ _
    rw [Nat.mul_comm]
    congr 2
    omega
  refine ⟨E, fun h => ?_, fun h => ?_⟩
  · rw [E]
    refine FP.Core.zmag_roundRatio_le FP.Core.good_b64 (e0 := FP.Core.b64.qmin - (r - FP.Core.b64.qmin)) hd (FP.Core.val64_fits v) hv (by omega) (by omega) ?_
    rw [A1, Nat.mul_assoc, A2]; exact h
  · rw [E]
    refine FP.Core.zmag_roundRatio_ge FP.Core.good_b64 (e0 := FP.Core.b64.qmin - (r - FP.Core.b64.qmin)) hd (FP.Core.val64_fits v) (by omega) (by omega) ?_
    rw [A1, Nat.mul_assoc, A2]; exact h
theorem own_signed_cases (s : Bool) (m : Nat) : (s = false ∧ FP.Core.signed s m = (m : Int)) ∨ (s = true ∧ FP.Core.signed s m = -(m : Int)) := by
  cases s
  · exact Or.inl ⟨rfl, rfl⟩
  · exact Or.inr ⟨rfl, rfl⟩
theorem own_div_le {a b v : UInt64} (ha : FP.Core.DFin a) (hb : FP.Core.DFin b) (hv : own_num v) (hp : 0 < own_z b) (h : own_z a * (FP.Core.one64 : Int) ≤ own_z v * own_z b) : own_z (FP.ddiv a b) ≤ own_z v := by
  obtain ⟨s, c, q, e1⟩ := ha
  obtain ⟨t, d, r, e2⟩ := hb
  have hz : own_z b = FP.Core.signed t (FP.Core.zmag FP.Core.b64 (FP.Core.val64 b)) := by unfold own_z FP.Core.zval; rw [e2]; rfl
  have ht : t = false := by
    rcases own_signed_cases t (FP.Core.zmag FP.Core.b64 (FP.Core.val64 b)) with q | q
    · exact q.1
    · rw [hz, q.2] at hp; omega
  subst ht
  have hz' : own_z b = (FP.Core.zmag FP.Core.b64 (FP.Core.val64 b) : Int) := hz
  have hd : 0 < d := by
    rcases Nat.eq_zero_or_pos d with q0 | q0
    · subst q0
      rw [hz', e2] at hp
      have : FP.Core.zmag FP.Core.b64 (.fin false 0 r) = 0 := Nat.zero_mul _
      rw [this] at hp; omega
    · exact q0
  obtain ⟨E, L, G⟩ := own_div_mag (v := v) e1 e2 hd hv
  have hsr : FP.Core.sgn (FP.Core.val64 (FP.ddiv a b)) = s := by rw [E, FP.Core.sgn_roundRatio]; cases s <;> rfl
  have za : own_z a = FP.Core.signed s (FP.Core.zmag FP.Core.b64 (FP.Core.val64 a)) := by unfold own_z FP.Core.zval; rw [e1]; rfl
  have zr : own_z (FP.ddiv a b) = FP.Core.signed s (FP.Core.zmag FP.Core.b64 (FP.Core.val64 (FP.ddiv a b))) := by unfold own_z FP.Core.zval; rw [hsr]
  have zv : own_z v = FP.Core.signed (FP.Core.sgn (FP.Core.val64 v)) (FP.Core.zmag FP.Core.b64 (FP.Core.val64 v)) := rfl
  rw [za, hz'] at h
  rw [hz'] at hp
  rw [zr]
  generalize FP.Core.zmag FP.Core.b64 (FP.Core.val64 (FP.ddiv a b)) = R at *
  generalize FP.Core.zmag FP.Core.b64 (FP.Core.val64 a) = A at *
  generalize FP.Core.zmag FP.Core.b64 (FP.Core.val64 b) = B at *
  generalize FP.Core.zmag FP.Core.b64 (FP.Core.val64 v) = V at *
  have hU := FP.Core.one64_pos
  generalize FP.Core.one64 = U at *
  rcases own_signed_cases s A with ⟨rfl, h1⟩ | ⟨rfl, h1⟩
  · rw [h1] at h
    have hn : 0 ≤ own_z v := by
      rcases Int.lt_or_le (own_z v) 0 with q | q
      · have := Int.mul_neg_of_neg_of_pos q hp
        have := Int.mul_nonneg (Int.natCast_nonneg A) (Int.natCast_nonneg U)
        omega
      · exact q
    have hvV : own_z v = (V : Int) := by
      rcases own_signed_cases (FP.Core.sgn (FP.Core.val64 v)) V with q | q
      · rw [zv]; exact q.2
      · rw [zv, q.2] at hn; rw [zv, q.2]; omega
    rw [hvV] at h ⊢
    have := L (by exact_mod_cast h)
    show (R : Int) ≤ V
    omega
  · rw [h1] at h
    show -(R : Int) ≤ own_z v
    rcases Int.lt_or_le (own_z v) 0 with q | q
    · have hvV : own_z v = -(V : Int) := by
        rcases own_signed_cases (FP.Core.sgn (FP.Core.val64 v)) V with q' | q'
        · rw [zv, q'.2] at q; omega
        · rw [zv]; exact q'.2
      rw [hvV] at h ⊢
      rw [Int.neg_mul, Int.neg_mul] at h
      have := G (by exact_mod_cast (by omega : (V : Int) * B ≤ A * U))
      omega
    · omega
theorem own_div_ge {a b v : UInt64} (ha : FP.Core.DFin a) (hb : FP.Core.DFin b) (hv : own_num v) (hp : 0 < own_z b) (h : own_z v * own_z b ≤ own_z a * (FP.Core.one64 : Int)) : own_z v ≤ own_z (FP.ddiv a b) := by
  have nz : ∀ x : UInt64, own_z (FP.Core.dneg x) = -own_z x := fun x => by
    unfold own_z
    rw [FP.Core.val64_dneg, FP.Core.zval_negate]
  have nf : FP.Core.DFin (FP.Core.dneg a) := by
    obtain ⟨s, c, q, e⟩ := ha
    exact ⟨!s, c, q, by rw [FP.Core.val64_dneg, e]; rfl⟩
  have nn : own_num (FP.Core.dneg v) := by
    unfold own_num
    rw [FP.Core.val64_dneg]
    exact FP.Core.negate_ne_nan hv
  have q := own_div_le (a := FP.Core.dneg a) (v := FP.Core.dneg v) nf hb nn hp (by rw [nz, nz, Int.neg_mul, Int.neg_mul]; omega)
  have e : FP.ddiv (FP.Core.dneg a) b = FP.Core.dneg (FP.ddiv a b) := FP.Core.ddiv_dneg a b
  rw [e, nz, nz] at q
  omega
/-- a is the number N / 2^g -/
def own_D (g : Nat) (N : Int) (a : UInt64) : Prop := FP.Core.DFin a ∧ own_z a = N * ((2 ^ (1074 - g) : Nat) : Int)
theorem own_rep (g : Nat) (hg : g ≤ 1074) (N : Int) (hN : N.natAbs < 9007199254740992) : ∃ v, own_D g N v := by
  have hq := FP.Core.qmin_b64
  obtain ⟨c', q', e1, e2⟩ := FP.Core.round_exact FP.Core.good_b64 (decide (N < 0)) (c := N.natAbs) (q := -(g : Int)) (by rw [show (2 : Nat) ^ FP.Core.b64.p = 9007199254740992 from by decide]; exact hN) (by omega) (by rw [show FP.Core.b64.qmax = 971 from by decide]; omega)
  have e3 : FP.Core.val64 (FP.Core.of64 (FP.Core.round FP.Core.b64 (.fin (decide (N < 0)) N.natAbs (-(g : Int))))) = .fin (decide (N < 0)) c' q' := by
    rw [FP.Core.val64_of64 (FP.Core.round_fits FP.Core.good_b64 _), e1]
  refine ⟨_, ⟨_, _, _, e3⟩, ?_⟩
  unfold own_z
  rw [e3]
  show FP.Core.signed (decide (N < 0)) (FP.Core.inUnits c' q' FP.Core.b64.qmin) = _
  rw [e2]
  have e4 : FP.Core.inUnits N.natAbs (-(g : Int)) FP.Core.b64.qmin = N.natAbs * 2 ^ (1074 - g) := by
    show _ * 2 ^ _ = _
    rw [hq, show (-(g : Int) - -1074).toNat = 1074 - g by omega]
  rw [e4, FP.Core.signed_mul]
  congr 1
  rcases own_signed_cases (decide (N < 0)) N.natAbs with ⟨h1, h2⟩ | ⟨h1, h2⟩
  · rw [h2]
    have := of_decide_eq_false h1
    omega
  · rw [h2]
    have := of_decide_eq_true h1
    omega
theorem own_D.num {g : Nat} {N : Int} {a : UInt64} (h : own_D g N a) : own_num a := own_fin_num h.1
theorem own_u_pos (g : Nat) : (0 : Int) < ((2 ^ (1074 - g) : Nat) : Int) := by
  have := Nat.two_pow_pos (1074 - g)
  omega
theorem own_one (g : Nat) (hg : g ≤ 1074) : (FP.Core.one64 : Int) = ((2 ^ g : Nat) : Int) * ((2 ^ (1074 - g) : Nat) : Int) := by
  rw [← Int.natCast_mul, ← Nat.pow_add, show g + (1074 - g) = 1074 by omega]
  rfl
theorem own_fin_of {r c : UInt64} (hr : own_num r) (hc : FP.Core.DFin c) (h : own_z r = own_z c) : FP.Core.DFin r := by
  have h1 := FP.Core.DFin.zval_lt hc
  cases hv : FP.Core.val64 r with
  | nan => exact absurd hv hr
  | fin s c q => exact ⟨s, c, q, hv⟩
  | inf s =>
    exfalso
    unfold own_z FP.Core.zval at h
    rw [hv] at h
    have h2 := congrArg Int.natAbs h
    rw [FP.Core.natAbs_signed, FP.Core.natAbs_signed] at h2
    rw [← h2] at h1
    exact Nat.lt_irrefl _ h1
theorem own_D.of_le_ge {g : Nat} {N : Int} {r v : UInt64} (hr : own_num r) (hv : own_D g N v) (h1 : own_z r ≤ own_z v) (h2 : own_z v ≤ own_z r) : own_D g N r := by
  have e : own_z r = own_z v := by omega
  exact ⟨own_fin_of hr hv.1 e, e.trans hv.2⟩
theorem own_D.add {g : Nat} (hg : g ≤ 1074) {N M : Int} {a b : UInt64} (ha : own_D g N a) (hb : own_D g M b) (h : (N + M).natAbs < 9007199254740992) : own_D g (N + M) (FP.dadd a b) := by
  obtain ⟨v, hv⟩ := own_rep g hg _ h
  have e : own_z a + own_z b = own_z v := by rw [ha.2, hb.2, hv.2, Int.add_mul]
  exact own_D.of_le_ge (own_num_add ha.1 hb.1) hv (own_add_le ha.1 hb.1 hv.num (by omega)) (own_add_ge ha.1 hb.1 hv.num (by omega))
theorem own_D.sub {g : Nat} (hg : g ≤ 1074) {N M : Int} {a b : UInt64} (ha : own_D g N a) (hb : own_D g M b) (h : (N - M).natAbs < 9007199254740992) : own_D g (N - M) (FP.dsub a b) := by
  obtain ⟨v, hv⟩ := own_rep g hg _ h
  have e : own_z a - own_z b = own_z v := by rw [ha.2, hb.2, hv.2, Int.sub_mul]
  exact own_D.of_le_ge (own_num_sub ha.1 hb.1) hv (own_sub_le ha.1 hb.1 hv.num (by omega)) (own_sub_ge ha.1 hb.1 hv.num (by omega))
/-- the value of a product against K / 2^g -/
theorem own_mul_z {g : Nat} (hg : g ≤ 1074) {N M K : Int} {a b v : UInt64} (ha : own_D g N a) (hb : own_D g M b) (hv : own_D g K v) :
    (N * M ≤ K * ((2 ^ g : Nat) : Int) → own_z a * own_z b ≤ own_z v * (FP.Core.one64 : Int)) ∧ (K * ((2 ^ g : Nat) : Int) ≤ N * M → own_z v * (FP.Core.one64 : Int) ≤ own_z a * own_z b) := by
  rw [ha.2, hb.2, hv.2, own_one g hg]
  have hu := own_u_pos g
  generalize ((2 ^ (1074 - g) : Nat) : Int) = u at *
  generalize ((2 ^ g : Nat) : Int) = G at *
  have e1 : N * u * (M * u) = (N * M) * (u * u) := by rw [Int.mul_assoc, Int.mul_left_comm u M u, ← Int.mul_assoc N M]
  have e2 : K * u * (G * u) = (K * G) * (u * u) := by rw [Int.mul_assoc, Int.mul_left_comm u G u, ← Int.mul_assoc K G]
  rw [e1, e2]
  have hp : 0 ≤ u * u := Int.mul_nonneg (by omega) (by omega)
  exact ⟨fun h => Int.mul_le_mul_of_nonneg_right h hp, fun h => Int.mul_le_mul_of_nonneg_right h hp⟩
theorem own_D.mul {g : Nat} (hg : g ≤ 1074) {N M K : Int} {a b : UInt64} (ha : own_D g N a) (hb : own_D g M b) (e : N * M = K * ((2 ^ g : Nat) : Int)) (h : K.natAbs < 9007199254740992) : own_D g K (FP.dmul a b) := by
  obtain ⟨v, hv⟩ := own_rep g hg _ h
  have q := own_mul_z hg ha hb hv
  exact own_D.of_le_ge (own_num_mul ha.1 hb.1) hv (own_mul_le ha.1 hb.1 hv.num (q.1 (by omega))) (own_mul_ge ha.1 hb.1 hv.num (q.2 (by omega)))
theorem own_div_z {g : Nat} (hg : g ≤ 1074) {N M K : Int} {a b v : UInt64} (ha : own_D g N a) (hb : own_D g M b) (hv : own_D g K v) :
    (N * ((2 ^ g : Nat) : Int) ≤ K * M → own_z a * (FP.Core.one64 : Int) ≤ own_z v * own_z b) ∧ (K * M ≤ N * ((2 ^ g : Nat) : Int) → own_z v * own_z b ≤ own_z a * (FP.Core.one64 : Int)) := by
  rw [ha.2, hb.2, hv.2, own_one g hg]
  have hu := own_u_pos g
  generalize ((2 ^ (1074 - g) : Nat) : Int) = u at *
  generalize ((2 ^ g : Nat) : Int) = G at *
  have e1 : N * u * (G * u) = (N * G) * (u * u) := by rw [Int.mul_assoc, Int.mul_left_comm u G u, ← Int.mul_assoc N G]
  have e2 : K * u * (M * u) = (K * M) * (u * u) := by rw [Int.mul_assoc, Int.mul_left_comm u M u, ← Int.mul_assoc K M]
  rw [e1, e2]
  have hp : 0 ≤ u * u := Int.mul_nonneg (by omega) (by omega)
  exact ⟨fun h => Int.mul_le_mul_of_nonneg_right h hp, fun h => Int.mul_le_mul_of_nonneg_right h hp⟩
theorem own_D.pos {g : Nat} {M : Int} {b : UInt64} (hb : own_D g M b) (h : 0 < M) : 0 < own_z b := by
  rw [hb.2]
  exact Int.mul_pos h (own_u_pos g)
theorem own_D.ne {g : Nat} {M : Int} {b : UInt64} (hb : own_D g M b) (h : M ≠ 0) : own_z b ≠ 0 := by
  rw [hb.2]
  exact Int.mul_ne_zero h (by have := own_u_pos g; omega)
theorem own_D.div {g : Nat} (hg : g ≤ 1074) {N M K : Int} {a b : UInt64} (ha : own_D g N a) (hb : own_D g M b) (hM : 0 < M) (e : N * ((2 ^ g : Nat) : Int) = K * M) (h : K.natAbs < 9007199254740992) : own_D g K (FP.ddiv a b) := by
  obtain ⟨v, hv⟩ := own_rep g hg _ h
  have q := own_div_z hg ha hb hv
  exact own_D.of_le_ge (own_num_div ha.num hb.1 (hb.ne (by omega))) hv (own_div_le ha.1 hb.1 hv.num (hb.pos hM) (q.1 (by omega))) (own_div_ge ha.1 hb.1 hv.num (hb.pos hM) (q.2 (by omega)))
/-- bounds on a rounded quotient, by numbers K / 2^g -/
theorem own_div_hi {g : Nat} (hg : g ≤ 1074) {N M K : Int} {a b : UInt64} (ha : own_D g N a) (hb : own_D g M b) (hM : 0 < M) (h : N * ((2 ^ g : Nat) : Int) ≤ K * M) (hK : K.natAbs < 9007199254740992) : own_z (FP.ddiv a b) ≤ K * ((2 ^ (1074 - g) : Nat) : Int) := by
  obtain ⟨v, hv⟩ := own_rep g hg _ hK
  rw [← hv.2]
  exact own_div_le ha.1 hb.1 hv.num (hb.pos hM) ((own_div_z hg ha hb hv).1 h)
theorem own_div_lo {g : Nat} (hg : g ≤ 1074) {N M K : Int} {a b : UInt64} (ha : own_D g N a) (hb : own_D g M b) (hM : 0 < M) (h : K * M ≤ N * ((2 ^ g : Nat) : Int)) (hK : K.natAbs < 9007199254740992) : K * ((2 ^ (1074 - g) : Nat) : Int) ≤ own_z (FP.ddiv a b) := by
  obtain ⟨v, hv⟩ := own_rep g hg _ hK
  rw [← hv.2]
  exact own_div_ge ha.1 hb.1 hv.num (hb.pos hM) ((own_div_z hg ha hb hv).2 h)
/-- a number between two doubles' values is finite -/
theorem own_fin_btw {g : Nat} (hg : g ≤ 1074) {A B : Int} {r : UInt64} (hr : own_num r) (h1 : A * ((2 ^ (1074 - g) : Nat) : Int) ≤ own_z r) (h2 : own_z r ≤ B * ((2 ^ (1074 - g) : Nat) : Int)) (hA : A.natAbs < 9007199254740992) (hB : B.natAbs < 9007199254740992) : FP.Core.DFin r := by
  obtain ⟨va, ha⟩ := own_rep g hg _ hA
  obtain ⟨vb, hb⟩ := own_rep g hg _ hB
  rw [← ha.2] at h1
  rw [← hb.2] at h2
  cases hv : FP.Core.val64 r with
  | nan => exact absurd hv hr
  | fin s c q => exact ⟨s, c, q, hv⟩
  | inf s =>
    exfalso
    have la := FP.Core.DFin.zval_lt ha.1
    have lb := FP.Core.DFin.zval_lt hb.1
    have e : own_z r = FP.Core.signed s (FP.Core.b64.tails * 2 ^ (FP.Core.b64.exps - 2)) := by unfold own_z FP.Core.zval; rw [hv]; rfl
    have na : (own_z va).natAbs = FP.Core.zmag FP.Core.b64 (FP.Core.val64 va) := FP.Core.natAbs_signed _ _
    have nb : (own_z vb).natAbs = FP.Core.zmag FP.Core.b64 (FP.Core.val64 vb) := FP.Core.natAbs_signed _ _
    rw [← na] at la
    rw [← nb] at lb
    generalize FP.Core.b64.tails * 2 ^ (FP.Core.b64.exps - 2) = top at *
    rcases own_signed_cases s top with ⟨-, q⟩ | ⟨-, q⟩ <;> rw [q] at e <;> omega
theorem own_D.up {g : Nat} {N : Int} {a : UInt64} (h : own_D g N a) (j : Nat) (hj : g + j ≤ 1074) : own_D (g + j) (N * ((2 ^ j : Nat) : Int)) a := by
  refine ⟨h.1, ?_⟩
  rw [h.2, Int.mul_assoc, ← Int.natCast_mul, ← Nat.pow_add, show j + (1074 - (g + j)) = 1074 - g by omega]
theorem own_D.int {i : Int} {a : UInt64} (h : FP.Core.DInt i a) : own_D 0 i a := by
  refine ⟨?_, ?_⟩
  · have h' : FP.Core.Whole i (FP.Core.val64 a) := h
    cases hv : FP.Core.val64 a with
    | nan => rw [hv] at h'; exact h'.elim
    | inf s => rw [hv] at h'; exact h'.elim
    | fin s c q => exact ⟨s, c, q, hv⟩
  · exact FP.Core.DInt_zval h
theorem own_D.i2d (x : Int32) : own_D 0 x.toInt (FP.i2d x) := own_D.int (FP.Core.i2d_int x)
theorem own_D.l2d {x : Int64} (h : x.toInt.natAbs ≤ 9007199254740992) : own_D 0 x.toInt (FP.l2d x) := own_D.int (FP.Core.l2d_int h)
/-- an int at the granularity g -/
theorem own_D.i2dg (g : Nat) (hg : g ≤ 1074) (x : Int32) : own_D g (x.toInt * ((2 ^ g : Nat) : Int)) (FP.i2d x) := by
  have := (own_D.i2d x).up g (by omega)
  rw [Nat.zero_add] at this
  exact this
theorem own_D.l2dg (g : Nat) (hg : g ≤ 1074) {x : Int64} (h : x.toInt.natAbs ≤ 9007199254740992) : own_D g (x.toInt * ((2 ^ g : Nat) : Int)) (FP.l2d x) := by
  have := (own_D.l2d h).up g (by omega)
  rw [Nat.zero_add] at this
  exact this
theorem own_D.lt {g : Nat} {N M : Int} {a b : UInt64} (ha : own_D g N a) (hb : own_D g M b) (h : N < M) : FP.dcmp a b = some .lt := own_lt ha.num hb.num (by rw [ha.2, hb.2]; exact Int.mul_lt_mul_of_pos_right h (own_u_pos g))
theorem own_D.gt {g : Nat} {N M : Int} {a b : UInt64} (ha : own_D g N a) (hb : own_D g M b) (h : M < N) : FP.dcmp a b = some .gt := own_gt ha.num hb.num (by rw [ha.2, hb.2]; exact Int.mul_lt_mul_of_pos_right h (own_u_pos g))
theorem own_D.eq {g : Nat} {N M : Int} {a b : UInt64} (ha : own_D g N a) (hb : own_D g M b) (h : N = M) : FP.dcmp a b = some .eq := own_eq ha.num hb.num (by rw [ha.2, hb.2, h])
theorem own_z_neg (a : UInt64) : own_z (FP.dneg a) = -own_z a := by
  unfold own_z
  rw [FP.val64_dneg, FP.Core.zval_negate]
theorem own_D.neg {g : Nat} {N : Int} {a : UInt64} (h : own_D g N a) : own_D g (-N) (FP.dneg a) := by
  refine ⟨?_, by rw [own_z_neg, h.2, Int.neg_mul]⟩
  obtain ⟨s, c, q, e⟩ := h.1
  exact ⟨!s, c, q, by rw [FP.val64_dneg, e]; rfl⟩
/-- (k t + r) / t, rounded, against k + c / 2^g -/
theorem own_quot {g : Nat} (hg : g ≤ 1074) {k r : Int} {T : Int64} {t : Int32} (hT : T.toInt = k * t.toInt + r) (hb : T.toInt.natAbs ≤ 9007199254740992) (ht : 0 < t.toInt) :
    own_num (FP.ddiv (FP.l2d T) (FP.i2d t)) ∧
    (r = 0 → (k * ((2 ^ g : Nat) : Int)).natAbs < 9007199254740992 → own_D g (k * ((2 ^ g : Nat) : Int)) (FP.ddiv (FP.l2d T) (FP.i2d t))) ∧
    (∀ c : Int, c * t.toInt ≤ r * ((2 ^ g : Nat) : Int) → (k * ((2 ^ g : Nat) : Int) + c).natAbs < 9007199254740992 → (k * ((2 ^ g : Nat) : Int) + c) * ((2 ^ (1074 - g) : Nat) : Int) ≤ own_z (FP.ddiv (FP.l2d T) (FP.i2d t))) ∧
    (∀ c : Int, r * ((2 ^ g : Nat) : Int) ≤ c * t.toInt → (k * ((2 ^ g : Nat) : Int) + c).natAbs < 9007199254740992 → own_z (FP.ddiv (FP.l2d T) (FP.i2d t)) ≤ (k * ((2 ^ g : Nat) : Int) + c) * ((2 ^ (1074 - g) : Nat) : Int)) ∧
    (∀ c : Int, r * ((2 ^ g : Nat) : Int) = c * t.toInt → (k * ((2 ^ g : Nat) : Int) + c).natAbs < 9007199254740992 → own_D g (k * ((2 ^ g : Nat) : Int) + c) (FP.ddiv (FP.l2d T) (FP.i2d t))) := by
  have d1 := own_D.l2dg g hg hb
  have d2 := own_D.i2dg g hg t
  have hG : (0 : Int) < ((2 ^ g : Nat) : Int) := by have := Nat.two_pow_pos g; omega
  have hM : 0 < t.toInt * ((2 ^ g : Nat) : Int) := Int.mul_pos ht hG
  have key : ∀ c : Int, (k * ((2 ^ g : Nat) : Int) + c) * (t.toInt * ((2 ^ g : Nat) : Int)) = (k * t.toInt * ((2 ^ g : Nat) : Int) + c * t.toInt) * ((2 ^ g : Nat) : Int) := by
    intro c
    rw [← Int.mul_assoc, Int.add_mul, Int.mul_right_comm]
  have key2 : T.toInt * ((2 ^ g : Nat) : Int) * ((2 ^ g : Nat) : Int) = (k * t.toInt * ((2 ^ g : Nat) : Int) + r * ((2 ^ g : Nat) : Int)) * ((2 ^ g : Nat) : Int) := by
    rw [hT, Int.add_mul (k * t.toInt)]
  have hn : own_num (FP.ddiv (FP.l2d T) (FP.i2d t)) := own_num_div d1.num d2.1 (d2.ne (by omega))
  have ex : ∀ c : Int, r * ((2 ^ g : Nat) : Int) = c * t.toInt → (k * ((2 ^ g : Nat) : Int) + c).natAbs < 9007199254740992 → own_D g (k * ((2 ^ g : Nat) : Int) + c) (FP.ddiv (FP.l2d T) (FP.i2d t)) :=
    fun c h hc => d1.div hg d2 hM (by rw [key, key2, h]) hc
  refine ⟨hn, fun h0 hc => ?_, fun c h hc => ?_, fun c h hc => ?_, ex⟩
  · have := ex 0 (by rw [h0]; omega) (by rw [Int.add_zero]; exact hc)
    rwa [Int.add_zero] at this
  · refine own_div_lo hg d1 d2 hM ?_ hc
    rw [key, key2]
    exact Int.mul_le_mul_of_nonneg_right (by omega) (by omega)
  · refine own_div_hi hg d1 d2 hM ?_ hc
    rw [key, key2]
    exact Int.mul_le_mul_of_nonneg_right (by omega) (by omega)
theorem own_D.uniq {g : Nat} {N M : Int} {a b : UInt64} (ha : own_D g N a) (hb : own_D g M b) (e : N = M) (h : M ≠ 0) : a = b :=
  FP.Core.eq_bits (fun z => hb.ne h (FP.Core.DZero.zval z)) (ha.eq hb e)
/-! OWN KIT 4: ints and longs by their whole numbers -/
theorem own_and32 (x m : Int32) (h : 0 ≤ m.toInt) : 0 ≤ (x &&& m).toInt ∧ (x &&& m).toInt ≤ m.toInt := by
  have e : (x &&& m).toBitVec.toNat = x.toBitVec.toNat &&& m.toBitVec.toNat := by
    show (x.toBitVec &&& m.toBitVec).toNat = _
    rw [BitVec.toNat_and]
  have h1 : x.toBitVec.toNat &&& m.toBitVec.toNat ≤ m.toBitVec.toNat := Nat.and_le_right
  have h2 := m.toBitVec.isLt
  have h3 : 0 ≤ m.toBitVec.toInt := h
  show 0 ≤ (x &&& m).toBitVec.toInt ∧ (x &&& m).toBitVec.toInt ≤ m.toBitVec.toInt
  rw [BitVec.toInt_eq_toNat_cond] at h3 ⊢
  rw [BitVec.toInt_eq_toNat_cond, e]
  split at h3
  · rw [if_pos (by omega), if_pos (by omega)]; omega
  · omega
theorem own_and64 (x m : Int64) (h : 0 ≤ m.toInt) : 0 ≤ (x &&& m).toInt ∧ (x &&& m).toInt ≤ m.toInt := by
  have e : (x &&& m).toBitVec.toNat = x.toBitVec.toNat &&& m.toBitVec.toNat := by
    show (x.toBitVec &&& m.toBitVec).toNat = _
    rw [BitVec.toNat_and]
  have h1 : x.toBitVec.toNat &&& m.toBitVec.toNat ≤ m.toBitVec.toNat := Nat.and_le_right
  have h2 := m.toBitVec.isLt
  have h3 : 0 ≤ m.toBitVec.toInt := h
  show 0 ≤ (x &&& m).toBitVec.toInt ∧ (x &&& m).toBitVec.toInt ≤ m.toBitVec.toInt
  rw [BitVec.toInt_eq_toNat_cond] at h3 ⊢
  rw [BitVec.toInt_eq_toNat_cond, e]
  split at h3
  · rw [if_pos (by omega), if_pos (by omega)]; omega
  · omega
theorem own_rng32 (x : Int32) : -2147483648 ≤ x.toInt ∧ x.toInt < 2147483648 := ⟨Int32.le_toInt x, Int32.toInt_lt x⟩
theorem own_rng64 (x : Int64) : -9223372036854775808 ≤ x.toInt ∧ x.toInt < 9223372036854775808 := ⟨Int64.le_toInt x, Int64.toInt_lt x⟩
theorem own_i2l (x : Int32) : x.toInt64.toInt = x.toInt := Int32.toInt_toInt64 x
theorem own_add64 {a b : Int64} (h : -9223372036854775808 ≤ a.toInt + b.toInt) (h' : a.toInt + b.toInt < 9223372036854775808) : (a + b).toInt = a.toInt + b.toInt := FP.Core.int64_add h h'
theorem own_sub64 {a b : Int64} (h : -9223372036854775808 ≤ a.toInt - b.toInt) (h' : a.toInt - b.toInt < 9223372036854775808) : (a - b).toInt = a.toInt - b.toInt := FP.Core.int64_sub h h'
theorem own_mul64 {a b : Int64} (h : -9223372036854775808 ≤ a.toInt * b.toInt) (h' : a.toInt * b.toInt < 9223372036854775808) : (a * b).toInt = a.toInt * b.toInt := FP.Core.int64_mul h h'
theorem own_add32 {a b : Int32} (h : -2147483648 ≤ a.toInt + b.toInt) (h' : a.toInt + b.toInt < 2147483648) : (a + b).toInt = a.toInt + b.toInt := by
  rw [Int32.toInt_add, Int.bmod_eq_of_le (by omega) (by omega)]
theorem own_sub32 {a b : Int32} (h : -2147483648 ≤ a.toInt - b.toInt) (h' : a.toInt - b.toInt < 2147483648) : (a - b).toInt = a.toInt - b.toInt := by
  rw [Int32.toInt_sub, Int.bmod_eq_of_le (by omega) (by omega)]
theorem own_mul32 {a b : Int32} (h : -2147483648 ≤ a.toInt * b.toInt) (h' : a.toInt * b.toInt < 2147483648) : (a * b).toInt = a.toInt * b.toInt := by
  rw [Int32.toInt_mul, Int.bmod_eq_of_le (by omega) (by omega)]
theorem own_rem32 (a b : Int32) : (a % b).toInt = a.toInt.tmod b.toInt := Int32.toInt_mod a b
theorem own_rem_pos {a b : Int32} (ha : 0 ≤ a.toInt) (hb : 0 < b.toInt) : 0 ≤ (a % b).toInt ∧ (a % b).toInt < b.toInt := by
  rw [own_rem32, Int.tmod_eq_emod_of_nonneg ha]
  exact ⟨Int.emod_nonneg _ (by omega), Int.emod_lt_of_pos _ hb⟩
/-- what a comparison of doubles pushes -/
theorem own_cv_lt {a b : UInt64} (h : FP.dcmp a b = some .lt) (o : CmpOp) : (cmpValue (FP.dcmp a b) o).toInt = -1 := by rw [h]; rfl
theorem own_cv_eq {a b : UInt64} (h : FP.dcmp a b = some .eq) (o : CmpOp) : (cmpValue (FP.dcmp a b) o).toInt = 0 := by rw [h]; rfl
theorem own_cv_gt {a b : UInt64} (h : FP.dcmp a b = some .gt) (o : CmpOp) : (cmpValue (FP.dcmp a b) o).toInt = 1 := by rw [h]; rfl
def own_nb (x : UInt64) : Bool := decide (x &&& 0x7fffffffffffffff ≤ 0x7ff0000000000000)
theorem own_nb_e {x : UInt64} (h : own_nb x = true) : Jvm.Free.Fl.NoNaN64 x := of_decide_eq_true h
/-- the ranking's loop: hits from rank k on, found so far, the sum so far -/
def own_run : List Bool → Int32 → Int32 → UInt64 → Int32 × UInt64
  | [], _, f, s => (f, s)
  | true :: r, k, f, s => own_run r (k + 1) (f + 1) (FP.dadd s (FP.ddiv (FP.i2d (f + 1)) (FP.i2d k)))
  | false :: r, k, f, s => own_run r (k + 1) f s
def own_ok : List Bool → Int32 → Int32 → UInt64 → Bool
  | [], _, _, _ => true
  | true :: r, k, f, s => own_nb (FP.ddiv (FP.i2d (f + 1)) (FP.i2d k)) && own_nb (FP.dadd s (FP.ddiv (FP.i2d (f + 1)) (FP.i2d k))) && own_ok r (k + 1) (f + 1) (FP.dadd s (FP.ddiv (FP.i2d (f + 1)) (FP.i2d k)))
  | false :: r, k, f, s => own_ok r (k + 1) f s
def own_cnt : List Bool → Int32 → Int32
  | [], r => r
  | true :: t, r => own_cnt t (r + 1)
  | false :: t, r => own_cnt t r
def own_res (bs js : List Bool) : UInt64 := if (own_run bs 1 0 0).1.toInt = 0 then 0 else FP.ddiv (own_run bs 1 0 0).2 (FP.i2d (own_cnt js 0))
def own_rok (bs js : List Bool) : Bool := own_ok bs 1 0 0 && (decide ((own_run bs 1 0 0).1.toInt = 0) || own_nb (FP.ddiv (own_run bs 1 0 0).2 (FP.i2d (own_cnt js 0))))
/-- the law's own sums -/
def own_sum : List Bool → Int64 → Int32 → Int64 → Int32 × Int64
  | [], _, f, n => (f, n)
  | true :: r, k, f, n => own_sum r (k + 1) (f + 1) (n + (12 * (f + 1).toInt64) / k)
  | false :: r, k, f, n => own_sum r (k + 1) f n
def own_dif (bs es : List Bool) : UInt64 := FP.dsub (FP.dmul (own_res bs (es ++ bs)) (FP.dmul 4622945017495814144 (FP.i2d (own_cnt es (own_sum bs 1 0 0).1)))) (FP.l2d (own_sum bs 1 0 0).2)
def own_chk (bs es : List Bool) : Bool := own_rok bs (es ++ bs) &&
  (if (own_sum bs 1 0 0).1.toInt = 0 then decide ((cmpValue (FP.dcmp (own_res bs (es ++ bs)) 0) .l).toInt = 0)
   else own_nb (FP.dmul 4622945017495814144 (FP.i2d (own_cnt es (own_sum bs 1 0 0).1))) && own_nb (FP.dmul (own_res bs (es ++ bs)) (FP.dmul 4622945017495814144 (FP.i2d (own_cnt es (own_sum bs 1 0 0).1)))) && own_nb (own_dif bs es) && decide ((cmpValue (FP.dcmp (own_dif bs es) 4472406533629990549) .g).toInt < 0) && decide (0 < (cmpValue (FP.dcmp (own_dif bs es) 13695778570484766357) .l).toInt))
set_option maxRecDepth 65536 in
theorem own_chk_0_0 : own_chk [] [] = true := by decide +kernel
set_option maxRecDepth 65536 in
theorem own_chk_0_1 : ∀ c0 : Bool, own_chk [] [c0] = true := by decide +kernel
set_option maxRecDepth 65536 in
theorem own_chk_0_2 : ∀ c0 c1 : Bool, own_chk [] [c0, c1] = true := by decide +kernel
set_option maxRecDepth 65536 in
theorem own_chk_0_3 : ∀ c0 c1 c2 : Bool, own_chk [] [c0, c1, c2] = true := by decide +kernel
set_option maxRecDepth 65536 in
theorem own_chk_1_0 : ∀ b0 : Bool, own_chk [b0] [] = true := by decide +kernel
set_option maxRecDepth 65536 in
theorem own_chk_1_1 : ∀ b0 c0 : Bool, own_chk [b0] [c0] = true := by decide +kernel
set_option maxRecDepth 65536 in
theorem own_chk_1_2 : ∀ b0 c0 c1 : Bool, own_chk [b0] [c0, c1] = true := by decide +kernel
set_option maxRecDepth 65536 in
theorem own_chk_1_3 : ∀ b0 c0 c1 c2 : Bool, own_chk [b0] [c0, c1, c2] = true := by decide +kernel
set_option maxRecDepth 65536 in
theorem own_chk_2_0 : ∀ b0 b1 : Bool, own_chk [b0, b1] [] = true := by decide +kernel
set_option maxRecDepth 65536 in
theorem own_chk_2_1 : ∀ b0 b1 c0 : Bool, own_chk [b0, b1] [c0] = true := by decide +kernel
set_option maxRecDepth 65536 in
theorem own_chk_2_2 : ∀ b0 b1 c0 c1 : Bool, own_chk [b0, b1] [c0, c1] = true := by decide +kernel
set_option maxRecDepth 65536 in
theorem own_chk_2_3 : ∀ b0 b1 c0 c1 c2 : Bool, own_chk [b0, b1] [c0, c1, c2] = true := by decide +kernel
set_option maxRecDepth 65536 in
theorem own_chk_3_0 : ∀ b0 b1 b2 : Bool, own_chk [b0, b1, b2] [] = true := by decide +kernel
set_option maxRecDepth 65536 in
theorem own_chk_3_1 : ∀ b0 b1 b2 c0 : Bool, own_chk [b0, b1, b2] [c0] = true := by decide +kernel
set_option maxRecDepth 65536 in
theorem own_chk_3_2 : ∀ b0 b1 b2 c0 c1 : Bool, own_chk [b0, b1, b2] [c0, c1] = true := by decide +kernel
set_option maxRecDepth 65536 in
theorem own_chk_3_3 : ∀ b0 b1 b2 c0 c1 c2 : Bool, own_chk [b0, b1, b2] [c0, c1, c2] = true := by decide +kernel
set_option maxRecDepth 65536 in
theorem own_chk_4_0 : ∀ b0 b1 b2 b3 : Bool, own_chk [b0, b1, b2, b3] [] = true := by decide +kernel
set_option maxRecDepth 65536 in
theorem own_chk_4_1 : ∀ b0 b1 b2 b3 c0 : Bool, own_chk [b0, b1, b2, b3] [c0] = true := by decide +kernel
set_option maxRecDepth 65536 in
theorem own_chk_4_2 : ∀ b0 b1 b2 b3 c0 c1 : Bool, own_chk [b0, b1, b2, b3] [c0, c1] = true := by decide +kernel
set_option maxRecDepth 65536 in
theorem own_chk_4_3 : ∀ b0 b1 b2 b3 c0 c1 c2 : Bool, own_chk [b0, b1, b2, b3] [c0, c1, c2] = true := by decide +kernel
def tab0 : List (Nat × Instr) := [(0, .iload 4), (2, .ldc 7), (4, .iand), (5, .iconst 5), (6, .irem), (7, .istore 6), (9, .iload 4), (11, .iconst 4), (12, .iushr), (13, .iconst 3), (14, .iand), (15, .istore 7), (17, .iload 5), (19, .istore 8), (21, .iload 4), (23, .bipush 8), (25, .ishr), (26, .istore 9), (28, .iload 5), (30, .iload_n 0), (31, .ixor), (32, .istore 10), (34, .iload 6), (36, .newarray .int), (38, .astore 11), (40, .iload 6), (42, .ifCond .le 8), (45, .aload 11), (47, .iconst 0), (48, .iload_n 0), (49, .iastore), (50, .iload 6), (52, .iconst 1), (53, .if_icmp .le 8), (56, .aload 11), (58, .iconst 1), (59, .iload_n 1), (60, .iastore), (61, .iload 6), (63, .iconst 2), (64, .if_icmp .le 8), (67, .aload 11), (69, .iconst 2), (70, .iload_n 2), (71, .iastore), (72, .iload 6), (74, .iconst 3), (75, .if_icmp .le 8), (78, .aload 11), (80, .iconst 3), (81, .iload_n 3), (82, .iastore), (83, .iload 7), (85, .iload 6), (87, .iadd), (88, .newarray .int), (90, .astore 12), (92, .iload 7), (94, .ifCond .le 9), (97, .aload 12), (99, .iconst 0), (100, .iload 8), (102, .iastore), (103, .iload 7), (105, .iconst 1), (106, .if_icmp .le 9), (109, .aload 12), (111, .iconst 1), (112, .iload 9), (114, .iastore), (115, .iload 7), (117, .iconst 2), (118, .if_icmp .le 9), (121, .aload 12), (123, .iconst 2), (124, .iload 10), (126, .iastore), (127, .iload 6), (129, .ifCond .le 9), (132, .aload 12), (134, .iload 7), (136, .iload_n 0), (137, .iastore), (138, .iload 6), (140, .iconst 1), (141, .if_icmp .le 11), (144, .aload 12), (146, .iload 7), (148, .iconst 1), (149, .iadd), (150, .iload_n 1), (151, .iastore), (152, .iload 6), (154, .iconst 2), (155, .if_icmp .le 11), (158, .aload 12), (160, .iload 7), (162, .iconst 2), (163, .iadd), (164, .iload_n 2), (165, .iastore), (166, .iload 6), (168, .iconst 3), (169, .if_icmp .le 11), (172, .aload 12), (174, .iload 7), (176, .iconst 3), (177, .iadd), (178, .iload_n 3), (179, .iastore), (180, .new 8), (183, .dup), (184, .invokespecial 10), (187, .aload 11), (189, .aload 12), (191, .invokevirtual 11), (194, .dstore 13), (196, .iconst 0), (197, .istore 15), (199, .lconst 0), (200, .lstore 16), (202, .iload 6), (204, .ifCond .le 24), (207, .iload_n 0), (208, .ifCond .le 20), (211, .iinc 15 1), (214, .lload 16), (216, .ldc2_w 15), (219, .iload 15), (221, .i2l), (222, .lmul), (223, .lconst 1), (224, .ldiv), (225, .ladd), (226, .lstore 16), (228, .iload 6), (230, .iconst 1), (231, .if_icmp .le 26), (234, .iload_n 1), (235, .ifCond .le 22), (238, .iinc 15 1), (241, .lload 16), (243, .ldc2_w 15), (246, .iload 15), (248, .i2l), (249, .lmul), (250, .ldc2_w 17), (253, .ldiv), (254, .ladd), (255, .lstore 16), (257, .iload 6), (259, .iconst 2), (260, .if_icmp .le 26), (263, .iload_n 2), (264, .ifCond .le 22), (267, .iinc 15 1), (270, .lload 16), (272, .ldc2_w 15), (275, .iload 15), (277, .i2l), (278, .lmul), (279, .ldc2_w 19), (282, .ldiv), (283, .ladd), (284, .lstore 16), (286, .iload 6), (288, .iconst 3), (289, .if_icmp .le 26), (292, .iload_n 3), (293, .ifCond .le 22), (296, .iinc 15 1), (299, .lload 16), (301, .ldc2_w 15), (304, .iload 15), (306, .i2l), (307, .lmul), (308, .ldc2_w 21), (311, .ldiv), (312, .ladd), (313, .lstore 16), (315, .iload 15), (317, .istore 18), (319, .iload 7), (321, .ifCond .le 11), (324, .iload 8), (326, .ifCond .le 6), (329, .iinc 18 1), (332, .iload 7), (334, .iconst 1), (335, .if_icmp .le 11), (338, .iload 9), (340, .ifCond .le 6), (343, .iinc 18 1), (346, .iload 7), (348, .iconst 2), (349, .if_icmp .le 11), (352, .iload 10), (354, .ifCond .le 6), (357, .iinc 18 1), (360, .iload 15), (362, .ifCond .ne 16), (365, .dload 13), (367, .dconst 0), (368, .dcmp .l), (369, .ifCond .ne 7), (372, .iconst 1), (373, .goto 4), (376, .iconst 0), (377, .ireturn), (378, .dload 13), (380, .ldc2_w 23), (383, .iload 18), (385, .i2d), (386, .dmul), (387, .dmul), (388, .lload 16), (390, .l2d), (391, .dsub), (392, .dstore 19), (394, .dload 19), (396, .ldc2_w 25), (399, .dcmp .g), (400, .ifCond .ge 16), (403, .dload 19), (405, .ldc2_w 27), (408, .dcmp .l), (409, .ifCond .le 7), (412, .iconst 1), (413, .goto 4), (416, .iconst 0), (417, .ireturn)]
set_option maxRecDepth 65536 in
theorem dec0 : own_dec code tab0 := by
  show ∀ e ∈ tab0, decode code e.1 = .ok (e.2, own_len e.2)
  decide +kernel
theorem seq0 : own_seq tab0 = true := by decide +kernel
def kt0 : List (Nat × Value) := [(7, .int 2147483647), (15, .long 12), (17, .long 2), (19, .long 3), (23, .double 4622945017495814144), (25, .double 4472406533629990549), (27, .double 13695778570484766357), (21, .long 4)]
def ft0 : List (Nat × String × String × String) := []
theorem pn0 : plainName "com/example/weigh/weigh/eval/AveragePrecisionScorePinLaw" = true := by first | (simp [plainName, overriddenIn]; done) | decide +kernel
theorem pd0 : parseMethodDescriptor "(IIIIII)Z" = some ⟨[.int, .int, .int, .int, .int, .int], some .boolean⟩ := by decide +kernel
def tab1 : List (Nat × Instr) := [(0, .aload_n 0), (1, .invokespecial 1), (4, .return_)]
set_option maxRecDepth 65536 in
theorem dec1 : own_dec prog_7_method_1_code tab1 := by
  show ∀ e ∈ tab1, decode prog_7_method_1_code e.1 = .ok (e.2, own_len e.2)
  decide +kernel
theorem seq1 : own_seq tab1 = true := by decide +kernel
theorem d1_1 : decode prog_7_method_1_code 1 = .ok (.invokespecial 1, 3) := by decide +kernel
theorem d1_4 : decode prog_7_method_1_code 4 = .ok (.return_, 1) := by decide +kernel
def kt1 : List (Nat × Value) := []
def ft1 : List (Nat × String × String × String) := []
theorem pn1 : plainName "com/example/weigh/weigh/eval/AveragePrecision" = true := by first | (simp [plainName, overriddenIn]; done) | decide +kernel
theorem pd1 : parseMethodDescriptor "()V" = some ⟨[], none⟩ := by decide +kernel
def tab3 : List (Nat × Instr) := [(0, .dconst 0), (1, .dstore_n 3), (2, .iconst 0), (3, .istore 5), (5, .iconst 1), (6, .istore 6), (8, .iload 6), (10, .aload_n 1), (11, .arraylength), (12, .if_icmp .gt 31), (15, .aload_n 1), (16, .iload 6), (18, .iconst 1), (19, .isub), (20, .iaload), (21, .ifCond .le 16), (24, .iinc 5 1), (27, .dload_n 3), (28, .iload 5), (30, .i2d), (31, .iload 6), (33, .i2d), (34, .ddiv), (35, .dadd), (36, .dstore_n 3), (37, .iinc 6 1), (40, .goto (-32)), (43, .iconst 0), (44, .istore 6), (46, .aload_n 2), (47, .astore 7), (49, .aload 7), (51, .arraylength), (52, .istore 8), (54, .iconst 0), (55, .istore 9), (57, .iload 9), (59, .iload 8), (61, .if_icmp .ge 24), (64, .aload 7), (66, .iload 9), (68, .iaload), (69, .istore 10), (71, .iload 10), (73, .ifCond .le 6), (76, .iinc 6 1), (79, .iinc 9 1), (82, .goto (-25)), (85, .iload 5), (87, .ifCond .ne 7), (90, .dconst 0), (91, .goto 8), (94, .dload_n 3), (95, .iload 6), (97, .i2d), (98, .ddiv), (99, .dreturn)]
set_option maxRecDepth 65536 in
theorem dec3 : own_dec prog_7_method_3_code tab3 := by
  show ∀ e ∈ tab3, decode prog_7_method_3_code e.1 = .ok (e.2, own_len e.2)
  decide +kernel
theorem seq3 : own_seq tab3 = true := by decide +kernel
theorem d3_99 : decode prog_7_method_3_code 99 = .ok (.dreturn, 1) := by decide +kernel
def kt3 : List (Nat × Value) := []
def ft3 : List (Nat × String × String × String) := []
theorem pn3 : plainName "com/example/weigh/weigh/eval/AveragePrecision" = true := by first | (simp [plainName, overriddenIn]; done) | decide +kernel
theorem pd3 : parseMethodDescriptor "([I[I)D" = some ⟨[(.array .int), (.array .int)], some .double⟩ := by decide +kernel
set_option maxRecDepth 65536 in
set_option maxHeartbeats 40000000 in
theorem rm1 (l : Launch) (Z : State) (a0 : Array Value) (hw : ∀ d ∈ tables_1, d.before a0 Z = true) (ws : List Jvm.Cond) (a : Addr) (h0 : Heap) (n0 : Nat) (Z0 : n0 ≤ h0.size)  :
    MetFree l (⟨"com/example/weigh/weigh/eval/AveragePrecision", "<init>", "()V"⟩ : MethodName) (head1 (Jvm.Cond.code (⟨"com/example/weigh/weigh/eval/AveragePrecision", "<init>", "()V"⟩ : MethodName) prog_7_method_1_code 1 none :: ws) ({ frames := 1, cells := 0, slots := 0, locals := 12 } : Room)) (fun as_ U => as_ = #[.ref a] ∧ Z.Warmed39 U.vm ∧ U.heap = h0) (fun _ _ _ _ _ => True) (fun _ U o U' => own_Fin U ({ frames := 1, cells := 0, slots := 0, locals := 12 } : Room).cells ({ frames := 1, cells := 0, slots := 0, locals := 12 } : Room).slots (fun v h L => v = none ∧ Fr n0 L ∧ h = h0) o U') := by
  refine own_body (plainFor_of_name pn1) (ls0 := [.val (.ref a)]) (fun m => by first | (simp [entryFrame, mkF, argsToLocals, Value.category, maxLocals]; done) | rfl) ?_
  intro p e s m below meth c T0 hx hby hml hown hnm hlk hret hZ X0 e0
  have hK : own_ks "com/example/weigh/weigh/eval/AveragePrecision" a0 Z kt1 := trivial
  have hF : own_fs "com/example/weigh/weigh/eval/AveragePrecision" a0 Z ft1 := trivial
  have N0 := Fr.nil n0
  refine own_blk dec1 seq1 hby hx hZ hown hK hF 1 [] [] X0 e0 ?_
  show own_Aft X0 h0 _ 1 [.val (.ref a)] [.ref a]
  refine fun T1 X1 eh1 => ?_
  refine own_initO X1 hx hZ hown (hw _ (List.mem_of_getElem? (i := 8) rfl)) (hw _ (List.mem_of_getElem? (i := 9) rfl)) (hw _ (List.mem_of_getElem? (i := 10) rfl)) eh1 (by rw [hml]; rfl) (hb hby d1_1) (by decide) 0 (Nat.le_of_eq rfl) (by decide) (fun T2 X2 eh2 => ?_)
  exact own_retV X2 hx hlk eh2 hret (hb hby d1_4) (by decide) (by decide) (⟨rfl, N0, rfl⟩)
set_option maxRecDepth 65536 in
set_option maxHeartbeats 40000000 in
theorem ptA_0 {p : Program} {l : Launch} {e : Env} {R : Room} {s : State} {m : MethodId} {args : Array Value} {below : List Frame} {meth : Method} {c : Code} {T0 : State} {locs : List Loc} {cells slots : Nat} {Z : State} {a0 : Array Value} {h0 : Heap} {Q : Outcome → State → Prop} (X0 : Stand p l e R s m args below meth c T0 locs cells slots) (hx : p.tables.exec = Jvm.exec) (hby : c.code = prog_7_method_3_code) (hml : c.maxLocals = 11) (hown : s.vm.findClass "com/example/weigh/weigh/eval/AveragePrecision" = some m.cls) (hZ : Z.Warmed39 s.vm) (hK : own_ks "com/example/weigh/weigh/eval/AveragePrecision" a0 Z kt3) (hF : own_fs "com/example/weigh/weigh/eval/AveragePrecision" a0 Z ft3) (e0 : T0.heap = h0) (u0 u2 u7 u8 u9 u10 : Slot) (ra : Addr) (A1 : own_A Z h0 ra .int []) (O0 : own_ok [] 1 0 0 = true)
    (kk : ∀ (f : Int32) (s : UInt64) (_ : own_run [] 1 0 0 = (f, s)), own_Aft X0 h0 Q 43 [u0, .val (.ref ra), u2, .val (.double s), .second, .val (.int f), .val (.int (1 : Int32)), u7, u8, u9, u10] []) : own_Go p.tables e below Q (T0.setTop (mkF m 8 (Array.mk [u0, .val (.ref ra), u2, .val (.double 0), .second, .val (.int (0 : Int32)), .val (.int (1 : Int32)), u7, u8, u9, u10]) [])) := by
  have H0 : own_run [] 1 0 0 = own_run [] 1 0 0 := rfl
  refine own_blk dec3 seq3 hby hx hZ hown hK hF 4 [true] [.int (0 : Int32)] X0 e0 ?_
  show (own_ln Z h0 ra (0 : Int32)) ∧ (((0 : Int32)).toInt < ((1 : Int32)).toInt) ∧ own_Aft X0 h0 _ 43 [u0, .val (.ref ra), u2, .val (.double 0), .second, .val (.int (0 : Int32)), .val (.int (1 : Int32)), u7, u8, u9, u10] []
  refine ⟨A1.ln (0 : Int32) rfl, by decide, fun T1 X1 eh1 => ?_⟩
  exact kk _ _ H0.symm T1 X1 eh1
set_option maxRecDepth 65536 in
set_option maxHeartbeats 40000000 in
theorem ptA_1 {p : Program} {l : Launch} {e : Env} {R : Room} {s : State} {m : MethodId} {args : Array Value} {below : List Frame} {meth : Method} {c : Code} {T0 : State} {locs : List Loc} {cells slots : Nat} {Z : State} {a0 : Array Value} {h0 : Heap} {Q : Outcome → State → Prop} (X0 : Stand p l e R s m args below meth c T0 locs cells slots) (hx : p.tables.exec = Jvm.exec) (hby : c.code = prog_7_method_3_code) (hml : c.maxLocals = 11) (hown : s.vm.findClass "com/example/weigh/weigh/eval/AveragePrecision" = some m.cls) (hZ : Z.Warmed39 s.vm) (hK : own_ks "com/example/weigh/weigh/eval/AveragePrecision" a0 Z kt3) (hF : own_fs "com/example/weigh/weigh/eval/AveragePrecision" a0 Z ft3) (e0 : T0.heap = h0) (u0 u2 u7 u8 u9 u10 : Slot) (ra : Addr) (g0 : Int32) (b0 : Bool) (A1 : own_A Z h0 ra .int [.int g0]) (hb0 : 0 < g0.toInt ↔ b0 = true) (O0 : own_ok [b0] 1 0 0 = true)
    (kk : ∀ (f : Int32) (s : UInt64) (_ : own_run [b0] 1 0 0 = (f, s)), own_Aft X0 h0 Q 43 [u0, .val (.ref ra), u2, .val (.double s), .second, .val (.int f), .val (.int (2 : Int32)), u7, u8, u9, u10] []) : own_Go p.tables e below Q (T0.setTop (mkF m 8 (Array.mk [u0, .val (.ref ra), u2, .val (.double 0), .second, .val (.int (0 : Int32)), .val (.int (1 : Int32)), u7, u8, u9, u10]) [])) := by
  have H0 : own_run [b0] 1 0 0 = own_run [b0] 1 0 0 := rfl
  refine own_blk dec3 seq3 hby hx hZ hown hK hF 9 [false] [.int (1 : Int32), .int g0] X0 e0 ?_
  show (own_ln Z h0 ra (1 : Int32)) ∧ (¬ (((1 : Int32)).toInt < ((1 : Int32)).toInt)) ∧ (own_at Z h0 ra .int (0 : Int32) (.int g0)) ∧ own_Aft X0 h0 _ 21 [u0, .val (.ref ra), u2, .val (.double 0), .second, .val (.int (0 : Int32)), .val (.int (1 : Int32)), u7, u8, u9, u10] [.int g0]
  refine ⟨A1.ln (1 : Int32) rfl, by decide, A1.at (0 : Int32) 0 rfl rfl, fun T1 X1 eh1 => ?_⟩
  suffices tl2 : ∀ (f1 : Int32) (s1 : UInt64) (_ : own_run [] 2 f1 s1 = own_run [b0] 1 0 0) (_ : own_ok [] 2 f1 s1 = true), own_Aft X1 h0 Q 8 [u0, .val (.ref ra), u2, .val (.double s1), .second, .val (.int f1), .val (.int (2 : Int32)), u7, u8, u9, u10] [] by
    by_cases hy : 0 < g0.toInt
    · skip
      have hb := hb0.mp hy
      subst hb
      obtain ⟨o1, o3⟩ := Bool.and_eq_true_iff.mp (show (own_nb (FP.ddiv (FP.i2d ((0 : Int32) + 1)) (FP.i2d (1 : Int32))) && own_nb (FP.dadd 0 (FP.ddiv (FP.i2d ((0 : Int32) + 1)) (FP.i2d (1 : Int32)))) && own_ok [] (1 + 1) ((0 : Int32) + 1) (FP.dadd 0 (FP.ddiv (FP.i2d ((0 : Int32) + 1)) (FP.i2d (1 : Int32))))) = true from O0)
      obtain ⟨o1, o2⟩ := Bool.and_eq_true_iff.mp o1
      show own_Go p.tables e below _ (T1.setTop (mkF m 21 (Array.mk [u0, .val (.ref ra), u2, .val (.double 0), .second, .val (.int (0 : Int32)), .val (.int (1 : Int32)), u7, u8, u9, u10]) [.int g0]))
      refine own_blk dec3 seq3 hby hx hZ hown hK hF 12 [false] [] X1 eh1 ?_
      show (¬ ((g0).toInt ≤ 0)) ∧ (Jvm.Free.Fl.NoNaN64 (FP.ddiv (FP.i2d ((0 : Int32) + (1 : Int32))) (FP.i2d (1 : Int32)))) ∧ (Jvm.Free.Fl.NoNaN64 (FP.dadd 0 (FP.ddiv (FP.i2d ((0 : Int32) + (1 : Int32))) (FP.i2d (1 : Int32))))) ∧ own_Aft X1 h0 _ 8 [u0, .val (.ref ra), u2, .val (.double (FP.dadd 0 (FP.ddiv (FP.i2d ((0 : Int32) + (1 : Int32))) (FP.i2d (1 : Int32))))), .second, .val (.int ((0 : Int32) + (1 : Int32))), .val (.int (2 : Int32)), u7, u8, u9, u10] []
      refine ⟨by omega, own_nb_e o1, own_nb_e o2, fun T3 X3 eh3 => ?_⟩
      exact tl2 _ _ H0 o3 T3 X3 eh3
    · skip
      have hb : b0 = false := Bool.eq_false_iff.mpr (fun q => hy (hb0.mpr q))
      subst hb
      refine own_blk dec3 seq3 hby hx hZ hown hK hF 3 [true] [] X1 eh1 ?_
      show ((g0).toInt ≤ 0) ∧ own_Aft X1 h0 _ 8 [u0, .val (.ref ra), u2, .val (.double 0), .second, .val (.int (0 : Int32)), .val (.int (2 : Int32)), u7, u8, u9, u10] []
      refine ⟨by omega, fun T4 X4 eh4 => ?_⟩
      exact tl2 _ _ H0 O0 T4 X4 eh4
  intro f1 s1 H1 O1 T2 X2 eh2
  refine own_blk dec3 seq3 hby hx hZ hown hK hF 4 [true] [.int (1 : Int32)] X2 eh2 ?_
  show (own_ln Z h0 ra (1 : Int32)) ∧ (((1 : Int32)).toInt < ((2 : Int32)).toInt) ∧ own_Aft X2 h0 _ 43 [u0, .val (.ref ra), u2, .val (.double s1), .second, .val (.int f1), .val (.int (2 : Int32)), u7, u8, u9, u10] []
  refine ⟨A1.ln (1 : Int32) rfl, by decide, fun T5 X5 eh5 => ?_⟩
  exact kk _ _ H1.symm T5 X5 eh5
set_option maxRecDepth 65536 in
set_option maxHeartbeats 40000000 in
theorem ptA_2 {p : Program} {l : Launch} {e : Env} {R : Room} {s : State} {m : MethodId} {args : Array Value} {below : List Frame} {meth : Method} {c : Code} {T0 : State} {locs : List Loc} {cells slots : Nat} {Z : State} {a0 : Array Value} {h0 : Heap} {Q : Outcome → State → Prop} (X0 : Stand p l e R s m args below meth c T0 locs cells slots) (hx : p.tables.exec = Jvm.exec) (hby : c.code = prog_7_method_3_code) (hml : c.maxLocals = 11) (hown : s.vm.findClass "com/example/weigh/weigh/eval/AveragePrecision" = some m.cls) (hZ : Z.Warmed39 s.vm) (hK : own_ks "com/example/weigh/weigh/eval/AveragePrecision" a0 Z kt3) (hF : own_fs "com/example/weigh/weigh/eval/AveragePrecision" a0 Z ft3) (e0 : T0.heap = h0) (u0 u2 u7 u8 u9 u10 : Slot) (ra : Addr) (g0 g1 : Int32) (b0 b1 : Bool) (A1 : own_A Z h0 ra .int [.int g0, .int g1]) (hb0 : 0 < g0.toInt ↔ b0 = true) (hb1 : 0 < g1.toInt ↔ b1 = true) (O0 : own_ok [b0, b1] 1 0 0 = true)
    (kk : ∀ (f : Int32) (s : UInt64) (_ : own_run [b0, b1] 1 0 0 = (f, s)), own_Aft X0 h0 Q 43 [u0, .val (.ref ra), u2, .val (.double s), .second, .val (.int f), .val (.int (3 : Int32)), u7, u8, u9, u10] []) : own_Go p.tables e below Q (T0.setTop (mkF m 8 (Array.mk [u0, .val (.ref ra), u2, .val (.double 0), .second, .val (.int (0 : Int32)), .val (.int (1 : Int32)), u7, u8, u9, u10]) [])) := by
  have H0 : own_run [b0, b1] 1 0 0 = own_run [b0, b1] 1 0 0 := rfl
  refine own_blk dec3 seq3 hby hx hZ hown hK hF 9 [false] [.int (2 : Int32), .int g0] X0 e0 ?_
  show (own_ln Z h0 ra (2 : Int32)) ∧ (¬ (((2 : Int32)).toInt < ((1 : Int32)).toInt)) ∧ (own_at Z h0 ra .int (0 : Int32) (.int g0)) ∧ own_Aft X0 h0 _ 21 [u0, .val (.ref ra), u2, .val (.double 0), .second, .val (.int (0 : Int32)), .val (.int (1 : Int32)), u7, u8, u9, u10] [.int g0]
  refine ⟨A1.ln (2 : Int32) rfl, by decide, A1.at (0 : Int32) 0 rfl rfl, fun T1 X1 eh1 => ?_⟩
  suffices tl2 : ∀ (f1 : Int32) (s1 : UInt64) (_ : own_run [b1] 2 f1 s1 = own_run [b0, b1] 1 0 0) (_ : own_ok [b1] 2 f1 s1 = true), own_Aft X1 h0 Q 8 [u0, .val (.ref ra), u2, .val (.double s1), .second, .val (.int f1), .val (.int (2 : Int32)), u7, u8, u9, u10] [] by
    by_cases hy : 0 < g0.toInt
    · skip
      have hb := hb0.mp hy
      subst hb
      obtain ⟨o1, o3⟩ := Bool.and_eq_true_iff.mp (show (own_nb (FP.ddiv (FP.i2d ((0 : Int32) + 1)) (FP.i2d (1 : Int32))) && own_nb (FP.dadd 0 (FP.ddiv (FP.i2d ((0 : Int32) + 1)) (FP.i2d (1 : Int32)))) && own_ok [b1] (1 + 1) ((0 : Int32) + 1) (FP.dadd 0 (FP.ddiv (FP.i2d ((0 : Int32) + 1)) (FP.i2d (1 : Int32))))) = true from O0)
      obtain ⟨o1, o2⟩ := Bool.and_eq_true_iff.mp o1
      show own_Go p.tables e below _ (T1.setTop (mkF m 21 (Array.mk [u0, .val (.ref ra), u2, .val (.double 0), .second, .val (.int (0 : Int32)), .val (.int (1 : Int32)), u7, u8, u9, u10]) [.int g0]))
      refine own_blk dec3 seq3 hby hx hZ hown hK hF 12 [false] [] X1 eh1 ?_
      show (¬ ((g0).toInt ≤ 0)) ∧ (Jvm.Free.Fl.NoNaN64 (FP.ddiv (FP.i2d ((0 : Int32) + (1 : Int32))) (FP.i2d (1 : Int32)))) ∧ (Jvm.Free.Fl.NoNaN64 (FP.dadd 0 (FP.ddiv (FP.i2d ((0 : Int32) + (1 : Int32))) (FP.i2d (1 : Int32))))) ∧ own_Aft X1 h0 _ 8 [u0, .val (.ref ra), u2, .val (.double (FP.dadd 0 (FP.ddiv (FP.i2d ((0 : Int32) + (1 : Int32))) (FP.i2d (1 : Int32))))), .second, .val (.int ((0 : Int32) + (1 : Int32))), .val (.int (2 : Int32)), u7, u8, u9, u10] []
      refine ⟨by omega, own_nb_e o1, own_nb_e o2, fun T3 X3 eh3 => ?_⟩
      exact tl2 _ _ H0 o3 T3 X3 eh3
    · skip
      have hb : b0 = false := Bool.eq_false_iff.mpr (fun q => hy (hb0.mpr q))
      subst hb
      refine own_blk dec3 seq3 hby hx hZ hown hK hF 3 [true] [] X1 eh1 ?_
      show ((g0).toInt ≤ 0) ∧ own_Aft X1 h0 _ 8 [u0, .val (.ref ra), u2, .val (.double 0), .second, .val (.int (0 : Int32)), .val (.int (2 : Int32)), u7, u8, u9, u10] []
      refine ⟨by omega, fun T4 X4 eh4 => ?_⟩
      exact tl2 _ _ H0 O0 T4 X4 eh4
  intro f1 s1 H1 O1 T2 X2 eh2
  refine own_blk dec3 seq3 hby hx hZ hown hK hF 9 [false] [.int (2 : Int32), .int g1] X2 eh2 ?_
  show (own_ln Z h0 ra (2 : Int32)) ∧ (¬ (((2 : Int32)).toInt < ((2 : Int32)).toInt)) ∧ (own_at Z h0 ra .int (1 : Int32) (.int g1)) ∧ own_Aft X2 h0 _ 21 [u0, .val (.ref ra), u2, .val (.double s1), .second, .val (.int f1), .val (.int (2 : Int32)), u7, u8, u9, u10] [.int g1]
  refine ⟨A1.ln (2 : Int32) rfl, by decide, A1.at (1 : Int32) 1 rfl rfl, fun T5 X5 eh5 => ?_⟩
  suffices tl6 : ∀ (f2 : Int32) (s2 : UInt64) (_ : own_run [] 3 f2 s2 = own_run [b0, b1] 1 0 0) (_ : own_ok [] 3 f2 s2 = true), own_Aft X5 h0 Q 8 [u0, .val (.ref ra), u2, .val (.double s2), .second, .val (.int f2), .val (.int (3 : Int32)), u7, u8, u9, u10] [] by
    by_cases hy : 0 < g1.toInt
    · skip
      have hb := hb1.mp hy
      subst hb
      obtain ⟨o1, o3⟩ := Bool.and_eq_true_iff.mp (show (own_nb (FP.ddiv (FP.i2d (f1 + 1)) (FP.i2d (2 : Int32))) && own_nb (FP.dadd s1 (FP.ddiv (FP.i2d (f1 + 1)) (FP.i2d (2 : Int32)))) && own_ok [] (2 + 1) (f1 + 1) (FP.dadd s1 (FP.ddiv (FP.i2d (f1 + 1)) (FP.i2d (2 : Int32))))) = true from O1)
      obtain ⟨o1, o2⟩ := Bool.and_eq_true_iff.mp o1
      show own_Go p.tables e below _ (T5.setTop (mkF m 21 (Array.mk [u0, .val (.ref ra), u2, .val (.double s1), .second, .val (.int f1), .val (.int (2 : Int32)), u7, u8, u9, u10]) [.int g1]))
      refine own_blk dec3 seq3 hby hx hZ hown hK hF 12 [false] [] X5 eh5 ?_
      show (¬ ((g1).toInt ≤ 0)) ∧ (Jvm.Free.Fl.NoNaN64 (FP.ddiv (FP.i2d (f1 + (1 : Int32))) (FP.i2d (2 : Int32)))) ∧ (Jvm.Free.Fl.NoNaN64 (FP.dadd s1 (FP.ddiv (FP.i2d (f1 + (1 : Int32))) (FP.i2d (2 : Int32))))) ∧ own_Aft X5 h0 _ 8 [u0, .val (.ref ra), u2, .val (.double (FP.dadd s1 (FP.ddiv (FP.i2d (f1 + (1 : Int32))) (FP.i2d (2 : Int32))))), .second, .val (.int (f1 + (1 : Int32))), .val (.int (3 : Int32)), u7, u8, u9, u10] []
      refine ⟨by omega, own_nb_e o1, own_nb_e o2, fun T7 X7 eh7 => ?_⟩
      exact tl6 _ _ H1 o3 T7 X7 eh7
    · skip
      have hb : b1 = false := Bool.eq_false_iff.mpr (fun q => hy (hb1.mpr q))
      subst hb
      refine own_blk dec3 seq3 hby hx hZ hown hK hF 3 [true] [] X5 eh5 ?_
      show ((g1).toInt ≤ 0) ∧ own_Aft X5 h0 _ 8 [u0, .val (.ref ra), u2, .val (.double s1), .second, .val (.int f1), .val (.int (3 : Int32)), u7, u8, u9, u10] []
      refine ⟨by omega, fun T8 X8 eh8 => ?_⟩
      exact tl6 _ _ H1 O1 T8 X8 eh8
  intro f2 s2 H2 O2 T6 X6 eh6
  refine own_blk dec3 seq3 hby hx hZ hown hK hF 4 [true] [.int (2 : Int32)] X6 eh6 ?_
  show (own_ln Z h0 ra (2 : Int32)) ∧ (((2 : Int32)).toInt < ((3 : Int32)).toInt) ∧ own_Aft X6 h0 _ 43 [u0, .val (.ref ra), u2, .val (.double s2), .second, .val (.int f2), .val (.int (3 : Int32)), u7, u8, u9, u10] []
  refine ⟨A1.ln (2 : Int32) rfl, by decide, fun T9 X9 eh9 => ?_⟩
  exact kk _ _ H2.symm T9 X9 eh9
set_option maxRecDepth 65536 in
set_option maxHeartbeats 40000000 in
theorem ptA_3 {p : Program} {l : Launch} {e : Env} {R : Room} {s : State} {m : MethodId} {args : Array Value} {below : List Frame} {meth : Method} {c : Code} {T0 : State} {locs : List Loc} {cells slots : Nat} {Z : State} {a0 : Array Value} {h0 : Heap} {Q : Outcome → State → Prop} (X0 : Stand p l e R s m args below meth c T0 locs cells slots) (hx : p.tables.exec = Jvm.exec) (hby : c.code = prog_7_method_3_code) (hml : c.maxLocals = 11) (hown : s.vm.findClass "com/example/weigh/weigh/eval/AveragePrecision" = some m.cls) (hZ : Z.Warmed39 s.vm) (hK : own_ks "com/example/weigh/weigh/eval/AveragePrecision" a0 Z kt3) (hF : own_fs "com/example/weigh/weigh/eval/AveragePrecision" a0 Z ft3) (e0 : T0.heap = h0) (u0 u2 u7 u8 u9 u10 : Slot) (ra : Addr) (g0 g1 g2 : Int32) (b0 b1 b2 : Bool) (A1 : own_A Z h0 ra .int [.int g0, .int g1, .int g2]) (hb0 : 0 < g0.toInt ↔ b0 = true) (hb1 : 0 < g1.toInt ↔ b1 = true) (hb2 : 0 < g2.toInt ↔ b2 = true) (O0 : own_ok [b0, b1, b2] 1 0 0 = true)
    (kk : ∀ (f : Int32) (s : UInt64) (_ : own_run [b0, b1, b2] 1 0 0 = (f, s)), own_Aft X0 h0 Q 43 [u0, .val (.ref ra), u2, .val (.double s), .second, .val (.int f), .val (.int (4 : Int32)), u7, u8, u9, u10] []) : own_Go p.tables e below Q (T0.setTop (mkF m 8 (Array.mk [u0, .val (.ref ra), u2, .val (.double 0), .second, .val (.int (0 : Int32)), .val (.int (1 : Int32)), u7, u8, u9, u10]) [])) := by
  have H0 : own_run [b0, b1, b2] 1 0 0 = own_run [b0, b1, b2] 1 0 0 := rfl
  refine own_blk dec3 seq3 hby hx hZ hown hK hF 9 [false] [.int (3 : Int32), .int g0] X0 e0 ?_
  show (own_ln Z h0 ra (3 : Int32)) ∧ (¬ (((3 : Int32)).toInt < ((1 : Int32)).toInt)) ∧ (own_at Z h0 ra .int (0 : Int32) (.int g0)) ∧ own_Aft X0 h0 _ 21 [u0, .val (.ref ra), u2, .val (.double 0), .second, .val (.int (0 : Int32)), .val (.int (1 : Int32)), u7, u8, u9, u10] [.int g0]
  refine ⟨A1.ln (3 : Int32) rfl, by decide, A1.at (0 : Int32) 0 rfl rfl, fun T1 X1 eh1 => ?_⟩
  suffices tl2 : ∀ (f1 : Int32) (s1 : UInt64) (_ : own_run [b1, b2] 2 f1 s1 = own_run [b0, b1, b2] 1 0 0) (_ : own_ok [b1, b2] 2 f1 s1 = true), own_Aft X1 h0 Q 8 [u0, .val (.ref ra), u2, .val (.double s1), .second, .val (.int f1), .val (.int (2 : Int32)), u7, u8, u9, u10] [] by
    by_cases hy : 0 < g0.toInt
    · skip
      have hb := hb0.mp hy
      subst hb
      obtain ⟨o1, o3⟩ := Bool.and_eq_true_iff.mp (show (own_nb (FP.ddiv (FP.i2d ((0 : Int32) + 1)) (FP.i2d (1 : Int32))) && own_nb (FP.dadd 0 (FP.ddiv (FP.i2d ((0 : Int32) + 1)) (FP.i2d (1 : Int32)))) && own_ok [b1, b2] (1 + 1) ((0 : Int32) + 1) (FP.dadd 0 (FP.ddiv (FP.i2d ((0 : Int32) + 1)) (FP.i2d (1 : Int32))))) = true from O0)
      obtain ⟨o1, o2⟩ := Bool.and_eq_true_iff.mp o1
      show own_Go p.tables e below _ (T1.setTop (mkF m 21 (Array.mk [u0, .val (.ref ra), u2, .val (.double 0), .second, .val (.int (0 : Int32)), .val (.int (1 : Int32)), u7, u8, u9, u10]) [.int g0]))
      refine own_blk dec3 seq3 hby hx hZ hown hK hF 12 [false] [] X1 eh1 ?_
      show (¬ ((g0).toInt ≤ 0)) ∧ (Jvm.Free.Fl.NoNaN64 (FP.ddiv (FP.i2d ((0 : Int32) + (1 : Int32))) (FP.i2d (1 : Int32)))) ∧ (Jvm.Free.Fl.NoNaN64 (FP.dadd 0 (FP.ddiv (FP.i2d ((0 : Int32) + (1 : Int32))) (FP.i2d (1 : Int32))))) ∧ own_Aft X1 h0 _ 8 [u0, .val (.ref ra), u2, .val (.double (FP.dadd 0 (FP.ddiv (FP.i2d ((0 : Int32) + (1 : Int32))) (FP.i2d (1 : Int32))))), .second, .val (.int ((0 : Int32) + (1 : Int32))), .val (.int (2 : Int32)), u7, u8, u9, u10] []
      refine ⟨by omega, own_nb_e o1, own_nb_e o2, fun T3 X3 eh3 => ?_⟩
      exact tl2 _ _ H0 o3 T3 X3 eh3
    · skip
      have hb : b0 = false := Bool.eq_false_iff.mpr (fun q => hy (hb0.mpr q))
      subst hb
      refine own_blk dec3 seq3 hby hx hZ hown hK hF 3 [true] [] X1 eh1 ?_
      show ((g0).toInt ≤ 0) ∧ own_Aft X1 h0 _ 8 [u0, .val (.ref ra), u2, .val (.double 0), .second, .val (.int (0 : Int32)), .val (.int (2 : Int32)), u7, u8, u9, u10] []
      refine ⟨by omega, fun T4 X4 eh4 => ?_⟩
      exact tl2 _ _ H0 O0 T4 X4 eh4
  intro f1 s1 H1 O1 T2 X2 eh2
  refine own_blk dec3 seq3 hby hx hZ hown hK hF 9 [false] [.int (3 : Int32), .int g1] X2 eh2 ?_
  show (own_ln Z h0 ra (3 : Int32)) ∧ (¬ (((3 : Int32)).toInt < ((2 : Int32)).toInt)) ∧ (own_at Z h0 ra .int (1 : Int32) (.int g1)) ∧ own_Aft X2 h0 _ 21 [u0, .val (.ref ra), u2, .val (.double s1), .second, .val (.int f1), .val (.int (2 : Int32)), u7, u8, u9, u10] [.int g1]
  refine ⟨A1.ln (3 : Int32) rfl, by decide, A1.at (1 : Int32) 1 rfl rfl, fun T5 X5 eh5 => ?_⟩
  suffices tl6 : ∀ (f2 : Int32) (s2 : UInt64) (_ : own_run [b2] 3 f2 s2 = own_run [b0, b1, b2] 1 0 0) (_ : own_ok [b2] 3 f2 s2 = true), own_Aft X5 h0 Q 8 [u0, .val (.ref ra), u2, .val (.double s2), .second, .val (.int f2), .val (.int (3 : Int32)), u7, u8, u9, u10] [] by
    by_cases hy : 0 < g1.toInt
    · skip
      have hb := hb1.mp hy
      subst hb
      obtain ⟨o1, o3⟩ := Bool.and_eq_true_iff.mp (show (own_nb (FP.ddiv (FP.i2d (f1 + 1)) (FP.i2d (2 : Int32))) && own_nb (FP.dadd s1 (FP.ddiv (FP.i2d (f1 + 1)) (FP.i2d (2 : Int32)))) && own_ok [b2] (2 + 1) (f1 + 1) (FP.dadd s1 (FP.ddiv (FP.i2d (f1 + 1)) (FP.i2d (2 : Int32))))) = true from O1)
      obtain ⟨o1, o2⟩ := Bool.and_eq_true_iff.mp o1
      show own_Go p.tables e below _ (T5.setTop (mkF m 21 (Array.mk [u0, .val (.ref ra), u2, .val (.double s1), .second, .val (.int f1), .val (.int (2 : Int32)), u7, u8, u9, u10]) [.int g1]))
      refine own_blk dec3 seq3 hby hx hZ hown hK hF 12 [false] [] X5 eh5 ?_
      show (¬ ((g1).toInt ≤ 0)) ∧ (Jvm.Free.Fl.NoNaN64 (FP.ddiv (FP.i2d (f1 + (1 : Int32))) (FP.i2d (2 : Int32)))) ∧ (Jvm.Free.Fl.NoNaN64 (FP.dadd s1 (FP.ddiv (FP.i2d (f1 + (1 : Int32))) (FP.i2d (2 : Int32))))) ∧ own_Aft X5 h0 _ 8 [u0, .val (.ref ra), u2, .val (.double (FP.dadd s1 (FP.ddiv (FP.i2d (f1 + (1 : Int32))) (FP.i2d (2 : Int32))))), .second, .val (.int (f1 + (1 : Int32))), .val (.int (3 : Int32)), u7, u8, u9, u10] []
      refine ⟨by omega, own_nb_e o1, own_nb_e o2, fun T7 X7 eh7 => ?_⟩
      exact tl6 _ _ H1 o3 T7 X7 eh7
    · skip
      have hb : b1 = false := Bool.eq_false_iff.mpr (fun q => hy (hb1.mpr q))
      subst hb
      refine own_blk dec3 seq3 hby hx hZ hown hK hF 3 [true] [] X5 eh5 ?_
      show ((g1).toInt ≤ 0) ∧ own_Aft X5 h0 _ 8 [u0, .val (.ref ra), u2, .val (.double s1), .second, .val (.int f1), .val (.int (3 : Int32)), u7, u8, u9, u10] []
      refine ⟨by omega, fun T8 X8 eh8 => ?_⟩
      exact tl6 _ _ H1 O1 T8 X8 eh8
  intro f2 s2 H2 O2 T6 X6 eh6
  refine own_blk dec3 seq3 hby hx hZ hown hK hF 9 [false] [.int (3 : Int32), .int g2] X6 eh6 ?_
  show (own_ln Z h0 ra (3 : Int32)) ∧ (¬ (((3 : Int32)).toInt < ((3 : Int32)).toInt)) ∧ (own_at Z h0 ra .int (2 : Int32) (.int g2)) ∧ own_Aft X6 h0 _ 21 [u0, .val (.ref ra), u2, .val (.double s2), .second, .val (.int f2), .val (.int (3 : Int32)), u7, u8, u9, u10] [.int g2]
  refine ⟨A1.ln (3 : Int32) rfl, by decide, A1.at (2 : Int32) 2 rfl rfl, fun T9 X9 eh9 => ?_⟩
  suffices tl10 : ∀ (f3 : Int32) (s3 : UInt64) (_ : own_run [] 4 f3 s3 = own_run [b0, b1, b2] 1 0 0) (_ : own_ok [] 4 f3 s3 = true), own_Aft X9 h0 Q 8 [u0, .val (.ref ra), u2, .val (.double s3), .second, .val (.int f3), .val (.int (4 : Int32)), u7, u8, u9, u10] [] by
    by_cases hy : 0 < g2.toInt
    · skip
      have hb := hb2.mp hy
      subst hb
      obtain ⟨o1, o3⟩ := Bool.and_eq_true_iff.mp (show (own_nb (FP.ddiv (FP.i2d (f2 + 1)) (FP.i2d (3 : Int32))) && own_nb (FP.dadd s2 (FP.ddiv (FP.i2d (f2 + 1)) (FP.i2d (3 : Int32)))) && own_ok [] (3 + 1) (f2 + 1) (FP.dadd s2 (FP.ddiv (FP.i2d (f2 + 1)) (FP.i2d (3 : Int32))))) = true from O2)
      obtain ⟨o1, o2⟩ := Bool.and_eq_true_iff.mp o1
      show own_Go p.tables e below _ (T9.setTop (mkF m 21 (Array.mk [u0, .val (.ref ra), u2, .val (.double s2), .second, .val (.int f2), .val (.int (3 : Int32)), u7, u8, u9, u10]) [.int g2]))
      refine own_blk dec3 seq3 hby hx hZ hown hK hF 12 [false] [] X9 eh9 ?_
      show (¬ ((g2).toInt ≤ 0)) ∧ (Jvm.Free.Fl.NoNaN64 (FP.ddiv (FP.i2d (f2 + (1 : Int32))) (FP.i2d (3 : Int32)))) ∧ (Jvm.Free.Fl.NoNaN64 (FP.dadd s2 (FP.ddiv (FP.i2d (f2 + (1 : Int32))) (FP.i2d (3 : Int32))))) ∧ own_Aft X9 h0 _ 8 [u0, .val (.ref ra), u2, .val (.double (FP.dadd s2 (FP.ddiv (FP.i2d (f2 + (1 : Int32))) (FP.i2d (3 : Int32))))), .second, .val (.int (f2 + (1 : Int32))), .val (.int (4 : Int32)), u7, u8, u9, u10] []
      refine ⟨by omega, own_nb_e o1, own_nb_e o2, fun T11 X11 eh11 => ?_⟩
      exact tl10 _ _ H2 o3 T11 X11 eh11
    · skip
      have hb : b2 = false := Bool.eq_false_iff.mpr (fun q => hy (hb2.mpr q))
      subst hb
      refine own_blk dec3 seq3 hby hx hZ hown hK hF 3 [true] [] X9 eh9 ?_
      show ((g2).toInt ≤ 0) ∧ own_Aft X9 h0 _ 8 [u0, .val (.ref ra), u2, .val (.double s2), .second, .val (.int f2), .val (.int (4 : Int32)), u7, u8, u9, u10] []
      refine ⟨by omega, fun T12 X12 eh12 => ?_⟩
      exact tl10 _ _ H2 O2 T12 X12 eh12
  intro f3 s3 H3 O3 T10 X10 eh10
  refine own_blk dec3 seq3 hby hx hZ hown hK hF 4 [true] [.int (3 : Int32)] X10 eh10 ?_
  show (own_ln Z h0 ra (3 : Int32)) ∧ (((3 : Int32)).toInt < ((4 : Int32)).toInt) ∧ own_Aft X10 h0 _ 43 [u0, .val (.ref ra), u2, .val (.double s3), .second, .val (.int f3), .val (.int (4 : Int32)), u7, u8, u9, u10] []
  refine ⟨A1.ln (3 : Int32) rfl, by decide, fun T13 X13 eh13 => ?_⟩
  exact kk _ _ H3.symm T13 X13 eh13
set_option maxRecDepth 65536 in
set_option maxHeartbeats 40000000 in
theorem ptA_4 {p : Program} {l : Launch} {e : Env} {R : Room} {s : State} {m : MethodId} {args : Array Value} {below : List Frame} {meth : Method} {c : Code} {T0 : State} {locs : List Loc} {cells slots : Nat} {Z : State} {a0 : Array Value} {h0 : Heap} {Q : Outcome → State → Prop} (X0 : Stand p l e R s m args below meth c T0 locs cells slots) (hx : p.tables.exec = Jvm.exec) (hby : c.code = prog_7_method_3_code) (hml : c.maxLocals = 11) (hown : s.vm.findClass "com/example/weigh/weigh/eval/AveragePrecision" = some m.cls) (hZ : Z.Warmed39 s.vm) (hK : own_ks "com/example/weigh/weigh/eval/AveragePrecision" a0 Z kt3) (hF : own_fs "com/example/weigh/weigh/eval/AveragePrecision" a0 Z ft3) (e0 : T0.heap = h0) (u0 u2 u7 u8 u9 u10 : Slot) (ra : Addr) (g0 g1 g2 g3 : Int32) (b0 b1 b2 b3 : Bool) (A1 : own_A Z h0 ra .int [.int g0, .int g1, .int g2, .int g3]) (hb0 : 0 < g0.toInt ↔ b0 = true) (hb1 : 0 < g1.toInt ↔ b1 = true) (hb2 : 0 < g2.toInt ↔ b2 = true) (hb3 : 0 < g3.toInt ↔ b3 = true) (O0 : own_ok [b0, b1, b2, b3] 1 0 0 = true)
    (kk : ∀ (f : Int32) (s : UInt64) (_ : own_run [b0, b1, b2, b3] 1 0 0 = (f, s)), own_Aft X0 h0 Q 43 [u0, .val (.ref ra), u2, .val (.double s), .second, .val (.int f), .val (.int (5 : Int32)), u7, u8, u9, u10] []) : own_Go p.tables e below Q (T0.setTop (mkF m 8 (Array.mk [u0, .val (.ref ra), u2, .val (.double 0), .second, .val (.int (0 : Int32)), .val (.int (1 : Int32)), u7, u8, u9, u10]) [])) := by
  have H0 : own_run [b0, b1, b2, b3] 1 0 0 = own_run [b0, b1, b2, b3] 1 0 0 := rfl
  refine own_blk dec3 seq3 hby hx hZ hown hK hF 9 [false] [.int (4 : Int32), .int g0] X0 e0 ?_
  show (own_ln Z h0 ra (4 : Int32)) ∧ (¬ (((4 : Int32)).toInt < ((1 : Int32)).toInt)) ∧ (own_at Z h0 ra .int (0 : Int32) (.int g0)) ∧ own_Aft X0 h0 _ 21 [u0, .val (.ref ra), u2, .val (.double 0), .second, .val (.int (0 : Int32)), .val (.int (1 : Int32)), u7, u8, u9, u10] [.int g0]
  refine ⟨A1.ln (4 : Int32) rfl, by decide, A1.at (0 : Int32) 0 rfl rfl, fun T1 X1 eh1 => ?_⟩
  suffices tl2 : ∀ (f1 : Int32) (s1 : UInt64) (_ : own_run [b1, b2, b3] 2 f1 s1 = own_run [b0, b1, b2, b3] 1 0 0) (_ : own_ok [b1, b2, b3] 2 f1 s1 = true), own_Aft X1 h0 Q 8 [u0, .val (.ref ra), u2, .val (.double s1), .second, .val (.int f1), .val (.int (2 : Int32)), u7, u8, u9, u10] [] by
    by_cases hy : 0 < g0.toInt
    · skip
      have hb := hb0.mp hy
      subst hb
      obtain ⟨o1, o3⟩ := Bool.and_eq_true_iff.mp (show (own_nb (FP.ddiv (FP.i2d ((0 : Int32) + 1)) (FP.i2d (1 : Int32))) && own_nb (FP.dadd 0 (FP.ddiv (FP.i2d ((0 : Int32) + 1)) (FP.i2d (1 : Int32)))) && own_ok [b1, b2, b3] (1 + 1) ((0 : Int32) + 1) (FP.dadd 0 (FP.ddiv (FP.i2d ((0 : Int32) + 1)) (FP.i2d (1 : Int32))))) = true from O0)
      obtain ⟨o1, o2⟩ := Bool.and_eq_true_iff.mp o1
      show own_Go p.tables e below _ (T1.setTop (mkF m 21 (Array.mk [u0, .val (.ref ra), u2, .val (.double 0), .second, .val (.int (0 : Int32)), .val (.int (1 : Int32)), u7, u8, u9, u10]) [.int g0]))
      refine own_blk dec3 seq3 hby hx hZ hown hK hF 12 [false] [] X1 eh1 ?_
      show (¬ ((g0).toInt ≤ 0)) ∧ (Jvm.Free.Fl.NoNaN64 (FP.ddiv (FP.i2d ((0 : Int32) + (1 : Int32))) (FP.i2d (1 : Int32)))) ∧ (Jvm.Free.Fl.NoNaN64 (FP.dadd 0 (FP.ddiv (FP.i2d ((0 : Int32) + (1 : Int32))) (FP.i2d (1 : Int32))))) ∧ own_Aft X1 h0 _ 8 [u0, .val (.ref ra), u2, .val (.double (FP.dadd 0 (FP.ddiv (FP.i2d ((0 : Int32) + (1 : Int32))) (FP.i2d (1 : Int32))))), .second, .val (.int ((0 : Int32) + (1 : Int32))), .val (.int (2 : Int32)), u7, u8, u9, u10] []
      refine ⟨by omega, own_nb_e o1, own_nb_e o2, fun T3 X3 eh3 => ?_⟩
      exact tl2 _ _ H0 o3 T3 X3 eh3
    · skip
      have hb : b0 = false := Bool.eq_false_iff.mpr (fun q => hy (hb0.mpr q))
      subst hb
      refine own_blk dec3 seq3 hby hx hZ hown hK hF 3 [true] [] X1 eh1 ?_
      show ((g0).toInt ≤ 0) ∧ own_Aft X1 h0 _ 8 [u0, .val (.ref ra), u2, .val (.double 0), .second, .val (.int (0 : Int32)), .val (.int (2 : Int32)), u7, u8, u9, u10] []
      refine ⟨by omega, fun T4 X4 eh4 => ?_⟩
      exact tl2 _ _ H0 O0 T4 X4 eh4
  intro f1 s1 H1 O1 T2 X2 eh2
  refine own_blk dec3 seq3 hby hx hZ hown hK hF 9 [false] [.int (4 : Int32), .int g1] X2 eh2 ?_
  show (own_ln Z h0 ra (4 : Int32)) ∧ (¬ (((4 : Int32)).toInt < ((2 : Int32)).toInt)) ∧ (own_at Z h0 ra .int (1 : Int32) (.int g1)) ∧ own_Aft X2 h0 _ 21 [u0, .val (.ref ra), u2, .val (.double s1), .second, .val (.int f1), .val (.int (2 : Int32)), u7, u8, u9, u10] [.int g1]
  refine ⟨A1.ln (4 : Int32) rfl, by decide, A1.at (1 : Int32) 1 rfl rfl, fun T5 X5 eh5 => ?_⟩
  suffices tl6 : ∀ (f2 : Int32) (s2 : UInt64) (_ : own_run [b2, b3] 3 f2 s2 = own_run [b0, b1, b2, b3] 1 0 0) (_ : own_ok [b2, b3] 3 f2 s2 = true), own_Aft X5 h0 Q 8 [u0, .val (.ref ra), u2, .val (.double s2), .second, .val (.int f2), .val (.int (3 : Int32)), u7, u8, u9, u10] [] by
    by_cases hy : 0 < g1.toInt
    · skip
      have hb := hb1.mp hy
      subst hb
      obtain ⟨o1, o3⟩ := Bool.and_eq_true_iff.mp (show (own_nb (FP.ddiv (FP.i2d (f1 + 1)) (FP.i2d (2 : Int32))) && own_nb (FP.dadd s1 (FP.ddiv (FP.i2d (f1 + 1)) (FP.i2d (2 : Int32)))) && own_ok [b2, b3] (2 + 1) (f1 + 1) (FP.dadd s1 (FP.ddiv (FP.i2d (f1 + 1)) (FP.i2d (2 : Int32))))) = true from O1)
      obtain ⟨o1, o2⟩ := Bool.and_eq_true_iff.mp o1
      show own_Go p.tables e below _ (T5.setTop (mkF m 21 (Array.mk [u0, .val (.ref ra), u2, .val (.double s1), .second, .val (.int f1), .val (.int (2 : Int32)), u7, u8, u9, u10]) [.int g1]))
      refine own_blk dec3 seq3 hby hx hZ hown hK hF 12 [false] [] X5 eh5 ?_
      show (¬ ((g1).toInt ≤ 0)) ∧ (Jvm.Free.Fl.NoNaN64 (FP.ddiv (FP.i2d (f1 + (1 : Int32))) (FP.i2d (2 : Int32)))) ∧ (Jvm.Free.Fl.NoNaN64 (FP.dadd s1 (FP.ddiv (FP.i2d (f1 + (1 : Int32))) (FP.i2d (2 : Int32))))) ∧ own_Aft X5 h0 _ 8 [u0, .val (.ref ra), u2, .val (.double (FP.dadd s1 (FP.ddiv (FP.i2d (f1 + (1 : Int32))) (FP.i2d (2 : Int32))))), .second, .val (.int (f1 + (1 : Int32))), .val (.int (3 : Int32)), u7, u8, u9, u10] []
      refine ⟨by omega, own_nb_e o1, own_nb_e o2, fun T7 X7 eh7 => ?_⟩
      exact tl6 _ _ H1 o3 T7 X7 eh7
    · skip
      have hb : b1 = false := Bool.eq_false_iff.mpr (fun q => hy (hb1.mpr q))
      subst hb
      refine own_blk dec3 seq3 hby hx hZ hown hK hF 3 [true] [] X5 eh5 ?_
      show ((g1).toInt ≤ 0) ∧ own_Aft X5 h0 _ 8 [u0, .val (.ref ra), u2, .val (.double s1), .second, .val (.int f1), .val (.int (3 : Int32)), u7, u8, u9, u10] []
      refine ⟨by omega, fun T8 X8 eh8 => ?_⟩
      exact tl6 _ _ H1 O1 T8 X8 eh8
  intro f2 s2 H2 O2 T6 X6 eh6
  refine own_blk dec3 seq3 hby hx hZ hown hK hF 9 [false] [.int (4 : Int32), .int g2] X6 eh6 ?_
  show (own_ln Z h0 ra (4 : Int32)) ∧ (¬ (((4 : Int32)).toInt < ((3 : Int32)).toInt)) ∧ (own_at Z h0 ra .int (2 : Int32) (.int g2)) ∧ own_Aft X6 h0 _ 21 [u0, .val (.ref ra), u2, .val (.double s2), .second, .val (.int f2), .val (.int (3 : Int32)), u7, u8, u9, u10] [.int g2]
  refine ⟨A1.ln (4 : Int32) rfl, by decide, A1.at (2 : Int32) 2 rfl rfl, fun T9 X9 eh9 => ?_⟩
  suffices tl10 : ∀ (f3 : Int32) (s3 : UInt64) (_ : own_run [b3] 4 f3 s3 = own_run [b0, b1, b2, b3] 1 0 0) (_ : own_ok [b3] 4 f3 s3 = true), own_Aft X9 h0 Q 8 [u0, .val (.ref ra), u2, .val (.double s3), .second, .val (.int f3), .val (.int (4 : Int32)), u7, u8, u9, u10] [] by
    by_cases hy : 0 < g2.toInt
    · skip
      have hb := hb2.mp hy
      subst hb
      obtain ⟨o1, o3⟩ := Bool.and_eq_true_iff.mp (show (own_nb (FP.ddiv (FP.i2d (f2 + 1)) (FP.i2d (3 : Int32))) && own_nb (FP.dadd s2 (FP.ddiv (FP.i2d (f2 + 1)) (FP.i2d (3 : Int32)))) && own_ok [b3] (3 + 1) (f2 + 1) (FP.dadd s2 (FP.ddiv (FP.i2d (f2 + 1)) (FP.i2d (3 : Int32))))) = true from O2)
      obtain ⟨o1, o2⟩ := Bool.and_eq_true_iff.mp o1
      show own_Go p.tables e below _ (T9.setTop (mkF m 21 (Array.mk [u0, .val (.ref ra), u2, .val (.double s2), .second, .val (.int f2), .val (.int (3 : Int32)), u7, u8, u9, u10]) [.int g2]))
      refine own_blk dec3 seq3 hby hx hZ hown hK hF 12 [false] [] X9 eh9 ?_
      show (¬ ((g2).toInt ≤ 0)) ∧ (Jvm.Free.Fl.NoNaN64 (FP.ddiv (FP.i2d (f2 + (1 : Int32))) (FP.i2d (3 : Int32)))) ∧ (Jvm.Free.Fl.NoNaN64 (FP.dadd s2 (FP.ddiv (FP.i2d (f2 + (1 : Int32))) (FP.i2d (3 : Int32))))) ∧ own_Aft X9 h0 _ 8 [u0, .val (.ref ra), u2, .val (.double (FP.dadd s2 (FP.ddiv (FP.i2d (f2 + (1 : Int32))) (FP.i2d (3 : Int32))))), .second, .val (.int (f2 + (1 : Int32))), .val (.int (4 : Int32)), u7, u8, u9, u10] []
      refine ⟨by omega, own_nb_e o1, own_nb_e o2, fun T11 X11 eh11 => ?_⟩
      exact tl10 _ _ H2 o3 T11 X11 eh11
    · skip
      have hb : b2 = false := Bool.eq_false_iff.mpr (fun q => hy (hb2.mpr q))
      subst hb
      refine own_blk dec3 seq3 hby hx hZ hown hK hF 3 [true] [] X9 eh9 ?_
      show ((g2).toInt ≤ 0) ∧ own_Aft X9 h0 _ 8 [u0, .val (.ref ra), u2, .val (.double s2), .second, .val (.int f2), .val (.int (4 : Int32)), u7, u8, u9, u10] []
      refine ⟨by omega, fun T12 X12 eh12 => ?_⟩
      exact tl10 _ _ H2 O2 T12 X12 eh12
  intro f3 s3 H3 O3 T10 X10 eh10
  refine own_blk dec3 seq3 hby hx hZ hown hK hF 9 [false] [.int (4 : Int32), .int g3] X10 eh10 ?_
  show (own_ln Z h0 ra (4 : Int32)) ∧ (¬ (((4 : Int32)).toInt < ((4 : Int32)).toInt)) ∧ (own_at Z h0 ra .int (3 : Int32) (.int g3)) ∧ own_Aft X10 h0 _ 21 [u0, .val (.ref ra), u2, .val (.double s3), .second, .val (.int f3), .val (.int (4 : Int32)), u7, u8, u9, u10] [.int g3]
  refine ⟨A1.ln (4 : Int32) rfl, by decide, A1.at (3 : Int32) 3 rfl rfl, fun T13 X13 eh13 => ?_⟩
  suffices tl14 : ∀ (f4 : Int32) (s4 : UInt64) (_ : own_run [] 5 f4 s4 = own_run [b0, b1, b2, b3] 1 0 0) (_ : own_ok [] 5 f4 s4 = true), own_Aft X13 h0 Q 8 [u0, .val (.ref ra), u2, .val (.double s4), .second, .val (.int f4), .val (.int (5 : Int32)), u7, u8, u9, u10] [] by
    by_cases hy : 0 < g3.toInt
    · skip
      have hb := hb3.mp hy
      subst hb
      obtain ⟨o1, o3⟩ := Bool.and_eq_true_iff.mp (show (own_nb (FP.ddiv (FP.i2d (f3 + 1)) (FP.i2d (4 : Int32))) && own_nb (FP.dadd s3 (FP.ddiv (FP.i2d (f3 + 1)) (FP.i2d (4 : Int32)))) && own_ok [] (4 + 1) (f3 + 1) (FP.dadd s3 (FP.ddiv (FP.i2d (f3 + 1)) (FP.i2d (4 : Int32))))) = true from O3)
      obtain ⟨o1, o2⟩ := Bool.and_eq_true_iff.mp o1
      show own_Go p.tables e below _ (T13.setTop (mkF m 21 (Array.mk [u0, .val (.ref ra), u2, .val (.double s3), .second, .val (.int f3), .val (.int (4 : Int32)), u7, u8, u9, u10]) [.int g3]))
      refine own_blk dec3 seq3 hby hx hZ hown hK hF 12 [false] [] X13 eh13 ?_
      show (¬ ((g3).toInt ≤ 0)) ∧ (Jvm.Free.Fl.NoNaN64 (FP.ddiv (FP.i2d (f3 + (1 : Int32))) (FP.i2d (4 : Int32)))) ∧ (Jvm.Free.Fl.NoNaN64 (FP.dadd s3 (FP.ddiv (FP.i2d (f3 + (1 : Int32))) (FP.i2d (4 : Int32))))) ∧ own_Aft X13 h0 _ 8 [u0, .val (.ref ra), u2, .val (.double (FP.dadd s3 (FP.ddiv (FP.i2d (f3 + (1 : Int32))) (FP.i2d (4 : Int32))))), .second, .val (.int (f3 + (1 : Int32))), .val (.int (5 : Int32)), u7, u8, u9, u10] []
      refine ⟨by omega, own_nb_e o1, own_nb_e o2, fun T15 X15 eh15 => ?_⟩
      exact tl14 _ _ H3 o3 T15 X15 eh15
    · skip
      have hb : b3 = false := Bool.eq_false_iff.mpr (fun q => hy (hb3.mpr q))
      subst hb
      refine own_blk dec3 seq3 hby hx hZ hown hK hF 3 [true] [] X13 eh13 ?_
      show ((g3).toInt ≤ 0) ∧ own_Aft X13 h0 _ 8 [u0, .val (.ref ra), u2, .val (.double s3), .second, .val (.int f3), .val (.int (5 : Int32)), u7, u8, u9, u10] []
      refine ⟨by omega, fun T16 X16 eh16 => ?_⟩
      exact tl14 _ _ H3 O3 T16 X16 eh16
  intro f4 s4 H4 O4 T14 X14 eh14
  refine own_blk dec3 seq3 hby hx hZ hown hK hF 4 [true] [.int (4 : Int32)] X14 eh14 ?_
  show (own_ln Z h0 ra (4 : Int32)) ∧ (((4 : Int32)).toInt < ((5 : Int32)).toInt) ∧ own_Aft X14 h0 _ 43 [u0, .val (.ref ra), u2, .val (.double s4), .second, .val (.int f4), .val (.int (5 : Int32)), u7, u8, u9, u10] []
  refine ⟨A1.ln (4 : Int32) rfl, by decide, fun T17 X17 eh17 => ?_⟩
  exact kk _ _ H4.symm T17 X17 eh17
set_option maxRecDepth 65536 in
set_option maxHeartbeats 40000000 in
theorem ptB_0 {p : Program} {l : Launch} {e : Env} {R : Room} {s : State} {m : MethodId} {args : Array Value} {below : List Frame} {meth : Method} {c : Code} {T0 : State} {locs : List Loc} {cells slots : Nat} {Z : State} {a0 : Array Value} {h0 : Heap} {Q : Outcome → State → Prop} (X0 : Stand p l e R s m args below meth c T0 locs cells slots) (hx : p.tables.exec = Jvm.exec) (hby : c.code = prog_7_method_3_code) (hml : c.maxLocals = 11) (hown : s.vm.findClass "com/example/weigh/weigh/eval/AveragePrecision" = some m.cls) (hZ : Z.Warmed39 s.vm) (hK : own_ks "com/example/weigh/weigh/eval/AveragePrecision" a0 Z kt3) (hF : own_fs "com/example/weigh/weigh/eval/AveragePrecision" a0 Z ft3) (e0 : T0.heap = h0) (u0 u1 u2 u3 u4 u5 : Slot) (ja : Addr) (A2 : own_A Z h0 ja .int [])
    (kk : ∀ (r : Int32) (u10 : Slot) (_ : own_cnt [] 0 = r), own_Aft X0 h0 Q 85 [u0, u1, u2, u3, u4, u5, .val (.int r), .val (.ref ja), .val (.int (0 : Int32)), .val (.int (0 : Int32)), u10] []) : own_Go p.tables e below Q (T0.setTop (mkF m 57 (Array.mk [u0, u1, u2, u3, u4, u5, .val (.int (0 : Int32)), .val (.ref ja), .val (.int (0 : Int32)), .val (.int (0 : Int32)), .unset]) [])) := by
  have C0 : own_cnt [] 0 = own_cnt [] 0 := rfl
  refine own_blk dec3 seq3 hby hx hZ hown hK hF 3 [true] [] X0 e0 ?_
  show (((0 : Int32)).toInt ≤ ((0 : Int32)).toInt) ∧ own_Aft X0 h0 _ 85 [u0, u1, u2, u3, u4, u5, .val (.int (0 : Int32)), .val (.ref ja), .val (.int (0 : Int32)), .val (.int (0 : Int32)), .unset] []
  refine ⟨by decide, fun T1 X1 eh1 => ?_⟩
  exact kk _ _ C0.symm T1 X1 eh1
set_option maxRecDepth 65536 in
set_option maxHeartbeats 40000000 in
theorem ptB_1 {p : Program} {l : Launch} {e : Env} {R : Room} {s : State} {m : MethodId} {args : Array Value} {below : List Frame} {meth : Method} {c : Code} {T0 : State} {locs : List Loc} {cells slots : Nat} {Z : State} {a0 : Array Value} {h0 : Heap} {Q : Outcome → State → Prop} (X0 : Stand p l e R s m args below meth c T0 locs cells slots) (hx : p.tables.exec = Jvm.exec) (hby : c.code = prog_7_method_3_code) (hml : c.maxLocals = 11) (hown : s.vm.findClass "com/example/weigh/weigh/eval/AveragePrecision" = some m.cls) (hZ : Z.Warmed39 s.vm) (hK : own_ks "com/example/weigh/weigh/eval/AveragePrecision" a0 Z kt3) (hF : own_fs "com/example/weigh/weigh/eval/AveragePrecision" a0 Z ft3) (e0 : T0.heap = h0) (u0 u1 u2 u3 u4 u5 : Slot) (ja : Addr) (j0 : Int32) (c0 : Bool) (A2 : own_A Z h0 ja .int [.int j0]) (hc0 : 0 < j0.toInt ↔ c0 = true)
    (kk : ∀ (r : Int32) (u10 : Slot) (_ : own_cnt [c0] 0 = r), own_Aft X0 h0 Q 85 [u0, u1, u2, u3, u4, u5, .val (.int r), .val (.ref ja), .val (.int (1 : Int32)), .val (.int (1 : Int32)), u10] []) : own_Go p.tables e below Q (T0.setTop (mkF m 57 (Array.mk [u0, u1, u2, u3, u4, u5, .val (.int (0 : Int32)), .val (.ref ja), .val (.int (1 : Int32)), .val (.int (0 : Int32)), .unset]) [])) := by
  have C0 : own_cnt [c0] 0 = own_cnt [c0] 0 := rfl
  refine own_blk dec3 seq3 hby hx hZ hown hK hF 8 [false] [.int j0] X0 e0 ?_
  show (¬ (((1 : Int32)).toInt ≤ ((0 : Int32)).toInt)) ∧ (own_at Z h0 ja .int (0 : Int32) (.int j0)) ∧ own_Aft X0 h0 _ 73 [u0, u1, u2, u3, u4, u5, .val (.int (0 : Int32)), .val (.ref ja), .val (.int (1 : Int32)), .val (.int (0 : Int32)), .val (.int j0)] [.int j0]
  refine ⟨by decide, A2.at (0 : Int32) 0 rfl rfl, fun T1 X1 eh1 => ?_⟩
  suffices tl2 : ∀ (r1 : Int32) (_ : own_cnt [] r1 = own_cnt [c0] 0), own_Aft X1 h0 Q 57 [u0, u1, u2, u3, u4, u5, .val (.int r1), .val (.ref ja), .val (.int (1 : Int32)), .val (.int (1 : Int32)), .val (.int j0)] [] by
    by_cases hy : 0 < j0.toInt
    · skip
      have hb := hc0.mp hy
      subst hb
      show own_Go p.tables e below _ (T1.setTop (mkF m 73 (Array.mk [u0, u1, u2, u3, u4, u5, .val (.int (0 : Int32)), .val (.ref ja), .val (.int (1 : Int32)), .val (.int (0 : Int32)), .val (.int j0)]) [.int j0]))
      refine own_blk dec3 seq3 hby hx hZ hown hK hF 4 [false] [] X1 eh1 ?_
      show (¬ ((j0).toInt ≤ 0)) ∧ own_Aft X1 h0 _ 57 [u0, u1, u2, u3, u4, u5, .val (.int ((0 : Int32) + (1 : Int32))), .val (.ref ja), .val (.int (1 : Int32)), .val (.int (1 : Int32)), .val (.int j0)] []
      refine ⟨by omega, fun T3 X3 eh3 => ?_⟩
      exact tl2 _ C0 T3 X3 eh3
    · skip
      have hb : c0 = false := Bool.eq_false_iff.mpr (fun q => hy (hc0.mpr q))
      subst hb
      refine own_blk dec3 seq3 hby hx hZ hown hK hF 3 [true] [] X1 eh1 ?_
      show ((j0).toInt ≤ 0) ∧ own_Aft X1 h0 _ 57 [u0, u1, u2, u3, u4, u5, .val (.int (0 : Int32)), .val (.ref ja), .val (.int (1 : Int32)), .val (.int (1 : Int32)), .val (.int j0)] []
      refine ⟨by omega, fun T4 X4 eh4 => ?_⟩
      exact tl2 _ C0 T4 X4 eh4
  intro r1 C1 T2 X2 eh2
  refine own_blk dec3 seq3 hby hx hZ hown hK hF 3 [true] [] X2 eh2 ?_
  show (((1 : Int32)).toInt ≤ ((1 : Int32)).toInt) ∧ own_Aft X2 h0 _ 85 [u0, u1, u2, u3, u4, u5, .val (.int r1), .val (.ref ja), .val (.int (1 : Int32)), .val (.int (1 : Int32)), .val (.int j0)] []
  refine ⟨by decide, fun T5 X5 eh5 => ?_⟩
  exact kk _ _ C1.symm T5 X5 eh5
set_option maxRecDepth 65536 in
set_option maxHeartbeats 40000000 in
theorem ptB_2 {p : Program} {l : Launch} {e : Env} {R : Room} {s : State} {m : MethodId} {args : Array Value} {below : List Frame} {meth : Method} {c : Code} {T0 : State} {locs : List Loc} {cells slots : Nat} {Z : State} {a0 : Array Value} {h0 : Heap} {Q : Outcome → State → Prop} (X0 : Stand p l e R s m args below meth c T0 locs cells slots) (hx : p.tables.exec = Jvm.exec) (hby : c.code = prog_7_method_3_code) (hml : c.maxLocals = 11) (hown : s.vm.findClass "com/example/weigh/weigh/eval/AveragePrecision" = some m.cls) (hZ : Z.Warmed39 s.vm) (hK : own_ks "com/example/weigh/weigh/eval/AveragePrecision" a0 Z kt3) (hF : own_fs "com/example/weigh/weigh/eval/AveragePrecision" a0 Z ft3) (e0 : T0.heap = h0) (u0 u1 u2 u3 u4 u5 : Slot) (ja : Addr) (j0 j1 : Int32) (c0 c1 : Bool) (A2 : own_A Z h0 ja .int [.int j0, .int j1]) (hc0 : 0 < j0.toInt ↔ c0 = true) (hc1 : 0 < j1.toInt ↔ c1 = true)
    (kk : ∀ (r : Int32) (u10 : Slot) (_ : own_cnt [c0, c1] 0 = r), own_Aft X0 h0 Q 85 [u0, u1, u2, u3, u4, u5, .val (.int r), .val (.ref ja), .val (.int (2 : Int32)), .val (.int (2 : Int32)), u10] []) : own_Go p.tables e below Q (T0.setTop (mkF m 57 (Array.mk [u0, u1, u2, u3, u4, u5, .val (.int (0 : Int32)), .val (.ref ja), .val (.int (2 : Int32)), .val (.int (0 : Int32)), .unset]) [])) := by
  have C0 : own_cnt [c0, c1] 0 = own_cnt [c0, c1] 0 := rfl
  refine own_blk dec3 seq3 hby hx hZ hown hK hF 8 [false] [.int j0] X0 e0 ?_
  show (¬ (((2 : Int32)).toInt ≤ ((0 : Int32)).toInt)) ∧ (own_at Z h0 ja .int (0 : Int32) (.int j0)) ∧ own_Aft X0 h0 _ 73 [u0, u1, u2, u3, u4, u5, .val (.int (0 : Int32)), .val (.ref ja), .val (.int (2 : Int32)), .val (.int (0 : Int32)), .val (.int j0)] [.int j0]
  refine ⟨by decide, A2.at (0 : Int32) 0 rfl rfl, fun T1 X1 eh1 => ?_⟩
  suffices tl2 : ∀ (r1 : Int32) (_ : own_cnt [c1] r1 = own_cnt [c0, c1] 0), own_Aft X1 h0 Q 57 [u0, u1, u2, u3, u4, u5, .val (.int r1), .val (.ref ja), .val (.int (2 : Int32)), .val (.int (1 : Int32)), .val (.int j0)] [] by
    by_cases hy : 0 < j0.toInt
    · skip
      have hb := hc0.mp hy
      subst hb
      show own_Go p.tables e below _ (T1.setTop (mkF m 73 (Array.mk [u0, u1, u2, u3, u4, u5, .val (.int (0 : Int32)), .val (.ref ja), .val (.int (2 : Int32)), .val (.int (0 : Int32)), .val (.int j0)]) [.int j0]))
      refine own_blk dec3 seq3 hby hx hZ hown hK hF 4 [false] [] X1 eh1 ?_
      show (¬ ((j0).toInt ≤ 0)) ∧ own_Aft X1 h0 _ 57 [u0, u1, u2, u3, u4, u5, .val (.int ((0 : Int32) + (1 : Int32))), .val (.ref ja), .val (.int (2 : Int32)), .val (.int (1 : Int32)), .val (.int j0)] []
      refine ⟨by omega, fun T3 X3 eh3 => ?_⟩
      exact tl2 _ C0 T3 X3 eh3
    · skip
      have hb : c0 = false := Bool.eq_false_iff.mpr (fun q => hy (hc0.mpr q))
      subst hb
      refine own_blk dec3 seq3 hby hx hZ hown hK hF 3 [true] [] X1 eh1 ?_
      show ((j0).toInt ≤ 0) ∧ own_Aft X1 h0 _ 57 [u0, u1, u2, u3, u4, u5, .val (.int (0 : Int32)), .val (.ref ja), .val (.int (2 : Int32)), .val (.int (1 : Int32)), .val (.int j0)] []
      refine ⟨by omega, fun T4 X4 eh4 => ?_⟩
      exact tl2 _ C0 T4 X4 eh4
  intro r1 C1 T2 X2 eh2
  refine own_blk dec3 seq3 hby hx hZ hown hK hF 8 [false] [.int j1] X2 eh2 ?_
  show (¬ (((2 : Int32)).toInt ≤ ((1 : Int32)).toInt)) ∧ (own_at Z h0 ja .int (1 : Int32) (.int j1)) ∧ own_Aft X2 h0 _ 73 [u0, u1, u2, u3, u4, u5, .val (.int r1), .val (.ref ja), .val (.int (2 : Int32)), .val (.int (1 : Int32)), .val (.int j1)] [.int j1]
  refine ⟨by decide, A2.at (1 : Int32) 1 rfl rfl, fun T5 X5 eh5 => ?_⟩
  suffices tl6 : ∀ (r2 : Int32) (_ : own_cnt [] r2 = own_cnt [c0, c1] 0), own_Aft X5 h0 Q 57 [u0, u1, u2, u3, u4, u5, .val (.int r2), .val (.ref ja), .val (.int (2 : Int32)), .val (.int (2 : Int32)), .val (.int j1)] [] by
    by_cases hy : 0 < j1.toInt
    · skip
      have hb := hc1.mp hy
      subst hb
      show own_Go p.tables e below _ (T5.setTop (mkF m 73 (Array.mk [u0, u1, u2, u3, u4, u5, .val (.int r1), .val (.ref ja), .val (.int (2 : Int32)), .val (.int (1 : Int32)), .val (.int j1)]) [.int j1]))
      refine own_blk dec3 seq3 hby hx hZ hown hK hF 4 [false] [] X5 eh5 ?_
      show (¬ ((j1).toInt ≤ 0)) ∧ own_Aft X5 h0 _ 57 [u0, u1, u2, u3, u4, u5, .val (.int (r1 + (1 : Int32))), .val (.ref ja), .val (.int (2 : Int32)), .val (.int (2 : Int32)), .val (.int j1)] []
      refine ⟨by omega, fun T7 X7 eh7 => ?_⟩
      exact tl6 _ C1 T7 X7 eh7
    · skip
      have hb : c1 = false := Bool.eq_false_iff.mpr (fun q => hy (hc1.mpr q))
      subst hb
      refine own_blk dec3 seq3 hby hx hZ hown hK hF 3 [true] [] X5 eh5 ?_
      show ((j1).toInt ≤ 0) ∧ own_Aft X5 h0 _ 57 [u0, u1, u2, u3, u4, u5, .val (.int r1), .val (.ref ja), .val (.int (2 : Int32)), .val (.int (2 : Int32)), .val (.int j1)] []
      refine ⟨by omega, fun T8 X8 eh8 => ?_⟩
      exact tl6 _ C1 T8 X8 eh8
  intro r2 C2 T6 X6 eh6
  refine own_blk dec3 seq3 hby hx hZ hown hK hF 3 [true] [] X6 eh6 ?_
  show (((2 : Int32)).toInt ≤ ((2 : Int32)).toInt) ∧ own_Aft X6 h0 _ 85 [u0, u1, u2, u3, u4, u5, .val (.int r2), .val (.ref ja), .val (.int (2 : Int32)), .val (.int (2 : Int32)), .val (.int j1)] []
  refine ⟨by decide, fun T9 X9 eh9 => ?_⟩
  exact kk _ _ C2.symm T9 X9 eh9
set_option maxRecDepth 65536 in
set_option maxHeartbeats 40000000 in
theorem ptB_3 {p : Program} {l : Launch} {e : Env} {R : Room} {s : State} {m : MethodId} {args : Array Value} {below : List Frame} {meth : Method} {c : Code} {T0 : State} {locs : List Loc} {cells slots : Nat} {Z : State} {a0 : Array Value} {h0 : Heap} {Q : Outcome → State → Prop} (X0 : Stand p l e R s m args below meth c T0 locs cells slots) (hx : p.tables.exec = Jvm.exec) (hby : c.code = prog_7_method_3_code) (hml : c.maxLocals = 11) (hown : s.vm.findClass "com/example/weigh/weigh/eval/AveragePrecision" = some m.cls) (hZ : Z.Warmed39 s.vm) (hK : own_ks "com/example/weigh/weigh/eval/AveragePrecision" a0 Z kt3) (hF : own_fs "com/example/weigh/weigh/eval/AveragePrecision" a0 Z ft3) (e0 : T0.heap = h0) (u0 u1 u2 u3 u4 u5 : Slot) (ja : Addr) (j0 j1 j2 : Int32) (c0 c1 c2 : Bool) (A2 : own_A Z h0 ja .int [.int j0, .int j1, .int j2]) (hc0 : 0 < j0.toInt ↔ c0 = true) (hc1 : 0 < j1.toInt ↔ c1 = true) (hc2 : 0 < j2.toInt ↔ c2 = true)
    (kk : ∀ (r : Int32) (u10 : Slot) (_ : own_cnt [c0, c1, c2] 0 = r), own_Aft X0 h0 Q 85 [u0, u1, u2, u3, u4, u5, .val (.int r), .val (.ref ja), .val (.int (3 : Int32)), .val (.int (3 : Int32)), u10] []) : own_Go p.tables e below Q (T0.setTop (mkF m 57 (Array.mk [u0, u1, u2, u3, u4, u5, .val (.int (0 : Int32)), .val (.ref ja), .val (.int (3 : Int32)), .val (.int (0 : Int32)), .unset]) [])) := by
  have C0 : own_cnt [c0, c1, c2] 0 = own_cnt [c0, c1, c2] 0 := rfl
  refine own_blk dec3 seq3 hby hx hZ hown hK hF 8 [false] [.int j0] X0 e0 ?_
  show (¬ (((3 : Int32)).toInt ≤ ((0 : Int32)).toInt)) ∧ (own_at Z h0 ja .int (0 : Int32) (.int j0)) ∧ own_Aft X0 h0 _ 73 [u0, u1, u2, u3, u4, u5, .val (.int (0 : Int32)), .val (.ref ja), .val (.int (3 : Int32)), .val (.int (0 : Int32)), .val (.int j0)] [.int j0]
  refine ⟨by decide, A2.at (0 : Int32) 0 rfl rfl, fun T1 X1 eh1 => ?_⟩
  suffices tl2 : ∀ (r1 : Int32) (_ : own_cnt [c1, c2] r1 = own_cnt [c0, c1, c2] 0), own_Aft X1 h0 Q 57 [u0, u1, u2, u3, u4, u5, .val (.int r1), .val (.ref ja), .val (.int (3 : Int32)), .val (.int (1 : Int32)), .val (.int j0)] [] by
    by_cases hy : 0 < j0.toInt
    · skip
      have hb := hc0.mp hy
      subst hb
      show own_Go p.tables e below _ (T1.setTop (mkF m 73 (Array.mk [u0, u1, u2, u3, u4, u5, .val (.int (0 : Int32)), .val (.ref ja), .val (.int (3 : Int32)), .val (.int (0 : Int32)), .val (.int j0)]) [.int j0]))
      refine own_blk dec3 seq3 hby hx hZ hown hK hF 4 [false] [] X1 eh1 ?_
      show (¬ ((j0).toInt ≤ 0)) ∧ own_Aft X1 h0 _ 57 [u0, u1, u2, u3, u4, u5, .val (.int ((0 : Int32) + (1 : Int32))), .val (.ref ja), .val (.int (3 : Int32)), .val (.int (1 : Int32)), .val (.int j0)] []
      refine ⟨by omega, fun T3 X3 eh3 => ?_⟩
      exact tl2 _ C0 T3 X3 eh3
    · skip
      have hb : c0 = false := Bool.eq_false_iff.mpr (fun q => hy (hc0.mpr q))
      subst hb
      refine own_blk dec3 seq3 hby hx hZ hown hK hF 3 [true] [] X1 eh1 ?_
      show ((j0).toInt ≤ 0) ∧ own_Aft X1 h0 _ 57 [u0, u1, u2, u3, u4, u5, .val (.int (0 : Int32)), .val (.ref ja), .val (.int (3 : Int32)), .val (.int (1 : Int32)), .val (.int j0)] []
      refine ⟨by omega, fun T4 X4 eh4 => ?_⟩
      exact tl2 _ C0 T4 X4 eh4
  intro r1 C1 T2 X2 eh2
  refine own_blk dec3 seq3 hby hx hZ hown hK hF 8 [false] [.int j1] X2 eh2 ?_
  show (¬ (((3 : Int32)).toInt ≤ ((1 : Int32)).toInt)) ∧ (own_at Z h0 ja .int (1 : Int32) (.int j1)) ∧ own_Aft X2 h0 _ 73 [u0, u1, u2, u3, u4, u5, .val (.int r1), .val (.ref ja), .val (.int (3 : Int32)), .val (.int (1 : Int32)), .val (.int j1)] [.int j1]
  refine ⟨by decide, A2.at (1 : Int32) 1 rfl rfl, fun T5 X5 eh5 => ?_⟩
  suffices tl6 : ∀ (r2 : Int32) (_ : own_cnt [c2] r2 = own_cnt [c0, c1, c2] 0), own_Aft X5 h0 Q 57 [u0, u1, u2, u3, u4, u5, .val (.int r2), .val (.ref ja), .val (.int (3 : Int32)), .val (.int (2 : Int32)), .val (.int j1)] [] by
    by_cases hy : 0 < j1.toInt
    · skip
      have hb := hc1.mp hy
      subst hb
      show own_Go p.tables e below _ (T5.setTop (mkF m 73 (Array.mk [u0, u1, u2, u3, u4, u5, .val (.int r1), .val (.ref ja), .val (.int (3 : Int32)), .val (.int (1 : Int32)), .val (.int j1)]) [.int j1]))
      refine own_blk dec3 seq3 hby hx hZ hown hK hF 4 [false] [] X5 eh5 ?_
      show (¬ ((j1).toInt ≤ 0)) ∧ own_Aft X5 h0 _ 57 [u0, u1, u2, u3, u4, u5, .val (.int (r1 + (1 : Int32))), .val (.ref ja), .val (.int (3 : Int32)), .val (.int (2 : Int32)), .val (.int j1)] []
      refine ⟨by omega, fun T7 X7 eh7 => ?_⟩
      exact tl6 _ C1 T7 X7 eh7
    · skip
      have hb : c1 = false := Bool.eq_false_iff.mpr (fun q => hy (hc1.mpr q))
      subst hb
      refine own_blk dec3 seq3 hby hx hZ hown hK hF 3 [true] [] X5 eh5 ?_
      show ((j1).toInt ≤ 0) ∧ own_Aft X5 h0 _ 57 [u0, u1, u2, u3, u4, u5, .val (.int r1), .val (.ref ja), .val (.int (3 : Int32)), .val (.int (2 : Int32)), .val (.int j1)] []
      refine ⟨by omega, fun T8 X8 eh8 => ?_⟩
      exact tl6 _ C1 T8 X8 eh8
  intro r2 C2 T6 X6 eh6
  refine own_blk dec3 seq3 hby hx hZ hown hK hF 8 [false] [.int j2] X6 eh6 ?_
  show (¬ (((3 : Int32)).toInt ≤ ((2 : Int32)).toInt)) ∧ (own_at Z h0 ja .int (2 : Int32) (.int j2)) ∧ own_Aft X6 h0 _ 73 [u0, u1, u2, u3, u4, u5, .val (.int r2), .val (.ref ja), .val (.int (3 : Int32)), .val (.int (2 : Int32)), .val (.int j2)] [.int j2]
  refine ⟨by decide, A2.at (2 : Int32) 2 rfl rfl, fun T9 X9 eh9 => ?_⟩
  suffices tl10 : ∀ (r3 : Int32) (_ : own_cnt [] r3 = own_cnt [c0, c1, c2] 0), own_Aft X9 h0 Q 57 [u0, u1, u2, u3, u4, u5, .val (.int r3), .val (.ref ja), .val (.int (3 : Int32)), .val (.int (3 : Int32)), .val (.int j2)] [] by
    by_cases hy : 0 < j2.toInt
    · skip
      have hb := hc2.mp hy
      subst hb
      show own_Go p.tables e below _ (T9.setTop (mkF m 73 (Array.mk [u0, u1, u2, u3, u4, u5, .val (.int r2), .val (.ref ja), .val (.int (3 : Int32)), .val (.int (2 : Int32)), .val (.int j2)]) [.int j2]))
      refine own_blk dec3 seq3 hby hx hZ hown hK hF 4 [false] [] X9 eh9 ?_
      show (¬ ((j2).toInt ≤ 0)) ∧ own_Aft X9 h0 _ 57 [u0, u1, u2, u3, u4, u5, .val (.int (r2 + (1 : Int32))), .val (.ref ja), .val (.int (3 : Int32)), .val (.int (3 : Int32)), .val (.int j2)] []
      refine ⟨by omega, fun T11 X11 eh11 => ?_⟩
      exact tl10 _ C2 T11 X11 eh11
    · skip
      have hb : c2 = false := Bool.eq_false_iff.mpr (fun q => hy (hc2.mpr q))
      subst hb
      refine own_blk dec3 seq3 hby hx hZ hown hK hF 3 [true] [] X9 eh9 ?_
      show ((j2).toInt ≤ 0) ∧ own_Aft X9 h0 _ 57 [u0, u1, u2, u3, u4, u5, .val (.int r2), .val (.ref ja), .val (.int (3 : Int32)), .val (.int (3 : Int32)), .val (.int j2)] []
      refine ⟨by omega, fun T12 X12 eh12 => ?_⟩
      exact tl10 _ C2 T12 X12 eh12
  intro r3 C3 T10 X10 eh10
  refine own_blk dec3 seq3 hby hx hZ hown hK hF 3 [true] [] X10 eh10 ?_
  show (((3 : Int32)).toInt ≤ ((3 : Int32)).toInt) ∧ own_Aft X10 h0 _ 85 [u0, u1, u2, u3, u4, u5, .val (.int r3), .val (.ref ja), .val (.int (3 : Int32)), .val (.int (3 : Int32)), .val (.int j2)] []
  refine ⟨by decide, fun T13 X13 eh13 => ?_⟩
  exact kk _ _ C3.symm T13 X13 eh13
set_option maxRecDepth 65536 in
set_option maxHeartbeats 40000000 in
theorem ptB_4 {p : Program} {l : Launch} {e : Env} {R : Room} {s : State} {m : MethodId} {args : Array Value} {below : List Frame} {meth : Method} {c : Code} {T0 : State} {locs : List Loc} {cells slots : Nat} {Z : State} {a0 : Array Value} {h0 : Heap} {Q : Outcome → State → Prop} (X0 : Stand p l e R s m args below meth c T0 locs cells slots) (hx : p.tables.exec = Jvm.exec) (hby : c.code = prog_7_method_3_code) (hml : c.maxLocals = 11) (hown : s.vm.findClass "com/example/weigh/weigh/eval/AveragePrecision" = some m.cls) (hZ : Z.Warmed39 s.vm) (hK : own_ks "com/example/weigh/weigh/eval/AveragePrecision" a0 Z kt3) (hF : own_fs "com/example/weigh/weigh/eval/AveragePrecision" a0 Z ft3) (e0 : T0.heap = h0) (u0 u1 u2 u3 u4 u5 : Slot) (ja : Addr) (j0 j1 j2 j3 : Int32) (c0 c1 c2 c3 : Bool) (A2 : own_A Z h0 ja .int [.int j0, .int j1, .int j2, .int j3]) (hc0 : 0 < j0.toInt ↔ c0 = true) (hc1 : 0 < j1.toInt ↔ c1 = true) (hc2 : 0 < j2.toInt ↔ c2 = true) (hc3 : 0 < j3.toInt ↔ c3 = true)
    (kk : ∀ (r : Int32) (u10 : Slot) (_ : own_cnt [c0, c1, c2, c3] 0 = r), own_Aft X0 h0 Q 85 [u0, u1, u2, u3, u4, u5, .val (.int r), .val (.ref ja), .val (.int (4 : Int32)), .val (.int (4 : Int32)), u10] []) : own_Go p.tables e below Q (T0.setTop (mkF m 57 (Array.mk [u0, u1, u2, u3, u4, u5, .val (.int (0 : Int32)), .val (.ref ja), .val (.int (4 : Int32)), .val (.int (0 : Int32)), .unset]) [])) := by
  have C0 : own_cnt [c0, c1, c2, c3] 0 = own_cnt [c0, c1, c2, c3] 0 := rfl
  refine own_blk dec3 seq3 hby hx hZ hown hK hF 8 [false] [.int j0] X0 e0 ?_
  show (¬ (((4 : Int32)).toInt ≤ ((0 : Int32)).toInt)) ∧ (own_at Z h0 ja .int (0 : Int32) (.int j0)) ∧ own_Aft X0 h0 _ 73 [u0, u1, u2, u3, u4, u5, .val (.int (0 : Int32)), .val (.ref ja), .val (.int (4 : Int32)), .val (.int (0 : Int32)), .val (.int j0)] [.int j0]
  refine ⟨by decide, A2.at (0 : Int32) 0 rfl rfl, fun T1 X1 eh1 => ?_⟩
  suffices tl2 : ∀ (r1 : Int32) (_ : own_cnt [c1, c2, c3] r1 = own_cnt [c0, c1, c2, c3] 0), own_Aft X1 h0 Q 57 [u0, u1, u2, u3, u4, u5, .val (.int r1), .val (.ref ja), .val (.int (4 : Int32)), .val (.int (1 : Int32)), .val (.int j0)] [] by
    by_cases hy : 0 < j0.toInt
    · skip
      have hb := hc0.mp hy
      subst hb
      show own_Go p.tables e below _ (T1.setTop (mkF m 73 (Array.mk [u0, u1, u2, u3, u4, u5, .val (.int (0 : Int32)), .val (.ref ja), .val (.int (4 : Int32)), .val (.int (0 : Int32)), .val (.int j0)]) [.int j0]))
      refine own_blk dec3 seq3 hby hx hZ hown hK hF 4 [false] [] X1 eh1 ?_
      show (¬ ((j0).toInt ≤ 0)) ∧ own_Aft X1 h0 _ 57 [u0, u1, u2, u3, u4, u5, .val (.int ((0 : Int32) + (1 : Int32))), .val (.ref ja), .val (.int (4 : Int32)), .val (.int (1 : Int32)), .val (.int j0)] []
      refine ⟨by omega, fun T3 X3 eh3 => ?_⟩
      exact tl2 _ C0 T3 X3 eh3
    · skip
      have hb : c0 = false := Bool.eq_false_iff.mpr (fun q => hy (hc0.mpr q))
      subst hb
      refine own_blk dec3 seq3 hby hx hZ hown hK hF 3 [true] [] X1 eh1 ?_
      show ((j0).toInt ≤ 0) ∧ own_Aft X1 h0 _ 57 [u0, u1, u2, u3, u4, u5, .val (.int (0 : Int32)), .val (.ref ja), .val (.int (4 : Int32)), .val (.int (1 : Int32)), .val (.int j0)] []
      refine ⟨by omega, fun T4 X4 eh4 => ?_⟩
      exact tl2 _ C0 T4 X4 eh4
  intro r1 C1 T2 X2 eh2
  refine own_blk dec3 seq3 hby hx hZ hown hK hF 8 [false] [.int j1] X2 eh2 ?_
  show (¬ (((4 : Int32)).toInt ≤ ((1 : Int32)).toInt)) ∧ (own_at Z h0 ja .int (1 : Int32) (.int j1)) ∧ own_Aft X2 h0 _ 73 [u0, u1, u2, u3, u4, u5, .val (.int r1), .val (.ref ja), .val (.int (4 : Int32)), .val (.int (1 : Int32)), .val (.int j1)] [.int j1]
  refine ⟨by decide, A2.at (1 : Int32) 1 rfl rfl, fun T5 X5 eh5 => ?_⟩
  suffices tl6 : ∀ (r2 : Int32) (_ : own_cnt [c2, c3] r2 = own_cnt [c0, c1, c2, c3] 0), own_Aft X5 h0 Q 57 [u0, u1, u2, u3, u4, u5, .val (.int r2), .val (.ref ja), .val (.int (4 : Int32)), .val (.int (2 : Int32)), .val (.int j1)] [] by
    by_cases hy : 0 < j1.toInt
    · skip
      have hb := hc1.mp hy
      subst hb
      show own_Go p.tables e below _ (T5.setTop (mkF m 73 (Array.mk [u0, u1, u2, u3, u4, u5, .val (.int r1), .val (.ref ja), .val (.int (4 : Int32)), .val (.int (1 : Int32)), .val (.int j1)]) [.int j1]))
      refine own_blk dec3 seq3 hby hx hZ hown hK hF 4 [false] [] X5 eh5 ?_
      show (¬ ((j1).toInt ≤ 0)) ∧ own_Aft X5 h0 _ 57 [u0, u1, u2, u3, u4, u5, .val (.int (r1 + (1 : Int32))), .val (.ref ja), .val (.int (4 : Int32)), .val (.int (2 : Int32)), .val (.int j1)] []
      refine ⟨by omega, fun T7 X7 eh7 => ?_⟩
      exact tl6 _ C1 T7 X7 eh7
    · skip
      have hb : c1 = false := Bool.eq_false_iff.mpr (fun q => hy (hc1.mpr q))
      subst hb
      refine own_blk dec3 seq3 hby hx hZ hown hK hF 3 [true] [] X5 eh5 ?_
      show ((j1).toInt ≤ 0) ∧ own_Aft X5 h0 _ 57 [u0, u1, u2, u3, u4, u5, .val (.int r1), .val (.ref ja), .val (.int (4 : Int32)), .val (.int (2 : Int32)), .val (.int j1)] []
      refine ⟨by omega, fun T8 X8 eh8 => ?_⟩
      exact tl6 _ C1 T8 X8 eh8
  intro r2 C2 T6 X6 eh6
  refine own_blk dec3 seq3 hby hx hZ hown hK hF 8 [false] [.int j2] X6 eh6 ?_
  show (¬ (((4 : Int32)).toInt ≤ ((2 : Int32)).toInt)) ∧ (own_at Z h0 ja .int (2 : Int32) (.int j2)) ∧ own_Aft X6 h0 _ 73 [u0, u1, u2, u3, u4, u5, .val (.int r2), .val (.ref ja), .val (.int (4 : Int32)), .val (.int (2 : Int32)), .val (.int j2)] [.int j2]
  refine ⟨by decide, A2.at (2 : Int32) 2 rfl rfl, fun T9 X9 eh9 => ?_⟩
  suffices tl10 : ∀ (r3 : Int32) (_ : own_cnt [c3] r3 = own_cnt [c0, c1, c2, c3] 0), own_Aft X9 h0 Q 57 [u0, u1, u2, u3, u4, u5, .val (.int r3), .val (.ref ja), .val (.int (4 : Int32)), .val (.int (3 : Int32)), .val (.int j2)] [] by
    by_cases hy : 0 < j2.toInt
    · skip
      have hb := hc2.mp hy
      subst hb
      show own_Go p.tables e below _ (T9.setTop (mkF m 73 (Array.mk [u0, u1, u2, u3, u4, u5, .val (.int r2), .val (.ref ja), .val (.int (4 : Int32)), .val (.int (2 : Int32)), .val (.int j2)]) [.int j2]))
      refine own_blk dec3 seq3 hby hx hZ hown hK hF 4 [false] [] X9 eh9 ?_
      show (¬ ((j2).toInt ≤ 0)) ∧ own_Aft X9 h0 _ 57 [u0, u1, u2, u3, u4, u5, .val (.int (r2 + (1 : Int32))), .val (.ref ja), .val (.int (4 : Int32)), .val (.int (3 : Int32)), .val (.int j2)] []
      refine ⟨by omega, fun T11 X11 eh11 => ?_⟩
      exact tl10 _ C2 T11 X11 eh11
    · skip
      have hb : c2 = false := Bool.eq_false_iff.mpr (fun q => hy (hc2.mpr q))
      subst hb
      refine own_blk dec3 seq3 hby hx hZ hown hK hF 3 [true] [] X9 eh9 ?_
      show ((j2).toInt ≤ 0) ∧ own_Aft X9 h0 _ 57 [u0, u1, u2, u3, u4, u5, .val (.int r2), .val (.ref ja), .val (.int (4 : Int32)), .val (.int (3 : Int32)), .val (.int j2)] []
      refine ⟨by omega, fun T12 X12 eh12 => ?_⟩
      exact tl10 _ C2 T12 X12 eh12
  intro r3 C3 T10 X10 eh10
  refine own_blk dec3 seq3 hby hx hZ hown hK hF 8 [false] [.int j3] X10 eh10 ?_
  show (¬ (((4 : Int32)).toInt ≤ ((3 : Int32)).toInt)) ∧ (own_at Z h0 ja .int (3 : Int32) (.int j3)) ∧ own_Aft X10 h0 _ 73 [u0, u1, u2, u3, u4, u5, .val (.int r3), .val (.ref ja), .val (.int (4 : Int32)), .val (.int (3 : Int32)), .val (.int j3)] [.int j3]
  refine ⟨by decide, A2.at (3 : Int32) 3 rfl rfl, fun T13 X13 eh13 => ?_⟩
  suffices tl14 : ∀ (r4 : Int32) (_ : own_cnt [] r4 = own_cnt [c0, c1, c2, c3] 0), own_Aft X13 h0 Q 57 [u0, u1, u2, u3, u4, u5, .val (.int r4), .val (.ref ja), .val (.int (4 : Int32)), .val (.int (4 : Int32)), .val (.int j3)] [] by
    by_cases hy : 0 < j3.toInt
    · skip
      have hb := hc3.mp hy
      subst hb
      show own_Go p.tables e below _ (T13.setTop (mkF m 73 (Array.mk [u0, u1, u2, u3, u4, u5, .val (.int r3), .val (.ref ja), .val (.int (4 : Int32)), .val (.int (3 : Int32)), .val (.int j3)]) [.int j3]))
      refine own_blk dec3 seq3 hby hx hZ hown hK hF 4 [false] [] X13 eh13 ?_
      show (¬ ((j3).toInt ≤ 0)) ∧ own_Aft X13 h0 _ 57 [u0, u1, u2, u3, u4, u5, .val (.int (r3 + (1 : Int32))), .val (.ref ja), .val (.int (4 : Int32)), .val (.int (4 : Int32)), .val (.int j3)] []
      refine ⟨by omega, fun T15 X15 eh15 => ?_⟩
      exact tl14 _ C3 T15 X15 eh15
    · skip
      have hb : c3 = false := Bool.eq_false_iff.mpr (fun q => hy (hc3.mpr q))
      subst hb
      refine own_blk dec3 seq3 hby hx hZ hown hK hF 3 [true] [] X13 eh13 ?_
      show ((j3).toInt ≤ 0) ∧ own_Aft X13 h0 _ 57 [u0, u1, u2, u3, u4, u5, .val (.int r3), .val (.ref ja), .val (.int (4 : Int32)), .val (.int (4 : Int32)), .val (.int j3)] []
      refine ⟨by omega, fun T16 X16 eh16 => ?_⟩
      exact tl14 _ C3 T16 X16 eh16
  intro r4 C4 T14 X14 eh14
  refine own_blk dec3 seq3 hby hx hZ hown hK hF 3 [true] [] X14 eh14 ?_
  show (((4 : Int32)).toInt ≤ ((4 : Int32)).toInt) ∧ own_Aft X14 h0 _ 85 [u0, u1, u2, u3, u4, u5, .val (.int r4), .val (.ref ja), .val (.int (4 : Int32)), .val (.int (4 : Int32)), .val (.int j3)] []
  refine ⟨by decide, fun T17 X17 eh17 => ?_⟩
  exact kk _ _ C4.symm T17 X17 eh17
set_option maxRecDepth 65536 in
set_option maxHeartbeats 40000000 in
theorem ptB_5 {p : Program} {l : Launch} {e : Env} {R : Room} {s : State} {m : MethodId} {args : Array Value} {below : List Frame} {meth : Method} {c : Code} {T0 : State} {locs : List Loc} {cells slots : Nat} {Z : State} {a0 : Array Value} {h0 : Heap} {Q : Outcome → State → Prop} (X0 : Stand p l e R s m args below meth c T0 locs cells slots) (hx : p.tables.exec = Jvm.exec) (hby : c.code = prog_7_method_3_code) (hml : c.maxLocals = 11) (hown : s.vm.findClass "com/example/weigh/weigh/eval/AveragePrecision" = some m.cls) (hZ : Z.Warmed39 s.vm) (hK : own_ks "com/example/weigh/weigh/eval/AveragePrecision" a0 Z kt3) (hF : own_fs "com/example/weigh/weigh/eval/AveragePrecision" a0 Z ft3) (e0 : T0.heap = h0) (u0 u1 u2 u3 u4 u5 : Slot) (ja : Addr) (j0 j1 j2 j3 j4 : Int32) (c0 c1 c2 c3 c4 : Bool) (A2 : own_A Z h0 ja .int [.int j0, .int j1, .int j2, .int j3, .int j4]) (hc0 : 0 < j0.toInt ↔ c0 = true) (hc1 : 0 < j1.toInt ↔ c1 = true) (hc2 : 0 < j2.toInt ↔ c2 = true) (hc3 : 0 < j3.toInt ↔ c3 = true) (hc4 : 0 < j4.toInt ↔ c4 = true)
    (kk : ∀ (r : Int32) (u10 : Slot) (_ : own_cnt [c0, c1, c2, c3, c4] 0 = r), own_Aft X0 h0 Q 85 [u0, u1, u2, u3, u4, u5, .val (.int r), .val (.ref ja), .val (.int (5 : Int32)), .val (.int (5 : Int32)), u10] []) : own_Go p.tables e below Q (T0.setTop (mkF m 57 (Array.mk [u0, u1, u2, u3, u4, u5, .val (.int (0 : Int32)), .val (.ref ja), .val (.int (5 : Int32)), .val (.int (0 : Int32)), .unset]) [])) := by
  have C0 : own_cnt [c0, c1, c2, c3, c4] 0 = own_cnt [c0, c1, c2, c3, c4] 0 := rfl
  refine own_blk dec3 seq3 hby hx hZ hown hK hF 8 [false] [.int j0] X0 e0 ?_
  show (¬ (((5 : Int32)).toInt ≤ ((0 : Int32)).toInt)) ∧ (own_at Z h0 ja .int (0 : Int32) (.int j0)) ∧ own_Aft X0 h0 _ 73 [u0, u1, u2, u3, u4, u5, .val (.int (0 : Int32)), .val (.ref ja), .val (.int (5 : Int32)), .val (.int (0 : Int32)), .val (.int j0)] [.int j0]
  refine ⟨by decide, A2.at (0 : Int32) 0 rfl rfl, fun T1 X1 eh1 => ?_⟩
  suffices tl2 : ∀ (r1 : Int32) (_ : own_cnt [c1, c2, c3, c4] r1 = own_cnt [c0, c1, c2, c3, c4] 0), own_Aft X1 h0 Q 57 [u0, u1, u2, u3, u4, u5, .val (.int r1), .val (.ref ja), .val (.int (5 : Int32)), .val (.int (1 : Int32)), .val (.int j0)] [] by
    by_cases hy : 0 < j0.toInt
    · skip
      have hb := hc0.mp hy
      subst hb
      show own_Go p.tables e below _ (T1.setTop (mkF m 73 (Array.mk [u0, u1, u2, u3, u4, u5, .val (.int (0 : Int32)), .val (.ref ja), .val (.int (5 : Int32)), .val (.int (0 : Int32)), .val (.int j0)]) [.int j0]))
      refine own_blk dec3 seq3 hby hx hZ hown hK hF 4 [false] [] X1 eh1 ?_
      show (¬ ((j0).toInt ≤ 0)) ∧ own_Aft X1 h0 _ 57 [u0, u1, u2, u3, u4, u5, .val (.int ((0 : Int32) + (1 : Int32))), .val (.ref ja), .val (.int (5 : Int32)), .val (.int (1 : Int32)), .val (.int j0)] []
      refine ⟨by omega, fun T3 X3 eh3 => ?_⟩
      exact tl2 _ C0 T3 X3 eh3
    · skip
      have hb : c0 = false := Bool.eq_false_iff.mpr (fun q => hy (hc0.mpr q))
      subst hb
      refine own_blk dec3 seq3 hby hx hZ hown hK hF 3 [true] [] X1 eh1 ?_
      show ((j0).toInt ≤ 0) ∧ own_Aft X1 h0 _ 57 [u0, u1, u2, u3, u4, u5, .val (.int (0 : Int32)), .val (.ref ja), .val (.int (5 : Int32)), .val (.int (1 : Int32)), .val (.int j0)] []
      refine ⟨by omega, fun T4 X4 eh4 => ?_⟩
      exact tl2 _ C0 T4 X4 eh4
  intro r1 C1 T2 X2 eh2
  refine own_blk dec3 seq3 hby hx hZ hown hK hF 8 [false] [.int j1] X2 eh2 ?_
  show (¬ (((5 : Int32)).toInt ≤ ((1 : Int32)).toInt)) ∧ (own_at Z h0 ja .int (1 : Int32) (.int j1)) ∧ own_Aft X2 h0 _ 73 [u0, u1, u2, u3, u4, u5, .val (.int r1), .val (.ref ja), .val (.int (5 : Int32)), .val (.int (1 : Int32)), .val (.int j1)] [.int j1]
  refine ⟨by decide, A2.at (1 : Int32) 1 rfl rfl, fun T5 X5 eh5 => ?_⟩
  suffices tl6 : ∀ (r2 : Int32) (_ : own_cnt [c2, c3, c4] r2 = own_cnt [c0, c1, c2, c3, c4] 0), own_Aft X5 h0 Q 57 [u0, u1, u2, u3, u4, u5, .val (.int r2), .val (.ref ja), .val (.int (5 : Int32)), .val (.int (2 : Int32)), .val (.int j1)] [] by
    by_cases hy : 0 < j1.toInt
    · skip
      have hb := hc1.mp hy
      subst hb
      show own_Go p.tables e below _ (T5.setTop (mkF m 73 (Array.mk [u0, u1, u2, u3, u4, u5, .val (.int r1), .val (.ref ja), .val (.int (5 : Int32)), .val (.int (1 : Int32)), .val (.int j1)]) [.int j1]))
      refine own_blk dec3 seq3 hby hx hZ hown hK hF 4 [false] [] X5 eh5 ?_
      show (¬ ((j1).toInt ≤ 0)) ∧ own_Aft X5 h0 _ 57 [u0, u1, u2, u3, u4, u5, .val (.int (r1 + (1 : Int32))), .val (.ref ja), .val (.int (5 : Int32)), .val (.int (2 : Int32)), .val (.int j1)] []
      refine ⟨by omega, fun T7 X7 eh7 => ?_⟩
      exact tl6 _ C1 T7 X7 eh7
    · skip
      have hb : c1 = false := Bool.eq_false_iff.mpr (fun q => hy (hc1.mpr q))
      subst hb
      refine own_blk dec3 seq3 hby hx hZ hown hK hF 3 [true] [] X5 eh5 ?_
      show ((j1).toInt ≤ 0) ∧ own_Aft X5 h0 _ 57 [u0, u1, u2, u3, u4, u5, .val (.int r1), .val (.ref ja), .val (.int (5 : Int32)), .val (.int (2 : Int32)), .val (.int j1)] []
      refine ⟨by omega, fun T8 X8 eh8 => ?_⟩
      exact tl6 _ C1 T8 X8 eh8
  intro r2 C2 T6 X6 eh6
  refine own_blk dec3 seq3 hby hx hZ hown hK hF 8 [false] [.int j2] X6 eh6 ?_
  show (¬ (((5 : Int32)).toInt ≤ ((2 : Int32)).toInt)) ∧ (own_at Z h0 ja .int (2 : Int32) (.int j2)) ∧ own_Aft X6 h0 _ 73 [u0, u1, u2, u3, u4, u5, .val (.int r2), .val (.ref ja), .val (.int (5 : Int32)), .val (.int (2 : Int32)), .val (.int j2)] [.int j2]
  refine ⟨by decide, A2.at (2 : Int32) 2 rfl rfl, fun T9 X9 eh9 => ?_⟩
  suffices tl10 : ∀ (r3 : Int32) (_ : own_cnt [c3, c4] r3 = own_cnt [c0, c1, c2, c3, c4] 0), own_Aft X9 h0 Q 57 [u0, u1, u2, u3, u4, u5, .val (.int r3), .val (.ref ja), .val (.int (5 : Int32)), .val (.int (3 : Int32)), .val (.int j2)] [] by
    by_cases hy : 0 < j2.toInt
    · skip
      have hb := hc2.mp hy
      subst hb
      show own_Go p.tables e below _ (T9.setTop (mkF m 73 (Array.mk [u0, u1, u2, u3, u4, u5, .val (.int r2), .val (.ref ja), .val (.int (5 : Int32)), .val (.int (2 : Int32)), .val (.int j2)]) [.int j2]))
      refine own_blk dec3 seq3 hby hx hZ hown hK hF 4 [false] [] X9 eh9 ?_
      show (¬ ((j2).toInt ≤ 0)) ∧ own_Aft X9 h0 _ 57 [u0, u1, u2, u3, u4, u5, .val (.int (r2 + (1 : Int32))), .val (.ref ja), .val (.int (5 : Int32)), .val (.int (3 : Int32)), .val (.int j2)] []
      refine ⟨by omega, fun T11 X11 eh11 => ?_⟩
      exact tl10 _ C2 T11 X11 eh11
    · skip
      have hb : c2 = false := Bool.eq_false_iff.mpr (fun q => hy (hc2.mpr q))
      subst hb
      refine own_blk dec3 seq3 hby hx hZ hown hK hF 3 [true] [] X9 eh9 ?_
      show ((j2).toInt ≤ 0) ∧ own_Aft X9 h0 _ 57 [u0, u1, u2, u3, u4, u5, .val (.int r2), .val (.ref ja), .val (.int (5 : Int32)), .val (.int (3 : Int32)), .val (.int j2)] []
      refine ⟨by omega, fun T12 X12 eh12 => ?_⟩
      exact tl10 _ C2 T12 X12 eh12
  intro r3 C3 T10 X10 eh10
  refine own_blk dec3 seq3 hby hx hZ hown hK hF 8 [false] [.int j3] X10 eh10 ?_
  show (¬ (((5 : Int32)).toInt ≤ ((3 : Int32)).toInt)) ∧ (own_at Z h0 ja .int (3 : Int32) (.int j3)) ∧ own_Aft X10 h0 _ 73 [u0, u1, u2, u3, u4, u5, .val (.int r3), .val (.ref ja), .val (.int (5 : Int32)), .val (.int (3 : Int32)), .val (.int j3)] [.int j3]
  refine ⟨by decide, A2.at (3 : Int32) 3 rfl rfl, fun T13 X13 eh13 => ?_⟩
  suffices tl14 : ∀ (r4 : Int32) (_ : own_cnt [c4] r4 = own_cnt [c0, c1, c2, c3, c4] 0), own_Aft X13 h0 Q 57 [u0, u1, u2, u3, u4, u5, .val (.int r4), .val (.ref ja), .val (.int (5 : Int32)), .val (.int (4 : Int32)), .val (.int j3)] [] by
    by_cases hy : 0 < j3.toInt
    · skip
      have hb := hc3.mp hy
      subst hb
      show own_Go p.tables e below _ (T13.setTop (mkF m 73 (Array.mk [u0, u1, u2, u3, u4, u5, .val (.int r3), .val (.ref ja), .val (.int (5 : Int32)), .val (.int (3 : Int32)), .val (.int j3)]) [.int j3]))
      refine own_blk dec3 seq3 hby hx hZ hown hK hF 4 [false] [] X13 eh13 ?_
      show (¬ ((j3).toInt ≤ 0)) ∧ own_Aft X13 h0 _ 57 [u0, u1, u2, u3, u4, u5, .val (.int (r3 + (1 : Int32))), .val (.ref ja), .val (.int (5 : Int32)), .val (.int (4 : Int32)), .val (.int j3)] []
      refine ⟨by omega, fun T15 X15 eh15 => ?_⟩
      exact tl14 _ C3 T15 X15 eh15
    · skip
      have hb : c3 = false := Bool.eq_false_iff.mpr (fun q => hy (hc3.mpr q))
      subst hb
      refine own_blk dec3 seq3 hby hx hZ hown hK hF 3 [true] [] X13 eh13 ?_
      show ((j3).toInt ≤ 0) ∧ own_Aft X13 h0 _ 57 [u0, u1, u2, u3, u4, u5, .val (.int r3), .val (.ref ja), .val (.int (5 : Int32)), .val (.int (4 : Int32)), .val (.int j3)] []
      refine ⟨by omega, fun T16 X16 eh16 => ?_⟩
      exact tl14 _ C3 T16 X16 eh16
  intro r4 C4 T14 X14 eh14
  refine own_blk dec3 seq3 hby hx hZ hown hK hF 8 [false] [.int j4] X14 eh14 ?_
  show (¬ (((5 : Int32)).toInt ≤ ((4 : Int32)).toInt)) ∧ (own_at Z h0 ja .int (4 : Int32) (.int j4)) ∧ own_Aft X14 h0 _ 73 [u0, u1, u2, u3, u4, u5, .val (.int r4), .val (.ref ja), .val (.int (5 : Int32)), .val (.int (4 : Int32)), .val (.int j4)] [.int j4]
  refine ⟨by decide, A2.at (4 : Int32) 4 rfl rfl, fun T17 X17 eh17 => ?_⟩
  suffices tl18 : ∀ (r5 : Int32) (_ : own_cnt [] r5 = own_cnt [c0, c1, c2, c3, c4] 0), own_Aft X17 h0 Q 57 [u0, u1, u2, u3, u4, u5, .val (.int r5), .val (.ref ja), .val (.int (5 : Int32)), .val (.int (5 : Int32)), .val (.int j4)] [] by
    by_cases hy : 0 < j4.toInt
    · skip
      have hb := hc4.mp hy
      subst hb
      show own_Go p.tables e below _ (T17.setTop (mkF m 73 (Array.mk [u0, u1, u2, u3, u4, u5, .val (.int r4), .val (.ref ja), .val (.int (5 : Int32)), .val (.int (4 : Int32)), .val (.int j4)]) [.int j4]))
      refine own_blk dec3 seq3 hby hx hZ hown hK hF 4 [false] [] X17 eh17 ?_
      show (¬ ((j4).toInt ≤ 0)) ∧ own_Aft X17 h0 _ 57 [u0, u1, u2, u3, u4, u5, .val (.int (r4 + (1 : Int32))), .val (.ref ja), .val (.int (5 : Int32)), .val (.int (5 : Int32)), .val (.int j4)] []
      refine ⟨by omega, fun T19 X19 eh19 => ?_⟩
      exact tl18 _ C4 T19 X19 eh19
    · skip
      have hb : c4 = false := Bool.eq_false_iff.mpr (fun q => hy (hc4.mpr q))
      subst hb
      refine own_blk dec3 seq3 hby hx hZ hown hK hF 3 [true] [] X17 eh17 ?_
      show ((j4).toInt ≤ 0) ∧ own_Aft X17 h0 _ 57 [u0, u1, u2, u3, u4, u5, .val (.int r4), .val (.ref ja), .val (.int (5 : Int32)), .val (.int (5 : Int32)), .val (.int j4)] []
      refine ⟨by omega, fun T20 X20 eh20 => ?_⟩
      exact tl18 _ C4 T20 X20 eh20
  intro r5 C5 T18 X18 eh18
  refine own_blk dec3 seq3 hby hx hZ hown hK hF 3 [true] [] X18 eh18 ?_
  show (((5 : Int32)).toInt ≤ ((5 : Int32)).toInt) ∧ own_Aft X18 h0 _ 85 [u0, u1, u2, u3, u4, u5, .val (.int r5), .val (.ref ja), .val (.int (5 : Int32)), .val (.int (5 : Int32)), .val (.int j4)] []
  refine ⟨by decide, fun T21 X21 eh21 => ?_⟩
  exact kk _ _ C5.symm T21 X21 eh21
set_option maxRecDepth 65536 in
set_option maxHeartbeats 40000000 in
theorem ptB_6 {p : Program} {l : Launch} {e : Env} {R : Room} {s : State} {m : MethodId} {args : Array Value} {below : List Frame} {meth : Method} {c : Code} {T0 : State} {locs : List Loc} {cells slots : Nat} {Z : State} {a0 : Array Value} {h0 : Heap} {Q : Outcome → State → Prop} (X0 : Stand p l e R s m args below meth c T0 locs cells slots) (hx : p.tables.exec = Jvm.exec) (hby : c.code = prog_7_method_3_code) (hml : c.maxLocals = 11) (hown : s.vm.findClass "com/example/weigh/weigh/eval/AveragePrecision" = some m.cls) (hZ : Z.Warmed39 s.vm) (hK : own_ks "com/example/weigh/weigh/eval/AveragePrecision" a0 Z kt3) (hF : own_fs "com/example/weigh/weigh/eval/AveragePrecision" a0 Z ft3) (e0 : T0.heap = h0) (u0 u1 u2 u3 u4 u5 : Slot) (ja : Addr) (j0 j1 j2 j3 j4 j5 : Int32) (c0 c1 c2 c3 c4 c5 : Bool) (A2 : own_A Z h0 ja .int [.int j0, .int j1, .int j2, .int j3, .int j4, .int j5]) (hc0 : 0 < j0.toInt ↔ c0 = true) (hc1 : 0 < j1.toInt ↔ c1 = true) (hc2 : 0 < j2.toInt ↔ c2 = true) (hc3 : 0 < j3.toInt ↔ c3 = true) (hc4 : 0 < j4.toInt ↔ c4 = true) (hc5 : 0 < j5.toInt ↔ c5 = true)
    (kk : ∀ (r : Int32) (u10 : Slot) (_ : own_cnt [c0, c1, c2, c3, c4, c5] 0 = r), own_Aft X0 h0 Q 85 [u0, u1, u2, u3, u4, u5, .val (.int r), .val (.ref ja), .val (.int (6 : Int32)), .val (.int (6 : Int32)), u10] []) : own_Go p.tables e below Q (T0.setTop (mkF m 57 (Array.mk [u0, u1, u2, u3, u4, u5, .val (.int (0 : Int32)), .val (.ref ja), .val (.int (6 : Int32)), .val (.int (0 : Int32)), .unset]) [])) := by
  have C0 : own_cnt [c0, c1, c2, c3, c4, c5] 0 = own_cnt [c0, c1, c2, c3, c4, c5] 0 := rfl
  refine own_blk dec3 seq3 hby hx hZ hown hK hF 8 [false] [.int j0] X0 e0 ?_
  show (¬ (((6 : Int32)).toInt ≤ ((0 : Int32)).toInt)) ∧ (own_at Z h0 ja .int (0 : Int32) (.int j0)) ∧ own_Aft X0 h0 _ 73 [u0, u1, u2, u3, u4, u5, .val (.int (0 : Int32)), .val (.ref ja), .val (.int (6 : Int32)), .val (.int (0 : Int32)), .val (.int j0)] [.int j0]
  refine ⟨by decide, A2.at (0 : Int32) 0 rfl rfl, fun T1 X1 eh1 => ?_⟩
  suffices tl2 : ∀ (r1 : Int32) (_ : own_cnt [c1, c2, c3, c4, c5] r1 = own_cnt [c0, c1, c2, c3, c4, c5] 0), own_Aft X1 h0 Q 57 [u0, u1, u2, u3, u4, u5, .val (.int r1), .val (.ref ja), .val (.int (6 : Int32)), .val (.int (1 : Int32)), .val (.int j0)] [] by
    by_cases hy : 0 < j0.toInt
    · skip
      have hb := hc0.mp hy
      subst hb
      show own_Go p.tables e below _ (T1.setTop (mkF m 73 (Array.mk [u0, u1, u2, u3, u4, u5, .val (.int (0 : Int32)), .val (.ref ja), .val (.int (6 : Int32)), .val (.int (0 : Int32)), .val (.int j0)]) [.int j0]))
      refine own_blk dec3 seq3 hby hx hZ hown hK hF 4 [false] [] X1 eh1 ?_
      show (¬ ((j0).toInt ≤ 0)) ∧ own_Aft X1 h0 _ 57 [u0, u1, u2, u3, u4, u5, .val (.int ((0 : Int32) + (1 : Int32))), .val (.ref ja), .val (.int (6 : Int32)), .val (.int (1 : Int32)), .val (.int j0)] []
      refine ⟨by omega, fun T3 X3 eh3 => ?_⟩
      exact tl2 _ C0 T3 X3 eh3
    · skip
      have hb : c0 = false := Bool.eq_false_iff.mpr (fun q => hy (hc0.mpr q))
      subst hb
      refine own_blk dec3 seq3 hby hx hZ hown hK hF 3 [true] [] X1 eh1 ?_
      show ((j0).toInt ≤ 0) ∧ own_Aft X1 h0 _ 57 [u0, u1, u2, u3, u4, u5, .val (.int (0 : Int32)), .val (.ref ja), .val (.int (6 : Int32)), .val (.int (1 : Int32)), .val (.int j0)] []
      refine ⟨by omega, fun T4 X4 eh4 => ?_⟩
      exact tl2 _ C0 T4 X4 eh4
  intro r1 C1 T2 X2 eh2
  refine own_blk dec3 seq3 hby hx hZ hown hK hF 8 [false] [.int j1] X2 eh2 ?_
  show (¬ (((6 : Int32)).toInt ≤ ((1 : Int32)).toInt)) ∧ (own_at Z h0 ja .int (1 : Int32) (.int j1)) ∧ own_Aft X2 h0 _ 73 [u0, u1, u2, u3, u4, u5, .val (.int r1), .val (.ref ja), .val (.int (6 : Int32)), .val (.int (1 : Int32)), .val (.int j1)] [.int j1]
  refine ⟨by decide, A2.at (1 : Int32) 1 rfl rfl, fun T5 X5 eh5 => ?_⟩
  suffices tl6 : ∀ (r2 : Int32) (_ : own_cnt [c2, c3, c4, c5] r2 = own_cnt [c0, c1, c2, c3, c4, c5] 0), own_Aft X5 h0 Q 57 [u0, u1, u2, u3, u4, u5, .val (.int r2), .val (.ref ja), .val (.int (6 : Int32)), .val (.int (2 : Int32)), .val (.int j1)] [] by
    by_cases hy : 0 < j1.toInt
    · skip
      have hb := hc1.mp hy
      subst hb
      show own_Go p.tables e below _ (T5.setTop (mkF m 73 (Array.mk [u0, u1, u2, u3, u4, u5, .val (.int r1), .val (.ref ja), .val (.int (6 : Int32)), .val (.int (1 : Int32)), .val (.int j1)]) [.int j1]))
      refine own_blk dec3 seq3 hby hx hZ hown hK hF 4 [false] [] X5 eh5 ?_
      show (¬ ((j1).toInt ≤ 0)) ∧ own_Aft X5 h0 _ 57 [u0, u1, u2, u3, u4, u5, .val (.int (r1 + (1 : Int32))), .val (.ref ja), .val (.int (6 : Int32)), .val (.int (2 : Int32)), .val (.int j1)] []
      refine ⟨by omega, fun T7 X7 eh7 => ?_⟩
      exact tl6 _ C1 T7 X7 eh7
    · skip
      have hb : c1 = false := Bool.eq_false_iff.mpr (fun q => hy (hc1.mpr q))
      subst hb
      refine own_blk dec3 seq3 hby hx hZ hown hK hF 3 [true] [] X5 eh5 ?_
      show ((j1).toInt ≤ 0) ∧ own_Aft X5 h0 _ 57 [u0, u1, u2, u3, u4, u5, .val (.int r1), .val (.ref ja), .val (.int (6 : Int32)), .val (.int (2 : Int32)), .val (.int j1)] []
      refine ⟨by omega, fun T8 X8 eh8 => ?_⟩
      exact tl6 _ C1 T8 X8 eh8
  intro r2 C2 T6 X6 eh6
  refine own_blk dec3 seq3 hby hx hZ hown hK hF 8 [false] [.int j2] X6 eh6 ?_
  show (¬ (((6 : Int32)).toInt ≤ ((2 : Int32)).toInt)) ∧ (own_at Z h0 ja .int (2 : Int32) (.int j2)) ∧ own_Aft X6 h0 _ 73 [u0, u1, u2, u3, u4, u5, .val (.int r2), .val (.ref ja), .val (.int (6 : Int32)), .val (.int (2 : Int32)), .val (.int j2)] [.int j2]
  refine ⟨by decide, A2.at (2 : Int32) 2 rfl rfl, fun T9 X9 eh9 => ?_⟩
  suffices tl10 : ∀ (r3 : Int32) (_ : own_cnt [c3, c4, c5] r3 = own_cnt [c0, c1, c2, c3, c4, c5] 0), own_Aft X9 h0 Q 57 [u0, u1, u2, u3, u4, u5, .val (.int r3), .val (.ref ja), .val (.int (6 : Int32)), .val (.int (3 : Int32)), .val (.int j2)] [] by
    by_cases hy : 0 < j2.toInt
    · skip
      have hb := hc2.mp hy
      subst hb
      show own_Go p.tables e below _ (T9.setTop (mkF m 73 (Array.mk [u0, u1, u2, u3, u4, u5, .val (.int r2), .val (.ref ja), .val (.int (6 : Int32)), .val (.int (2 : Int32)), .val (.int j2)]) [.int j2]))
      refine own_blk dec3 seq3 hby hx hZ hown hK hF 4 [false] [] X9 eh9 ?_
      show (¬ ((j2).toInt ≤ 0)) ∧ own_Aft X9 h0 _ 57 [u0, u1, u2, u3, u4, u5, .val (.int (r2 + (1 : Int32))), .val (.ref ja), .val (.int (6 : Int32)), .val (.int (3 : Int32)), .val (.int j2)] []
      refine ⟨by omega, fun T11 X11 eh11 => ?_⟩
      exact tl10 _ C2 T11 X11 eh11
    · skip
      have hb : c2 = false := Bool.eq_false_iff.mpr (fun q => hy (hc2.mpr q))
      subst hb
      refine own_blk dec3 seq3 hby hx hZ hown hK hF 3 [true] [] X9 eh9 ?_
      show ((j2).toInt ≤ 0) ∧ own_Aft X9 h0 _ 57 [u0, u1, u2, u3, u4, u5, .val (.int r2), .val (.ref ja), .val (.int (6 : Int32)), .val (.int (3 : Int32)), .val (.int j2)] []
      refine ⟨by omega, fun T12 X12 eh12 => ?_⟩
      exact tl10 _ C2 T12 X12 eh12
  intro r3 C3 T10 X10 eh10
  refine own_blk dec3 seq3 hby hx hZ hown hK hF 8 [false] [.int j3] X10 eh10 ?_
  show (¬ (((6 : Int32)).toInt ≤ ((3 : Int32)).toInt)) ∧ (own_at Z h0 ja .int (3 : Int32) (.int j3)) ∧ own_Aft X10 h0 _ 73 [u0, u1, u2, u3, u4, u5, .val (.int r3), .val (.ref ja), .val (.int (6 : Int32)), .val (.int (3 : Int32)), .val (.int j3)] [.int j3]
  refine ⟨by decide, A2.at (3 : Int32) 3 rfl rfl, fun T13 X13 eh13 => ?_⟩
  suffices tl14 : ∀ (r4 : Int32) (_ : own_cnt [c4, c5] r4 = own_cnt [c0, c1, c2, c3, c4, c5] 0), own_Aft X13 h0 Q 57 [u0, u1, u2, u3, u4, u5, .val (.int r4), .val (.ref ja), .val (.int (6 : Int32)), .val (.int (4 : Int32)), .val (.int j3)] [] by
    by_cases hy : 0 < j3.toInt
    · skip
      have hb := hc3.mp hy
      subst hb
      show own_Go p.tables e below _ (T13.setTop (mkF m 73 (Array.mk [u0, u1, u2, u3, u4, u5, .val (.int r3), .val (.ref ja), .val (.int (6 : Int32)), .val (.int (3 : Int32)), .val (.int j3)]) [.int j3]))
      refine own_blk dec3 seq3 hby hx hZ hown hK hF 4 [false] [] X13 eh13 ?_
      show (¬ ((j3).toInt ≤ 0)) ∧ own_Aft X13 h0 _ 57 [u0, u1, u2, u3, u4, u5, .val (.int (r3 + (1 : Int32))), .val (.ref ja), .val (.int (6 : Int32)), .val (.int (4 : Int32)), .val (.int j3)] []
      refine ⟨by omega, fun T15 X15 eh15 => ?_⟩
      exact tl14 _ C3 T15 X15 eh15
    · skip
      have hb : c3 = false := Bool.eq_false_iff.mpr (fun q => hy (hc3.mpr q))
      subst hb
      refine own_blk dec3 seq3 hby hx hZ hown hK hF 3 [true] [] X13 eh13 ?_
      show ((j3).toInt ≤ 0) ∧ own_Aft X13 h0 _ 57 [u0, u1, u2, u3, u4, u5, .val (.int r3), .val (.ref ja), .val (.int (6 : Int32)), .val (.int (4 : Int32)), .val (.int j3)] []
      refine ⟨by omega, fun T16 X16 eh16 => ?_⟩
      exact tl14 _ C3 T16 X16 eh16
  intro r4 C4 T14 X14 eh14
  refine own_blk dec3 seq3 hby hx hZ hown hK hF 8 [false] [.int j4] X14 eh14 ?_
  show (¬ (((6 : Int32)).toInt ≤ ((4 : Int32)).toInt)) ∧ (own_at Z h0 ja .int (4 : Int32) (.int j4)) ∧ own_Aft X14 h0 _ 73 [u0, u1, u2, u3, u4, u5, .val (.int r4), .val (.ref ja), .val (.int (6 : Int32)), .val (.int (4 : Int32)), .val (.int j4)] [.int j4]
  refine ⟨by decide, A2.at (4 : Int32) 4 rfl rfl, fun T17 X17 eh17 => ?_⟩
  suffices tl18 : ∀ (r5 : Int32) (_ : own_cnt [c5] r5 = own_cnt [c0, c1, c2, c3, c4, c5] 0), own_Aft X17 h0 Q 57 [u0, u1, u2, u3, u4, u5, .val (.int r5), .val (.ref ja), .val (.int (6 : Int32)), .val (.int (5 : Int32)), .val (.int j4)] [] by
    by_cases hy : 0 < j4.toInt
    · skip
      have hb := hc4.mp hy
      subst hb
      show own_Go p.tables e below _ (T17.setTop (mkF m 73 (Array.mk [u0, u1, u2, u3, u4, u5, .val (.int r4), .val (.ref ja), .val (.int (6 : Int32)), .val (.int (4 : Int32)), .val (.int j4)]) [.int j4]))
      refine own_blk dec3 seq3 hby hx hZ hown hK hF 4 [false] [] X17 eh17 ?_
      show (¬ ((j4).toInt ≤ 0)) ∧ own_Aft X17 h0 _ 57 [u0, u1, u2, u3, u4, u5, .val (.int (r4 + (1 : Int32))), .val (.ref ja), .val (.int (6 : Int32)), .val (.int (5 : Int32)), .val (.int j4)] []
      refine ⟨by omega, fun T19 X19 eh19 => ?_⟩
      exact tl18 _ C4 T19 X19 eh19
    · skip
      have hb : c4 = false := Bool.eq_false_iff.mpr (fun q => hy (hc4.mpr q))
      subst hb
      refine own_blk dec3 seq3 hby hx hZ hown hK hF 3 [true] [] X17 eh17 ?_
      show ((j4).toInt ≤ 0) ∧ own_Aft X17 h0 _ 57 [u0, u1, u2, u3, u4, u5, .val (.int r4), .val (.ref ja), .val (.int (6 : Int32)), .val (.int (5 : Int32)), .val (.int j4)] []
      refine ⟨by omega, fun T20 X20 eh20 => ?_⟩
      exact tl18 _ C4 T20 X20 eh20
  intro r5 C5 T18 X18 eh18
  refine own_blk dec3 seq3 hby hx hZ hown hK hF 8 [false] [.int j5] X18 eh18 ?_
  show (¬ (((6 : Int32)).toInt ≤ ((5 : Int32)).toInt)) ∧ (own_at Z h0 ja .int (5 : Int32) (.int j5)) ∧ own_Aft X18 h0 _ 73 [u0, u1, u2, u3, u4, u5, .val (.int r5), .val (.ref ja), .val (.int (6 : Int32)), .val (.int (5 : Int32)), .val (.int j5)] [.int j5]
  refine ⟨by decide, A2.at (5 : Int32) 5 rfl rfl, fun T21 X21 eh21 => ?_⟩
  suffices tl22 : ∀ (r6 : Int32) (_ : own_cnt [] r6 = own_cnt [c0, c1, c2, c3, c4, c5] 0), own_Aft X21 h0 Q 57 [u0, u1, u2, u3, u4, u5, .val (.int r6), .val (.ref ja), .val (.int (6 : Int32)), .val (.int (6 : Int32)), .val (.int j5)] [] by
    by_cases hy : 0 < j5.toInt
    · skip
      have hb := hc5.mp hy
      subst hb
      show own_Go p.tables e below _ (T21.setTop (mkF m 73 (Array.mk [u0, u1, u2, u3, u4, u5, .val (.int r5), .val (.ref ja), .val (.int (6 : Int32)), .val (.int (5 : Int32)), .val (.int j5)]) [.int j5]))
      refine own_blk dec3 seq3 hby hx hZ hown hK hF 4 [false] [] X21 eh21 ?_
      show (¬ ((j5).toInt ≤ 0)) ∧ own_Aft X21 h0 _ 57 [u0, u1, u2, u3, u4, u5, .val (.int (r5 + (1 : Int32))), .val (.ref ja), .val (.int (6 : Int32)), .val (.int (6 : Int32)), .val (.int j5)] []
      refine ⟨by omega, fun T23 X23 eh23 => ?_⟩
      exact tl22 _ C5 T23 X23 eh23
    · skip
      have hb : c5 = false := Bool.eq_false_iff.mpr (fun q => hy (hc5.mpr q))
      subst hb
      refine own_blk dec3 seq3 hby hx hZ hown hK hF 3 [true] [] X21 eh21 ?_
      show ((j5).toInt ≤ 0) ∧ own_Aft X21 h0 _ 57 [u0, u1, u2, u3, u4, u5, .val (.int r5), .val (.ref ja), .val (.int (6 : Int32)), .val (.int (6 : Int32)), .val (.int j5)] []
      refine ⟨by omega, fun T24 X24 eh24 => ?_⟩
      exact tl22 _ C5 T24 X24 eh24
  intro r6 C6 T22 X22 eh22
  refine own_blk dec3 seq3 hby hx hZ hown hK hF 3 [true] [] X22 eh22 ?_
  show (((6 : Int32)).toInt ≤ ((6 : Int32)).toInt) ∧ own_Aft X22 h0 _ 85 [u0, u1, u2, u3, u4, u5, .val (.int r6), .val (.ref ja), .val (.int (6 : Int32)), .val (.int (6 : Int32)), .val (.int j5)] []
  refine ⟨by decide, fun T25 X25 eh25 => ?_⟩
  exact kk _ _ C6.symm T25 X25 eh25
set_option maxRecDepth 65536 in
set_option maxHeartbeats 40000000 in
theorem ptB_7 {p : Program} {l : Launch} {e : Env} {R : Room} {s : State} {m : MethodId} {args : Array Value} {below : List Frame} {meth : Method} {c : Code} {T0 : State} {locs : List Loc} {cells slots : Nat} {Z : State} {a0 : Array Value} {h0 : Heap} {Q : Outcome → State → Prop} (X0 : Stand p l e R s m args below meth c T0 locs cells slots) (hx : p.tables.exec = Jvm.exec) (hby : c.code = prog_7_method_3_code) (hml : c.maxLocals = 11) (hown : s.vm.findClass "com/example/weigh/weigh/eval/AveragePrecision" = some m.cls) (hZ : Z.Warmed39 s.vm) (hK : own_ks "com/example/weigh/weigh/eval/AveragePrecision" a0 Z kt3) (hF : own_fs "com/example/weigh/weigh/eval/AveragePrecision" a0 Z ft3) (e0 : T0.heap = h0) (u0 u1 u2 u3 u4 u5 : Slot) (ja : Addr) (j0 j1 j2 j3 j4 j5 j6 : Int32) (c0 c1 c2 c3 c4 c5 c6 : Bool) (A2 : own_A Z h0 ja .int [.int j0, .int j1, .int j2, .int j3, .int j4, .int j5, .int j6]) (hc0 : 0 < j0.toInt ↔ c0 = true) (hc1 : 0 < j1.toInt ↔ c1 = true) (hc2 : 0 < j2.toInt ↔ c2 = true) (hc3 : 0 < j3.toInt ↔ c3 = true) (hc4 : 0 < j4.toInt ↔ c4 = true) (hc5 : 0 < j5.toInt ↔ c5 = true) (hc6 : 0 < j6.toInt ↔ c6 = true)
    (kk : ∀ (r : Int32) (u10 : Slot) (_ : own_cnt [c0, c1, c2, c3, c4, c5, c6] 0 = r), own_Aft X0 h0 Q 85 [u0, u1, u2, u3, u4, u5, .val (.int r), .val (.ref ja), .val (.int (7 : Int32)), .val (.int (7 : Int32)), u10] []) : own_Go p.tables e below Q (T0.setTop (mkF m 57 (Array.mk [u0, u1, u2, u3, u4, u5, .val (.int (0 : Int32)), .val (.ref ja), .val (.int (7 : Int32)), .val (.int (0 : Int32)), .unset]) [])) := by
  have C0 : own_cnt [c0, c1, c2, c3, c4, c5, c6] 0 = own_cnt [c0, c1, c2, c3, c4, c5, c6] 0 := rfl
  refine own_blk dec3 seq3 hby hx hZ hown hK hF 8 [false] [.int j0] X0 e0 ?_
  show (¬ (((7 : Int32)).toInt ≤ ((0 : Int32)).toInt)) ∧ (own_at Z h0 ja .int (0 : Int32) (.int j0)) ∧ own_Aft X0 h0 _ 73 [u0, u1, u2, u3, u4, u5, .val (.int (0 : Int32)), .val (.ref ja), .val (.int (7 : Int32)), .val (.int (0 : Int32)), .val (.int j0)] [.int j0]
  refine ⟨by decide, A2.at (0 : Int32) 0 rfl rfl, fun T1 X1 eh1 => ?_⟩
  suffices tl2 : ∀ (r1 : Int32) (_ : own_cnt [c1, c2, c3, c4, c5, c6] r1 = own_cnt [c0, c1, c2, c3, c4, c5, c6] 0), own_Aft X1 h0 Q 57 [u0, u1, u2, u3, u4, u5, .val (.int r1), .val (.ref ja), .val (.int (7 : Int32)), .val (.int (1 : Int32)), .val (.int j0)] [] by
    by_cases hy : 0 < j0.toInt
    · skip
      have hb := hc0.mp hy
      subst hb
      show own_Go p.tables e below _ (T1.setTop (mkF m 73 (Array.mk [u0, u1, u2, u3, u4, u5, .val (.int (0 : Int32)), .val (.ref ja), .val (.int (7 : Int32)), .val (.int (0 : Int32)), .val (.int j0)]) [.int j0]))
      refine own_blk dec3 seq3 hby hx hZ hown hK hF 4 [false] [] X1 eh1 ?_
      show (¬ ((j0).toInt ≤ 0)) ∧ own_Aft X1 h0 _ 57 [u0, u1, u2, u3, u4, u5, .val (.int ((0 : Int32) + (1 : Int32))), .val (.ref ja), .val (.int (7 : Int32)), .val (.int (1 : Int32)), .val (.int j0)] []
      refine ⟨by omega, fun T3 X3 eh3 => ?_⟩
      exact tl2 _ C0 T3 X3 eh3
    · skip
      have hb : c0 = false := Bool.eq_false_iff.mpr (fun q => hy (hc0.mpr q))
      subst hb
      refine own_blk dec3 seq3 hby hx hZ hown hK hF 3 [true] [] X1 eh1 ?_
      show ((j0).toInt ≤ 0) ∧ own_Aft X1 h0 _ 57 [u0, u1, u2, u3, u4, u5, .val (.int (0 : Int32)), .val (.ref ja), .val (.int (7 : Int32)), .val (.int (1 : Int32)), .val (.int j0)] []
      refine ⟨by omega, fun T4 X4 eh4 => ?_⟩
      exact tl2 _ C0 T4 X4 eh4
  intro r1 C1 T2 X2 eh2
  refine own_blk dec3 seq3 hby hx hZ hown hK hF 8 [false] [.int j1] X2 eh2 ?_
  show (¬ (((7 : Int32)).toInt ≤ ((1 : Int32)).toInt)) ∧ (own_at Z h0 ja .int (1 : Int32) (.int j1)) ∧ own_Aft X2 h0 _ 73 [u0, u1, u2, u3, u4, u5, .val (.int r1), .val (.ref ja), .val (.int (7 : Int32)), .val (.int (1 : Int32)), .val (.int j1)] [.int j1]
  refine ⟨by decide, A2.at (1 : Int32) 1 rfl rfl, fun T5 X5 eh5 => ?_⟩
  suffices tl6 : ∀ (r2 : Int32) (_ : own_cnt [c2, c3, c4, c5, c6] r2 = own_cnt [c0, c1, c2, c3, c4, c5, c6] 0), own_Aft X5 h0 Q 57 [u0, u1, u2, u3, u4, u5, .val (.int r2), .val (.ref ja), .val (.int (7 : Int32)), .val (.int (2 : Int32)), .val (.int j1)] [] by
    by_cases hy : 0 < j1.toInt
    · skip
      have hb := hc1.mp hy
      subst hb
      show own_Go p.tables e below _ (T5.setTop (mkF m 73 (Array.mk [u0, u1, u2, u3, u4, u5, .val (.int r1), .val (.ref ja), .val (.int (7 : Int32)), .val (.int (1 : Int32)), .val (.int j1)]) [.int j1]))
      refine own_blk dec3 seq3 hby hx hZ hown hK hF 4 [false] [] X5 eh5 ?_
      show (¬ ((j1).toInt ≤ 0)) ∧ own_Aft X5 h0 _ 57 [u0, u1, u2, u3, u4, u5, .val (.int (r1 + (1 : Int32))), .val (.ref ja), .val (.int (7 : Int32)), .val (.int (2 : Int32)), .val (.int j1)] []
      refine ⟨by omega, fun T7 X7 eh7 => ?_⟩
      exact tl6 _ C1 T7 X7 eh7
    · skip
      have hb : c1 = false := Bool.eq_false_iff.mpr (fun q => hy (hc1.mpr q))
      subst hb
      refine own_blk dec3 seq3 hby hx hZ hown hK hF 3 [true] [] X5 eh5 ?_
      show ((j1).toInt ≤ 0) ∧ own_Aft X5 h0 _ 57 [u0, u1, u2, u3, u4, u5, .val (.int r1), .val (.ref ja), .val (.int (7 : Int32)), .val (.int (2 : Int32)), .val (.int j1)] []
      refine ⟨by omega, fun T8 X8 eh8 => ?_⟩
      exact tl6 _ C1 T8 X8 eh8
  intro r2 C2 T6 X6 eh6
  refine own_blk dec3 seq3 hby hx hZ hown hK hF 8 [false] [.int j2] X6 eh6 ?_
  show (¬ (((7 : Int32)).toInt ≤ ((2 : Int32)).toInt)) ∧ (own_at Z h0 ja .int (2 : Int32) (.int j2)) ∧ own_Aft X6 h0 _ 73 [u0, u1, u2, u3, u4, u5, .val (.int r2), .val (.ref ja), .val (.int (7 : Int32)), .val (.int (2 : Int32)), .val (.int j2)] [.int j2]
  refine ⟨by decide, A2.at (2 : Int32) 2 rfl rfl, fun T9 X9 eh9 => ?_⟩
  suffices tl10 : ∀ (r3 : Int32) (_ : own_cnt [c3, c4, c5, c6] r3 = own_cnt [c0, c1, c2, c3, c4, c5, c6] 0), own_Aft X9 h0 Q 57 [u0, u1, u2, u3, u4, u5, .val (.int r3), .val (.ref ja), .val (.int (7 : Int32)), .val (.int (3 : Int32)), .val (.int j2)] [] by
    by_cases hy : 0 < j2.toInt
    · skip
      have hb := hc2.mp hy
      subst hb
      show own_Go p.tables e below _ (T9.setTop (mkF m 73 (Array.mk [u0, u1, u2, u3, u4, u5, .val (.int r2), .val (.ref ja), .val (.int (7 : Int32)), .val (.int (2 : Int32)), .val (.int j2)]) [.int j2]))
      refine own_blk dec3 seq3 hby hx hZ hown hK hF 4 [false] [] X9 eh9 ?_
      show (¬ ((j2).toInt ≤ 0)) ∧ own_Aft X9 h0 _ 57 [u0, u1, u2, u3, u4, u5, .val (.int (r2 + (1 : Int32))), .val (.ref ja), .val (.int (7 : Int32)), .val (.int (3 : Int32)), .val (.int j2)] []
      refine ⟨by omega, fun T11 X11 eh11 => ?_⟩
      exact tl10 _ C2 T11 X11 eh11
    · skip
      have hb : c2 = false := Bool.eq_false_iff.mpr (fun q => hy (hc2.mpr q))
      subst hb
      refine own_blk dec3 seq3 hby hx hZ hown hK hF 3 [true] [] X9 eh9 ?_
      show ((j2).toInt ≤ 0) ∧ own_Aft X9 h0 _ 57 [u0, u1, u2, u3, u4, u5, .val (.int r2), .val (.ref ja), .val (.int (7 : Int32)), .val (.int (3 : Int32)), .val (.int j2)] []
      refine ⟨by omega, fun T12 X12 eh12 => ?_⟩
      exact tl10 _ C2 T12 X12 eh12
  intro r3 C3 T10 X10 eh10
  refine own_blk dec3 seq3 hby hx hZ hown hK hF 8 [false] [.int j3] X10 eh10 ?_
  show (¬ (((7 : Int32)).toInt ≤ ((3 : Int32)).toInt)) ∧ (own_at Z h0 ja .int (3 : Int32) (.int j3)) ∧ own_Aft X10 h0 _ 73 [u0, u1, u2, u3, u4, u5, .val (.int r3), .val (.ref ja), .val (.int (7 : Int32)), .val (.int (3 : Int32)), .val (.int j3)] [.int j3]
  refine ⟨by decide, A2.at (3 : Int32) 3 rfl rfl, fun T13 X13 eh13 => ?_⟩
  suffices tl14 : ∀ (r4 : Int32) (_ : own_cnt [c4, c5, c6] r4 = own_cnt [c0, c1, c2, c3, c4, c5, c6] 0), own_Aft X13 h0 Q 57 [u0, u1, u2, u3, u4, u5, .val (.int r4), .val (.ref ja), .val (.int (7 : Int32)), .val (.int (4 : Int32)), .val (.int j3)] [] by
    by_cases hy : 0 < j3.toInt
    · skip
      have hb := hc3.mp hy
      subst hb
      show own_Go p.tables e below _ (T13.setTop (mkF m 73 (Array.mk [u0, u1, u2, u3, u4, u5, .val (.int r3), .val (.ref ja), .val (.int (7 : Int32)), .val (.int (3 : Int32)), .val (.int j3)]) [.int j3]))
      refine own_blk dec3 seq3 hby hx hZ hown hK hF 4 [false] [] X13 eh13 ?_
      show (¬ ((j3).toInt ≤ 0)) ∧ own_Aft X13 h0 _ 57 [u0, u1, u2, u3, u4, u5, .val (.int (r3 + (1 : Int32))), .val (.ref ja), .val (.int (7 : Int32)), .val (.int (4 : Int32)), .val (.int j3)] []
      refine ⟨by omega, fun T15 X15 eh15 => ?_⟩
      exact tl14 _ C3 T15 X15 eh15
    · skip
      have hb : c3 = false := Bool.eq_false_iff.mpr (fun q => hy (hc3.mpr q))
      subst hb
      refine own_blk dec3 seq3 hby hx hZ hown hK hF 3 [true] [] X13 eh13 ?_
      show ((j3).toInt ≤ 0) ∧ own_Aft X13 h0 _ 57 [u0, u1, u2, u3, u4, u5, .val (.int r3), .val (.ref ja), .val (.int (7 : Int32)), .val (.int (4 : Int32)), .val (.int j3)] []
      refine ⟨by omega, fun T16 X16 eh16 => ?_⟩
      exact tl14 _ C3 T16 X16 eh16
  intro r4 C4 T14 X14 eh14
  refine own_blk dec3 seq3 hby hx hZ hown hK hF 8 [false] [.int j4] X14 eh14 ?_
  show (¬ (((7 : Int32)).toInt ≤ ((4 : Int32)).toInt)) ∧ (own_at Z h0 ja .int (4 : Int32) (.int j4)) ∧ own_Aft X14 h0 _ 73 [u0, u1, u2, u3, u4, u5, .val (.int r4), .val (.ref ja), .val (.int (7 : Int32)), .val (.int (4 : Int32)), .val (.int j4)] [.int j4]
  refine ⟨by decide, A2.at (4 : Int32) 4 rfl rfl, fun T17 X17 eh17 => ?_⟩
  suffices tl18 : ∀ (r5 : Int32) (_ : own_cnt [c5, c6] r5 = own_cnt [c0, c1, c2, c3, c4, c5, c6] 0), own_Aft X17 h0 Q 57 [u0, u1, u2, u3, u4, u5, .val (.int r5), .val (.ref ja), .val (.int (7 : Int32)), .val (.int (5 : Int32)), .val (.int j4)] [] by
    by_cases hy : 0 < j4.toInt
    · skip
      have hb := hc4.mp hy
      subst hb
      show own_Go p.tables e below _ (T17.setTop (mkF m 73 (Array.mk [u0, u1, u2, u3, u4, u5, .val (.int r4), .val (.ref ja), .val (.int (7 : Int32)), .val (.int (4 : Int32)), .val (.int j4)]) [.int j4]))
      refine own_blk dec3 seq3 hby hx hZ hown hK hF 4 [false] [] X17 eh17 ?_
      show (¬ ((j4).toInt ≤ 0)) ∧ own_Aft X17 h0 _ 57 [u0, u1, u2, u3, u4, u5, .val (.int (r4 + (1 : Int32))), .val (.ref ja), .val (.int (7 : Int32)), .val (.int (5 : Int32)), .val (.int j4)] []
      refine ⟨by omega, fun T19 X19 eh19 => ?_⟩
      exact tl18 _ C4 T19 X19 eh19
    · skip
      have hb : c4 = false := Bool.eq_false_iff.mpr (fun q => hy (hc4.mpr q))
      subst hb
      refine own_blk dec3 seq3 hby hx hZ hown hK hF 3 [true] [] X17 eh17 ?_
      show ((j4).toInt ≤ 0) ∧ own_Aft X17 h0 _ 57 [u0, u1, u2, u3, u4, u5, .val (.int r4), .val (.ref ja), .val (.int (7 : Int32)), .val (.int (5 : Int32)), .val (.int j4)] []
      refine ⟨by omega, fun T20 X20 eh20 => ?_⟩
      exact tl18 _ C4 T20 X20 eh20
  intro r5 C5 T18 X18 eh18
  refine own_blk dec3 seq3 hby hx hZ hown hK hF 8 [false] [.int j5] X18 eh18 ?_
  show (¬ (((7 : Int32)).toInt ≤ ((5 : Int32)).toInt)) ∧ (own_at Z h0 ja .int (5 : Int32) (.int j5)) ∧ own_Aft X18 h0 _ 73 [u0, u1, u2, u3, u4, u5, .val (.int r5), .val (.ref ja), .val (.int (7 : Int32)), .val (.int (5 : Int32)), .val (.int j5)] [.int j5]
  refine ⟨by decide, A2.at (5 : Int32) 5 rfl rfl, fun T21 X21 eh21 => ?_⟩
  suffices tl22 : ∀ (r6 : Int32) (_ : own_cnt [c6] r6 = own_cnt [c0, c1, c2, c3, c4, c5, c6] 0), own_Aft X21 h0 Q 57 [u0, u1, u2, u3, u4, u5, .val (.int r6), .val (.ref ja), .val (.int (7 : Int32)), .val (.int (6 : Int32)), .val (.int j5)] [] by
    by_cases hy : 0 < j5.toInt
    · skip
      have hb := hc5.mp hy
      subst hb
      show own_Go p.tables e below _ (T21.setTop (mkF m 73 (Array.mk [u0, u1, u2, u3, u4, u5, .val (.int r5), .val (.ref ja), .val (.int (7 : Int32)), .val (.int (5 : Int32)), .val (.int j5)]) [.int j5]))
      refine own_blk dec3 seq3 hby hx hZ hown hK hF 4 [false] [] X21 eh21 ?_
      show (¬ ((j5).toInt ≤ 0)) ∧ own_Aft X21 h0 _ 57 [u0, u1, u2, u3, u4, u5, .val (.int (r5 + (1 : Int32))), .val (.ref ja), .val (.int (7 : Int32)), .val (.int (6 : Int32)), .val (.int j5)] []
      refine ⟨by omega, fun T23 X23 eh23 => ?_⟩
      exact tl22 _ C5 T23 X23 eh23
    · skip
      have hb : c5 = false := Bool.eq_false_iff.mpr (fun q => hy (hc5.mpr q))
      subst hb
      refine own_blk dec3 seq3 hby hx hZ hown hK hF 3 [true] [] X21 eh21 ?_
      show ((j5).toInt ≤ 0) ∧ own_Aft X21 h0 _ 57 [u0, u1, u2, u3, u4, u5, .val (.int r5), .val (.ref ja), .val (.int (7 : Int32)), .val (.int (6 : Int32)), .val (.int j5)] []
      refine ⟨by omega, fun T24 X24 eh24 => ?_⟩
      exact tl22 _ C5 T24 X24 eh24
  intro r6 C6 T22 X22 eh22
  refine own_blk dec3 seq3 hby hx hZ hown hK hF 8 [false] [.int j6] X22 eh22 ?_
  show (¬ (((7 : Int32)).toInt ≤ ((6 : Int32)).toInt)) ∧ (own_at Z h0 ja .int (6 : Int32) (.int j6)) ∧ own_Aft X22 h0 _ 73 [u0, u1, u2, u3, u4, u5, .val (.int r6), .val (.ref ja), .val (.int (7 : Int32)), .val (.int (6 : Int32)), .val (.int j6)] [.int j6]
  refine ⟨by decide, A2.at (6 : Int32) 6 rfl rfl, fun T25 X25 eh25 => ?_⟩
  suffices tl26 : ∀ (r7 : Int32) (_ : own_cnt [] r7 = own_cnt [c0, c1, c2, c3, c4, c5, c6] 0), own_Aft X25 h0 Q 57 [u0, u1, u2, u3, u4, u5, .val (.int r7), .val (.ref ja), .val (.int (7 : Int32)), .val (.int (7 : Int32)), .val (.int j6)] [] by
    by_cases hy : 0 < j6.toInt
    · skip
      have hb := hc6.mp hy
      subst hb
      show own_Go p.tables e below _ (T25.setTop (mkF m 73 (Array.mk [u0, u1, u2, u3, u4, u5, .val (.int r6), .val (.ref ja), .val (.int (7 : Int32)), .val (.int (6 : Int32)), .val (.int j6)]) [.int j6]))
      refine own_blk dec3 seq3 hby hx hZ hown hK hF 4 [false] [] X25 eh25 ?_
      show (¬ ((j6).toInt ≤ 0)) ∧ own_Aft X25 h0 _ 57 [u0, u1, u2, u3, u4, u5, .val (.int (r6 + (1 : Int32))), .val (.ref ja), .val (.int (7 : Int32)), .val (.int (7 : Int32)), .val (.int j6)] []
      refine ⟨by omega, fun T27 X27 eh27 => ?_⟩
      exact tl26 _ C6 T27 X27 eh27
    · skip
      have hb : c6 = false := Bool.eq_false_iff.mpr (fun q => hy (hc6.mpr q))
      subst hb
      refine own_blk dec3 seq3 hby hx hZ hown hK hF 3 [true] [] X25 eh25 ?_
      show ((j6).toInt ≤ 0) ∧ own_Aft X25 h0 _ 57 [u0, u1, u2, u3, u4, u5, .val (.int r6), .val (.ref ja), .val (.int (7 : Int32)), .val (.int (7 : Int32)), .val (.int j6)] []
      refine ⟨by omega, fun T28 X28 eh28 => ?_⟩
      exact tl26 _ C6 T28 X28 eh28
  intro r7 C7 T26 X26 eh26
  refine own_blk dec3 seq3 hby hx hZ hown hK hF 3 [true] [] X26 eh26 ?_
  show (((7 : Int32)).toInt ≤ ((7 : Int32)).toInt) ∧ own_Aft X26 h0 _ 85 [u0, u1, u2, u3, u4, u5, .val (.int r7), .val (.ref ja), .val (.int (7 : Int32)), .val (.int (7 : Int32)), .val (.int j6)] []
  refine ⟨by decide, fun T29 X29 eh29 => ?_⟩
  exact kk _ _ C7.symm T29 X29 eh29
set_option maxRecDepth 65536 in
set_option maxHeartbeats 40000000 in
theorem rm3_0_0 (l : Launch) (Z : State) (a0 : Array Value) (hw : ∀ d ∈ tables_1, d.before a0 Z = true) (ws : List Jvm.Cond) (a ra ja : Addr) (h0 : Heap) (n0 : Nat) (Z0 : n0 ≤ h0.size) (A1 : own_A Z h0 ra .int []) (A2 : own_A Z h0 ja .int []) (hok : own_rok [] [] = true) :
    MetFree l (⟨"com/example/weigh/weigh/eval/AveragePrecision", "score", "([I[I)D"⟩ : MethodName) (head1 (Jvm.Cond.code (⟨"com/example/weigh/weigh/eval/AveragePrecision", "score", "([I[I)D"⟩ : MethodName) prog_7_method_3_code 11 (some .double) :: ws) ({ frames := 0, cells := 0, slots := 0, locals := 0 } : Room)) (fun as_ U => as_ = #[.ref a, .ref ra, .ref ja] ∧ Z.Warmed39 U.vm ∧ U.heap = h0) (fun _ _ _ _ _ => True) (fun _ U o U' => own_Fin U ({ frames := 0, cells := 0, slots := 0, locals := 0 } : Room).cells ({ frames := 0, cells := 0, slots := 0, locals := 0 } : Room).slots (fun v h L => v = some (.double (own_res [] [])) ∧ Fr n0 L ∧ h = h0) o U') := by
  refine own_body (plainFor_of_name pn3) (ls0 := [.val (.ref a), .val (.ref ra), .val (.ref ja), .unset, .unset, .unset, .unset, .unset, .unset, .unset, .unset]) (fun m => by first | (simp [entryFrame, mkF, argsToLocals, Value.category, maxLocals]; done) | rfl) ?_
  intro p e s m below meth c T0 hx hby hml hown hnm hlk hret hZ X0 e0
  have hK : own_ks "com/example/weigh/weigh/eval/AveragePrecision" a0 Z kt3 := trivial
  have hF : own_fs "com/example/weigh/weigh/eval/AveragePrecision" a0 Z ft3 := trivial
  have N0 := Fr.nil n0
  obtain ⟨ho, hfin⟩ := Bool.and_eq_true_iff.mp hok
  refine own_blk dec3 seq3 hby hx hZ hown hK hF 6 [] [] X0 e0 ?_
  show own_Aft X0 h0 _ 8 [.val (.ref a), .val (.ref ra), .val (.ref ja), .val (.double 0), .second, .val (.int (0 : Int32)), .val (.int (1 : Int32)), .unset, .unset, .unset, .unset] []
  refine fun T1 X1 eh1 => ?_
  refine ptA_0 X1 hx hby hml hown hZ hK hF eh1 _ _ _ _ _ _ ra  A1  ho (fun f0 s0 HF T2 X2 eh2 => ?_)
  show own_Go p.tables e below _ (T2.setTop (mkF m 43 (Array.mk [.val (.ref a), .val (.ref ra), .val (.ref ja), .val (.double s0), .second, .val (.int f0), .val (.int (1 : Int32)), .unset, .unset, .unset, .unset]) []))
  refine own_blk dec3 seq3 hby hx hZ hown hK hF 9 [] [.int (0 : Int32)] X2 eh2 ?_
  show (own_ln Z h0 ja (0 : Int32)) ∧ own_Aft X2 h0 _ 57 [.val (.ref a), .val (.ref ra), .val (.ref ja), .val (.double s0), .second, .val (.int f0), .val (.int (0 : Int32)), .val (.ref ja), .val (.int (0 : Int32)), .val (.int (0 : Int32)), .unset] []
  refine ⟨A2.ln (0 : Int32) rfl, fun T3 X3 eh3 => ?_⟩
  refine ptB_0 X3 hx hby hml hown hZ hK hF eh3 _ _ _ _ _ _ ja  A2  (fun rr u10 CF T4 X4 eh4 => ?_)
  show own_Go p.tables e below _ (T4.setTop (mkF m 85 (Array.mk [.val (.ref a), .val (.ref ra), .val (.ref ja), .val (.double s0), .second, .val (.int f0), .val (.int rr), .val (.ref ja), .val (.int (0 : Int32)), .val (.int (0 : Int32)), u10]) []))
  by_cases hf : f0.toInt = 0
  · skip
    have hz : own_res [] [] = 0 := by unfold own_res; rw [HF]; exact if_pos hf
    refine own_blk dec3 seq3 hby hx hZ hown hK hF 4 [false] [] X4 eh4 ?_
    show (¬ ((f0).toInt ≠ 0)) ∧ own_Aft X4 h0 _ 99 [.val (.ref a), .val (.ref ra), .val (.ref ja), .val (.double s0), .second, .val (.int f0), .val (.int rr), .val (.ref ja), .val (.int (0 : Int32)), .val (.int (0 : Int32)), u10] [.double 0]
    refine ⟨by omega, fun T5 X5 eh5 => ?_⟩
    exact own_ret X5 hx hlk eh5 hret (by first | rfl | decide) (Or.inr (Or.inr (Or.inl ⟨rfl, rfl, _, rfl⟩))) (hb hby d3_99) (by decide) (by decide) (⟨by rw [hz], N0, rfl⟩)
  · skip
    have hz : own_res [] [] = FP.ddiv s0 (FP.i2d rr) := by unfold own_res; rw [HF, CF]; exact if_neg hf
    have hn : own_nb (FP.ddiv s0 (FP.i2d rr)) = true := by rw [HF, CF] at hfin; rcases Bool.or_eq_true_iff.mp hfin with q | q; exact absurd (of_decide_eq_true q) hf; exact q
    refine own_blk dec3 seq3 hby hx hZ hown hK hF 6 [true] [] X4 eh4 ?_
    show ((f0).toInt ≠ 0) ∧ (Jvm.Free.Fl.NoNaN64 (FP.ddiv s0 (FP.i2d rr))) ∧ own_Aft X4 h0 _ 99 [.val (.ref a), .val (.ref ra), .val (.ref ja), .val (.double s0), .second, .val (.int f0), .val (.int rr), .val (.ref ja), .val (.int (0 : Int32)), .val (.int (0 : Int32)), u10] [.double (FP.ddiv s0 (FP.i2d rr))]
    refine ⟨by omega, own_nb_e hn, fun T6 X6 eh6 => ?_⟩
    exact own_ret X6 hx hlk eh6 hret (by first | rfl | decide) (Or.inr (Or.inr (Or.inl ⟨rfl, rfl, _, rfl⟩))) (hb hby d3_99) (by decide) (by decide) (⟨by rw [hz], N0, rfl⟩)
set_option maxRecDepth 65536 in
set_option maxHeartbeats 40000000 in
theorem rm3_0_1 (l : Launch) (Z : State) (a0 : Array Value) (hw : ∀ d ∈ tables_1, d.before a0 Z = true) (ws : List Jvm.Cond) (a ra ja : Addr) (j0 : Int32) (c0 : Bool) (h0 : Heap) (n0 : Nat) (Z0 : n0 ≤ h0.size) (A1 : own_A Z h0 ra .int []) (A2 : own_A Z h0 ja .int [.int j0]) (hc0 : 0 < j0.toInt ↔ c0 = true) (hok : own_rok [] [c0] = true) :
    MetFree l (⟨"com/example/weigh/weigh/eval/AveragePrecision", "score", "([I[I)D"⟩ : MethodName) (head1 (Jvm.Cond.code (⟨"com/example/weigh/weigh/eval/AveragePrecision", "score", "([I[I)D"⟩ : MethodName) prog_7_method_3_code 11 (some .double) :: ws) ({ frames := 0, cells := 0, slots := 0, locals := 0 } : Room)) (fun as_ U => as_ = #[.ref a, .ref ra, .ref ja] ∧ Z.Warmed39 U.vm ∧ U.heap = h0) (fun _ _ _ _ _ => True) (fun _ U o U' => own_Fin U ({ frames := 0, cells := 0, slots := 0, locals := 0 } : Room).cells ({ frames := 0, cells := 0, slots := 0, locals := 0 } : Room).slots (fun v h L => v = some (.double (own_res [] [c0])) ∧ Fr n0 L ∧ h = h0) o U') := by
  refine own_body (plainFor_of_name pn3) (ls0 := [.val (.ref a), .val (.ref ra), .val (.ref ja), .unset, .unset, .unset, .unset, .unset, .unset, .unset, .unset]) (fun m => by first | (simp [entryFrame, mkF, argsToLocals, Value.category, maxLocals]; done) | rfl) ?_
  intro p e s m below meth c T0 hx hby hml hown hnm hlk hret hZ X0 e0
  have hK : own_ks "com/example/weigh/weigh/eval/AveragePrecision" a0 Z kt3 := trivial
  have hF : own_fs "com/example/weigh/weigh/eval/AveragePrecision" a0 Z ft3 := trivial
  have N0 := Fr.nil n0
  obtain ⟨ho, hfin⟩ := Bool.and_eq_true_iff.mp hok
  refine own_blk dec3 seq3 hby hx hZ hown hK hF 6 [] [] X0 e0 ?_
  show own_Aft X0 h0 _ 8 [.val (.ref a), .val (.ref ra), .val (.ref ja), .val (.double 0), .second, .val (.int (0 : Int32)), .val (.int (1 : Int32)), .unset, .unset, .unset, .unset] []
  refine fun T1 X1 eh1 => ?_
  refine ptA_0 X1 hx hby hml hown hZ hK hF eh1 _ _ _ _ _ _ ra  A1  ho (fun f0 s0 HF T2 X2 eh2 => ?_)
  show own_Go p.tables e below _ (T2.setTop (mkF m 43 (Array.mk [.val (.ref a), .val (.ref ra), .val (.ref ja), .val (.double s0), .second, .val (.int f0), .val (.int (1 : Int32)), .unset, .unset, .unset, .unset]) []))
  refine own_blk dec3 seq3 hby hx hZ hown hK hF 9 [] [.int (1 : Int32)] X2 eh2 ?_
  show (own_ln Z h0 ja (1 : Int32)) ∧ own_Aft X2 h0 _ 57 [.val (.ref a), .val (.ref ra), .val (.ref ja), .val (.double s0), .second, .val (.int f0), .val (.int (0 : Int32)), .val (.ref ja), .val (.int (1 : Int32)), .val (.int (0 : Int32)), .unset] []
  refine ⟨A2.ln (1 : Int32) rfl, fun T3 X3 eh3 => ?_⟩
  refine ptB_1 X3 hx hby hml hown hZ hK hF eh3 _ _ _ _ _ _ ja j0 c0 A2 hc0 (fun rr u10 CF T4 X4 eh4 => ?_)
  show own_Go p.tables e below _ (T4.setTop (mkF m 85 (Array.mk [.val (.ref a), .val (.ref ra), .val (.ref ja), .val (.double s0), .second, .val (.int f0), .val (.int rr), .val (.ref ja), .val (.int (1 : Int32)), .val (.int (1 : Int32)), u10]) []))
  by_cases hf : f0.toInt = 0
  · skip
    have hz : own_res [] [c0] = 0 := by unfold own_res; rw [HF]; exact if_pos hf
    refine own_blk dec3 seq3 hby hx hZ hown hK hF 4 [false] [] X4 eh4 ?_
    show (¬ ((f0).toInt ≠ 0)) ∧ own_Aft X4 h0 _ 99 [.val (.ref a), .val (.ref ra), .val (.ref ja), .val (.double s0), .second, .val (.int f0), .val (.int rr), .val (.ref ja), .val (.int (1 : Int32)), .val (.int (1 : Int32)), u10] [.double 0]
    refine ⟨by omega, fun T5 X5 eh5 => ?_⟩
    exact own_ret X5 hx hlk eh5 hret (by first | rfl | decide) (Or.inr (Or.inr (Or.inl ⟨rfl, rfl, _, rfl⟩))) (hb hby d3_99) (by decide) (by decide) (⟨by rw [hz], N0, rfl⟩)
  · skip
    have hz : own_res [] [c0] = FP.ddiv s0 (FP.i2d rr) := by unfold own_res; rw [HF, CF]; exact if_neg hf
    have hn : own_nb (FP.ddiv s0 (FP.i2d rr)) = true := by rw [HF, CF] at hfin; rcases Bool.or_eq_true_iff.mp hfin with q | q; exact absurd (of_decide_eq_true q) hf; exact q
    refine own_blk dec3 seq3 hby hx hZ hown hK hF 6 [true] [] X4 eh4 ?_
    show ((f0).toInt ≠ 0) ∧ (Jvm.Free.Fl.NoNaN64 (FP.ddiv s0 (FP.i2d rr))) ∧ own_Aft X4 h0 _ 99 [.val (.ref a), .val (.ref ra), .val (.ref ja), .val (.double s0), .second, .val (.int f0), .val (.int rr), .val (.ref ja), .val (.int (1 : Int32)), .val (.int (1 : Int32)), u10] [.double (FP.ddiv s0 (FP.i2d rr))]
    refine ⟨by omega, own_nb_e hn, fun T6 X6 eh6 => ?_⟩
    exact own_ret X6 hx hlk eh6 hret (by first | rfl | decide) (Or.inr (Or.inr (Or.inl ⟨rfl, rfl, _, rfl⟩))) (hb hby d3_99) (by decide) (by decide) (⟨by rw [hz], N0, rfl⟩)
set_option maxRecDepth 65536 in
set_option maxHeartbeats 40000000 in
theorem rm3_0_2 (l : Launch) (Z : State) (a0 : Array Value) (hw : ∀ d ∈ tables_1, d.before a0 Z = true) (ws : List Jvm.Cond) (a ra ja : Addr) (j0 j1 : Int32) (c0 c1 : Bool) (h0 : Heap) (n0 : Nat) (Z0 : n0 ≤ h0.size) (A1 : own_A Z h0 ra .int []) (A2 : own_A Z h0 ja .int [.int j0, .int j1]) (hc0 : 0 < j0.toInt ↔ c0 = true) (hc1 : 0 < j1.toInt ↔ c1 = true) (hok : own_rok [] [c0, c1] = true) :
    MetFree l (⟨"com/example/weigh/weigh/eval/AveragePrecision", "score", "([I[I)D"⟩ : MethodName) (head1 (Jvm.Cond.code (⟨"com/example/weigh/weigh/eval/AveragePrecision", "score", "([I[I)D"⟩ : MethodName) prog_7_method_3_code 11 (some .double) :: ws) ({ frames := 0, cells := 0, slots := 0, locals := 0 } : Room)) (fun as_ U => as_ = #[.ref a, .ref ra, .ref ja] ∧ Z.Warmed39 U.vm ∧ U.heap = h0) (fun _ _ _ _ _ => True) (fun _ U o U' => own_Fin U ({ frames := 0, cells := 0, slots := 0, locals := 0 } : Room).cells ({ frames := 0, cells := 0, slots := 0, locals := 0 } : Room).slots (fun v h L => v = some (.double (own_res [] [c0, c1])) ∧ Fr n0 L ∧ h = h0) o U') := by
  refine own_body (plainFor_of_name pn3) (ls0 := [.val (.ref a), .val (.ref ra), .val (.ref ja), .unset, .unset, .unset, .unset, .unset, .unset, .unset, .unset]) (fun m => by first | (simp [entryFrame, mkF, argsToLocals, Value.category, maxLocals]; done) | rfl) ?_
  intro p e s m below meth c T0 hx hby hml hown hnm hlk hret hZ X0 e0
  have hK : own_ks "com/example/weigh/weigh/eval/AveragePrecision" a0 Z kt3 := trivial
  have hF : own_fs "com/example/weigh/weigh/eval/AveragePrecision" a0 Z ft3 := trivial
  have N0 := Fr.nil n0
  obtain ⟨ho, hfin⟩ := Bool.and_eq_true_iff.mp hok
  refine own_blk dec3 seq3 hby hx hZ hown hK hF 6 [] [] X0 e0 ?_
  show own_Aft X0 h0 _ 8 [.val (.ref a), .val (.ref ra), .val (.ref ja), .val (.double 0), .second, .val (.int (0 : Int32)), .val (.int (1 : Int32)), .unset, .unset, .unset, .unset] []
  refine fun T1 X1 eh1 => ?_
  refine ptA_0 X1 hx hby hml hown hZ hK hF eh1 _ _ _ _ _ _ ra  A1  ho (fun f0 s0 HF T2 X2 eh2 => ?_)
  show own_Go p.tables e below _ (T2.setTop (mkF m 43 (Array.mk [.val (.ref a), .val (.ref ra), .val (.ref ja), .val (.double s0), .second, .val (.int f0), .val (.int (1 : Int32)), .unset, .unset, .unset, .unset]) []))
  refine own_blk dec3 seq3 hby hx hZ hown hK hF 9 [] [.int (2 : Int32)] X2 eh2 ?_
  show (own_ln Z h0 ja (2 : Int32)) ∧ own_Aft X2 h0 _ 57 [.val (.ref a), .val (.ref ra), .val (.ref ja), .val (.double s0), .second, .val (.int f0), .val (.int (0 : Int32)), .val (.ref ja), .val (.int (2 : Int32)), .val (.int (0 : Int32)), .unset] []
  refine ⟨A2.ln (2 : Int32) rfl, fun T3 X3 eh3 => ?_⟩
  refine ptB_2 X3 hx hby hml hown hZ hK hF eh3 _ _ _ _ _ _ ja j0 j1 c0 c1 A2 hc0 hc1 (fun rr u10 CF T4 X4 eh4 => ?_)
  show own_Go p.tables e below _ (T4.setTop (mkF m 85 (Array.mk [.val (.ref a), .val (.ref ra), .val (.ref ja), .val (.double s0), .second, .val (.int f0), .val (.int rr), .val (.ref ja), .val (.int (2 : Int32)), .val (.int (2 : Int32)), u10]) []))
  by_cases hf : f0.toInt = 0
  · skip
    have hz : own_res [] [c0, c1] = 0 := by unfold own_res; rw [HF]; exact if_pos hf
    refine own_blk dec3 seq3 hby hx hZ hown hK hF 4 [false] [] X4 eh4 ?_
    show (¬ ((f0).toInt ≠ 0)) ∧ own_Aft X4 h0 _ 99 [.val (.ref a), .val (.ref ra), .val (.ref ja), .val (.double s0), .second, .val (.int f0), .val (.int rr), .val (.ref ja), .val (.int (2 : Int32)), .val (.int (2 : Int32)), u10] [.double 0]
    refine ⟨by omega, fun T5 X5 eh5 => ?_⟩
    exact own_ret X5 hx hlk eh5 hret (by first | rfl | decide) (Or.inr (Or.inr (Or.inl ⟨rfl, rfl, _, rfl⟩))) (hb hby d3_99) (by decide) (by decide) (⟨by rw [hz], N0, rfl⟩)
  · skip
    have hz : own_res [] [c0, c1] = FP.ddiv s0 (FP.i2d rr) := by unfold own_res; rw [HF, CF]; exact if_neg hf
    have hn : own_nb (FP.ddiv s0 (FP.i2d rr)) = true := by rw [HF, CF] at hfin; rcases Bool.or_eq_true_iff.mp hfin with q | q; exact absurd (of_decide_eq_true q) hf; exact q
    refine own_blk dec3 seq3 hby hx hZ hown hK hF 6 [true] [] X4 eh4 ?_
    show ((f0).toInt ≠ 0) ∧ (Jvm.Free.Fl.NoNaN64 (FP.ddiv s0 (FP.i2d rr))) ∧ own_Aft X4 h0 _ 99 [.val (.ref a), .val (.ref ra), .val (.ref ja), .val (.double s0), .second, .val (.int f0), .val (.int rr), .val (.ref ja), .val (.int (2 : Int32)), .val (.int (2 : Int32)), u10] [.double (FP.ddiv s0 (FP.i2d rr))]
    refine ⟨by omega, own_nb_e hn, fun T6 X6 eh6 => ?_⟩
    exact own_ret X6 hx hlk eh6 hret (by first | rfl | decide) (Or.inr (Or.inr (Or.inl ⟨rfl, rfl, _, rfl⟩))) (hb hby d3_99) (by decide) (by decide) (⟨by rw [hz], N0, rfl⟩)
set_option maxRecDepth 65536 in
set_option maxHeartbeats 40000000 in
theorem rm3_0_3 (l : Launch) (Z : State) (a0 : Array Value) (hw : ∀ d ∈ tables_1, d.before a0 Z = true) (ws : List Jvm.Cond) (a ra ja : Addr) (j0 j1 j2 : Int32) (c0 c1 c2 : Bool) (h0 : Heap) (n0 : Nat) (Z0 : n0 ≤ h0.size) (A1 : own_A Z h0 ra .int []) (A2 : own_A Z h0 ja .int [.int j0, .int j1, .int j2]) (hc0 : 0 < j0.toInt ↔ c0 = true) (hc1 : 0 < j1.toInt ↔ c1 = true) (hc2 : 0 < j2.toInt ↔ c2 = true) (hok : own_rok [] [c0, c1, c2] = true) :
    MetFree l (⟨"com/example/weigh/weigh/eval/AveragePrecision", "score", "([I[I)D"⟩ : MethodName) (head1 (Jvm.Cond.code (⟨"com/example/weigh/weigh/eval/AveragePrecision", "score", "([I[I)D"⟩ : MethodName) prog_7_method_3_code 11 (some .double) :: ws) ({ frames := 0, cells := 0, slots := 0, locals := 0 } : Room)) (fun as_ U => as_ = #[.ref a, .ref ra, .ref ja] ∧ Z.Warmed39 U.vm ∧ U.heap = h0) (fun _ _ _ _ _ => True) (fun _ U o U' => own_Fin U ({ frames := 0, cells := 0, slots := 0, locals := 0 } : Room).cells ({ frames := 0, cells := 0, slots := 0, locals := 0 } : Room).slots (fun v h L => v = some (.double (own_res [] [c0, c1, c2])) ∧ Fr n0 L ∧ h = h0) o U') := by
  refine own_body (plainFor_of_name pn3) (ls0 := [.val (.ref a), .val (.ref ra), .val (.ref ja), .unset, .unset, .unset, .unset, .unset, .unset, .unset, .unset]) (fun m => by first | (simp [entryFrame, mkF, argsToLocals, Value.category, maxLocals]; done) | rfl) ?_
  intro p e s m below meth c T0 hx hby hml hown hnm hlk hret hZ X0 e0
  have hK : own_ks "com/example/weigh/weigh/eval/AveragePrecision" a0 Z kt3 := trivial
  have hF : own_fs "com/example/weigh/weigh/eval/AveragePrecision" a0 Z ft3 := trivial
  have N0 := Fr.nil n0
  obtain ⟨ho, hfin⟩ := Bool.and_eq_true_iff.mp hok
  refine own_blk dec3 seq3 hby hx hZ hown hK hF 6 [] [] X0 e0 ?_
  show own_Aft X0 h0 _ 8 [.val (.ref a), .val (.ref ra), .val (.ref ja), .val (.double 0), .second, .val (.int (0 : Int32)), .val (.int (1 : Int32)), .unset, .unset, .unset, .unset] []
  refine fun T1 X1 eh1 => ?_
  refine ptA_0 X1 hx hby hml hown hZ hK hF eh1 _ _ _ _ _ _ ra  A1  ho (fun f0 s0 HF T2 X2 eh2 => ?_)
  show own_Go p.tables e below _ (T2.setTop (mkF m 43 (Array.mk [.val (.ref a), .val (.ref ra), .val (.ref ja), .val (.double s0), .second, .val (.int f0), .val (.int (1 : Int32)), .unset, .unset, .unset, .unset]) []))
  refine own_blk dec3 seq3 hby hx hZ hown hK hF 9 [] [.int (3 : Int32)] X2 eh2 ?_
  show (own_ln Z h0 ja (3 : Int32)) ∧ own_Aft X2 h0 _ 57 [.val (.ref a), .val (.ref ra), .val (.ref ja), .val (.double s0), .second, .val (.int f0), .val (.int (0 : Int32)), .val (.ref ja), .val (.int (3 : Int32)), .val (.int (0 : Int32)), .unset] []
  refine ⟨A2.ln (3 : Int32) rfl, fun T3 X3 eh3 => ?_⟩
  refine ptB_3 X3 hx hby hml hown hZ hK hF eh3 _ _ _ _ _ _ ja j0 j1 j2 c0 c1 c2 A2 hc0 hc1 hc2 (fun rr u10 CF T4 X4 eh4 => ?_)
  show own_Go p.tables e below _ (T4.setTop (mkF m 85 (Array.mk [.val (.ref a), .val (.ref ra), .val (.ref ja), .val (.double s0), .second, .val (.int f0), .val (.int rr), .val (.ref ja), .val (.int (3 : Int32)), .val (.int (3 : Int32)), u10]) []))
  by_cases hf : f0.toInt = 0
  · skip
    have hz : own_res [] [c0, c1, c2] = 0 := by unfold own_res; rw [HF]; exact if_pos hf
    refine own_blk dec3 seq3 hby hx hZ hown hK hF 4 [false] [] X4 eh4 ?_
    show (¬ ((f0).toInt ≠ 0)) ∧ own_Aft X4 h0 _ 99 [.val (.ref a), .val (.ref ra), .val (.ref ja), .val (.double s0), .second, .val (.int f0), .val (.int rr), .val (.ref ja), .val (.int (3 : Int32)), .val (.int (3 : Int32)), u10] [.double 0]
    refine ⟨by omega, fun T5 X5 eh5 => ?_⟩
    exact own_ret X5 hx hlk eh5 hret (by first | rfl | decide) (Or.inr (Or.inr (Or.inl ⟨rfl, rfl, _, rfl⟩))) (hb hby d3_99) (by decide) (by decide) (⟨by rw [hz], N0, rfl⟩)
  · skip
    have hz : own_res [] [c0, c1, c2] = FP.ddiv s0 (FP.i2d rr) := by unfold own_res; rw [HF, CF]; exact if_neg hf
    have hn : own_nb (FP.ddiv s0 (FP.i2d rr)) = true := by rw [HF, CF] at hfin; rcases Bool.or_eq_true_iff.mp hfin with q | q; exact absurd (of_decide_eq_true q) hf; exact q
    refine own_blk dec3 seq3 hby hx hZ hown hK hF 6 [true] [] X4 eh4 ?_
    show ((f0).toInt ≠ 0) ∧ (Jvm.Free.Fl.NoNaN64 (FP.ddiv s0 (FP.i2d rr))) ∧ own_Aft X4 h0 _ 99 [.val (.ref a), .val (.ref ra), .val (.ref ja), .val (.double s0), .second, .val (.int f0), .val (.int rr), .val (.ref ja), .val (.int (3 : Int32)), .val (.int (3 : Int32)), u10] [.double (FP.ddiv s0 (FP.i2d rr))]
    refine ⟨by omega, own_nb_e hn, fun T6 X6 eh6 => ?_⟩
    exact own_ret X6 hx hlk eh6 hret (by first | rfl | decide) (Or.inr (Or.inr (Or.inl ⟨rfl, rfl, _, rfl⟩))) (hb hby d3_99) (by decide) (by decide) (⟨by rw [hz], N0, rfl⟩)
set_option maxRecDepth 65536 in
set_option maxHeartbeats 40000000 in
theorem rm3_1_1 (l : Launch) (Z : State) (a0 : Array Value) (hw : ∀ d ∈ tables_1, d.before a0 Z = true) (ws : List Jvm.Cond) (a ra ja : Addr) (g0 j0 : Int32) (b0 c0 : Bool) (h0 : Heap) (n0 : Nat) (Z0 : n0 ≤ h0.size) (A1 : own_A Z h0 ra .int [.int g0]) (A2 : own_A Z h0 ja .int [.int j0]) (hb0 : 0 < g0.toInt ↔ b0 = true) (hc0 : 0 < j0.toInt ↔ c0 = true) (hok : own_rok [b0] [c0] = true) :
    MetFree l (⟨"com/example/weigh/weigh/eval/AveragePrecision", "score", "([I[I)D"⟩ : MethodName) (head1 (Jvm.Cond.code (⟨"com/example/weigh/weigh/eval/AveragePrecision", "score", "([I[I)D"⟩ : MethodName) prog_7_method_3_code 11 (some .double) :: ws) ({ frames := 0, cells := 0, slots := 0, locals := 0 } : Room)) (fun as_ U => as_ = #[.ref a, .ref ra, .ref ja] ∧ Z.Warmed39 U.vm ∧ U.heap = h0) (fun _ _ _ _ _ => True) (fun _ U o U' => own_Fin U ({ frames := 0, cells := 0, slots := 0, locals := 0 } : Room).cells ({ frames := 0, cells := 0, slots := 0, locals := 0 } : Room).slots (fun v h L => v = some (.double (own_res [b0] [c0])) ∧ Fr n0 L ∧ h = h0) o U') := by
  refine own_body (plainFor_of_name pn3) (ls0 := [.val (.ref a), .val (.ref ra), .val (.ref ja), .unset, .unset, .unset, .unset, .unset, .unset, .unset, .unset]) (fun m => by first | (simp [entryFrame, mkF, argsToLocals, Value.category, maxLocals]; done) | rfl) ?_
  intro p e s m below meth c T0 hx hby hml hown hnm hlk hret hZ X0 e0
  have hK : own_ks "com/example/weigh/weigh/eval/AveragePrecision" a0 Z kt3 := trivial
  have hF : own_fs "com/example/weigh/weigh/eval/AveragePrecision" a0 Z ft3 := trivial
  have N0 := Fr.nil n0
  obtain ⟨ho, hfin⟩ := Bool.and_eq_true_iff.mp hok
  refine own_blk dec3 seq3 hby hx hZ hown hK hF 6 [] [] X0 e0 ?_
  show own_Aft X0 h0 _ 8 [.val (.ref a), .val (.ref ra), .val (.ref ja), .val (.double 0), .second, .val (.int (0 : Int32)), .val (.int (1 : Int32)), .unset, .unset, .unset, .unset] []
  refine fun T1 X1 eh1 => ?_
  refine ptA_1 X1 hx hby hml hown hZ hK hF eh1 _ _ _ _ _ _ ra g0 b0 A1 hb0 ho (fun f0 s0 HF T2 X2 eh2 => ?_)
  show own_Go p.tables e below _ (T2.setTop (mkF m 43 (Array.mk [.val (.ref a), .val (.ref ra), .val (.ref ja), .val (.double s0), .second, .val (.int f0), .val (.int (2 : Int32)), .unset, .unset, .unset, .unset]) []))
  refine own_blk dec3 seq3 hby hx hZ hown hK hF 9 [] [.int (1 : Int32)] X2 eh2 ?_
  show (own_ln Z h0 ja (1 : Int32)) ∧ own_Aft X2 h0 _ 57 [.val (.ref a), .val (.ref ra), .val (.ref ja), .val (.double s0), .second, .val (.int f0), .val (.int (0 : Int32)), .val (.ref ja), .val (.int (1 : Int32)), .val (.int (0 : Int32)), .unset] []
  refine ⟨A2.ln (1 : Int32) rfl, fun T3 X3 eh3 => ?_⟩
  refine ptB_1 X3 hx hby hml hown hZ hK hF eh3 _ _ _ _ _ _ ja j0 c0 A2 hc0 (fun rr u10 CF T4 X4 eh4 => ?_)
  show own_Go p.tables e below _ (T4.setTop (mkF m 85 (Array.mk [.val (.ref a), .val (.ref ra), .val (.ref ja), .val (.double s0), .second, .val (.int f0), .val (.int rr), .val (.ref ja), .val (.int (1 : Int32)), .val (.int (1 : Int32)), u10]) []))
  by_cases hf : f0.toInt = 0
  · skip
    have hz : own_res [b0] [c0] = 0 := by unfold own_res; rw [HF]; exact if_pos hf
    refine own_blk dec3 seq3 hby hx hZ hown hK hF 4 [false] [] X4 eh4 ?_
    show (¬ ((f0).toInt ≠ 0)) ∧ own_Aft X4 h0 _ 99 [.val (.ref a), .val (.ref ra), .val (.ref ja), .val (.double s0), .second, .val (.int f0), .val (.int rr), .val (.ref ja), .val (.int (1 : Int32)), .val (.int (1 : Int32)), u10] [.double 0]
    refine ⟨by omega, fun T5 X5 eh5 => ?_⟩
    exact own_ret X5 hx hlk eh5 hret (by first | rfl | decide) (Or.inr (Or.inr (Or.inl ⟨rfl, rfl, _, rfl⟩))) (hb hby d3_99) (by decide) (by decide) (⟨by rw [hz], N0, rfl⟩)
  · skip
    have hz : own_res [b0] [c0] = FP.ddiv s0 (FP.i2d rr) := by unfold own_res; rw [HF, CF]; exact if_neg hf
    have hn : own_nb (FP.ddiv s0 (FP.i2d rr)) = true := by rw [HF, CF] at hfin; rcases Bool.or_eq_true_iff.mp hfin with q | q; exact absurd (of_decide_eq_true q) hf; exact q
    refine own_blk dec3 seq3 hby hx hZ hown hK hF 6 [true] [] X4 eh4 ?_
    show ((f0).toInt ≠ 0) ∧ (Jvm.Free.Fl.NoNaN64 (FP.ddiv s0 (FP.i2d rr))) ∧ own_Aft X4 h0 _ 99 [.val (.ref a), .val (.ref ra), .val (.ref ja), .val (.double s0), .second, .val (.int f0), .val (.int rr), .val (.ref ja), .val (.int (1 : Int32)), .val (.int (1 : Int32)), u10] [.double (FP.ddiv s0 (FP.i2d rr))]
    refine ⟨by omega, own_nb_e hn, fun T6 X6 eh6 => ?_⟩
    exact own_ret X6 hx hlk eh6 hret (by first | rfl | decide) (Or.inr (Or.inr (Or.inl ⟨rfl, rfl, _, rfl⟩))) (hb hby d3_99) (by decide) (by decide) (⟨by rw [hz], N0, rfl⟩)
set_option maxRecDepth 65536 in
set_option maxHeartbeats 40000000 in
theorem rm3_1_2 (l : Launch) (Z : State) (a0 : Array Value) (hw : ∀ d ∈ tables_1, d.before a0 Z = true) (ws : List Jvm.Cond) (a ra ja : Addr) (g0 j0 j1 : Int32) (b0 c0 c1 : Bool) (h0 : Heap) (n0 : Nat) (Z0 : n0 ≤ h0.size) (A1 : own_A Z h0 ra .int [.int g0]) (A2 : own_A Z h0 ja .int [.int j0, .int j1]) (hb0 : 0 < g0.toInt ↔ b0 = true) (hc0 : 0 < j0.toInt ↔ c0 = true) (hc1 : 0 < j1.toInt ↔ c1 = true) (hok : own_rok [b0] [c0, c1] = true) :
    MetFree l (⟨"com/example/weigh/weigh/eval/AveragePrecision", "score", "([I[I)D"⟩ : MethodName) (head1 (Jvm.Cond.code (⟨"com/example/weigh/weigh/eval/AveragePrecision", "score", "([I[I)D"⟩ : MethodName) prog_7_method_3_code 11 (some .double) :: ws) ({ frames := 0, cells := 0, slots := 0, locals := 0 } : Room)) (fun as_ U => as_ = #[.ref a, .ref ra, .ref ja] ∧ Z.Warmed39 U.vm ∧ U.heap = h0) (fun _ _ _ _ _ => True) (fun _ U o U' => own_Fin U ({ frames := 0, cells := 0, slots := 0, locals := 0 } : Room).cells ({ frames := 0, cells := 0, slots := 0, locals := 0 } : Room).slots (fun v h L => v = some (.double (own_res [b0] [c0, c1])) ∧ Fr n0 L ∧ h = h0) o U') := by
  refine own_body (plainFor_of_name pn3) (ls0 := [.val (.ref a), .val (.ref ra), .val (.ref ja), .unset, .unset, .unset, .unset, .unset, .unset, .unset, .unset]) (fun m => by first | (simp [entryFrame, mkF, argsToLocals, Value.category, maxLocals]; done) | rfl) ?_
  intro p e s m below meth c T0 hx hby hml hown hnm hlk hret hZ X0 e0
  have hK : own_ks "com/example/weigh/weigh/eval/AveragePrecision" a0 Z kt3 := trivial
  have hF : own_fs "com/example/weigh/weigh/eval/AveragePrecision" a0 Z ft3 := trivial
  have N0 := Fr.nil n0
  obtain ⟨ho, hfin⟩ := Bool.and_eq_true_iff.mp hok
  refine own_blk dec3 seq3 hby hx hZ hown hK hF 6 [] [] X0 e0 ?_
  show own_Aft X0 h0 _ 8 [.val (.ref a), .val (.ref ra), .val (.ref ja), .val (.double 0), .second, .val (.int (0 : Int32)), .val (.int (1 : Int32)), .unset, .unset, .unset, .unset] []
  refine fun T1 X1 eh1 => ?_
  refine ptA_1 X1 hx hby hml hown hZ hK hF eh1 _ _ _ _ _ _ ra g0 b0 A1 hb0 ho (fun f0 s0 HF T2 X2 eh2 => ?_)
  show own_Go p.tables e below _ (T2.setTop (mkF m 43 (Array.mk [.val (.ref a), .val (.ref ra), .val (.ref ja), .val (.double s0), .second, .val (.int f0), .val (.int (2 : Int32)), .unset, .unset, .unset, .unset]) []))
  refine own_blk dec3 seq3 hby hx hZ hown hK hF 9 [] [.int (2 : Int32)] X2 eh2 ?_
  show (own_ln Z h0 ja (2 : Int32)) ∧ own_Aft X2 h0 _ 57 [.val (.ref a), .val (.ref ra), .val (.ref ja), .val (.double s0), .second, .val (.int f0), .val (.int (0 : Int32)), .val (.ref ja), .val (.int (2 : Int32)), .val (.int (0 : Int32)), .unset] []
  refine ⟨A2.ln (2 : Int32) rfl, fun T3 X3 eh3 => ?_⟩
  refine ptB_2 X3 hx hby hml hown hZ hK hF eh3 _ _ _ _ _ _ ja j0 j1 c0 c1 A2 hc0 hc1 (fun rr u10 CF T4 X4 eh4 => ?_)
  show own_Go p.tables e below _ (T4.setTop (mkF m 85 (Array.mk [.val (.ref a), .val (.ref ra), .val (.ref ja), .val (.double s0), .second, .val (.int f0), .val (.int rr), .val (.ref ja), .val (.int (2 : Int32)), .val (.int (2 : Int32)), u10]) []))
  by_cases hf : f0.toInt = 0
  · skip
    have hz : own_res [b0] [c0, c1] = 0 := by unfold own_res; rw [HF]; exact if_pos hf
    refine own_blk dec3 seq3 hby hx hZ hown hK hF 4 [false] [] X4 eh4 ?_
    show (¬ ((f0).toInt ≠ 0)) ∧ own_Aft X4 h0 _ 99 [.val (.ref a), .val (.ref ra), .val (.ref ja), .val (.double s0), .second, .val (.int f0), .val (.int rr), .val (.ref ja), .val (.int (2 : Int32)), .val (.int (2 : Int32)), u10] [.double 0]
    refine ⟨by omega, fun T5 X5 eh5 => ?_⟩
    exact own_ret X5 hx hlk eh5 hret (by first | rfl | decide) (Or.inr (Or.inr (Or.inl ⟨rfl, rfl, _, rfl⟩))) (hb hby d3_99) (by decide) (by decide) (⟨by rw [hz], N0, rfl⟩)
  · skip
    have hz : own_res [b0] [c0, c1] = FP.ddiv s0 (FP.i2d rr) := by unfold own_res; rw [HF, CF]; exact if_neg hf
    have hn : own_nb (FP.ddiv s0 (FP.i2d rr)) = true := by rw [HF, CF] at hfin; rcases Bool.or_eq_true_iff.mp hfin with q | q; exact absurd (of_decide_eq_true q) hf; exact q
    refine own_blk dec3 seq3 hby hx hZ hown hK hF 6 [true] [] X4 eh4 ?_
    show ((f0).toInt ≠ 0) ∧ (Jvm.Free.Fl.NoNaN64 (FP.ddiv s0 (FP.i2d rr))) ∧ own_Aft X4 h0 _ 99 [.val (.ref a), .val (.ref ra), .val (.ref ja), .val (.double s0), .second, .val (.int f0), .val (.int rr), .val (.ref ja), .val (.int (2 : Int32)), .val (.int (2 : Int32)), u10] [.double (FP.ddiv s0 (FP.i2d rr))]
    refine ⟨by omega, own_nb_e hn, fun T6 X6 eh6 => ?_⟩
    exact own_ret X6 hx hlk eh6 hret (by first | rfl | decide) (Or.inr (Or.inr (Or.inl ⟨rfl, rfl, _, rfl⟩))) (hb hby d3_99) (by decide) (by decide) (⟨by rw [hz], N0, rfl⟩)
set_option maxRecDepth 65536 in
set_option maxHeartbeats 40000000 in
theorem rm3_1_3 (l : Launch) (Z : State) (a0 : Array Value) (hw : ∀ d ∈ tables_1, d.before a0 Z = true) (ws : List Jvm.Cond) (a ra ja : Addr) (g0 j0 j1 j2 : Int32) (b0 c0 c1 c2 : Bool) (h0 : Heap) (n0 : Nat) (Z0 : n0 ≤ h0.size) (A1 : own_A Z h0 ra .int [.int g0]) (A2 : own_A Z h0 ja .int [.int j0, .int j1, .int j2]) (hb0 : 0 < g0.toInt ↔ b0 = true) (hc0 : 0 < j0.toInt ↔ c0 = true) (hc1 : 0 < j1.toInt ↔ c1 = true) (hc2 : 0 < j2.toInt ↔ c2 = true) (hok : own_rok [b0] [c0, c1, c2] = true) :
    MetFree l (⟨"com/example/weigh/weigh/eval/AveragePrecision", "score", "([I[I)D"⟩ : MethodName) (head1 (Jvm.Cond.code (⟨"com/example/weigh/weigh/eval/AveragePrecision", "score", "([I[I)D"⟩ : MethodName) prog_7_method_3_code 11 (some .double) :: ws) ({ frames := 0, cells := 0, slots := 0, locals := 0 } : Room)) (fun as_ U => as_ = #[.ref a, .ref ra, .ref ja] ∧ Z.Warmed39 U.vm ∧ U.heap = h0) (fun _ _ _ _ _ => True) (fun _ U o U' => own_Fin U ({ frames := 0, cells := 0, slots := 0, locals := 0 } : Room).cells ({ frames := 0, cells := 0, slots := 0, locals := 0 } : Room).slots (fun v h L => v = some (.double (own_res [b0] [c0, c1, c2])) ∧ Fr n0 L ∧ h = h0) o U') := by
  refine own_body (plainFor_of_name pn3) (ls0 := [.val (.ref a), .val (.ref ra), .val (.ref ja), .unset, .unset, .unset, .unset, .unset, .unset, .unset, .unset]) (fun m => by first | (simp [entryFrame, mkF, argsToLocals, Value.category, maxLocals]; done) | rfl) ?_
  intro p e s m below meth c T0 hx hby hml hown hnm hlk hret hZ X0 e0
  have hK : own_ks "com/example/weigh/weigh/eval/AveragePrecision" a0 Z kt3 := trivial
  have hF : own_fs "com/example/weigh/weigh/eval/AveragePrecision" a0 Z ft3 := trivial
  have N0 := Fr.nil n0
  obtain ⟨ho, hfin⟩ := Bool.and_eq_true_iff.mp hok
  refine own_blk dec3 seq3 hby hx hZ hown hK hF 6 [] [] X0 e0 ?_
  show own_Aft X0 h0 _ 8 [.val (.ref a), .val (.ref ra), .val (.ref ja), .val (.double 0), .second, .val (.int (0 : Int32)), .val (.int (1 : Int32)), .unset, .unset, .unset, .unset] []
  refine fun T1 X1 eh1 => ?_
  refine ptA_1 X1 hx hby hml hown hZ hK hF eh1 _ _ _ _ _ _ ra g0 b0 A1 hb0 ho (fun f0 s0 HF T2 X2 eh2 => ?_)
  show own_Go p.tables e below _ (T2.setTop (mkF m 43 (Array.mk [.val (.ref a), .val (.ref ra), .val (.ref ja), .val (.double s0), .second, .val (.int f0), .val (.int (2 : Int32)), .unset, .unset, .unset, .unset]) []))
  refine own_blk dec3 seq3 hby hx hZ hown hK hF 9 [] [.int (3 : Int32)] X2 eh2 ?_
  show (own_ln Z h0 ja (3 : Int32)) ∧ own_Aft X2 h0 _ 57 [.val (.ref a), .val (.ref ra), .val (.ref ja), .val (.double s0), .second, .val (.int f0), .val (.int (0 : Int32)), .val (.ref ja), .val (.int (3 : Int32)), .val (.int (0 : Int32)), .unset] []
  refine ⟨A2.ln (3 : Int32) rfl, fun T3 X3 eh3 => ?_⟩
  refine ptB_3 X3 hx hby hml hown hZ hK hF eh3 _ _ _ _ _ _ ja j0 j1 j2 c0 c1 c2 A2 hc0 hc1 hc2 (fun rr u10 CF T4 X4 eh4 => ?_)
  show own_Go p.tables e below _ (T4.setTop (mkF m 85 (Array.mk [.val (.ref a), .val (.ref ra), .val (.ref ja), .val (.double s0), .second, .val (.int f0), .val (.int rr), .val (.ref ja), .val (.int (3 : Int32)), .val (.int (3 : Int32)), u10]) []))
  by_cases hf : f0.toInt = 0
  · skip
    have hz : own_res [b0] [c0, c1, c2] = 0 := by unfold own_res; rw [HF]; exact if_pos hf
    refine own_blk dec3 seq3 hby hx hZ hown hK hF 4 [false] [] X4 eh4 ?_
    show (¬ ((f0).toInt ≠ 0)) ∧ own_Aft X4 h0 _ 99 [.val (.ref a), .val (.ref ra), .val (.ref ja), .val (.double s0), .second, .val (.int f0), .val (.int rr), .val (.ref ja), .val (.int (3 : Int32)), .val (.int (3 : Int32)), u10] [.double 0]
    refine ⟨by omega, fun T5 X5 eh5 => ?_⟩
    exact own_ret X5 hx hlk eh5 hret (by first | rfl | decide) (Or.inr (Or.inr (Or.inl ⟨rfl, rfl, _, rfl⟩))) (hb hby d3_99) (by decide) (by decide) (⟨by rw [hz], N0, rfl⟩)
  · skip
    have hz : own_res [b0] [c0, c1, c2] = FP.ddiv s0 (FP.i2d rr) := by unfold own_res; rw [HF, CF]; exact if_neg hf
    have hn : own_nb (FP.ddiv s0 (FP.i2d rr)) = true := by rw [HF, CF] at hfin; rcases Bool.or_eq_true_iff.mp hfin with q | q; exact absurd (of_decide_eq_true q) hf; exact q
    refine own_blk dec3 seq3 hby hx hZ hown hK hF 6 [true] [] X4 eh4 ?_
    show ((f0).toInt ≠ 0) ∧ (Jvm.Free.Fl.NoNaN64 (FP.ddiv s0 (FP.i2d rr))) ∧ own_Aft X4 h0 _ 99 [.val (.ref a), .val (.ref ra), .val (.ref ja), .val (.double s0), .second, .val (.int f0), .val (.int rr), .val (.ref ja), .val (.int (3 : Int32)), .val (.int (3 : Int32)), u10] [.double (FP.ddiv s0 (FP.i2d rr))]
    refine ⟨by omega, own_nb_e hn, fun T6 X6 eh6 => ?_⟩
    exact own_ret X6 hx hlk eh6 hret (by first | rfl | decide) (Or.inr (Or.inr (Or.inl ⟨rfl, rfl, _, rfl⟩))) (hb hby d3_99) (by decide) (by decide) (⟨by rw [hz], N0, rfl⟩)
set_option maxRecDepth 65536 in
set_option maxHeartbeats 40000000 in
theorem rm3_1_4 (l : Launch) (Z : State) (a0 : Array Value) (hw : ∀ d ∈ tables_1, d.before a0 Z = true) (ws : List Jvm.Cond) (a ra ja : Addr) (g0 j0 j1 j2 j3 : Int32) (b0 c0 c1 c2 c3 : Bool) (h0 : Heap) (n0 : Nat) (Z0 : n0 ≤ h0.size) (A1 : own_A Z h0 ra .int [.int g0]) (A2 : own_A Z h0 ja .int [.int j0, .int j1, .int j2, .int j3]) (hb0 : 0 < g0.toInt ↔ b0 = true) (hc0 : 0 < j0.toInt ↔ c0 = true) (hc1 : 0 < j1.toInt ↔ c1 = true) (hc2 : 0 < j2.toInt ↔ c2 = true) (hc3 : 0 < j3.toInt ↔ c3 = true) (hok : own_rok [b0] [c0, c1, c2, c3] = true) :
    MetFree l (⟨"com/example/weigh/weigh/eval/AveragePrecision", "score", "([I[I)D"⟩ : MethodName) (head1 (Jvm.Cond.code (⟨"com/example/weigh/weigh/eval/AveragePrecision", "score", "([I[I)D"⟩ : MethodName) prog_7_method_3_code 11 (some .double) :: ws) ({ frames := 0, cells := 0, slots := 0, locals := 0 } : Room)) (fun as_ U => as_ = #[.ref a, .ref ra, .ref ja] ∧ Z.Warmed39 U.vm ∧ U.heap = h0) (fun _ _ _ _ _ => True) (fun _ U o U' => own_Fin U ({ frames := 0, cells := 0, slots := 0, locals := 0 } : Room).cells ({ frames := 0, cells := 0, slots := 0, locals := 0 } : Room).slots (fun v h L => v = some (.double (own_res [b0] [c0, c1, c2, c3])) ∧ Fr n0 L ∧ h = h0) o U') := by
  refine own_body (plainFor_of_name pn3) (ls0 := [.val (.ref a), .val (.ref ra), .val (.ref ja), .unset, .unset, .unset, .unset, .unset, .unset, .unset, .unset]) (fun m => by first | (simp [entryFrame, mkF, argsToLocals, Value.category, maxLocals]; done) | rfl) ?_
  intro p e s m below meth c T0 hx hby hml hown hnm hlk hret hZ X0 e0
  have hK : own_ks "com/example/weigh/weigh/eval/AveragePrecision" a0 Z kt3 := trivial
  have hF : own_fs "com/example/weigh/weigh/eval/AveragePrecision" a0 Z ft3 := trivial
  have N0 := Fr.nil n0
  obtain ⟨ho, hfin⟩ := Bool.and_eq_true_iff.mp hok
  refine own_blk dec3 seq3 hby hx hZ hown hK hF 6 [] [] X0 e0 ?_
  show own_Aft X0 h0 _ 8 [.val (.ref a), .val (.ref ra), .val (.ref ja), .val (.double 0), .second, .val (.int (0 : Int32)), .val (.int (1 : Int32)), .unset, .unset, .unset, .unset] []
  refine fun T1 X1 eh1 => ?_
  refine ptA_1 X1 hx hby hml hown hZ hK hF eh1 _ _ _ _ _ _ ra g0 b0 A1 hb0 ho (fun f0 s0 HF T2 X2 eh2 => ?_)
  show own_Go p.tables e below _ (T2.setTop (mkF m 43 (Array.mk [.val (.ref a), .val (.ref ra), .val (.ref ja), .val (.double s0), .second, .val (.int f0), .val (.int (2 : Int32)), .unset, .unset, .unset, .unset]) []))
  refine own_blk dec3 seq3 hby hx hZ hown hK hF 9 [] [.int (4 : Int32)] X2 eh2 ?_
  show (own_ln Z h0 ja (4 : Int32)) ∧ own_Aft X2 h0 _ 57 [.val (.ref a), .val (.ref ra), .val (.ref ja), .val (.double s0), .second, .val (.int f0), .val (.int (0 : Int32)), .val (.ref ja), .val (.int (4 : Int32)), .val (.int (0 : Int32)), .unset] []
  refine ⟨A2.ln (4 : Int32) rfl, fun T3 X3 eh3 => ?_⟩
  refine ptB_4 X3 hx hby hml hown hZ hK hF eh3 _ _ _ _ _ _ ja j0 j1 j2 j3 c0 c1 c2 c3 A2 hc0 hc1 hc2 hc3 (fun rr u10 CF T4 X4 eh4 => ?_)
  show own_Go p.tables e below _ (T4.setTop (mkF m 85 (Array.mk [.val (.ref a), .val (.ref ra), .val (.ref ja), .val (.double s0), .second, .val (.int f0), .val (.int rr), .val (.ref ja), .val (.int (4 : Int32)), .val (.int (4 : Int32)), u10]) []))
  by_cases hf : f0.toInt = 0
  · skip
    have hz : own_res [b0] [c0, c1, c2, c3] = 0 := by unfold own_res; rw [HF]; exact if_pos hf
    refine own_blk dec3 seq3 hby hx hZ hown hK hF 4 [false] [] X4 eh4 ?_
    show (¬ ((f0).toInt ≠ 0)) ∧ own_Aft X4 h0 _ 99 [.val (.ref a), .val (.ref ra), .val (.ref ja), .val (.double s0), .second, .val (.int f0), .val (.int rr), .val (.ref ja), .val (.int (4 : Int32)), .val (.int (4 : Int32)), u10] [.double 0]
    refine ⟨by omega, fun T5 X5 eh5 => ?_⟩
    exact own_ret X5 hx hlk eh5 hret (by first | rfl | decide) (Or.inr (Or.inr (Or.inl ⟨rfl, rfl, _, rfl⟩))) (hb hby d3_99) (by decide) (by decide) (⟨by rw [hz], N0, rfl⟩)
  · skip
    have hz : own_res [b0] [c0, c1, c2, c3] = FP.ddiv s0 (FP.i2d rr) := by unfold own_res; rw [HF, CF]; exact if_neg hf
    have hn : own_nb (FP.ddiv s0 (FP.i2d rr)) = true := by rw [HF, CF] at hfin; rcases Bool.or_eq_true_iff.mp hfin with q | q; exact absurd (of_decide_eq_true q) hf; exact q
    refine own_blk dec3 seq3 hby hx hZ hown hK hF 6 [true] [] X4 eh4 ?_
    show ((f0).toInt ≠ 0) ∧ (Jvm.Free.Fl.NoNaN64 (FP.ddiv s0 (FP.i2d rr))) ∧ own_Aft X4 h0 _ 99 [.val (.ref a), .val (.ref ra), .val (.ref ja), .val (.double s0), .second, .val (.int f0), .val (.int rr), .val (.ref ja), .val (.int (4 : Int32)), .val (.int (4 : Int32)), u10] [.double (FP.ddiv s0 (FP.i2d rr))]
    refine ⟨by omega, own_nb_e hn, fun T6 X6 eh6 => ?_⟩
    exact own_ret X6 hx hlk eh6 hret (by first | rfl | decide) (Or.inr (Or.inr (Or.inl ⟨rfl, rfl, _, rfl⟩))) (hb hby d3_99) (by decide) (by decide) (⟨by rw [hz], N0, rfl⟩)
set_option maxRecDepth 65536 in
set_option maxHeartbeats 40000000 in
theorem rm3_2_2 (l : Launch) (Z : State) (a0 : Array Value) (hw : ∀ d ∈ tables_1, d.before a0 Z = true) (ws : List Jvm.Cond) (a ra ja : Addr) (g0 g1 j0 j1 : Int32) (b0 b1 c0 c1 : Bool) (h0 : Heap) (n0 : Nat) (Z0 : n0 ≤ h0.size) (A1 : own_A Z h0 ra .int [.int g0, .int g1]) (A2 : own_A Z h0 ja .int [.int j0, .int j1]) (hb0 : 0 < g0.toInt ↔ b0 = true) (hb1 : 0 < g1.toInt ↔ b1 = true) (hc0 : 0 < j0.toInt ↔ c0 = true) (hc1 : 0 < j1.toInt ↔ c1 = true) (hok : own_rok [b0, b1] [c0, c1] = true) :
    MetFree l (⟨"com/example/weigh/weigh/eval/AveragePrecision", "score", "([I[I)D"⟩ : MethodName) (head1 (Jvm.Cond.code (⟨"com/example/weigh/weigh/eval/AveragePrecision", "score", "([I[I)D"⟩ : MethodName) prog_7_method_3_code 11 (some .double) :: ws) ({ frames := 0, cells := 0, slots := 0, locals := 0 } : Room)) (fun as_ U => as_ = #[.ref a, .ref ra, .ref ja] ∧ Z.Warmed39 U.vm ∧ U.heap = h0) (fun _ _ _ _ _ => True) (fun _ U o U' => own_Fin U ({ frames := 0, cells := 0, slots := 0, locals := 0 } : Room).cells ({ frames := 0, cells := 0, slots := 0, locals := 0 } : Room).slots (fun v h L => v = some (.double (own_res [b0, b1] [c0, c1])) ∧ Fr n0 L ∧ h = h0) o U') := by
  refine own_body (plainFor_of_name pn3) (ls0 := [.val (.ref a), .val (.ref ra), .val (.ref ja), .unset, .unset, .unset, .unset, .unset, .unset, .unset, .unset]) (fun m => by first | (simp [entryFrame, mkF, argsToLocals, Value.category, maxLocals]; done) | rfl) ?_
  intro p e s m below meth c T0 hx hby hml hown hnm hlk hret hZ X0 e0
  have hK : own_ks "com/example/weigh/weigh/eval/AveragePrecision" a0 Z kt3 := trivial
  have hF : own_fs "com/example/weigh/weigh/eval/AveragePrecision" a0 Z ft3 := trivial
  have N0 := Fr.nil n0
  obtain ⟨ho, hfin⟩ := Bool.and_eq_true_iff.mp hok
  refine own_blk dec3 seq3 hby hx hZ hown hK hF 6 [] [] X0 e0 ?_
  show own_Aft X0 h0 _ 8 [.val (.ref a), .val (.ref ra), .val (.ref ja), .val (.double 0), .second, .val (.int (0 : Int32)), .val (.int (1 : Int32)), .unset, .unset, .unset, .unset] []
  refine fun T1 X1 eh1 => ?_
  refine ptA_2 X1 hx hby hml hown hZ hK hF eh1 _ _ _ _ _ _ ra g0 g1 b0 b1 A1 hb0 hb1 ho (fun f0 s0 HF T2 X2 eh2 => ?_)
  show own_Go p.tables e below _ (T2.setTop (mkF m 43 (Array.mk [.val (.ref a), .val (.ref ra), .val (.ref ja), .val (.double s0), .second, .val (.int f0), .val (.int (3 : Int32)), .unset, .unset, .unset, .unset]) []))
  refine own_blk dec3 seq3 hby hx hZ hown hK hF 9 [] [.int (2 : Int32)] X2 eh2 ?_
  show (own_ln Z h0 ja (2 : Int32)) ∧ own_Aft X2 h0 _ 57 [.val (.ref a), .val (.ref ra), .val (.ref ja), .val (.double s0), .second, .val (.int f0), .val (.int (0 : Int32)), .val (.ref ja), .val (.int (2 : Int32)), .val (.int (0 : Int32)), .unset] []
  refine ⟨A2.ln (2 : Int32) rfl, fun T3 X3 eh3 => ?_⟩
  refine ptB_2 X3 hx hby hml hown hZ hK hF eh3 _ _ _ _ _ _ ja j0 j1 c0 c1 A2 hc0 hc1 (fun rr u10 CF T4 X4 eh4 => ?_)
  show own_Go p.tables e below _ (T4.setTop (mkF m 85 (Array.mk [.val (.ref a), .val (.ref ra), .val (.ref ja), .val (.double s0), .second, .val (.int f0), .val (.int rr), .val (.ref ja), .val (.int (2 : Int32)), .val (.int (2 : Int32)), u10]) []))
  by_cases hf : f0.toInt = 0
  · skip
    have hz : own_res [b0, b1] [c0, c1] = 0 := by unfold own_res; rw [HF]; exact if_pos hf
    refine own_blk dec3 seq3 hby hx hZ hown hK hF 4 [false] [] X4 eh4 ?_
    show (¬ ((f0).toInt ≠ 0)) ∧ own_Aft X4 h0 _ 99 [.val (.ref a), .val (.ref ra), .val (.ref ja), .val (.double s0), .second, .val (.int f0), .val (.int rr), .val (.ref ja), .val (.int (2 : Int32)), .val (.int (2 : Int32)), u10] [.double 0]
    refine ⟨by omega, fun T5 X5 eh5 => ?_⟩
    exact own_ret X5 hx hlk eh5 hret (by first | rfl | decide) (Or.inr (Or.inr (Or.inl ⟨rfl, rfl, _, rfl⟩))) (hb hby d3_99) (by decide) (by decide) (⟨by rw [hz], N0, rfl⟩)
  · skip
    have hz : own_res [b0, b1] [c0, c1] = FP.ddiv s0 (FP.i2d rr) := by unfold own_res; rw [HF, CF]; exact if_neg hf
    have hn : own_nb (FP.ddiv s0 (FP.i2d rr)) = true := by rw [HF, CF] at hfin; rcases Bool.or_eq_true_iff.mp hfin with q | q; exact absurd (of_decide_eq_true q) hf; exact q
    refine own_blk dec3 seq3 hby hx hZ hown hK hF 6 [true] [] X4 eh4 ?_
    show ((f0).toInt ≠ 0) ∧ (Jvm.Free.Fl.NoNaN64 (FP.ddiv s0 (FP.i2d rr))) ∧ own_Aft X4 h0 _ 99 [.val (.ref a), .val (.ref ra), .val (.ref ja), .val (.double s0), .second, .val (.int f0), .val (.int rr), .val (.ref ja), .val (.int (2 : Int32)), .val (.int (2 : Int32)), u10] [.double (FP.ddiv s0 (FP.i2d rr))]
    refine ⟨by omega, own_nb_e hn, fun T6 X6 eh6 => ?_⟩
    exact own_ret X6 hx hlk eh6 hret (by first | rfl | decide) (Or.inr (Or.inr (Or.inl ⟨rfl, rfl, _, rfl⟩))) (hb hby d3_99) (by decide) (by decide) (⟨by rw [hz], N0, rfl⟩)
set_option maxRecDepth 65536 in
set_option maxHeartbeats 40000000 in
theorem rm3_2_3 (l : Launch) (Z : State) (a0 : Array Value) (hw : ∀ d ∈ tables_1, d.before a0 Z = true) (ws : List Jvm.Cond) (a ra ja : Addr) (g0 g1 j0 j1 j2 : Int32) (b0 b1 c0 c1 c2 : Bool) (h0 : Heap) (n0 : Nat) (Z0 : n0 ≤ h0.size) (A1 : own_A Z h0 ra .int [.int g0, .int g1]) (A2 : own_A Z h0 ja .int [.int j0, .int j1, .int j2]) (hb0 : 0 < g0.toInt ↔ b0 = true) (hb1 : 0 < g1.toInt ↔ b1 = true) (hc0 : 0 < j0.toInt ↔ c0 = true) (hc1 : 0 < j1.toInt ↔ c1 = true) (hc2 : 0 < j2.toInt ↔ c2 = true) (hok : own_rok [b0, b1] [c0, c1, c2] = true) :
    MetFree l (⟨"com/example/weigh/weigh/eval/AveragePrecision", "score", "([I[I)D"⟩ : MethodName) (head1 (Jvm.Cond.code (⟨"com/example/weigh/weigh/eval/AveragePrecision", "score", "([I[I)D"⟩ : MethodName) prog_7_method_3_code 11 (some .double) :: ws) ({ frames := 0, cells := 0, slots := 0, locals := 0 } : Room)) (fun as_ U => as_ = #[.ref a, .ref ra, .ref ja] ∧ Z.Warmed39 U.vm ∧ U.heap = h0) (fun _ _ _ _ _ => True) (fun _ U o U' => own_Fin U ({ frames := 0, cells := 0, slots := 0, locals := 0 } : Room).cells ({ frames := 0, cells := 0, slots := 0, locals := 0 } : Room).slots (fun v h L => v = some (.double (own_res [b0, b1] [c0, c1, c2])) ∧ Fr n0 L ∧ h = h0) o U') := by
  refine own_body (plainFor_of_name pn3) (ls0 := [.val (.ref a), .val (.ref ra), .val (.ref ja), .unset, .unset, .unset, .unset, .unset, .unset, .unset, .unset]) (fun m => by first | (simp [entryFrame, mkF, argsToLocals, Value.category, maxLocals]; done) | rfl) ?_
  intro p e s m below meth c T0 hx hby hml hown hnm hlk hret hZ X0 e0
  have hK : own_ks "com/example/weigh/weigh/eval/AveragePrecision" a0 Z kt3 := trivial
  have hF : own_fs "com/example/weigh/weigh/eval/AveragePrecision" a0 Z ft3 := trivial
  have N0 := Fr.nil n0
  obtain ⟨ho, hfin⟩ := Bool.and_eq_true_iff.mp hok
  refine own_blk dec3 seq3 hby hx hZ hown hK hF 6 [] [] X0 e0 ?_
  show own_Aft X0 h0 _ 8 [.val (.ref a), .val (.ref ra), .val (.ref ja), .val (.double 0), .second, .val (.int (0 : Int32)), .val (.int (1 : Int32)), .unset, .unset, .unset, .unset] []
  refine fun T1 X1 eh1 => ?_
  refine ptA_2 X1 hx hby hml hown hZ hK hF eh1 _ _ _ _ _ _ ra g0 g1 b0 b1 A1 hb0 hb1 ho (fun f0 s0 HF T2 X2 eh2 => ?_)
  show own_Go p.tables e below _ (T2.setTop (mkF m 43 (Array.mk [.val (.ref a), .val (.ref ra), .val (.ref ja), .val (.double s0), .second, .val (.int f0), .val (.int (3 : Int32)), .unset, .unset, .unset, .unset]) []))
  refine own_blk dec3 seq3 hby hx hZ hown hK hF 9 [] [.int (3 : Int32)] X2 eh2 ?_
  show (own_ln Z h0 ja (3 : Int32)) ∧ own_Aft X2 h0 _ 57 [.val (.ref a), .val (.ref ra), .val (.ref ja), .val (.double s0), .second, .val (.int f0), .val (.int (0 : Int32)), .val (.ref ja), .val (.int (3 : Int32)), .val (.int (0 : Int32)), .unset] []
  refine ⟨A2.ln (3 : Int32) rfl, fun T3 X3 eh3 => ?_⟩
  refine ptB_3 X3 hx hby hml hown hZ hK hF eh3 _ _ _ _ _ _ ja j0 j1 j2 c0 c1 c2 A2 hc0 hc1 hc2 (fun rr u10 CF T4 X4 eh4 => ?_)
  show own_Go p.tables e below _ (T4.setTop (mkF m 85 (Array.mk [.val (.ref a), .val (.ref ra), .val (.ref ja), .val (.double s0), .second, .val (.int f0), .val (.int rr), .val (.ref ja), .val (.int (3 : Int32)), .val (.int (3 : Int32)), u10]) []))
  by_cases hf : f0.toInt = 0
  · skip
    have hz : own_res [b0, b1] [c0, c1, c2] = 0 := by unfold own_res; rw [HF]; exact if_pos hf
    refine own_blk dec3 seq3 hby hx hZ hown hK hF 4 [false] [] X4 eh4 ?_
    show (¬ ((f0).toInt ≠ 0)) ∧ own_Aft X4 h0 _ 99 [.val (.ref a), .val (.ref ra), .val (.ref ja), .val (.double s0), .second, .val (.int f0), .val (.int rr), .val (.ref ja), .val (.int (3 : Int32)), .val (.int (3 : Int32)), u10] [.double 0]
    refine ⟨by omega, fun T5 X5 eh5 => ?_⟩
    exact own_ret X5 hx hlk eh5 hret (by first | rfl | decide) (Or.inr (Or.inr (Or.inl ⟨rfl, rfl, _, rfl⟩))) (hb hby d3_99) (by decide) (by decide) (⟨by rw [hz], N0, rfl⟩)
  · skip
    have hz : own_res [b0, b1] [c0, c1, c2] = FP.ddiv s0 (FP.i2d rr) := by unfold own_res; rw [HF, CF]; exact if_neg hf
    have hn : own_nb (FP.ddiv s0 (FP.i2d rr)) = true := by rw [HF, CF] at hfin; rcases Bool.or_eq_true_iff.mp hfin with q | q; exact absurd (of_decide_eq_true q) hf; exact q
    refine own_blk dec3 seq3 hby hx hZ hown hK hF 6 [true] [] X4 eh4 ?_
    show ((f0).toInt ≠ 0) ∧ (Jvm.Free.Fl.NoNaN64 (FP.ddiv s0 (FP.i2d rr))) ∧ own_Aft X4 h0 _ 99 [.val (.ref a), .val (.ref ra), .val (.ref ja), .val (.double s0), .second, .val (.int f0), .val (.int rr), .val (.ref ja), .val (.int (3 : Int32)), .val (.int (3 : Int32)), u10] [.double (FP.ddiv s0 (FP.i2d rr))]
    refine ⟨by omega, own_nb_e hn, fun T6 X6 eh6 => ?_⟩
    exact own_ret X6 hx hlk eh6 hret (by first | rfl | decide) (Or.inr (Or.inr (Or.inl ⟨rfl, rfl, _, rfl⟩))) (hb hby d3_99) (by decide) (by decide) (⟨by rw [hz], N0, rfl⟩)
set_option maxRecDepth 65536 in
set_option maxHeartbeats 40000000 in
theorem rm3_2_4 (l : Launch) (Z : State) (a0 : Array Value) (hw : ∀ d ∈ tables_1, d.before a0 Z = true) (ws : List Jvm.Cond) (a ra ja : Addr) (g0 g1 j0 j1 j2 j3 : Int32) (b0 b1 c0 c1 c2 c3 : Bool) (h0 : Heap) (n0 : Nat) (Z0 : n0 ≤ h0.size) (A1 : own_A Z h0 ra .int [.int g0, .int g1]) (A2 : own_A Z h0 ja .int [.int j0, .int j1, .int j2, .int j3]) (hb0 : 0 < g0.toInt ↔ b0 = true) (hb1 : 0 < g1.toInt ↔ b1 = true) (hc0 : 0 < j0.toInt ↔ c0 = true) (hc1 : 0 < j1.toInt ↔ c1 = true) (hc2 : 0 < j2.toInt ↔ c2 = true) (hc3 : 0 < j3.toInt ↔ c3 = true) (hok : own_rok [b0, b1] [c0, c1, c2, c3] = true) :
    MetFree l (⟨"com/example/weigh/weigh/eval/AveragePrecision", "score", "([I[I)D"⟩ : MethodName) (head1 (Jvm.Cond.code (⟨"com/example/weigh/weigh/eval/AveragePrecision", "score", "([I[I)D"⟩ : MethodName) prog_7_method_3_code 11 (some .double) :: ws) ({ frames := 0, cells := 0, slots := 0, locals := 0 } : Room)) (fun as_ U => as_ = #[.ref a, .ref ra, .ref ja] ∧ Z.Warmed39 U.vm ∧ U.heap = h0) (fun _ _ _ _ _ => True) (fun _ U o U' => own_Fin U ({ frames := 0, cells := 0, slots := 0, locals := 0 } : Room).cells ({ frames := 0, cells := 0, slots := 0, locals := 0 } : Room).slots (fun v h L => v = some (.double (own_res [b0, b1] [c0, c1, c2, c3])) ∧ Fr n0 L ∧ h = h0) o U') := by
  refine own_body (plainFor_of_name pn3) (ls0 := [.val (.ref a), .val (.ref ra), .val (.ref ja), .unset, .unset, .unset, .unset, .unset, .unset, .unset, .unset]) (fun m => by first | (simp [entryFrame, mkF, argsToLocals, Value.category, maxLocals]; done) | rfl) ?_
  intro p e s m below meth c T0 hx hby hml hown hnm hlk hret hZ X0 e0
  have hK : own_ks "com/example/weigh/weigh/eval/AveragePrecision" a0 Z kt3 := trivial
  have hF : own_fs "com/example/weigh/weigh/eval/AveragePrecision" a0 Z ft3 := trivial
  have N0 := Fr.nil n0
  obtain ⟨ho, hfin⟩ := Bool.and_eq_true_iff.mp hok
  refine own_blk dec3 seq3 hby hx hZ hown hK hF 6 [] [] X0 e0 ?_
  show own_Aft X0 h0 _ 8 [.val (.ref a), .val (.ref ra), .val (.ref ja), .val (.double 0), .second, .val (.int (0 : Int32)), .val (.int (1 : Int32)), .unset, .unset, .unset, .unset] []
  refine fun T1 X1 eh1 => ?_
  refine ptA_2 X1 hx hby hml hown hZ hK hF eh1 _ _ _ _ _ _ ra g0 g1 b0 b1 A1 hb0 hb1 ho (fun f0 s0 HF T2 X2 eh2 => ?_)
  show own_Go p.tables e below _ (T2.setTop (mkF m 43 (Array.mk [.val (.ref a), .val (.ref ra), .val (.ref ja), .val (.double s0), .second, .val (.int f0), .val (.int (3 : Int32)), .unset, .unset, .unset, .unset]) []))
  refine own_blk dec3 seq3 hby hx hZ hown hK hF 9 [] [.int (4 : Int32)] X2 eh2 ?_
  show (own_ln Z h0 ja (4 : Int32)) ∧ own_Aft X2 h0 _ 57 [.val (.ref a), .val (.ref ra), .val (.ref ja), .val (.double s0), .second, .val (.int f0), .val (.int (0 : Int32)), .val (.ref ja), .val (.int (4 : Int32)), .val (.int (0 : Int32)), .unset] []
  refine ⟨A2.ln (4 : Int32) rfl, fun T3 X3 eh3 => ?_⟩
  refine ptB_4 X3 hx hby hml hown hZ hK hF eh3 _ _ _ _ _ _ ja j0 j1 j2 j3 c0 c1 c2 c3 A2 hc0 hc1 hc2 hc3 (fun rr u10 CF T4 X4 eh4 => ?_)
  show own_Go p.tables e below _ (T4.setTop (mkF m 85 (Array.mk [.val (.ref a), .val (.ref ra), .val (.ref ja), .val (.double s0), .second, .val (.int f0), .val (.int rr), .val (.ref ja), .val (.int (4 : Int32)), .val (.int (4 : Int32)), u10]) []))
  by_cases hf : f0.toInt = 0
  · skip
    have hz : own_res [b0, b1] [c0, c1, c2, c3] = 0 := by unfold own_res; rw [HF]; exact if_pos hf
    refine own_blk dec3 seq3 hby hx hZ hown hK hF 4 [false] [] X4 eh4 ?_
    show (¬ ((f0).toInt ≠ 0)) ∧ own_Aft X4 h0 _ 99 [.val (.ref a), .val (.ref ra), .val (.ref ja), .val (.double s0), .second, .val (.int f0), .val (.int rr), .val (.ref ja), .val (.int (4 : Int32)), .val (.int (4 : Int32)), u10] [.double 0]
    refine ⟨by omega, fun T5 X5 eh5 => ?_⟩
    exact own_ret X5 hx hlk eh5 hret (by first | rfl | decide) (Or.inr (Or.inr (Or.inl ⟨rfl, rfl, _, rfl⟩))) (hb hby d3_99) (by decide) (by decide) (⟨by rw [hz], N0, rfl⟩)
  · skip
    have hz : own_res [b0, b1] [c0, c1, c2, c3] = FP.ddiv s0 (FP.i2d rr) := by unfold own_res; rw [HF, CF]; exact if_neg hf
    have hn : own_nb (FP.ddiv s0 (FP.i2d rr)) = true := by rw [HF, CF] at hfin; rcases Bool.or_eq_true_iff.mp hfin with q | q; exact absurd (of_decide_eq_true q) hf; exact q
    refine own_blk dec3 seq3 hby hx hZ hown hK hF 6 [true] [] X4 eh4 ?_
    show ((f0).toInt ≠ 0) ∧ (Jvm.Free.Fl.NoNaN64 (FP.ddiv s0 (FP.i2d rr))) ∧ own_Aft X4 h0 _ 99 [.val (.ref a), .val (.ref ra), .val (.ref ja), .val (.double s0), .second, .val (.int f0), .val (.int rr), .val (.ref ja), .val (.int (4 : Int32)), .val (.int (4 : Int32)), u10] [.double (FP.ddiv s0 (FP.i2d rr))]
    refine ⟨by omega, own_nb_e hn, fun T6 X6 eh6 => ?_⟩
    exact own_ret X6 hx hlk eh6 hret (by first | rfl | decide) (Or.inr (Or.inr (Or.inl ⟨rfl, rfl, _, rfl⟩))) (hb hby d3_99) (by decide) (by decide) (⟨by rw [hz], N0, rfl⟩)
set_option maxRecDepth 65536 in
set_option maxHeartbeats 40000000 in
theorem rm3_2_5 (l : Launch) (Z : State) (a0 : Array Value) (hw : ∀ d ∈ tables_1, d.before a0 Z = true) (ws : List Jvm.Cond) (a ra ja : Addr) (g0 g1 j0 j1 j2 j3 j4 : Int32) (b0 b1 c0 c1 c2 c3 c4 : Bool) (h0 : Heap) (n0 : Nat) (Z0 : n0 ≤ h0.size) (A1 : own_A Z h0 ra .int [.int g0, .int g1]) (A2 : own_A Z h0 ja .int [.int j0, .int j1, .int j2, .int j3, .int j4]) (hb0 : 0 < g0.toInt ↔ b0 = true) (hb1 : 0 < g1.toInt ↔ b1 = true) (hc0 : 0 < j0.toInt ↔ c0 = true) (hc1 : 0 < j1.toInt ↔ c1 = true) (hc2 : 0 < j2.toInt ↔ c2 = true) (hc3 : 0 < j3.toInt ↔ c3 = true) (hc4 : 0 < j4.toInt ↔ c4 = true) (hok : own_rok [b0, b1] [c0, c1, c2, c3, c4] = true) :
    MetFree l (⟨"com/example/weigh/weigh/eval/AveragePrecision", "score", "([I[I)D"⟩ : MethodName) (head1 (Jvm.Cond.code (⟨"com/example/weigh/weigh/eval/AveragePrecision", "score", "([I[I)D"⟩ : MethodName) prog_7_method_3_code 11 (some .double) :: ws) ({ frames := 0, cells := 0, slots := 0, locals := 0 } : Room)) (fun as_ U => as_ = #[.ref a, .ref ra, .ref ja] ∧ Z.Warmed39 U.vm ∧ U.heap = h0) (fun _ _ _ _ _ => True) (fun _ U o U' => own_Fin U ({ frames := 0, cells := 0, slots := 0, locals := 0 } : Room).cells ({ frames := 0, cells := 0, slots := 0, locals := 0 } : Room).slots (fun v h L => v = some (.double (own_res [b0, b1] [c0, c1, c2, c3, c4])) ∧ Fr n0 L ∧ h = h0) o U') := by
  refine own_body (plainFor_of_name pn3) (ls0 := [.val (.ref a), .val (.ref ra), .val (.ref ja), .unset, .unset, .unset, .unset, .unset, .unset, .unset, .unset]) (fun m => by first | (simp [entryFrame, mkF, argsToLocals, Value.category, maxLocals]; done) | rfl) ?_
  intro p e s m below meth c T0 hx hby hml hown hnm hlk hret hZ X0 e0
  have hK : own_ks "com/example/weigh/weigh/eval/AveragePrecision" a0 Z kt3 := trivial
  have hF : own_fs "com/example/weigh/weigh/eval/AveragePrecision" a0 Z ft3 := trivial
  have N0 := Fr.nil n0
  obtain ⟨ho, hfin⟩ := Bool.and_eq_true_iff.mp hok
  refine own_blk dec3 seq3 hby hx hZ hown hK hF 6 [] [] X0 e0 ?_
  show own_Aft X0 h0 _ 8 [.val (.ref a), .val (.ref ra), .val (.ref ja), .val (.double 0), .second, .val (.int (0 : Int32)), .val (.int (1 : Int32)), .unset, .unset, .unset, .unset] []
  refine fun T1 X1 eh1 => ?_
  refine ptA_2 X1 hx hby hml hown hZ hK hF eh1 _ _ _ _ _ _ ra g0 g1 b0 b1 A1 hb0 hb1 ho (fun f0 s0 HF T2 X2 eh2 => ?_)
  show own_Go p.tables e below _ (T2.setTop (mkF m 43 (Array.mk [.val (.ref a), .val (.ref ra), .val (.ref ja), .val (.double s0), .second, .val (.int f0), .val (.int (3 : Int32)), .unset, .unset, .unset, .unset]) []))
  refine own_blk dec3 seq3 hby hx hZ hown hK hF 9 [] [.int (5 : Int32)] X2 eh2 ?_
  show (own_ln Z h0 ja (5 : Int32)) ∧ own_Aft X2 h0 _ 57 [.val (.ref a), .val (.ref ra), .val (.ref ja), .val (.double s0), .second, .val (.int f0), .val (.int (0 : Int32)), .val (.ref ja), .val (.int (5 : Int32)), .val (.int (0 : Int32)), .unset] []
  refine ⟨A2.ln (5 : Int32) rfl, fun T3 X3 eh3 => ?_⟩
  refine ptB_5 X3 hx hby hml hown hZ hK hF eh3 _ _ _ _ _ _ ja j0 j1 j2 j3 j4 c0 c1 c2 c3 c4 A2 hc0 hc1 hc2 hc3 hc4 (fun rr u10 CF T4 X4 eh4 => ?_)
  show own_Go p.tables e below _ (T4.setTop (mkF m 85 (Array.mk [.val (.ref a), .val (.ref ra), .val (.ref ja), .val (.double s0), .second, .val (.int f0), .val (.int rr), .val (.ref ja), .val (.int (5 : Int32)), .val (.int (5 : Int32)), u10]) []))
  by_cases hf : f0.toInt = 0
  · skip
    have hz : own_res [b0, b1] [c0, c1, c2, c3, c4] = 0 := by unfold own_res; rw [HF]; exact if_pos hf
    refine own_blk dec3 seq3 hby hx hZ hown hK hF 4 [false] [] X4 eh4 ?_
    show (¬ ((f0).toInt ≠ 0)) ∧ own_Aft X4 h0 _ 99 [.val (.ref a), .val (.ref ra), .val (.ref ja), .val (.double s0), .second, .val (.int f0), .val (.int rr), .val (.ref ja), .val (.int (5 : Int32)), .val (.int (5 : Int32)), u10] [.double 0]
    refine ⟨by omega, fun T5 X5 eh5 => ?_⟩
    exact own_ret X5 hx hlk eh5 hret (by first | rfl | decide) (Or.inr (Or.inr (Or.inl ⟨rfl, rfl, _, rfl⟩))) (hb hby d3_99) (by decide) (by decide) (⟨by rw [hz], N0, rfl⟩)
  · skip
    have hz : own_res [b0, b1] [c0, c1, c2, c3, c4] = FP.ddiv s0 (FP.i2d rr) := by unfold own_res; rw [HF, CF]; exact if_neg hf
    have hn : own_nb (FP.ddiv s0 (FP.i2d rr)) = true := by rw [HF, CF] at hfin; rcases Bool.or_eq_true_iff.mp hfin with q | q; exact absurd (of_decide_eq_true q) hf; exact q
    refine own_blk dec3 seq3 hby hx hZ hown hK hF 6 [true] [] X4 eh4 ?_
    show ((f0).toInt ≠ 0) ∧ (Jvm.Free.Fl.NoNaN64 (FP.ddiv s0 (FP.i2d rr))) ∧ own_Aft X4 h0 _ 99 [.val (.ref a), .val (.ref ra), .val (.ref ja), .val (.double s0), .second, .val (.int f0), .val (.int rr), .val (.ref ja), .val (.int (5 : Int32)), .val (.int (5 : Int32)), u10] [.double (FP.ddiv s0 (FP.i2d rr))]
    refine ⟨by omega, own_nb_e hn, fun T6 X6 eh6 => ?_⟩
    exact own_ret X6 hx hlk eh6 hret (by first | rfl | decide) (Or.inr (Or.inr (Or.inl ⟨rfl, rfl, _, rfl⟩))) (hb hby d3_99) (by decide) (by decide) (⟨by rw [hz], N0, rfl⟩)
set_option maxRecDepth 65536 in
set_option maxHeartbeats 40000000 in
theorem rm3_3_3 (l : Launch) (Z : State) (a0 : Array Value) (hw : ∀ d ∈ tables_1, d.before a0 Z = true) (ws : List Jvm.Cond) (a ra ja : Addr) (g0 g1 g2 j0 j1 j2 : Int32) (b0 b1 b2 c0 c1 c2 : Bool) (h0 : Heap) (n0 : Nat) (Z0 : n0 ≤ h0.size) (A1 : own_A Z h0 ra .int [.int g0, .int g1, .int g2]) (A2 : own_A Z h0 ja .int [.int j0, .int j1, .int j2]) (hb0 : 0 < g0.toInt ↔ b0 = true) (hb1 : 0 < g1.toInt ↔ b1 = true) (hb2 : 0 < g2.toInt ↔ b2 = true) (hc0 : 0 < j0.toInt ↔ c0 = true) (hc1 : 0 < j1.toInt ↔ c1 = true) (hc2 : 0 < j2.toInt ↔ c2 = true) (hok : own_rok [b0, b1, b2] [c0, c1, c2] = true) :
    MetFree l (⟨"com/example/weigh/weigh/eval/AveragePrecision", "score", "([I[I)D"⟩ : MethodName) (head1 (Jvm.Cond.code (⟨"com/example/weigh/weigh/eval/AveragePrecision", "score", "([I[I)D"⟩ : MethodName) prog_7_method_3_code 11 (some .double) :: ws) ({ frames := 0, cells := 0, slots := 0, locals := 0 } : Room)) (fun as_ U => as_ = #[.ref a, .ref ra, .ref ja] ∧ Z.Warmed39 U.vm ∧ U.heap = h0) (fun _ _ _ _ _ => True) (fun _ U o U' => own_Fin U ({ frames := 0, cells := 0, slots := 0, locals := 0 } : Room).cells ({ frames := 0, cells := 0, slots := 0, locals := 0 } : Room).slots (fun v h L => v = some (.double (own_res [b0, b1, b2] [c0, c1, c2])) ∧ Fr n0 L ∧ h = h0) o U') := by
  refine own_body (plainFor_of_name pn3) (ls0 := [.val (.ref a), .val (.ref ra), .val (.ref ja), .unset, .unset, .unset, .unset, .unset, .unset, .unset, .unset]) (fun m => by first | (simp [entryFrame, mkF, argsToLocals, Value.category, maxLocals]; done) | rfl) ?_
  intro p e s m below meth c T0 hx hby hml hown hnm hlk hret hZ X0 e0
  have hK : own_ks "com/example/weigh/weigh/eval/AveragePrecision" a0 Z kt3 := trivial
  have hF : own_fs "com/example/weigh/weigh/eval/AveragePrecision" a0 Z ft3 := trivial
  have N0 := Fr.nil n0
  obtain ⟨ho, hfin⟩ := Bool.and_eq_true_iff.mp hok
  refine own_blk dec3 seq3 hby hx hZ hown hK hF 6 [] [] X0 e0 ?_
  show own_Aft X0 h0 _ 8 [.val (.ref a), .val (.ref ra), .val (.ref ja), .val (.double 0), .second, .val (.int (0 : Int32)), .val (.int (1 : Int32)), .unset, .unset, .unset, .unset] []
  refine fun T1 X1 eh1 => ?_
  refine ptA_3 X1 hx hby hml hown hZ hK hF eh1 _ _ _ _ _ _ ra g0 g1 g2 b0 b1 b2 A1 hb0 hb1 hb2 ho (fun f0 s0 HF T2 X2 eh2 => ?_)
  show own_Go p.tables e below _ (T2.setTop (mkF m 43 (Array.mk [.val (.ref a), .val (.ref ra), .val (.ref ja), .val (.double s0), .second, .val (.int f0), .val (.int (4 : Int32)), .unset, .unset, .unset, .unset]) []))
  refine own_blk dec3 seq3 hby hx hZ hown hK hF 9 [] [.int (3 : Int32)] X2 eh2 ?_
  show (own_ln Z h0 ja (3 : Int32)) ∧ own_Aft X2 h0 _ 57 [.val (.ref a), .val (.ref ra), .val (.ref ja), .val (.double s0), .second, .val (.int f0), .val (.int (0 : Int32)), .val (.ref ja), .val (.int (3 : Int32)), .val (.int (0 : Int32)), .unset] []
  refine ⟨A2.ln (3 : Int32) rfl, fun T3 X3 eh3 => ?_⟩
  refine ptB_3 X3 hx hby hml hown hZ hK hF eh3 _ _ _ _ _ _ ja j0 j1 j2 c0 c1 c2 A2 hc0 hc1 hc2 (fun rr u10 CF T4 X4 eh4 => ?_)
  show own_Go p.tables e below _ (T4.setTop (mkF m 85 (Array.mk [.val (.ref a), .val (.ref ra), .val (.ref ja), .val (.double s0), .second, .val (.int f0), .val (.int rr), .val (.ref ja), .val (.int (3 : Int32)), .val (.int (3 : Int32)), u10]) []))
  by_cases hf : f0.toInt = 0
  · skip
    have hz : own_res [b0, b1, b2] [c0, c1, c2] = 0 := by unfold own_res; rw [HF]; exact if_pos hf
    refine own_blk dec3 seq3 hby hx hZ hown hK hF 4 [false] [] X4 eh4 ?_
    show (¬ ((f0).toInt ≠ 0)) ∧ own_Aft X4 h0 _ 99 [.val (.ref a), .val (.ref ra), .val (.ref ja), .val (.double s0), .second, .val (.int f0), .val (.int rr), .val (.ref ja), .val (.int (3 : Int32)), .val (.int (3 : Int32)), u10] [.double 0]
    refine ⟨by omega, fun T5 X5 eh5 => ?_⟩
    exact own_ret X5 hx hlk eh5 hret (by first | rfl | decide) (Or.inr (Or.inr (Or.inl ⟨rfl, rfl, _, rfl⟩))) (hb hby d3_99) (by decide) (by decide) (⟨by rw [hz], N0, rfl⟩)
  · skip
    have hz : own_res [b0, b1, b2] [c0, c1, c2] = FP.ddiv s0 (FP.i2d rr) := by unfold own_res; rw [HF, CF]; exact if_neg hf
    have hn : own_nb (FP.ddiv s0 (FP.i2d rr)) = true := by rw [HF, CF] at hfin; rcases Bool.or_eq_true_iff.mp hfin with q | q; exact absurd (of_decide_eq_true q) hf; exact q
    refine own_blk dec3 seq3 hby hx hZ hown hK hF 6 [true] [] X4 eh4 ?_
    show ((f0).toInt ≠ 0) ∧ (Jvm.Free.Fl.NoNaN64 (FP.ddiv s0 (FP.i2d rr))) ∧ own_Aft X4 h0 _ 99 [.val (.ref a), .val (.ref ra), .val (.ref ja), .val (.double s0), .second, .val (.int f0), .val (.int rr), .val (.ref ja), .val (.int (3 : Int32)), .val (.int (3 : Int32)), u10] [.double (FP.ddiv s0 (FP.i2d rr))]
    refine ⟨by omega, own_nb_e hn, fun T6 X6 eh6 => ?_⟩
    exact own_ret X6 hx hlk eh6 hret (by first | rfl | decide) (Or.inr (Or.inr (Or.inl ⟨rfl, rfl, _, rfl⟩))) (hb hby d3_99) (by decide) (by decide) (⟨by rw [hz], N0, rfl⟩)
set_option maxRecDepth 65536 in
set_option maxHeartbeats 40000000 in
theorem rm3_3_4 (l : Launch) (Z : State) (a0 : Array Value) (hw : ∀ d ∈ tables_1, d.before a0 Z = true) (ws : List Jvm.Cond) (a ra ja : Addr) (g0 g1 g2 j0 j1 j2 j3 : Int32) (b0 b1 b2 c0 c1 c2 c3 : Bool) (h0 : Heap) (n0 : Nat) (Z0 : n0 ≤ h0.size) (A1 : own_A Z h0 ra .int [.int g0, .int g1, .int g2]) (A2 : own_A Z h0 ja .int [.int j0, .int j1, .int j2, .int j3]) (hb0 : 0 < g0.toInt ↔ b0 = true) (hb1 : 0 < g1.toInt ↔ b1 = true) (hb2 : 0 < g2.toInt ↔ b2 = true) (hc0 : 0 < j0.toInt ↔ c0 = true) (hc1 : 0 < j1.toInt ↔ c1 = true) (hc2 : 0 < j2.toInt ↔ c2 = true) (hc3 : 0 < j3.toInt ↔ c3 = true) (hok : own_rok [b0, b1, b2] [c0, c1, c2, c3] = true) :
    MetFree l (⟨"com/example/weigh/weigh/eval/AveragePrecision", "score", "([I[I)D"⟩ : MethodName) (head1 (Jvm.Cond.code (⟨"com/example/weigh/weigh/eval/AveragePrecision", "score", "([I[I)D"⟩ : MethodName) prog_7_method_3_code 11 (some .double) :: ws) ({ frames := 0, cells := 0, slots := 0, locals := 0 } : Room)) (fun as_ U => as_ = #[.ref a, .ref ra, .ref ja] ∧ Z.Warmed39 U.vm ∧ U.heap = h0) (fun _ _ _ _ _ => True) (fun _ U o U' => own_Fin U ({ frames := 0, cells := 0, slots := 0, locals := 0 } : Room).cells ({ frames := 0, cells := 0, slots := 0, locals := 0 } : Room).slots (fun v h L => v = some (.double (own_res [b0, b1, b2] [c0, c1, c2, c3])) ∧ Fr n0 L ∧ h = h0) o U') := by
  refine own_body (plainFor_of_name pn3) (ls0 := [.val (.ref a), .val (.ref ra), .val (.ref ja), .unset, .unset, .unset, .unset, .unset, .unset, .unset, .unset]) (fun m => by first | (simp [entryFrame, mkF, argsToLocals, Value.category, maxLocals]; done) | rfl) ?_
  intro p e s m below meth c T0 hx hby hml hown hnm hlk hret hZ X0 e0
  have hK : own_ks "com/example/weigh/weigh/eval/AveragePrecision" a0 Z kt3 := trivial
  have hF : own_fs "com/example/weigh/weigh/eval/AveragePrecision" a0 Z ft3 := trivial
  have N0 := Fr.nil n0
  obtain ⟨ho, hfin⟩ := Bool.and_eq_true_iff.mp hok
  refine own_blk dec3 seq3 hby hx hZ hown hK hF 6 [] [] X0 e0 ?_
  show own_Aft X0 h0 _ 8 [.val (.ref a), .val (.ref ra), .val (.ref ja), .val (.double 0), .second, .val (.int (0 : Int32)), .val (.int (1 : Int32)), .unset, .unset, .unset, .unset] []
  refine fun T1 X1 eh1 => ?_
  refine ptA_3 X1 hx hby hml hown hZ hK hF eh1 _ _ _ _ _ _ ra g0 g1 g2 b0 b1 b2 A1 hb0 hb1 hb2 ho (fun f0 s0 HF T2 X2 eh2 => ?_)
  show own_Go p.tables e below _ (T2.setTop (mkF m 43 (Array.mk [.val (.ref a), .val (.ref ra), .val (.ref ja), .val (.double s0), .second, .val (.int f0), .val (.int (4 : Int32)), .unset, .unset, .unset, .unset]) []))
  refine own_blk dec3 seq3 hby hx hZ hown hK hF 9 [] [.int (4 : Int32)] X2 eh2 ?_
  show (own_ln Z h0 ja (4 : Int32)) ∧ own_Aft X2 h0 _ 57 [.val (.ref a), .val (.ref ra), .val (.ref ja), .val (.double s0), .second, .val (.int f0), .val (.int (0 : Int32)), .val (.ref ja), .val (.int (4 : Int32)), .val (.int (0 : Int32)), .unset] []
  refine ⟨A2.ln (4 : Int32) rfl, fun T3 X3 eh3 => ?_⟩
  refine ptB_4 X3 hx hby hml hown hZ hK hF eh3 _ _ _ _ _ _ ja j0 j1 j2 j3 c0 c1 c2 c3 A2 hc0 hc1 hc2 hc3 (fun rr u10 CF T4 X4 eh4 => ?_)
  show own_Go p.tables e below _ (T4.setTop (mkF m 85 (Array.mk [.val (.ref a), .val (.ref ra), .val (.ref ja), .val (.double s0), .second, .val (.int f0), .val (.int rr), .val (.ref ja), .val (.int (4 : Int32)), .val (.int (4 : Int32)), u10]) []))
  by_cases hf : f0.toInt = 0
  · skip
    have hz : own_res [b0, b1, b2] [c0, c1, c2, c3] = 0 := by unfold own_res; rw [HF]; exact if_pos hf
    refine own_blk dec3 seq3 hby hx hZ hown hK hF 4 [false] [] X4 eh4 ?_
    show (¬ ((f0).toInt ≠ 0)) ∧ own_Aft X4 h0 _ 99 [.val (.ref a), .val (.ref ra), .val (.ref ja), .val (.double s0), .second, .val (.int f0), .val (.int rr), .val (.ref ja), .val (.int (4 : Int32)), .val (.int (4 : Int32)), u10] [.double 0]
    refine ⟨by omega, fun T5 X5 eh5 => ?_⟩
    exact own_ret X5 hx hlk eh5 hret (by first | rfl | decide) (Or.inr (Or.inr (Or.inl ⟨rfl, rfl, _, rfl⟩))) (hb hby d3_99) (by decide) (by decide) (⟨by rw [hz], N0, rfl⟩)
  · skip
    have hz : own_res [b0, b1, b2] [c0, c1, c2, c3] = FP.ddiv s0 (FP.i2d rr) := by unfold own_res; rw [HF, CF]; exact if_neg hf
    have hn : own_nb (FP.ddiv s0 (FP.i2d rr)) = true := by rw [HF, CF] at hfin; rcases Bool.or_eq_true_iff.mp hfin with q | q; exact absurd (of_decide_eq_true q) hf; exact q
    refine own_blk dec3 seq3 hby hx hZ hown hK hF 6 [true] [] X4 eh4 ?_
    show ((f0).toInt ≠ 0) ∧ (Jvm.Free.Fl.NoNaN64 (FP.ddiv s0 (FP.i2d rr))) ∧ own_Aft X4 h0 _ 99 [.val (.ref a), .val (.ref ra), .val (.ref ja), .val (.double s0), .second, .val (.int f0), .val (.int rr), .val (.ref ja), .val (.int (4 : Int32)), .val (.int (4 : Int32)), u10] [.double (FP.ddiv s0 (FP.i2d rr))]
    refine ⟨by omega, own_nb_e hn, fun T6 X6 eh6 => ?_⟩
    exact own_ret X6 hx hlk eh6 hret (by first | rfl | decide) (Or.inr (Or.inr (Or.inl ⟨rfl, rfl, _, rfl⟩))) (hb hby d3_99) (by decide) (by decide) (⟨by rw [hz], N0, rfl⟩)
set_option maxRecDepth 65536 in
set_option maxHeartbeats 40000000 in
theorem rm3_3_5 (l : Launch) (Z : State) (a0 : Array Value) (hw : ∀ d ∈ tables_1, d.before a0 Z = true) (ws : List Jvm.Cond) (a ra ja : Addr) (g0 g1 g2 j0 j1 j2 j3 j4 : Int32) (b0 b1 b2 c0 c1 c2 c3 c4 : Bool) (h0 : Heap) (n0 : Nat) (Z0 : n0 ≤ h0.size) (A1 : own_A Z h0 ra .int [.int g0, .int g1, .int g2]) (A2 : own_A Z h0 ja .int [.int j0, .int j1, .int j2, .int j3, .int j4]) (hb0 : 0 < g0.toInt ↔ b0 = true) (hb1 : 0 < g1.toInt ↔ b1 = true) (hb2 : 0 < g2.toInt ↔ b2 = true) (hc0 : 0 < j0.toInt ↔ c0 = true) (hc1 : 0 < j1.toInt ↔ c1 = true) (hc2 : 0 < j2.toInt ↔ c2 = true) (hc3 : 0 < j3.toInt ↔ c3 = true) (hc4 : 0 < j4.toInt ↔ c4 = true) (hok : own_rok [b0, b1, b2] [c0, c1, c2, c3, c4] = true) :
    MetFree l (⟨"com/example/weigh/weigh/eval/AveragePrecision", "score", "([I[I)D"⟩ : MethodName) (head1 (Jvm.Cond.code (⟨"com/example/weigh/weigh/eval/AveragePrecision", "score", "([I[I)D"⟩ : MethodName) prog_7_method_3_code 11 (some .double) :: ws) ({ frames := 0, cells := 0, slots := 0, locals := 0 } : Room)) (fun as_ U => as_ = #[.ref a, .ref ra, .ref ja] ∧ Z.Warmed39 U.vm ∧ U.heap = h0) (fun _ _ _ _ _ => True) (fun _ U o U' => own_Fin U ({ frames := 0, cells := 0, slots := 0, locals := 0 } : Room).cells ({ frames := 0, cells := 0, slots := 0, locals := 0 } : Room).slots (fun v h L => v = some (.double (own_res [b0, b1, b2] [c0, c1, c2, c3, c4])) ∧ Fr n0 L ∧ h = h0) o U') := by
  refine own_body (plainFor_of_name pn3) (ls0 := [.val (.ref a), .val (.ref ra), .val (.ref ja), .unset, .unset, .unset, .unset, .unset, .unset, .unset, .unset]) (fun m => by first | (simp [entryFrame, mkF, argsToLocals, Value.category, maxLocals]; done) | rfl) ?_
  intro p e s m below meth c T0 hx hby hml hown hnm hlk hret hZ X0 e0
  have hK : own_ks "com/example/weigh/weigh/eval/AveragePrecision" a0 Z kt3 := trivial
  have hF : own_fs "com/example/weigh/weigh/eval/AveragePrecision" a0 Z ft3 := trivial
  have N0 := Fr.nil n0
  obtain ⟨ho, hfin⟩ := Bool.and_eq_true_iff.mp hok
  refine own_blk dec3 seq3 hby hx hZ hown hK hF 6 [] [] X0 e0 ?_
  show own_Aft X0 h0 _ 8 [.val (.ref a), .val (.ref ra), .val (.ref ja), .val (.double 0), .second, .val (.int (0 : Int32)), .val (.int (1 : Int32)), .unset, .unset, .unset, .unset] []
  refine fun T1 X1 eh1 => ?_
  refine ptA_3 X1 hx hby hml hown hZ hK hF eh1 _ _ _ _ _ _ ra g0 g1 g2 b0 b1 b2 A1 hb0 hb1 hb2 ho (fun f0 s0 HF T2 X2 eh2 => ?_)
  show own_Go p.tables e below _ (T2.setTop (mkF m 43 (Array.mk [.val (.ref a), .val (.ref ra), .val (.ref ja), .val (.double s0), .second, .val (.int f0), .val (.int (4 : Int32)), .unset, .unset, .unset, .unset]) []))
  refine own_blk dec3 seq3 hby hx hZ hown hK hF 9 [] [.int (5 : Int32)] X2 eh2 ?_
  show (own_ln Z h0 ja (5 : Int32)) ∧ own_Aft X2 h0 _ 57 [.val (.ref a), .val (.ref ra), .val (.ref ja), .val (.double s0), .second, .val (.int f0), .val (.int (0 : Int32)), .val (.ref ja), .val (.int (5 : Int32)), .val (.int (0 : Int32)), .unset] []
  refine ⟨A2.ln (5 : Int32) rfl, fun T3 X3 eh3 => ?_⟩
  refine ptB_5 X3 hx hby hml hown hZ hK hF eh3 _ _ _ _ _ _ ja j0 j1 j2 j3 j4 c0 c1 c2 c3 c4 A2 hc0 hc1 hc2 hc3 hc4 (fun rr u10 CF T4 X4 eh4 => ?_)
  show own_Go p.tables e below _ (T4.setTop (mkF m 85 (Array.mk [.val (.ref a), .val (.ref ra), .val (.ref ja), .val (.double s0), .second, .val (.int f0), .val (.int rr), .val (.ref ja), .val (.int (5 : Int32)), .val (.int (5 : Int32)), u10]) []))
  by_cases hf : f0.toInt = 0
  · skip
    have hz : own_res [b0, b1, b2] [c0, c1, c2, c3, c4] = 0 := by unfold own_res; rw [HF]; exact if_pos hf
    refine own_blk dec3 seq3 hby hx hZ hown hK hF 4 [false] [] X4 eh4 ?_
    show (¬ ((f0).toInt ≠ 0)) ∧ own_Aft X4 h0 _ 99 [.val (.ref a), .val (.ref ra), .val (.ref ja), .val (.double s0), .second, .val (.int f0), .val (.int rr), .val (.ref ja), .val (.int (5 : Int32)), .val (.int (5 : Int32)), u10] [.double 0]
    refine ⟨by omega, fun T5 X5 eh5 => ?_⟩
    exact own_ret X5 hx hlk eh5 hret (by first | rfl | decide) (Or.inr (Or.inr (Or.inl ⟨rfl, rfl, _, rfl⟩))) (hb hby d3_99) (by decide) (by decide) (⟨by rw [hz], N0, rfl⟩)
  · skip
    have hz : own_res [b0, b1, b2] [c0, c1, c2, c3, c4] = FP.ddiv s0 (FP.i2d rr) := by unfold own_res; rw [HF, CF]; exact if_neg hf
    have hn : own_nb (FP.ddiv s0 (FP.i2d rr)) = true := by rw [HF, CF] at hfin; rcases Bool.or_eq_true_iff.mp hfin with q | q; exact absurd (of_decide_eq_true q) hf; exact q
    refine own_blk dec3 seq3 hby hx hZ hown hK hF 6 [true] [] X4 eh4 ?_
    show ((f0).toInt ≠ 0) ∧ (Jvm.Free.Fl.NoNaN64 (FP.ddiv s0 (FP.i2d rr))) ∧ own_Aft X4 h0 _ 99 [.val (.ref a), .val (.ref ra), .val (.ref ja), .val (.double s0), .second, .val (.int f0), .val (.int rr), .val (.ref ja), .val (.int (5 : Int32)), .val (.int (5 : Int32)), u10] [.double (FP.ddiv s0 (FP.i2d rr))]
    refine ⟨by omega, own_nb_e hn, fun T6 X6 eh6 => ?_⟩
    exact own_ret X6 hx hlk eh6 hret (by first | rfl | decide) (Or.inr (Or.inr (Or.inl ⟨rfl, rfl, _, rfl⟩))) (hb hby d3_99) (by decide) (by decide) (⟨by rw [hz], N0, rfl⟩)
set_option maxRecDepth 65536 in
set_option maxHeartbeats 40000000 in
theorem rm3_3_6 (l : Launch) (Z : State) (a0 : Array Value) (hw : ∀ d ∈ tables_1, d.before a0 Z = true) (ws : List Jvm.Cond) (a ra ja : Addr) (g0 g1 g2 j0 j1 j2 j3 j4 j5 : Int32) (b0 b1 b2 c0 c1 c2 c3 c4 c5 : Bool) (h0 : Heap) (n0 : Nat) (Z0 : n0 ≤ h0.size) (A1 : own_A Z h0 ra .int [.int g0, .int g1, .int g2]) (A2 : own_A Z h0 ja .int [.int j0, .int j1, .int j2, .int j3, .int j4, .int j5]) (hb0 : 0 < g0.toInt ↔ b0 = true) (hb1 : 0 < g1.toInt ↔ b1 = true) (hb2 : 0 < g2.toInt ↔ b2 = true) (hc0 : 0 < j0.toInt ↔ c0 = true) (hc1 : 0 < j1.toInt ↔ c1 = true) (hc2 : 0 < j2.toInt ↔ c2 = true) (hc3 : 0 < j3.toInt ↔ c3 = true) (hc4 : 0 < j4.toInt ↔ c4 = true) (hc5 : 0 < j5.toInt ↔ c5 = true) (hok : own_rok [b0, b1, b2] [c0, c1, c2, c3, c4, c5] = true) :
    MetFree l (⟨"com/example/weigh/weigh/eval/AveragePrecision", "score", "([I[I)D"⟩ : MethodName) (head1 (Jvm.Cond.code (⟨"com/example/weigh/weigh/eval/AveragePrecision", "score", "([I[I)D"⟩ : MethodName) prog_7_method_3_code 11 (some .double) :: ws) ({ frames := 0, cells := 0, slots := 0, locals := 0 } : Room)) (fun as_ U => as_ = #[.ref a, .ref ra, .ref ja] ∧ Z.Warmed39 U.vm ∧ U.heap = h0) (fun _ _ _ _ _ => True) (fun _ U o U' => own_Fin U ({ frames := 0, cells := 0, slots := 0, locals := 0 } : Room).cells ({ frames := 0, cells := 0, slots := 0, locals := 0 } : Room).slots (fun v h L => v = some (.double (own_res [b0, b1, b2] [c0, c1, c2, c3, c4, c5])) ∧ Fr n0 L ∧ h = h0) o U') := by
  refine own_body (plainFor_of_name pn3) (ls0 := [.val (.ref a), .val (.ref ra), .val (.ref ja), .unset, .unset, .unset, .unset, .unset, .unset, .unset, .unset]) (fun m => by first | (simp [entryFrame, mkF, argsToLocals, Value.category, maxLocals]; done) | rfl) ?_
  intro p e s m below meth c T0 hx hby hml hown hnm hlk hret hZ X0 e0
  have hK : own_ks "com/example/weigh/weigh/eval/AveragePrecision" a0 Z kt3 := trivial
  have hF : own_fs "com/example/weigh/weigh/eval/AveragePrecision" a0 Z ft3 := trivial
  have N0 := Fr.nil n0
  obtain ⟨ho, hfin⟩ := Bool.and_eq_true_iff.mp hok
  refine own_blk dec3 seq3 hby hx hZ hown hK hF 6 [] [] X0 e0 ?_
  show own_Aft X0 h0 _ 8 [.val (.ref a), .val (.ref ra), .val (.ref ja), .val (.double 0), .second, .val (.int (0 : Int32)), .val (.int (1 : Int32)), .unset, .unset, .unset, .unset] []
  refine fun T1 X1 eh1 => ?_
  refine ptA_3 X1 hx hby hml hown hZ hK hF eh1 _ _ _ _ _ _ ra g0 g1 g2 b0 b1 b2 A1 hb0 hb1 hb2 ho (fun f0 s0 HF T2 X2 eh2 => ?_)
  show own_Go p.tables e below _ (T2.setTop (mkF m 43 (Array.mk [.val (.ref a), .val (.ref ra), .val (.ref ja), .val (.double s0), .second, .val (.int f0), .val (.int (4 : Int32)), .unset, .unset, .unset, .unset]) []))
  refine own_blk dec3 seq3 hby hx hZ hown hK hF 9 [] [.int (6 : Int32)] X2 eh2 ?_
  show (own_ln Z h0 ja (6 : Int32)) ∧ own_Aft X2 h0 _ 57 [.val (.ref a), .val (.ref ra), .val (.ref ja), .val (.double s0), .second, .val (.int f0), .val (.int (0 : Int32)), .val (.ref ja), .val (.int (6 : Int32)), .val (.int (0 : Int32)), .unset] []
  refine ⟨A2.ln (6 : Int32) rfl, fun T3 X3 eh3 => ?_⟩
  refine ptB_6 X3 hx hby hml hown hZ hK hF eh3 _ _ _ _ _ _ ja j0 j1 j2 j3 j4 j5 c0 c1 c2 c3 c4 c5 A2 hc0 hc1 hc2 hc3 hc4 hc5 (fun rr u10 CF T4 X4 eh4 => ?_)
  show own_Go p.tables e below _ (T4.setTop (mkF m 85 (Array.mk [.val (.ref a), .val (.ref ra), .val (.ref ja), .val (.double s0), .second, .val (.int f0), .val (.int rr), .val (.ref ja), .val (.int (6 : Int32)), .val (.int (6 : Int32)), u10]) []))
  by_cases hf : f0.toInt = 0
  · skip
    have hz : own_res [b0, b1, b2] [c0, c1, c2, c3, c4, c5] = 0 := by unfold own_res; rw [HF]; exact if_pos hf
    refine own_blk dec3 seq3 hby hx hZ hown hK hF 4 [false] [] X4 eh4 ?_
    show (¬ ((f0).toInt ≠ 0)) ∧ own_Aft X4 h0 _ 99 [.val (.ref a), .val (.ref ra), .val (.ref ja), .val (.double s0), .second, .val (.int f0), .val (.int rr), .val (.ref ja), .val (.int (6 : Int32)), .val (.int (6 : Int32)), u10] [.double 0]
    refine ⟨by omega, fun T5 X5 eh5 => ?_⟩
    exact own_ret X5 hx hlk eh5 hret (by first | rfl | decide) (Or.inr (Or.inr (Or.inl ⟨rfl, rfl, _, rfl⟩))) (hb hby d3_99) (by decide) (by decide) (⟨by rw [hz], N0, rfl⟩)
  · skip
    have hz : own_res [b0, b1, b2] [c0, c1, c2, c3, c4, c5] = FP.ddiv s0 (FP.i2d rr) := by unfold own_res; rw [HF, CF]; exact if_neg hf
    have hn : own_nb (FP.ddiv s0 (FP.i2d rr)) = true := by rw [HF, CF] at hfin; rcases Bool.or_eq_true_iff.mp hfin with q | q; exact absurd (of_decide_eq_true q) hf; exact q
    refine own_blk dec3 seq3 hby hx hZ hown hK hF 6 [true] [] X4 eh4 ?_
    show ((f0).toInt ≠ 0) ∧ (Jvm.Free.Fl.NoNaN64 (FP.ddiv s0 (FP.i2d rr))) ∧ own_Aft X4 h0 _ 99 [.val (.ref a), .val (.ref ra), .val (.ref ja), .val (.double s0), .second, .val (.int f0), .val (.int rr), .val (.ref ja), .val (.int (6 : Int32)), .val (.int (6 : Int32)), u10] [.double (FP.ddiv s0 (FP.i2d rr))]
    refine ⟨by omega, own_nb_e hn, fun T6 X6 eh6 => ?_⟩
    exact own_ret X6 hx hlk eh6 hret (by first | rfl | decide) (Or.inr (Or.inr (Or.inl ⟨rfl, rfl, _, rfl⟩))) (hb hby d3_99) (by decide) (by decide) (⟨by rw [hz], N0, rfl⟩)
set_option maxRecDepth 65536 in
set_option maxHeartbeats 40000000 in
theorem rm3_4_4 (l : Launch) (Z : State) (a0 : Array Value) (hw : ∀ d ∈ tables_1, d.before a0 Z = true) (ws : List Jvm.Cond) (a ra ja : Addr) (g0 g1 g2 g3 j0 j1 j2 j3 : Int32) (b0 b1 b2 b3 c0 c1 c2 c3 : Bool) (h0 : Heap) (n0 : Nat) (Z0 : n0 ≤ h0.size) (A1 : own_A Z h0 ra .int [.int g0, .int g1, .int g2, .int g3]) (A2 : own_A Z h0 ja .int [.int j0, .int j1, .int j2, .int j3]) (hb0 : 0 < g0.toInt ↔ b0 = true) (hb1 : 0 < g1.toInt ↔ b1 = true) (hb2 : 0 < g2.toInt ↔ b2 = true) (hb3 : 0 < g3.toInt ↔ b3 = true) (hc0 : 0 < j0.toInt ↔ c0 = true) (hc1 : 0 < j1.toInt ↔ c1 = true) (hc2 : 0 < j2.toInt ↔ c2 = true) (hc3 : 0 < j3.toInt ↔ c3 = true) (hok : own_rok [b0, b1, b2, b3] [c0, c1, c2, c3] = true) :
    MetFree l (⟨"com/example/weigh/weigh/eval/AveragePrecision", "score", "([I[I)D"⟩ : MethodName) (head1 (Jvm.Cond.code (⟨"com/example/weigh/weigh/eval/AveragePrecision", "score", "([I[I)D"⟩ : MethodName) prog_7_method_3_code 11 (some .double) :: ws) ({ frames := 0, cells := 0, slots := 0, locals := 0 } : Room)) (fun as_ U => as_ = #[.ref a, .ref ra, .ref ja] ∧ Z.Warmed39 U.vm ∧ U.heap = h0) (fun _ _ _ _ _ => True) (fun _ U o U' => own_Fin U ({ frames := 0, cells := 0, slots := 0, locals := 0 } : Room).cells ({ frames := 0, cells := 0, slots := 0, locals := 0 } : Room).slots (fun v h L => v = some (.double (own_res [b0, b1, b2, b3] [c0, c1, c2, c3])) ∧ Fr n0 L ∧ h = h0) o U') := by
  refine own_body (plainFor_of_name pn3) (ls0 := [.val (.ref a), .val (.ref ra), .val (.ref ja), .unset, .unset, .unset, .unset, .unset, .unset, .unset, .unset]) (fun m => by first | (simp [entryFrame, mkF, argsToLocals, Value.category, maxLocals]; done) | rfl) ?_
  intro p e s m below meth c T0 hx hby hml hown hnm hlk hret hZ X0 e0
  have hK : own_ks "com/example/weigh/weigh/eval/AveragePrecision" a0 Z kt3 := trivial
  have hF : own_fs "com/example/weigh/weigh/eval/AveragePrecision" a0 Z ft3 := trivial
  have N0 := Fr.nil n0
  obtain ⟨ho, hfin⟩ := Bool.and_eq_true_iff.mp hok
  refine own_blk dec3 seq3 hby hx hZ hown hK hF 6 [] [] X0 e0 ?_
  show own_Aft X0 h0 _ 8 [.val (.ref a), .val (.ref ra), .val (.ref ja), .val (.double 0), .second, .val (.int (0 : Int32)), .val (.int (1 : Int32)), .unset, .unset, .unset, .unset] []
  refine fun T1 X1 eh1 => ?_
  refine ptA_4 X1 hx hby hml hown hZ hK hF eh1 _ _ _ _ _ _ ra g0 g1 g2 g3 b0 b1 b2 b3 A1 hb0 hb1 hb2 hb3 ho (fun f0 s0 HF T2 X2 eh2 => ?_)
  show own_Go p.tables e below _ (T2.setTop (mkF m 43 (Array.mk [.val (.ref a), .val (.ref ra), .val (.ref ja), .val (.double s0), .second, .val (.int f0), .val (.int (5 : Int32)), .unset, .unset, .unset, .unset]) []))
  refine own_blk dec3 seq3 hby hx hZ hown hK hF 9 [] [.int (4 : Int32)] X2 eh2 ?_
  show (own_ln Z h0 ja (4 : Int32)) ∧ own_Aft X2 h0 _ 57 [.val (.ref a), .val (.ref ra), .val (.ref ja), .val (.double s0), .second, .val (.int f0), .val (.int (0 : Int32)), .val (.ref ja), .val (.int (4 : Int32)), .val (.int (0 : Int32)), .unset] []
  refine ⟨A2.ln (4 : Int32) rfl, fun T3 X3 eh3 => ?_⟩
  refine ptB_4 X3 hx hby hml hown hZ hK hF eh3 _ _ _ _ _ _ ja j0 j1 j2 j3 c0 c1 c2 c3 A2 hc0 hc1 hc2 hc3 (fun rr u10 CF T4 X4 eh4 => ?_)
  show own_Go p.tables e below _ (T4.setTop (mkF m 85 (Array.mk [.val (.ref a), .val (.ref ra), .val (.ref ja), .val (.double s0), .second, .val (.int f0), .val (.int rr), .val (.ref ja), .val (.int (4 : Int32)), .val (.int (4 : Int32)), u10]) []))
  by_cases hf : f0.toInt = 0
  · skip
    have hz : own_res [b0, b1, b2, b3] [c0, c1, c2, c3] = 0 := by unfold own_res; rw [HF]; exact if_pos hf
    refine own_blk dec3 seq3 hby hx hZ hown hK hF 4 [false] [] X4 eh4 ?_
    show (¬ ((f0).toInt ≠ 0)) ∧ own_Aft X4 h0 _ 99 [.val (.ref a), .val (.ref ra), .val (.ref ja), .val (.double s0), .second, .val (.int f0), .val (.int rr), .val (.ref ja), .val (.int (4 : Int32)), .val (.int (4 : Int32)), u10] [.double 0]
    refine ⟨by omega, fun T5 X5 eh5 => ?_⟩
    exact own_ret X5 hx hlk eh5 hret (by first | rfl | decide) (Or.inr (Or.inr (Or.inl ⟨rfl, rfl, _, rfl⟩))) (hb hby d3_99) (by decide) (by decide) (⟨by rw [hz], N0, rfl⟩)
  · skip
    have hz : own_res [b0, b1, b2, b3] [c0, c1, c2, c3] = FP.ddiv s0 (FP.i2d rr) := by unfold own_res; rw [HF, CF]; exact if_neg hf
    have hn : own_nb (FP.ddiv s0 (FP.i2d rr)) = true := by rw [HF, CF] at hfin; rcases Bool.or_eq_true_iff.mp hfin with q | q; exact absurd (of_decide_eq_true q) hf; exact q
    refine own_blk dec3 seq3 hby hx hZ hown hK hF 6 [true] [] X4 eh4 ?_
    show ((f0).toInt ≠ 0) ∧ (Jvm.Free.Fl.NoNaN64 (FP.ddiv s0 (FP.i2d rr))) ∧ own_Aft X4 h0 _ 99 [.val (.ref a), .val (.ref ra), .val (.ref ja), .val (.double s0), .second, .val (.int f0), .val (.int rr), .val (.ref ja), .val (.int (4 : Int32)), .val (.int (4 : Int32)), u10] [.double (FP.ddiv s0 (FP.i2d rr))]
    refine ⟨by omega, own_nb_e hn, fun T6 X6 eh6 => ?_⟩
    exact own_ret X6 hx hlk eh6 hret (by first | rfl | decide) (Or.inr (Or.inr (Or.inl ⟨rfl, rfl, _, rfl⟩))) (hb hby d3_99) (by decide) (by decide) (⟨by rw [hz], N0, rfl⟩)
set_option maxRecDepth 65536 in
set_option maxHeartbeats 40000000 in
theorem rm3_4_5 (l : Launch) (Z : State) (a0 : Array Value) (hw : ∀ d ∈ tables_1, d.before a0 Z = true) (ws : List Jvm.Cond) (a ra ja : Addr) (g0 g1 g2 g3 j0 j1 j2 j3 j4 : Int32) (b0 b1 b2 b3 c0 c1 c2 c3 c4 : Bool) (h0 : Heap) (n0 : Nat) (Z0 : n0 ≤ h0.size) (A1 : own_A Z h0 ra .int [.int g0, .int g1, .int g2, .int g3]) (A2 : own_A Z h0 ja .int [.int j0, .int j1, .int j2, .int j3, .int j4]) (hb0 : 0 < g0.toInt ↔ b0 = true) (hb1 : 0 < g1.toInt ↔ b1 = true) (hb2 : 0 < g2.toInt ↔ b2 = true) (hb3 : 0 < g3.toInt ↔ b3 = true) (hc0 : 0 < j0.toInt ↔ c0 = true) (hc1 : 0 < j1.toInt ↔ c1 = true) (hc2 : 0 < j2.toInt ↔ c2 = true) (hc3 : 0 < j3.toInt ↔ c3 = true) (hc4 : 0 < j4.toInt ↔ c4 = true) (hok : own_rok [b0, b1, b2, b3] [c0, c1, c2, c3, c4] = true) :
    MetFree l (⟨"com/example/weigh/weigh/eval/AveragePrecision", "score", "([I[I)D"⟩ : MethodName) (head1 (Jvm.Cond.code (⟨"com/example/weigh/weigh/eval/AveragePrecision", "score", "([I[I)D"⟩ : MethodName) prog_7_method_3_code 11 (some .double) :: ws) ({ frames := 0, cells := 0, slots := 0, locals := 0 } : Room)) (fun as_ U => as_ = #[.ref a, .ref ra, .ref ja] ∧ Z.Warmed39 U.vm ∧ U.heap = h0) (fun _ _ _ _ _ => True) (fun _ U o U' => own_Fin U ({ frames := 0, cells := 0, slots := 0, locals := 0 } : Room).cells ({ frames := 0, cells := 0, slots := 0, locals := 0 } : Room).slots (fun v h L => v = some (.double (own_res [b0, b1, b2, b3] [c0, c1, c2, c3, c4])) ∧ Fr n0 L ∧ h = h0) o U') := by
  refine own_body (plainFor_of_name pn3) (ls0 := [.val (.ref a), .val (.ref ra), .val (.ref ja), .unset, .unset, .unset, .unset, .unset, .unset, .unset, .unset]) (fun m => by first | (simp [entryFrame, mkF, argsToLocals, Value.category, maxLocals]; done) | rfl) ?_
  intro p e s m below meth c T0 hx hby hml hown hnm hlk hret hZ X0 e0
  have hK : own_ks "com/example/weigh/weigh/eval/AveragePrecision" a0 Z kt3 := trivial
  have hF : own_fs "com/example/weigh/weigh/eval/AveragePrecision" a0 Z ft3 := trivial
  have N0 := Fr.nil n0
  obtain ⟨ho, hfin⟩ := Bool.and_eq_true_iff.mp hok
  refine own_blk dec3 seq3 hby hx hZ hown hK hF 6 [] [] X0 e0 ?_
  show own_Aft X0 h0 _ 8 [.val (.ref a), .val (.ref ra), .val (.ref ja), .val (.double 0), .second, .val (.int (0 : Int32)), .val (.int (1 : Int32)), .unset, .unset, .unset, .unset] []
  refine fun T1 X1 eh1 => ?_
  refine ptA_4 X1 hx hby hml hown hZ hK hF eh1 _ _ _ _ _ _ ra g0 g1 g2 g3 b0 b1 b2 b3 A1 hb0 hb1 hb2 hb3 ho (fun f0 s0 HF T2 X2 eh2 => ?_)
  show own_Go p.tables e below _ (T2.setTop (mkF m 43 (Array.mk [.val (.ref a), .val (.ref ra), .val (.ref ja), .val (.double s0), .second, .val (.int f0), .val (.int (5 : Int32)), .unset, .unset, .unset, .unset]) []))
  refine own_blk dec3 seq3 hby hx hZ hown hK hF 9 [] [.int (5 : Int32)] X2 eh2 ?_
  show (own_ln Z h0 ja (5 : Int32)) ∧ own_Aft X2 h0 _ 57 [.val (.ref a), .val (.ref ra), .val (.ref ja), .val (.double s0), .second, .val (.int f0), .val (.int (0 : Int32)), .val (.ref ja), .val (.int (5 : Int32)), .val (.int (0 : Int32)), .unset] []
  refine ⟨A2.ln (5 : Int32) rfl, fun T3 X3 eh3 => ?_⟩
  refine ptB_5 X3 hx hby hml hown hZ hK hF eh3 _ _ _ _ _ _ ja j0 j1 j2 j3 j4 c0 c1 c2 c3 c4 A2 hc0 hc1 hc2 hc3 hc4 (fun rr u10 CF T4 X4 eh4 => ?_)
  show own_Go p.tables e below _ (T4.setTop (mkF m 85 (Array.mk [.val (.ref a), .val (.ref ra), .val (.ref ja), .val (.double s0), .second, .val (.int f0), .val (.int rr), .val (.ref ja), .val (.int (5 : Int32)), .val (.int (5 : Int32)), u10]) []))
  by_cases hf : f0.toInt = 0
  · skip
    have hz : own_res [b0, b1, b2, b3] [c0, c1, c2, c3, c4] = 0 := by unfold own_res; rw [HF]; exact if_pos hf
    refine own_blk dec3 seq3 hby hx hZ hown hK hF 4 [false] [] X4 eh4 ?_
    show (¬ ((f0).toInt ≠ 0)) ∧ own_Aft X4 h0 _ 99 [.val (.ref a), .val (.ref ra), .val (.ref ja), .val (.double s0), .second, .val (.int f0), .val (.int rr), .val (.ref ja), .val (.int (5 : Int32)), .val (.int (5 : Int32)), u10] [.double 0]
    refine ⟨by omega, fun T5 X5 eh5 => ?_⟩
    exact own_ret X5 hx hlk eh5 hret (by first | rfl | decide) (Or.inr (Or.inr (Or.inl ⟨rfl, rfl, _, rfl⟩))) (hb hby d3_99) (by decide) (by decide) (⟨by rw [hz], N0, rfl⟩)
  · skip
    have hz : own_res [b0, b1, b2, b3] [c0, c1, c2, c3, c4] = FP.ddiv s0 (FP.i2d rr) := by unfold own_res; rw [HF, CF]; exact if_neg hf
    have hn : own_nb (FP.ddiv s0 (FP.i2d rr)) = true := by rw [HF, CF] at hfin; rcases Bool.or_eq_true_iff.mp hfin with q | q; exact absurd (of_decide_eq_true q) hf; exact q
    refine own_blk dec3 seq3 hby hx hZ hown hK hF 6 [true] [] X4 eh4 ?_
    show ((f0).toInt ≠ 0) ∧ (Jvm.Free.Fl.NoNaN64 (FP.ddiv s0 (FP.i2d rr))) ∧ own_Aft X4 h0 _ 99 [.val (.ref a), .val (.ref ra), .val (.ref ja), .val (.double s0), .second, .val (.int f0), .val (.int rr), .val (.ref ja), .val (.int (5 : Int32)), .val (.int (5 : Int32)), u10] [.double (FP.ddiv s0 (FP.i2d rr))]
    refine ⟨by omega, own_nb_e hn, fun T6 X6 eh6 => ?_⟩
    exact own_ret X6 hx hlk eh6 hret (by first | rfl | decide) (Or.inr (Or.inr (Or.inl ⟨rfl, rfl, _, rfl⟩))) (hb hby d3_99) (by decide) (by decide) (⟨by rw [hz], N0, rfl⟩)
set_option maxRecDepth 65536 in
set_option maxHeartbeats 40000000 in
theorem rm3_4_6 (l : Launch) (Z : State) (a0 : Array Value) (hw : ∀ d ∈ tables_1, d.before a0 Z = true) (ws : List Jvm.Cond) (a ra ja : Addr) (g0 g1 g2 g3 j0 j1 j2 j3 j4 j5 : Int32) (b0 b1 b2 b3 c0 c1 c2 c3 c4 c5 : Bool) (h0 : Heap) (n0 : Nat) (Z0 : n0 ≤ h0.size) (A1 : own_A Z h0 ra .int [.int g0, .int g1, .int g2, .int g3]) (A2 : own_A Z h0 ja .int [.int j0, .int j1, .int j2, .int j3, .int j4, .int j5]) (hb0 : 0 < g0.toInt ↔ b0 = true) (hb1 : 0 < g1.toInt ↔ b1 = true) (hb2 : 0 < g2.toInt ↔ b2 = true) (hb3 : 0 < g3.toInt ↔ b3 = true) (hc0 : 0 < j0.toInt ↔ c0 = true) (hc1 : 0 < j1.toInt ↔ c1 = true) (hc2 : 0 < j2.toInt ↔ c2 = true) (hc3 : 0 < j3.toInt ↔ c3 = true) (hc4 : 0 < j4.toInt ↔ c4 = true) (hc5 : 0 < j5.toInt ↔ c5 = true) (hok : own_rok [b0, b1, b2, b3] [c0, c1, c2, c3, c4, c5] = true) :
    MetFree l (⟨"com/example/weigh/weigh/eval/AveragePrecision", "score", "([I[I)D"⟩ : MethodName) (head1 (Jvm.Cond.code (⟨"com/example/weigh/weigh/eval/AveragePrecision", "score", "([I[I)D"⟩ : MethodName) prog_7_method_3_code 11 (some .double) :: ws) ({ frames := 0, cells := 0, slots := 0, locals := 0 } : Room)) (fun as_ U => as_ = #[.ref a, .ref ra, .ref ja] ∧ Z.Warmed39 U.vm ∧ U.heap = h0) (fun _ _ _ _ _ => True) (fun _ U o U' => own_Fin U ({ frames := 0, cells := 0, slots := 0, locals := 0 } : Room).cells ({ frames := 0, cells := 0, slots := 0, locals := 0 } : Room).slots (fun v h L => v = some (.double (own_res [b0, b1, b2, b3] [c0, c1, c2, c3, c4, c5])) ∧ Fr n0 L ∧ h = h0) o U') := by
  refine own_body (plainFor_of_name pn3) (ls0 := [.val (.ref a), .val (.ref ra), .val (.ref ja), .unset, .unset, .unset, .unset, .unset, .unset, .unset, .unset]) (fun m => by first | (simp [entryFrame, mkF, argsToLocals, Value.category, maxLocals]; done) | rfl) ?_
  intro p e s m below meth c T0 hx hby hml hown hnm hlk hret hZ X0 e0
  have hK : own_ks "com/example/weigh/weigh/eval/AveragePrecision" a0 Z kt3 := trivial
  have hF : own_fs "com/example/weigh/weigh/eval/AveragePrecision" a0 Z ft3 := trivial
  have N0 := Fr.nil n0
  obtain ⟨ho, hfin⟩ := Bool.and_eq_true_iff.mp hok
  refine own_blk dec3 seq3 hby hx hZ hown hK hF 6 [] [] X0 e0 ?_
  show own_Aft X0 h0 _ 8 [.val (.ref a), .val (.ref ra), .val (.ref ja), .val (.double 0), .second, .val (.int (0 : Int32)), .val (.int (1 : Int32)), .unset, .unset, .unset, .unset] []
  refine fun T1 X1 eh1 => ?_
  refine ptA_4 X1 hx hby hml hown hZ hK hF eh1 _ _ _ _ _ _ ra g0 g1 g2 g3 b0 b1 b2 b3 A1 hb0 hb1 hb2 hb3 ho (fun f0 s0 HF T2 X2 eh2 => ?_)
  show own_Go p.tables e below _ (T2.setTop (mkF m 43 (Array.mk [.val (.ref a), .val (.ref ra), .val (.ref ja), .val (.double s0), .second, .val (.int f0), .val (.int (5 : Int32)), .unset, .unset, .unset, .unset]) []))
  refine own_blk dec3 seq3 hby hx hZ hown hK hF 9 [] [.int (6 : Int32)] X2 eh2 ?_
  show (own_ln Z h0 ja (6 : Int32)) ∧ own_Aft X2 h0 _ 57 [.val (.ref a), .val (.ref ra), .val (.ref ja), .val (.double s0), .second, .val (.int f0), .val (.int (0 : Int32)), .val (.ref ja), .val (.int (6 : Int32)), .val (.int (0 : Int32)), .unset] []
  refine ⟨A2.ln (6 : Int32) rfl, fun T3 X3 eh3 => ?_⟩
  refine ptB_6 X3 hx hby hml hown hZ hK hF eh3 _ _ _ _ _ _ ja j0 j1 j2 j3 j4 j5 c0 c1 c2 c3 c4 c5 A2 hc0 hc1 hc2 hc3 hc4 hc5 (fun rr u10 CF T4 X4 eh4 => ?_)
  show own_Go p.tables e below _ (T4.setTop (mkF m 85 (Array.mk [.val (.ref a), .val (.ref ra), .val (.ref ja), .val (.double s0), .second, .val (.int f0), .val (.int rr), .val (.ref ja), .val (.int (6 : Int32)), .val (.int (6 : Int32)), u10]) []))
  by_cases hf : f0.toInt = 0
  · skip
    have hz : own_res [b0, b1, b2, b3] [c0, c1, c2, c3, c4, c5] = 0 := by unfold own_res; rw [HF]; exact if_pos hf
    refine own_blk dec3 seq3 hby hx hZ hown hK hF 4 [false] [] X4 eh4 ?_
    show (¬ ((f0).toInt ≠ 0)) ∧ own_Aft X4 h0 _ 99 [.val (.ref a), .val (.ref ra), .val (.ref ja), .val (.double s0), .second, .val (.int f0), .val (.int rr), .val (.ref ja), .val (.int (6 : Int32)), .val (.int (6 : Int32)), u10] [.double 0]
    refine ⟨by omega, fun T5 X5 eh5 => ?_⟩
    exact own_ret X5 hx hlk eh5 hret (by first | rfl | decide) (Or.inr (Or.inr (Or.inl ⟨rfl, rfl, _, rfl⟩))) (hb hby d3_99) (by decide) (by decide) (⟨by rw [hz], N0, rfl⟩)
  · skip
    have hz : own_res [b0, b1, b2, b3] [c0, c1, c2, c3, c4, c5] = FP.ddiv s0 (FP.i2d rr) := by unfold own_res; rw [HF, CF]; exact if_neg hf
    have hn : own_nb (FP.ddiv s0 (FP.i2d rr)) = true := by rw [HF, CF] at hfin; rcases Bool.or_eq_true_iff.mp hfin with q | q; exact absurd (of_decide_eq_true q) hf; exact q
    refine own_blk dec3 seq3 hby hx hZ hown hK hF 6 [true] [] X4 eh4 ?_
    show ((f0).toInt ≠ 0) ∧ (Jvm.Free.Fl.NoNaN64 (FP.ddiv s0 (FP.i2d rr))) ∧ own_Aft X4 h0 _ 99 [.val (.ref a), .val (.ref ra), .val (.ref ja), .val (.double s0), .second, .val (.int f0), .val (.int rr), .val (.ref ja), .val (.int (6 : Int32)), .val (.int (6 : Int32)), u10] [.double (FP.ddiv s0 (FP.i2d rr))]
    refine ⟨by omega, own_nb_e hn, fun T6 X6 eh6 => ?_⟩
    exact own_ret X6 hx hlk eh6 hret (by first | rfl | decide) (Or.inr (Or.inr (Or.inl ⟨rfl, rfl, _, rfl⟩))) (hb hby d3_99) (by decide) (by decide) (⟨by rw [hz], N0, rfl⟩)
set_option maxRecDepth 65536 in
set_option maxHeartbeats 40000000 in
theorem rm3_4_7 (l : Launch) (Z : State) (a0 : Array Value) (hw : ∀ d ∈ tables_1, d.before a0 Z = true) (ws : List Jvm.Cond) (a ra ja : Addr) (g0 g1 g2 g3 j0 j1 j2 j3 j4 j5 j6 : Int32) (b0 b1 b2 b3 c0 c1 c2 c3 c4 c5 c6 : Bool) (h0 : Heap) (n0 : Nat) (Z0 : n0 ≤ h0.size) (A1 : own_A Z h0 ra .int [.int g0, .int g1, .int g2, .int g3]) (A2 : own_A Z h0 ja .int [.int j0, .int j1, .int j2, .int j3, .int j4, .int j5, .int j6]) (hb0 : 0 < g0.toInt ↔ b0 = true) (hb1 : 0 < g1.toInt ↔ b1 = true) (hb2 : 0 < g2.toInt ↔ b2 = true) (hb3 : 0 < g3.toInt ↔ b3 = true) (hc0 : 0 < j0.toInt ↔ c0 = true) (hc1 : 0 < j1.toInt ↔ c1 = true) (hc2 : 0 < j2.toInt ↔ c2 = true) (hc3 : 0 < j3.toInt ↔ c3 = true) (hc4 : 0 < j4.toInt ↔ c4 = true) (hc5 : 0 < j5.toInt ↔ c5 = true) (hc6 : 0 < j6.toInt ↔ c6 = true) (hok : own_rok [b0, b1, b2, b3] [c0, c1, c2, c3, c4, c5, c6] = true) :
    MetFree l (⟨"com/example/weigh/weigh/eval/AveragePrecision", "score", "([I[I)D"⟩ : MethodName) (head1 (Jvm.Cond.code (⟨"com/example/weigh/weigh/eval/AveragePrecision", "score", "([I[I)D"⟩ : MethodName) prog_7_method_3_code 11 (some .double) :: ws) ({ frames := 0, cells := 0, slots := 0, locals := 0 } : Room)) (fun as_ U => as_ = #[.ref a, .ref ra, .ref ja] ∧ Z.Warmed39 U.vm ∧ U.heap = h0) (fun _ _ _ _ _ => True) (fun _ U o U' => own_Fin U ({ frames := 0, cells := 0, slots := 0, locals := 0 } : Room).cells ({ frames := 0, cells := 0, slots := 0, locals := 0 } : Room).slots (fun v h L => v = some (.double (own_res [b0, b1, b2, b3] [c0, c1, c2, c3, c4, c5, c6])) ∧ Fr n0 L ∧ h = h0) o U') := by
  refine own_body (plainFor_of_name pn3) (ls0 := [.val (.ref a), .val (.ref ra), .val (.ref ja), .unset, .unset, .unset, .unset, .unset, .unset, .unset, .unset]) (fun m => by first | (simp [entryFrame, mkF, argsToLocals, Value.category, maxLocals]; done) | rfl) ?_
  intro p e s m below meth c T0 hx hby hml hown hnm hlk hret hZ X0 e0
  have hK : own_ks "com/example/weigh/weigh/eval/AveragePrecision" a0 Z kt3 := trivial
  have hF : own_fs "com/example/weigh/weigh/eval/AveragePrecision" a0 Z ft3 := trivial
  have N0 := Fr.nil n0
  obtain ⟨ho, hfin⟩ := Bool.and_eq_true_iff.mp hok
  refine own_blk dec3 seq3 hby hx hZ hown hK hF 6 [] [] X0 e0 ?_
  show own_Aft X0 h0 _ 8 [.val (.ref a), .val (.ref ra), .val (.ref ja), .val (.double 0), .second, .val (.int (0 : Int32)), .val (.int (1 : Int32)), .unset, .unset, .unset, .unset] []
  refine fun T1 X1 eh1 => ?_
  refine ptA_4 X1 hx hby hml hown hZ hK hF eh1 _ _ _ _ _ _ ra g0 g1 g2 g3 b0 b1 b2 b3 A1 hb0 hb1 hb2 hb3 ho (fun f0 s0 HF T2 X2 eh2 => ?_)
  show own_Go p.tables e below _ (T2.setTop (mkF m 43 (Array.mk [.val (.ref a), .val (.ref ra), .val (.ref ja), .val (.double s0), .second, .val (.int f0), .val (.int (5 : Int32)), .unset, .unset, .unset, .unset]) []))
  refine own_blk dec3 seq3 hby hx hZ hown hK hF 9 [] [.int (7 : Int32)] X2 eh2 ?_
  show (own_ln Z h0 ja (7 : Int32)) ∧ own_Aft X2 h0 _ 57 [.val (.ref a), .val (.ref ra), .val (.ref ja), .val (.double s0), .second, .val (.int f0), .val (.int (0 : Int32)), .val (.ref ja), .val (.int (7 : Int32)), .val (.int (0 : Int32)), .unset] []
  refine ⟨A2.ln (7 : Int32) rfl, fun T3 X3 eh3 => ?_⟩
  refine ptB_7 X3 hx hby hml hown hZ hK hF eh3 _ _ _ _ _ _ ja j0 j1 j2 j3 j4 j5 j6 c0 c1 c2 c3 c4 c5 c6 A2 hc0 hc1 hc2 hc3 hc4 hc5 hc6 (fun rr u10 CF T4 X4 eh4 => ?_)
  show own_Go p.tables e below _ (T4.setTop (mkF m 85 (Array.mk [.val (.ref a), .val (.ref ra), .val (.ref ja), .val (.double s0), .second, .val (.int f0), .val (.int rr), .val (.ref ja), .val (.int (7 : Int32)), .val (.int (7 : Int32)), u10]) []))
  by_cases hf : f0.toInt = 0
  · skip
    have hz : own_res [b0, b1, b2, b3] [c0, c1, c2, c3, c4, c5, c6] = 0 := by unfold own_res; rw [HF]; exact if_pos hf
    refine own_blk dec3 seq3 hby hx hZ hown hK hF 4 [false] [] X4 eh4 ?_
    show (¬ ((f0).toInt ≠ 0)) ∧ own_Aft X4 h0 _ 99 [.val (.ref a), .val (.ref ra), .val (.ref ja), .val (.double s0), .second, .val (.int f0), .val (.int rr), .val (.ref ja), .val (.int (7 : Int32)), .val (.int (7 : Int32)), u10] [.double 0]
    refine ⟨by omega, fun T5 X5 eh5 => ?_⟩
    exact own_ret X5 hx hlk eh5 hret (by first | rfl | decide) (Or.inr (Or.inr (Or.inl ⟨rfl, rfl, _, rfl⟩))) (hb hby d3_99) (by decide) (by decide) (⟨by rw [hz], N0, rfl⟩)
  · skip
    have hz : own_res [b0, b1, b2, b3] [c0, c1, c2, c3, c4, c5, c6] = FP.ddiv s0 (FP.i2d rr) := by unfold own_res; rw [HF, CF]; exact if_neg hf
    have hn : own_nb (FP.ddiv s0 (FP.i2d rr)) = true := by rw [HF, CF] at hfin; rcases Bool.or_eq_true_iff.mp hfin with q | q; exact absurd (of_decide_eq_true q) hf; exact q
    refine own_blk dec3 seq3 hby hx hZ hown hK hF 6 [true] [] X4 eh4 ?_
    show ((f0).toInt ≠ 0) ∧ (Jvm.Free.Fl.NoNaN64 (FP.ddiv s0 (FP.i2d rr))) ∧ own_Aft X4 h0 _ 99 [.val (.ref a), .val (.ref ra), .val (.ref ja), .val (.double s0), .second, .val (.int f0), .val (.int rr), .val (.ref ja), .val (.int (7 : Int32)), .val (.int (7 : Int32)), u10] [.double (FP.ddiv s0 (FP.i2d rr))]
    refine ⟨by omega, own_nb_e hn, fun T6 X6 eh6 => ?_⟩
    exact own_ret X6 hx hlk eh6 hret (by first | rfl | decide) (Or.inr (Or.inr (Or.inl ⟨rfl, rfl, _, rfl⟩))) (hb hby d3_99) (by decide) (by decide) (⟨by rw [hz], N0, rfl⟩)
set_option maxRecDepth 65536 in
set_option maxHeartbeats 40000000 in
theorem ptC_0 {p : Program} {l : Launch} {e : Env} {R : Room} {s : State} {m : MethodId} {args : Array Value} {below : List Frame} {meth : Method} {c : Code} {T0 : State} {locs : List Loc} {cells slots : Nat} {Z : State} {a0 : Array Value} {h0 : Heap} {Q : Outcome → State → Prop} (X0 : Stand p l e R s m args below meth c T0 locs cells slots) (hx : p.tables.exec = Jvm.exec) (hby : c.code = code) (hml : c.maxLocals = maxLocals) (hown : s.vm.findClass "com/example/weigh/weigh/eval/AveragePrecisionScorePinLaw" = some m.cls) (hZ : Z.Warmed39 s.vm) (hK : own_ks "com/example/weigh/weigh/eval/AveragePrecisionScorePinLaw" a0 Z kt0) (hF : own_fs "com/example/weigh/weigh/eval/AveragePrecisionScorePinLaw" a0 Z ft0) (e0 : T0.heap = h0) (u4 u5 u7 u8 u9 u10 u11 u12 u13 u14 u18 u19 u20 : Slot) (g0 g1 g2 g3 : Int32) 
    (kk : ∀ (f : Int32) (y : Int64) (_ : own_sum [] 1 0 0 = (f, y)), own_Aft X0 h0 Q 315 [.val (.int g0), .val (.int g1), .val (.int g2), .val (.int g3), u4, u5, .val (.int (0 : Int32)), u7, u8, u9, u10, u11, u12, u13, u14, .val (.int f), .val (.long y), .second, u18, u19, u20] []) : own_Go p.tables e below Q (T0.setTop (mkF m 202 (Array.mk [.val (.int g0), .val (.int g1), .val (.int g2), .val (.int g3), u4, u5, .val (.int (0 : Int32)), u7, u8, u9, u10, u11, u12, u13, u14, .val (.int (0 : Int32)), .val (.long (0 : Int64)), .second, u18, u19, u20]) [])) := by
  have H0 : own_sum [] 1 0 0 = own_sum [] 1 0 0 := rfl
  refine own_blk dec0 seq0 hby hx hZ hown hK hF 2 [true] [] X0 e0 ?_
  show (((0 : Int32)).toInt ≤ 0) ∧ own_Aft X0 h0 _ 228 [.val (.int g0), .val (.int g1), .val (.int g2), .val (.int g3), u4, u5, .val (.int (0 : Int32)), u7, u8, u9, u10, u11, u12, u13, u14, .val (.int (0 : Int32)), .val (.long (0 : Int64)), .second, u18, u19, u20] []
  refine ⟨by decide, fun T1 X1 eh1 => ?_⟩
  refine own_blk dec0 seq0 hby hx hZ hown hK hF 3 [true] [] X1 eh1 ?_
  show (((0 : Int32)).toInt ≤ ((1 : Int32)).toInt) ∧ own_Aft X1 h0 _ 257 [.val (.int g0), .val (.int g1), .val (.int g2), .val (.int g3), u4, u5, .val (.int (0 : Int32)), u7, u8, u9, u10, u11, u12, u13, u14, .val (.int (0 : Int32)), .val (.long (0 : Int64)), .second, u18, u19, u20] []
  refine ⟨by decide, fun T2 X2 eh2 => ?_⟩
  refine own_blk dec0 seq0 hby hx hZ hown hK hF 3 [true] [] X2 eh2 ?_
  show (((0 : Int32)).toInt ≤ ((2 : Int32)).toInt) ∧ own_Aft X2 h0 _ 286 [.val (.int g0), .val (.int g1), .val (.int g2), .val (.int g3), u4, u5, .val (.int (0 : Int32)), u7, u8, u9, u10, u11, u12, u13, u14, .val (.int (0 : Int32)), .val (.long (0 : Int64)), .second, u18, u19, u20] []
  refine ⟨by decide, fun T3 X3 eh3 => ?_⟩
  refine own_blk dec0 seq0 hby hx hZ hown hK hF 3 [true] [] X3 eh3 ?_
  show (((0 : Int32)).toInt ≤ ((3 : Int32)).toInt) ∧ own_Aft X3 h0 _ 315 [.val (.int g0), .val (.int g1), .val (.int g2), .val (.int g3), u4, u5, .val (.int (0 : Int32)), u7, u8, u9, u10, u11, u12, u13, u14, .val (.int (0 : Int32)), .val (.long (0 : Int64)), .second, u18, u19, u20] []
  refine ⟨by decide, fun T4 X4 eh4 => ?_⟩
  exact kk _ _ H0.symm T4 X4 eh4
set_option maxRecDepth 65536 in
set_option maxHeartbeats 40000000 in
theorem ptC_1 {p : Program} {l : Launch} {e : Env} {R : Room} {s : State} {m : MethodId} {args : Array Value} {below : List Frame} {meth : Method} {c : Code} {T0 : State} {locs : List Loc} {cells slots : Nat} {Z : State} {a0 : Array Value} {h0 : Heap} {Q : Outcome → State → Prop} (X0 : Stand p l e R s m args below meth c T0 locs cells slots) (hx : p.tables.exec = Jvm.exec) (hby : c.code = code) (hml : c.maxLocals = maxLocals) (hown : s.vm.findClass "com/example/weigh/weigh/eval/AveragePrecisionScorePinLaw" = some m.cls) (hZ : Z.Warmed39 s.vm) (hK : own_ks "com/example/weigh/weigh/eval/AveragePrecisionScorePinLaw" a0 Z kt0) (hF : own_fs "com/example/weigh/weigh/eval/AveragePrecisionScorePinLaw" a0 Z ft0) (e0 : T0.heap = h0) (u4 u5 u7 u8 u9 u10 u11 u12 u13 u14 u18 u19 u20 : Slot) (g0 g1 g2 g3 : Int32) (b0 : Bool) (hb0 : 0 < g0.toInt ↔ b0 = true)
    (kk : ∀ (f : Int32) (y : Int64) (_ : own_sum [b0] 1 0 0 = (f, y)), own_Aft X0 h0 Q 315 [.val (.int g0), .val (.int g1), .val (.int g2), .val (.int g3), u4, u5, .val (.int (1 : Int32)), u7, u8, u9, u10, u11, u12, u13, u14, .val (.int f), .val (.long y), .second, u18, u19, u20] []) : own_Go p.tables e below Q (T0.setTop (mkF m 202 (Array.mk [.val (.int g0), .val (.int g1), .val (.int g2), .val (.int g3), u4, u5, .val (.int (1 : Int32)), u7, u8, u9, u10, u11, u12, u13, u14, .val (.int (0 : Int32)), .val (.long (0 : Int64)), .second, u18, u19, u20]) [])) := by
  have H0 : own_sum [b0] 1 0 0 = own_sum [b0] 1 0 0 := rfl
  refine own_blk dec0 seq0 hby hx hZ hown hK hF 3 [false] [] X0 e0 ?_
  show (¬ (((1 : Int32)).toInt ≤ 0)) ∧ own_Aft X0 h0 _ 208 [.val (.int g0), .val (.int g1), .val (.int g2), .val (.int g3), u4, u5, .val (.int (1 : Int32)), u7, u8, u9, u10, u11, u12, u13, u14, .val (.int (0 : Int32)), .val (.long (0 : Int64)), .second, u18, u19, u20] [.int g0]
  refine ⟨by decide, fun T1 X1 eh1 => ?_⟩
  suffices tl2 : ∀ (f1 : Int32) (y1 : Int64) (_ : own_sum [] 2 f1 y1 = own_sum [b0] 1 0 0), own_Aft X1 h0 Q 228 [.val (.int g0), .val (.int g1), .val (.int g2), .val (.int g3), u4, u5, .val (.int (1 : Int32)), u7, u8, u9, u10, u11, u12, u13, u14, .val (.int f1), .val (.long y1), .second, u18, u19, u20] [] by
    by_cases hy : 0 < g0.toInt
    · skip
      have hb := hb0.mp hy
      subst hb
      show own_Go p.tables e below _ (T1.setTop (mkF m 208 (Array.mk [.val (.int g0), .val (.int g1), .val (.int g2), .val (.int g3), u4, u5, .val (.int (1 : Int32)), u7, u8, u9, u10, u11, u12, u13, u14, .val (.int (0 : Int32)), .val (.long (0 : Int64)), .second, u18, u19, u20]) [.int g0]))
      refine own_blk dec0 seq0 hby hx hZ hown hK hF 11 [false] [] X1 eh1 ?_
      show (¬ ((g0).toInt ≤ 0)) ∧ ((1 : Int64) ≠ 0) ∧ own_Aft X1 h0 _ 228 [.val (.int g0), .val (.int g1), .val (.int g2), .val (.int g3), u4, u5, .val (.int (1 : Int32)), u7, u8, u9, u10, u11, u12, u13, u14, .val (.int ((0 : Int32) + (1 : Int32))), .val (.long ((0 : Int64) + (((12 : Int64) * (((0 : Int32) + (1 : Int32)).toInt64)) / (1 : Int64)))), .second, u18, u19, u20] []
      refine ⟨by omega, by decide, fun T3 X3 eh3 => ?_⟩
      exact tl2 _ _ H0 T3 X3 eh3
    · skip
      have hb : b0 = false := Bool.eq_false_iff.mpr (fun q => hy (hb0.mpr q))
      subst hb
      refine own_blk dec0 seq0 hby hx hZ hown hK hF 1 [true] [] X1 eh1 ?_
      show ((g0).toInt ≤ 0) ∧ own_Aft X1 h0 _ 228 [.val (.int g0), .val (.int g1), .val (.int g2), .val (.int g3), u4, u5, .val (.int (1 : Int32)), u7, u8, u9, u10, u11, u12, u13, u14, .val (.int (0 : Int32)), .val (.long (0 : Int64)), .second, u18, u19, u20] []
      refine ⟨by omega, fun T4 X4 eh4 => ?_⟩
      exact tl2 _ _ H0 T4 X4 eh4
  intro f1 y1 H1 T2 X2 eh2
  refine own_blk dec0 seq0 hby hx hZ hown hK hF 3 [true] [] X2 eh2 ?_
  show (((1 : Int32)).toInt ≤ ((1 : Int32)).toInt) ∧ own_Aft X2 h0 _ 257 [.val (.int g0), .val (.int g1), .val (.int g2), .val (.int g3), u4, u5, .val (.int (1 : Int32)), u7, u8, u9, u10, u11, u12, u13, u14, .val (.int f1), .val (.long y1), .second, u18, u19, u20] []
  refine ⟨by decide, fun T5 X5 eh5 => ?_⟩
  refine own_blk dec0 seq0 hby hx hZ hown hK hF 3 [true] [] X5 eh5 ?_
  show (((1 : Int32)).toInt ≤ ((2 : Int32)).toInt) ∧ own_Aft X5 h0 _ 286 [.val (.int g0), .val (.int g1), .val (.int g2), .val (.int g3), u4, u5, .val (.int (1 : Int32)), u7, u8, u9, u10, u11, u12, u13, u14, .val (.int f1), .val (.long y1), .second, u18, u19, u20] []
  refine ⟨by decide, fun T6 X6 eh6 => ?_⟩
  refine own_blk dec0 seq0 hby hx hZ hown hK hF 3 [true] [] X6 eh6 ?_
  show (((1 : Int32)).toInt ≤ ((3 : Int32)).toInt) ∧ own_Aft X6 h0 _ 315 [.val (.int g0), .val (.int g1), .val (.int g2), .val (.int g3), u4, u5, .val (.int (1 : Int32)), u7, u8, u9, u10, u11, u12, u13, u14, .val (.int f1), .val (.long y1), .second, u18, u19, u20] []
  refine ⟨by decide, fun T7 X7 eh7 => ?_⟩
  exact kk _ _ H1.symm T7 X7 eh7
set_option maxRecDepth 65536 in
set_option maxHeartbeats 40000000 in
theorem ptC_2 {p : Program} {l : Launch} {e : Env} {R : Room} {s : State} {m : MethodId} {args : Array Value} {below : List Frame} {meth : Method} {c : Code} {T0 : State} {locs : List Loc} {cells slots : Nat} {Z : State} {a0 : Array Value} {h0 : Heap} {Q : Outcome → State → Prop} (X0 : Stand p l e R s m args below meth c T0 locs cells slots) (hx : p.tables.exec = Jvm.exec) (hby : c.code = code) (hml : c.maxLocals = maxLocals) (hown : s.vm.findClass "com/example/weigh/weigh/eval/AveragePrecisionScorePinLaw" = some m.cls) (hZ : Z.Warmed39 s.vm) (hK : own_ks "com/example/weigh/weigh/eval/AveragePrecisionScorePinLaw" a0 Z kt0) (hF : own_fs "com/example/weigh/weigh/eval/AveragePrecisionScorePinLaw" a0 Z ft0) (e0 : T0.heap = h0) (u4 u5 u7 u8 u9 u10 u11 u12 u13 u14 u18 u19 u20 : Slot) (g0 g1 g2 g3 : Int32) (b0 b1 : Bool) (hb0 : 0 < g0.toInt ↔ b0 = true) (hb1 : 0 < g1.toInt ↔ b1 = true)
    (kk : ∀ (f : Int32) (y : Int64) (_ : own_sum [b0, b1] 1 0 0 = (f, y)), own_Aft X0 h0 Q 315 [.val (.int g0), .val (.int g1), .val (.int g2), .val (.int g3), u4, u5, .val (.int (2 : Int32)), u7, u8, u9, u10, u11, u12, u13, u14, .val (.int f), .val (.long y), .second, u18, u19, u20] []) : own_Go p.tables e below Q (T0.setTop (mkF m 202 (Array.mk [.val (.int g0), .val (.int g1), .val (.int g2), .val (.int g3), u4, u5, .val (.int (2 : Int32)), u7, u8, u9, u10, u11, u12, u13, u14, .val (.int (0 : Int32)), .val (.long (0 : Int64)), .second, u18, u19, u20]) [])) := by
  have H0 : own_sum [b0, b1] 1 0 0 = own_sum [b0, b1] 1 0 0 := rfl
  refine own_blk dec0 seq0 hby hx hZ hown hK hF 3 [false] [] X0 e0 ?_
  show (¬ (((2 : Int32)).toInt ≤ 0)) ∧ own_Aft X0 h0 _ 208 [.val (.int g0), .val (.int g1), .val (.int g2), .val (.int g3), u4, u5, .val (.int (2 : Int32)), u7, u8, u9, u10, u11, u12, u13, u14, .val (.int (0 : Int32)), .val (.long (0 : Int64)), .second, u18, u19, u20] [.int g0]
  refine ⟨by decide, fun T1 X1 eh1 => ?_⟩
  suffices tl2 : ∀ (f1 : Int32) (y1 : Int64) (_ : own_sum [b1] 2 f1 y1 = own_sum [b0, b1] 1 0 0), own_Aft X1 h0 Q 228 [.val (.int g0), .val (.int g1), .val (.int g2), .val (.int g3), u4, u5, .val (.int (2 : Int32)), u7, u8, u9, u10, u11, u12, u13, u14, .val (.int f1), .val (.long y1), .second, u18, u19, u20] [] by
    by_cases hy : 0 < g0.toInt
    · skip
      have hb := hb0.mp hy
      subst hb
      show own_Go p.tables e below _ (T1.setTop (mkF m 208 (Array.mk [.val (.int g0), .val (.int g1), .val (.int g2), .val (.int g3), u4, u5, .val (.int (2 : Int32)), u7, u8, u9, u10, u11, u12, u13, u14, .val (.int (0 : Int32)), .val (.long (0 : Int64)), .second, u18, u19, u20]) [.int g0]))
      refine own_blk dec0 seq0 hby hx hZ hown hK hF 11 [false] [] X1 eh1 ?_
      show (¬ ((g0).toInt ≤ 0)) ∧ ((1 : Int64) ≠ 0) ∧ own_Aft X1 h0 _ 228 [.val (.int g0), .val (.int g1), .val (.int g2), .val (.int g3), u4, u5, .val (.int (2 : Int32)), u7, u8, u9, u10, u11, u12, u13, u14, .val (.int ((0 : Int32) + (1 : Int32))), .val (.long ((0 : Int64) + (((12 : Int64) * (((0 : Int32) + (1 : Int32)).toInt64)) / (1 : Int64)))), .second, u18, u19, u20] []
      refine ⟨by omega, by decide, fun T3 X3 eh3 => ?_⟩
      exact tl2 _ _ H0 T3 X3 eh3
    · skip
      have hb : b0 = false := Bool.eq_false_iff.mpr (fun q => hy (hb0.mpr q))
      subst hb
      refine own_blk dec0 seq0 hby hx hZ hown hK hF 1 [true] [] X1 eh1 ?_
      show ((g0).toInt ≤ 0) ∧ own_Aft X1 h0 _ 228 [.val (.int g0), .val (.int g1), .val (.int g2), .val (.int g3), u4, u5, .val (.int (2 : Int32)), u7, u8, u9, u10, u11, u12, u13, u14, .val (.int (0 : Int32)), .val (.long (0 : Int64)), .second, u18, u19, u20] []
      refine ⟨by omega, fun T4 X4 eh4 => ?_⟩
      exact tl2 _ _ H0 T4 X4 eh4
  intro f1 y1 H1 T2 X2 eh2
  refine own_blk dec0 seq0 hby hx hZ hown hK hF 4 [false] [] X2 eh2 ?_
  show (¬ (((2 : Int32)).toInt ≤ ((1 : Int32)).toInt)) ∧ own_Aft X2 h0 _ 235 [.val (.int g0), .val (.int g1), .val (.int g2), .val (.int g3), u4, u5, .val (.int (2 : Int32)), u7, u8, u9, u10, u11, u12, u13, u14, .val (.int f1), .val (.long y1), .second, u18, u19, u20] [.int g1]
  refine ⟨by decide, fun T5 X5 eh5 => ?_⟩
  suffices tl6 : ∀ (f2 : Int32) (y2 : Int64) (_ : own_sum [] 3 f2 y2 = own_sum [b0, b1] 1 0 0), own_Aft X5 h0 Q 257 [.val (.int g0), .val (.int g1), .val (.int g2), .val (.int g3), u4, u5, .val (.int (2 : Int32)), u7, u8, u9, u10, u11, u12, u13, u14, .val (.int f2), .val (.long y2), .second, u18, u19, u20] [] by
    by_cases hy : 0 < g1.toInt
    · skip
      have hb := hb1.mp hy
      subst hb
      show own_Go p.tables e below _ (T5.setTop (mkF m 235 (Array.mk [.val (.int g0), .val (.int g1), .val (.int g2), .val (.int g3), u4, u5, .val (.int (2 : Int32)), u7, u8, u9, u10, u11, u12, u13, u14, .val (.int f1), .val (.long y1), .second, u18, u19, u20]) [.int g1]))
      refine own_blk dec0 seq0 hby hx hZ hown hK hF 11 [false] [] X5 eh5 ?_
      show (¬ ((g1).toInt ≤ 0)) ∧ ((2 : Int64) ≠ 0) ∧ own_Aft X5 h0 _ 257 [.val (.int g0), .val (.int g1), .val (.int g2), .val (.int g3), u4, u5, .val (.int (2 : Int32)), u7, u8, u9, u10, u11, u12, u13, u14, .val (.int (f1 + (1 : Int32))), .val (.long (y1 + (((12 : Int64) * ((f1 + (1 : Int32)).toInt64)) / (2 : Int64)))), .second, u18, u19, u20] []
      refine ⟨by omega, by decide, fun T7 X7 eh7 => ?_⟩
      exact tl6 _ _ H1 T7 X7 eh7
    · skip
      have hb : b1 = false := Bool.eq_false_iff.mpr (fun q => hy (hb1.mpr q))
      subst hb
      refine own_blk dec0 seq0 hby hx hZ hown hK hF 1 [true] [] X5 eh5 ?_
      show ((g1).toInt ≤ 0) ∧ own_Aft X5 h0 _ 257 [.val (.int g0), .val (.int g1), .val (.int g2), .val (.int g3), u4, u5, .val (.int (2 : Int32)), u7, u8, u9, u10, u11, u12, u13, u14, .val (.int f1), .val (.long y1), .second, u18, u19, u20] []
      refine ⟨by omega, fun T8 X8 eh8 => ?_⟩
      exact tl6 _ _ H1 T8 X8 eh8
  intro f2 y2 H2 T6 X6 eh6
  refine own_blk dec0 seq0 hby hx hZ hown hK hF 3 [true] [] X6 eh6 ?_
  show (((2 : Int32)).toInt ≤ ((2 : Int32)).toInt) ∧ own_Aft X6 h0 _ 286 [.val (.int g0), .val (.int g1), .val (.int g2), .val (.int g3), u4, u5, .val (.int (2 : Int32)), u7, u8, u9, u10, u11, u12, u13, u14, .val (.int f2), .val (.long y2), .second, u18, u19, u20] []
  refine ⟨by decide, fun T9 X9 eh9 => ?_⟩
  refine own_blk dec0 seq0 hby hx hZ hown hK hF 3 [true] [] X9 eh9 ?_
  show (((2 : Int32)).toInt ≤ ((3 : Int32)).toInt) ∧ own_Aft X9 h0 _ 315 [.val (.int g0), .val (.int g1), .val (.int g2), .val (.int g3), u4, u5, .val (.int (2 : Int32)), u7, u8, u9, u10, u11, u12, u13, u14, .val (.int f2), .val (.long y2), .second, u18, u19, u20] []
  refine ⟨by decide, fun T10 X10 eh10 => ?_⟩
  exact kk _ _ H2.symm T10 X10 eh10
set_option maxRecDepth 65536 in
set_option maxHeartbeats 40000000 in
theorem ptC_3 {p : Program} {l : Launch} {e : Env} {R : Room} {s : State} {m : MethodId} {args : Array Value} {below : List Frame} {meth : Method} {c : Code} {T0 : State} {locs : List Loc} {cells slots : Nat} {Z : State} {a0 : Array Value} {h0 : Heap} {Q : Outcome → State → Prop} (X0 : Stand p l e R s m args below meth c T0 locs cells slots) (hx : p.tables.exec = Jvm.exec) (hby : c.code = code) (hml : c.maxLocals = maxLocals) (hown : s.vm.findClass "com/example/weigh/weigh/eval/AveragePrecisionScorePinLaw" = some m.cls) (hZ : Z.Warmed39 s.vm) (hK : own_ks "com/example/weigh/weigh/eval/AveragePrecisionScorePinLaw" a0 Z kt0) (hF : own_fs "com/example/weigh/weigh/eval/AveragePrecisionScorePinLaw" a0 Z ft0) (e0 : T0.heap = h0) (u4 u5 u7 u8 u9 u10 u11 u12 u13 u14 u18 u19 u20 : Slot) (g0 g1 g2 g3 : Int32) (b0 b1 b2 : Bool) (hb0 : 0 < g0.toInt ↔ b0 = true) (hb1 : 0 < g1.toInt ↔ b1 = true) (hb2 : 0 < g2.toInt ↔ b2 = true)
    (kk : ∀ (f : Int32) (y : Int64) (_ : own_sum [b0, b1, b2] 1 0 0 = (f, y)), own_Aft X0 h0 Q 315 [.val (.int g0), .val (.int g1), .val (.int g2), .val (.int g3), u4, u5, .val (.int (3 : Int32)), u7, u8, u9, u10, u11, u12, u13, u14, .val (.int f), .val (.long y), .second, u18, u19, u20] []) : own_Go p.tables e below Q (T0.setTop (mkF m 202 (Array.mk [.val (.int g0), .val (.int g1), .val (.int g2), .val (.int g3), u4, u5, .val (.int (3 : Int32)), u7, u8, u9, u10, u11, u12, u13, u14, .val (.int (0 : Int32)), .val (.long (0 : Int64)), .second, u18, u19, u20]) [])) := by
  have H0 : own_sum [b0, b1, b2] 1 0 0 = own_sum [b0, b1, b2] 1 0 0 := rfl
  refine own_blk dec0 seq0 hby hx hZ hown hK hF 3 [false] [] X0 e0 ?_
  show (¬ (((3 : Int32)).toInt ≤ 0)) ∧ own_Aft X0 h0 _ 208 [.val (.int g0), .val (.int g1), .val (.int g2), .val (.int g3), u4, u5, .val (.int (3 : Int32)), u7, u8, u9, u10, u11, u12, u13, u14, .val (.int (0 : Int32)), .val (.long (0 : Int64)), .second, u18, u19, u20] [.int g0]
  refine ⟨by decide, fun T1 X1 eh1 => ?_⟩
  suffices tl2 : ∀ (f1 : Int32) (y1 : Int64) (_ : own_sum [b1, b2] 2 f1 y1 = own_sum [b0, b1, b2] 1 0 0), own_Aft X1 h0 Q 228 [.val (.int g0), .val (.int g1), .val (.int g2), .val (.int g3), u4, u5, .val (.int (3 : Int32)), u7, u8, u9, u10, u11, u12, u13, u14, .val (.int f1), .val (.long y1), .second, u18, u19, u20] [] by
    by_cases hy : 0 < g0.toInt
    · skip
      have hb := hb0.mp hy
      subst hb
      show own_Go p.tables e below _ (T1.setTop (mkF m 208 (Array.mk [.val (.int g0), .val (.int g1), .val (.int g2), .val (.int g3), u4, u5, .val (.int (3 : Int32)), u7, u8, u9, u10, u11, u12, u13, u14, .val (.int (0 : Int32)), .val (.long (0 : Int64)), .second, u18, u19, u20]) [.int g0]))
      refine own_blk dec0 seq0 hby hx hZ hown hK hF 11 [false] [] X1 eh1 ?_
      show (¬ ((g0).toInt ≤ 0)) ∧ ((1 : Int64) ≠ 0) ∧ own_Aft X1 h0 _ 228 [.val (.int g0), .val (.int g1), .val (.int g2), .val (.int g3), u4, u5, .val (.int (3 : Int32)), u7, u8, u9, u10, u11, u12, u13, u14, .val (.int ((0 : Int32) + (1 : Int32))), .val (.long ((0 : Int64) + (((12 : Int64) * (((0 : Int32) + (1 : Int32)).toInt64)) / (1 : Int64)))), .second, u18, u19, u20] []
      refine ⟨by omega, by decide, fun T3 X3 eh3 => ?_⟩
      exact tl2 _ _ H0 T3 X3 eh3
    · skip
      have hb : b0 = false := Bool.eq_false_iff.mpr (fun q => hy (hb0.mpr q))
      subst hb
      refine own_blk dec0 seq0 hby hx hZ hown hK hF 1 [true] [] X1 eh1 ?_
      show ((g0).toInt ≤ 0) ∧ own_Aft X1 h0 _ 228 [.val (.int g0), .val (.int g1), .val (.int g2), .val (.int g3), u4, u5, .val (.int (3 : Int32)), u7, u8, u9, u10, u11, u12, u13, u14, .val (.int (0 : Int32)), .val (.long (0 : Int64)), .second, u18, u19, u20] []
      refine ⟨by omega, fun T4 X4 eh4 => ?_⟩
      exact tl2 _ _ H0 T4 X4 eh4
  intro f1 y1 H1 T2 X2 eh2
  refine own_blk dec0 seq0 hby hx hZ hown hK hF 4 [false] [] X2 eh2 ?_
  show (¬ (((3 : Int32)).toInt ≤ ((1 : Int32)).toInt)) ∧ own_Aft X2 h0 _ 235 [.val (.int g0), .val (.int g1), .val (.int g2), .val (.int g3), u4, u5, .val (.int (3 : Int32)), u7, u8, u9, u10, u11, u12, u13, u14, .val (.int f1), .val (.long y1), .second, u18, u19, u20] [.int g1]
  refine ⟨by decide, fun T5 X5 eh5 => ?_⟩
  suffices tl6 : ∀ (f2 : Int32) (y2 : Int64) (_ : own_sum [b2] 3 f2 y2 = own_sum [b0, b1, b2] 1 0 0), own_Aft X5 h0 Q 257 [.val (.int g0), .val (.int g1), .val (.int g2), .val (.int g3), u4, u5, .val (.int (3 : Int32)), u7, u8, u9, u10, u11, u12, u13, u14, .val (.int f2), .val (.long y2), .second, u18, u19, u20] [] by
    by_cases hy : 0 < g1.toInt
    · skip
      have hb := hb1.mp hy
      subst hb
      show own_Go p.tables e below _ (T5.setTop (mkF m 235 (Array.mk [.val (.int g0), .val (.int g1), .val (.int g2), .val (.int g3), u4, u5, .val (.int (3 : Int32)), u7, u8, u9, u10, u11, u12, u13, u14, .val (.int f1), .val (.long y1), .second, u18, u19, u20]) [.int g1]))
      refine own_blk dec0 seq0 hby hx hZ hown hK hF 11 [false] [] X5 eh5 ?_
      show (¬ ((g1).toInt ≤ 0)) ∧ ((2 : Int64) ≠ 0) ∧ own_Aft X5 h0 _ 257 [.val (.int g0), .val (.int g1), .val (.int g2), .val (.int g3), u4, u5, .val (.int (3 : Int32)), u7, u8, u9, u10, u11, u12, u13, u14, .val (.int (f1 + (1 : Int32))), .val (.long (y1 + (((12 : Int64) * ((f1 + (1 : Int32)).toInt64)) / (2 : Int64)))), .second, u18, u19, u20] []
      refine ⟨by omega, by decide, fun T7 X7 eh7 => ?_⟩
      exact tl6 _ _ H1 T7 X7 eh7
    · skip
      have hb : b1 = false := Bool.eq_false_iff.mpr (fun q => hy (hb1.mpr q))
      subst hb
      refine own_blk dec0 seq0 hby hx hZ hown hK hF 1 [true] [] X5 eh5 ?_
      show ((g1).toInt ≤ 0) ∧ own_Aft X5 h0 _ 257 [.val (.int g0), .val (.int g1), .val (.int g2), .val (.int g3), u4, u5, .val (.int (3 : Int32)), u7, u8, u9, u10, u11, u12, u13, u14, .val (.int f1), .val (.long y1), .second, u18, u19, u20] []
      refine ⟨by omega, fun T8 X8 eh8 => ?_⟩
      exact tl6 _ _ H1 T8 X8 eh8
  intro f2 y2 H2 T6 X6 eh6
  refine own_blk dec0 seq0 hby hx hZ hown hK hF 4 [false] [] X6 eh6 ?_
  show (¬ (((3 : Int32)).toInt ≤ ((2 : Int32)).toInt)) ∧ own_Aft X6 h0 _ 264 [.val (.int g0), .val (.int g1), .val (.int g2), .val (.int g3), u4, u5, .val (.int (3 : Int32)), u7, u8, u9, u10, u11, u12, u13, u14, .val (.int f2), .val (.long y2), .second, u18, u19, u20] [.int g2]
  refine ⟨by decide, fun T9 X9 eh9 => ?_⟩
  suffices tl10 : ∀ (f3 : Int32) (y3 : Int64) (_ : own_sum [] 4 f3 y3 = own_sum [b0, b1, b2] 1 0 0), own_Aft X9 h0 Q 286 [.val (.int g0), .val (.int g1), .val (.int g2), .val (.int g3), u4, u5, .val (.int (3 : Int32)), u7, u8, u9, u10, u11, u12, u13, u14, .val (.int f3), .val (.long y3), .second, u18, u19, u20] [] by
    by_cases hy : 0 < g2.toInt
    · skip
      have hb := hb2.mp hy
      subst hb
      show own_Go p.tables e below _ (T9.setTop (mkF m 264 (Array.mk [.val (.int g0), .val (.int g1), .val (.int g2), .val (.int g3), u4, u5, .val (.int (3 : Int32)), u7, u8, u9, u10, u11, u12, u13, u14, .val (.int f2), .val (.long y2), .second, u18, u19, u20]) [.int g2]))
      refine own_blk dec0 seq0 hby hx hZ hown hK hF 11 [false] [] X9 eh9 ?_
      show (¬ ((g2).toInt ≤ 0)) ∧ ((3 : Int64) ≠ 0) ∧ own_Aft X9 h0 _ 286 [.val (.int g0), .val (.int g1), .val (.int g2), .val (.int g3), u4, u5, .val (.int (3 : Int32)), u7, u8, u9, u10, u11, u12, u13, u14, .val (.int (f2 + (1 : Int32))), .val (.long (y2 + (((12 : Int64) * ((f2 + (1 : Int32)).toInt64)) / (3 : Int64)))), .second, u18, u19, u20] []
      refine ⟨by omega, by decide, fun T11 X11 eh11 => ?_⟩
      exact tl10 _ _ H2 T11 X11 eh11
    · skip
      have hb : b2 = false := Bool.eq_false_iff.mpr (fun q => hy (hb2.mpr q))
      subst hb
      refine own_blk dec0 seq0 hby hx hZ hown hK hF 1 [true] [] X9 eh9 ?_
      show ((g2).toInt ≤ 0) ∧ own_Aft X9 h0 _ 286 [.val (.int g0), .val (.int g1), .val (.int g2), .val (.int g3), u4, u5, .val (.int (3 : Int32)), u7, u8, u9, u10, u11, u12, u13, u14, .val (.int f2), .val (.long y2), .second, u18, u19, u20] []
      refine ⟨by omega, fun T12 X12 eh12 => ?_⟩
      exact tl10 _ _ H2 T12 X12 eh12
  intro f3 y3 H3 T10 X10 eh10
  refine own_blk dec0 seq0 hby hx hZ hown hK hF 3 [true] [] X10 eh10 ?_
  show (((3 : Int32)).toInt ≤ ((3 : Int32)).toInt) ∧ own_Aft X10 h0 _ 315 [.val (.int g0), .val (.int g1), .val (.int g2), .val (.int g3), u4, u5, .val (.int (3 : Int32)), u7, u8, u9, u10, u11, u12, u13, u14, .val (.int f3), .val (.long y3), .second, u18, u19, u20] []
  refine ⟨by decide, fun T13 X13 eh13 => ?_⟩
  exact kk _ _ H3.symm T13 X13 eh13
set_option maxRecDepth 65536 in
set_option maxHeartbeats 40000000 in
theorem ptC_4 {p : Program} {l : Launch} {e : Env} {R : Room} {s : State} {m : MethodId} {args : Array Value} {below : List Frame} {meth : Method} {c : Code} {T0 : State} {locs : List Loc} {cells slots : Nat} {Z : State} {a0 : Array Value} {h0 : Heap} {Q : Outcome → State → Prop} (X0 : Stand p l e R s m args below meth c T0 locs cells slots) (hx : p.tables.exec = Jvm.exec) (hby : c.code = code) (hml : c.maxLocals = maxLocals) (hown : s.vm.findClass "com/example/weigh/weigh/eval/AveragePrecisionScorePinLaw" = some m.cls) (hZ : Z.Warmed39 s.vm) (hK : own_ks "com/example/weigh/weigh/eval/AveragePrecisionScorePinLaw" a0 Z kt0) (hF : own_fs "com/example/weigh/weigh/eval/AveragePrecisionScorePinLaw" a0 Z ft0) (e0 : T0.heap = h0) (u4 u5 u7 u8 u9 u10 u11 u12 u13 u14 u18 u19 u20 : Slot) (g0 g1 g2 g3 : Int32) (b0 b1 b2 b3 : Bool) (hb0 : 0 < g0.toInt ↔ b0 = true) (hb1 : 0 < g1.toInt ↔ b1 = true) (hb2 : 0 < g2.toInt ↔ b2 = true) (hb3 : 0 < g3.toInt ↔ b3 = true)
    (kk : ∀ (f : Int32) (y : Int64) (_ : own_sum [b0, b1, b2, b3] 1 0 0 = (f, y)), own_Aft X0 h0 Q 315 [.val (.int g0), .val (.int g1), .val (.int g2), .val (.int g3), u4, u5, .val (.int (4 : Int32)), u7, u8, u9, u10, u11, u12, u13, u14, .val (.int f), .val (.long y), .second, u18, u19, u20] []) : own_Go p.tables e below Q (T0.setTop (mkF m 202 (Array.mk [.val (.int g0), .val (.int g1), .val (.int g2), .val (.int g3), u4, u5, .val (.int (4 : Int32)), u7, u8, u9, u10, u11, u12, u13, u14, .val (.int (0 : Int32)), .val (.long (0 : Int64)), .second, u18, u19, u20]) [])) := by
  have H0 : own_sum [b0, b1, b2, b3] 1 0 0 = own_sum [b0, b1, b2, b3] 1 0 0 := rfl
  refine own_blk dec0 seq0 hby hx hZ hown hK hF 3 [false] [] X0 e0 ?_
  show (¬ (((4 : Int32)).toInt ≤ 0)) ∧ own_Aft X0 h0 _ 208 [.val (.int g0), .val (.int g1), .val (.int g2), .val (.int g3), u4, u5, .val (.int (4 : Int32)), u7, u8, u9, u10, u11, u12, u13, u14, .val (.int (0 : Int32)), .val (.long (0 : Int64)), .second, u18, u19, u20] [.int g0]
  refine ⟨by decide, fun T1 X1 eh1 => ?_⟩
  suffices tl2 : ∀ (f1 : Int32) (y1 : Int64) (_ : own_sum [b1, b2, b3] 2 f1 y1 = own_sum [b0, b1, b2, b3] 1 0 0), own_Aft X1 h0 Q 228 [.val (.int g0), .val (.int g1), .val (.int g2), .val (.int g3), u4, u5, .val (.int (4 : Int32)), u7, u8, u9, u10, u11, u12, u13, u14, .val (.int f1), .val (.long y1), .second, u18, u19, u20] [] by
    by_cases hy : 0 < g0.toInt
    · skip
      have hb := hb0.mp hy
      subst hb
      show own_Go p.tables e below _ (T1.setTop (mkF m 208 (Array.mk [.val (.int g0), .val (.int g1), .val (.int g2), .val (.int g3), u4, u5, .val (.int (4 : Int32)), u7, u8, u9, u10, u11, u12, u13, u14, .val (.int (0 : Int32)), .val (.long (0 : Int64)), .second, u18, u19, u20]) [.int g0]))
      refine own_blk dec0 seq0 hby hx hZ hown hK hF 11 [false] [] X1 eh1 ?_
      show (¬ ((g0).toInt ≤ 0)) ∧ ((1 : Int64) ≠ 0) ∧ own_Aft X1 h0 _ 228 [.val (.int g0), .val (.int g1), .val (.int g2), .val (.int g3), u4, u5, .val (.int (4 : Int32)), u7, u8, u9, u10, u11, u12, u13, u14, .val (.int ((0 : Int32) + (1 : Int32))), .val (.long ((0 : Int64) + (((12 : Int64) * (((0 : Int32) + (1 : Int32)).toInt64)) / (1 : Int64)))), .second, u18, u19, u20] []
      refine ⟨by omega, by decide, fun T3 X3 eh3 => ?_⟩
      exact tl2 _ _ H0 T3 X3 eh3
    · skip
      have hb : b0 = false := Bool.eq_false_iff.mpr (fun q => hy (hb0.mpr q))
      subst hb
      refine own_blk dec0 seq0 hby hx hZ hown hK hF 1 [true] [] X1 eh1 ?_
      show ((g0).toInt ≤ 0) ∧ own_Aft X1 h0 _ 228 [.val (.int g0), .val (.int g1), .val (.int g2), .val (.int g3), u4, u5, .val (.int (4 : Int32)), u7, u8, u9, u10, u11, u12, u13, u14, .val (.int (0 : Int32)), .val (.long (0 : Int64)), .second, u18, u19, u20] []
      refine ⟨by omega, fun T4 X4 eh4 => ?_⟩
      exact tl2 _ _ H0 T4 X4 eh4
  intro f1 y1 H1 T2 X2 eh2
  refine own_blk dec0 seq0 hby hx hZ hown hK hF 4 [false] [] X2 eh2 ?_
  show (¬ (((4 : Int32)).toInt ≤ ((1 : Int32)).toInt)) ∧ own_Aft X2 h0 _ 235 [.val (.int g0), .val (.int g1), .val (.int g2), .val (.int g3), u4, u5, .val (.int (4 : Int32)), u7, u8, u9, u10, u11, u12, u13, u14, .val (.int f1), .val (.long y1), .second, u18, u19, u20] [.int g1]
  refine ⟨by decide, fun T5 X5 eh5 => ?_⟩
  suffices tl6 : ∀ (f2 : Int32) (y2 : Int64) (_ : own_sum [b2, b3] 3 f2 y2 = own_sum [b0, b1, b2, b3] 1 0 0), own_Aft X5 h0 Q 257 [.val (.int g0), .val (.int g1), .val (.int g2), .val (.int g3), u4, u5, .val (.int (4 : Int32)), u7, u8, u9, u10, u11, u12, u13, u14, .val (.int f2), .val (.long y2), .second, u18, u19, u20] [] by
    by_cases hy : 0 < g1.toInt
    · skip
      have hb := hb1.mp hy
      subst hb
      show own_Go p.tables e below _ (T5.setTop (mkF m 235 (Array.mk [.val (.int g0), .val (.int g1), .val (.int g2), .val (.int g3), u4, u5, .val (.int (4 : Int32)), u7, u8, u9, u10, u11, u12, u13, u14, .val (.int f1), .val (.long y1), .second, u18, u19, u20]) [.int g1]))
      refine own_blk dec0 seq0 hby hx hZ hown hK hF 11 [false] [] X5 eh5 ?_
      show (¬ ((g1).toInt ≤ 0)) ∧ ((2 : Int64) ≠ 0) ∧ own_Aft X5 h0 _ 257 [.val (.int g0), .val (.int g1), .val (.int g2), .val (.int g3), u4, u5, .val (.int (4 : Int32)), u7, u8, u9, u10, u11, u12, u13, u14, .val (.int (f1 + (1 : Int32))), .val (.long (y1 + (((12 : Int64) * ((f1 + (1 : Int32)).toInt64)) / (2 : Int64)))), .second, u18, u19, u20] []
      refine ⟨by omega, by decide, fun T7 X7 eh7 => ?_⟩
      exact tl6 _ _ H1 T7 X7 eh7
    · skip
      have hb : b1 = false := Bool.eq_false_iff.mpr (fun q => hy (hb1.mpr q))
      subst hb
      refine own_blk dec0 seq0 hby hx hZ hown hK hF 1 [true] [] X5 eh5 ?_
      show ((g1).toInt ≤ 0) ∧ own_Aft X5 h0 _ 257 [.val (.int g0), .val (.int g1), .val (.int g2), .val (.int g3), u4, u5, .val (.int (4 : Int32)), u7, u8, u9, u10, u11, u12, u13, u14, .val (.int f1), .val (.long y1), .second, u18, u19, u20] []
      refine ⟨by omega, fun T8 X8 eh8 => ?_⟩
      exact tl6 _ _ H1 T8 X8 eh8
  intro f2 y2 H2 T6 X6 eh6
  refine own_blk dec0 seq0 hby hx hZ hown hK hF 4 [false] [] X6 eh6 ?_
  show (¬ (((4 : Int32)).toInt ≤ ((2 : Int32)).toInt)) ∧ own_Aft X6 h0 _ 264 [.val (.int g0), .val (.int g1), .val (.int g2), .val (.int g3), u4, u5, .val (.int (4 : Int32)), u7, u8, u9, u10, u11, u12, u13, u14, .val (.int f2), .val (.long y2), .second, u18, u19, u20] [.int g2]
  refine ⟨by decide, fun T9 X9 eh9 => ?_⟩
  suffices tl10 : ∀ (f3 : Int32) (y3 : Int64) (_ : own_sum [b3] 4 f3 y3 = own_sum [b0, b1, b2, b3] 1 0 0), own_Aft X9 h0 Q 286 [.val (.int g0), .val (.int g1), .val (.int g2), .val (.int g3), u4, u5, .val (.int (4 : Int32)), u7, u8, u9, u10, u11, u12, u13, u14, .val (.int f3), .val (.long y3), .second, u18, u19, u20] [] by
    by_cases hy : 0 < g2.toInt
    · skip
      have hb := hb2.mp hy
      subst hb
      show own_Go p.tables e below _ (T9.setTop (mkF m 264 (Array.mk [.val (.int g0), .val (.int g1), .val (.int g2), .val (.int g3), u4, u5, .val (.int (4 : Int32)), u7, u8, u9, u10, u11, u12, u13, u14, .val (.int f2), .val (.long y2), .second, u18, u19, u20]) [.int g2]))
      refine own_blk dec0 seq0 hby hx hZ hown hK hF 11 [false] [] X9 eh9 ?_
      show (¬ ((g2).toInt ≤ 0)) ∧ ((3 : Int64) ≠ 0) ∧ own_Aft X9 h0 _ 286 [.val (.int g0), .val (.int g1), .val (.int g2), .val (.int g3), u4, u5, .val (.int (4 : Int32)), u7, u8, u9, u10, u11, u12, u13, u14, .val (.int (f2 + (1 : Int32))), .val (.long (y2 + (((12 : Int64) * ((f2 + (1 : Int32)).toInt64)) / (3 : Int64)))), .second, u18, u19, u20] []
      refine ⟨by omega, by decide, fun T11 X11 eh11 => ?_⟩
      exact tl10 _ _ H2 T11 X11 eh11
    · skip
      have hb : b2 = false := Bool.eq_false_iff.mpr (fun q => hy (hb2.mpr q))
      subst hb
      refine own_blk dec0 seq0 hby hx hZ hown hK hF 1 [true] [] X9 eh9 ?_
      show ((g2).toInt ≤ 0) ∧ own_Aft X9 h0 _ 286 [.val (.int g0), .val (.int g1), .val (.int g2), .val (.int g3), u4, u5, .val (.int (4 : Int32)), u7, u8, u9, u10, u11, u12, u13, u14, .val (.int f2), .val (.long y2), .second, u18, u19, u20] []
      refine ⟨by omega, fun T12 X12 eh12 => ?_⟩
      exact tl10 _ _ H2 T12 X12 eh12
  intro f3 y3 H3 T10 X10 eh10
  refine own_blk dec0 seq0 hby hx hZ hown hK hF 4 [false] [] X10 eh10 ?_
  show (¬ (((4 : Int32)).toInt ≤ ((3 : Int32)).toInt)) ∧ own_Aft X10 h0 _ 293 [.val (.int g0), .val (.int g1), .val (.int g2), .val (.int g3), u4, u5, .val (.int (4 : Int32)), u7, u8, u9, u10, u11, u12, u13, u14, .val (.int f3), .val (.long y3), .second, u18, u19, u20] [.int g3]
  refine ⟨by decide, fun T13 X13 eh13 => ?_⟩
  suffices tl14 : ∀ (f4 : Int32) (y4 : Int64) (_ : own_sum [] 5 f4 y4 = own_sum [b0, b1, b2, b3] 1 0 0), own_Aft X13 h0 Q 315 [.val (.int g0), .val (.int g1), .val (.int g2), .val (.int g3), u4, u5, .val (.int (4 : Int32)), u7, u8, u9, u10, u11, u12, u13, u14, .val (.int f4), .val (.long y4), .second, u18, u19, u20] [] by
    by_cases hy : 0 < g3.toInt
    · skip
      have hb := hb3.mp hy
      subst hb
      show own_Go p.tables e below _ (T13.setTop (mkF m 293 (Array.mk [.val (.int g0), .val (.int g1), .val (.int g2), .val (.int g3), u4, u5, .val (.int (4 : Int32)), u7, u8, u9, u10, u11, u12, u13, u14, .val (.int f3), .val (.long y3), .second, u18, u19, u20]) [.int g3]))
      refine own_blk dec0 seq0 hby hx hZ hown hK hF 11 [false] [] X13 eh13 ?_
      show (¬ ((g3).toInt ≤ 0)) ∧ ((4 : Int64) ≠ 0) ∧ own_Aft X13 h0 _ 315 [.val (.int g0), .val (.int g1), .val (.int g2), .val (.int g3), u4, u5, .val (.int (4 : Int32)), u7, u8, u9, u10, u11, u12, u13, u14, .val (.int (f3 + (1 : Int32))), .val (.long (y3 + (((12 : Int64) * ((f3 + (1 : Int32)).toInt64)) / (4 : Int64)))), .second, u18, u19, u20] []
      refine ⟨by omega, by decide, fun T15 X15 eh15 => ?_⟩
      exact tl14 _ _ H3 T15 X15 eh15
    · skip
      have hb : b3 = false := Bool.eq_false_iff.mpr (fun q => hy (hb3.mpr q))
      subst hb
      refine own_blk dec0 seq0 hby hx hZ hown hK hF 1 [true] [] X13 eh13 ?_
      show ((g3).toInt ≤ 0) ∧ own_Aft X13 h0 _ 315 [.val (.int g0), .val (.int g1), .val (.int g2), .val (.int g3), u4, u5, .val (.int (4 : Int32)), u7, u8, u9, u10, u11, u12, u13, u14, .val (.int f3), .val (.long y3), .second, u18, u19, u20] []
      refine ⟨by omega, fun T16 X16 eh16 => ?_⟩
      exact tl14 _ _ H3 T16 X16 eh16
  intro f4 y4 H4 T14 X14 eh14
  exact kk _ _ H4.symm T14 X14 eh14
set_option maxRecDepth 65536 in
set_option maxHeartbeats 40000000 in
theorem ptD_0 {p : Program} {l : Launch} {e : Env} {R : Room} {s : State} {m : MethodId} {args : Array Value} {below : List Frame} {meth : Method} {c : Code} {T0 : State} {locs : List Loc} {cells slots : Nat} {Z : State} {a0 : Array Value} {h0 : Heap} {Q : Outcome → State → Prop} (X0 : Stand p l e R s m args below meth c T0 locs cells slots) (hx : p.tables.exec = Jvm.exec) (hby : c.code = code) (hml : c.maxLocals = maxLocals) (hown : s.vm.findClass "com/example/weigh/weigh/eval/AveragePrecisionScorePinLaw" = some m.cls) (hZ : Z.Warmed39 s.vm) (hK : own_ks "com/example/weigh/weigh/eval/AveragePrecisionScorePinLaw" a0 Z kt0) (hF : own_fs "com/example/weigh/weigh/eval/AveragePrecisionScorePinLaw" a0 Z ft0) (e0 : T0.heap = h0) (u0 u1 u2 u3 u4 u5 u6 u11 u12 u13 u14 u15 u16 u17 u19 u20 : Slot) (ex x1 x2 f : Int32) 
    (kk : ∀ (r : Int32) (_ : own_cnt [] f = r), own_Aft X0 h0 Q 360 [u0, u1, u2, u3, u4, u5, u6, .val (.int (0 : Int32)), .val (.int ex), .val (.int x1), .val (.int x2), u11, u12, u13, u14, u15, u16, u17, .val (.int r), u19, u20] []) : own_Go p.tables e below Q (T0.setTop (mkF m 319 (Array.mk [u0, u1, u2, u3, u4, u5, u6, .val (.int (0 : Int32)), .val (.int ex), .val (.int x1), .val (.int x2), u11, u12, u13, u14, u15, u16, u17, .val (.int f), u19, u20]) [])) := by
  have C0 : own_cnt [] f = own_cnt [] f := rfl
  refine own_blk dec0 seq0 hby hx hZ hown hK hF 2 [true] [] X0 e0 ?_
  show (((0 : Int32)).toInt ≤ 0) ∧ own_Aft X0 h0 _ 332 [u0, u1, u2, u3, u4, u5, u6, .val (.int (0 : Int32)), .val (.int ex), .val (.int x1), .val (.int x2), u11, u12, u13, u14, u15, u16, u17, .val (.int f), u19, u20] []
  refine ⟨by decide, fun T1 X1 eh1 => ?_⟩
  refine own_blk dec0 seq0 hby hx hZ hown hK hF 3 [true] [] X1 eh1 ?_
  show (((0 : Int32)).toInt ≤ ((1 : Int32)).toInt) ∧ own_Aft X1 h0 _ 346 [u0, u1, u2, u3, u4, u5, u6, .val (.int (0 : Int32)), .val (.int ex), .val (.int x1), .val (.int x2), u11, u12, u13, u14, u15, u16, u17, .val (.int f), u19, u20] []
  refine ⟨by decide, fun T2 X2 eh2 => ?_⟩
  refine own_blk dec0 seq0 hby hx hZ hown hK hF 3 [true] [] X2 eh2 ?_
  show (((0 : Int32)).toInt ≤ ((2 : Int32)).toInt) ∧ own_Aft X2 h0 _ 360 [u0, u1, u2, u3, u4, u5, u6, .val (.int (0 : Int32)), .val (.int ex), .val (.int x1), .val (.int x2), u11, u12, u13, u14, u15, u16, u17, .val (.int f), u19, u20] []
  refine ⟨by decide, fun T3 X3 eh3 => ?_⟩
  exact kk _ C0.symm T3 X3 eh3
set_option maxRecDepth 65536 in
set_option maxHeartbeats 40000000 in
theorem ptD_1 {p : Program} {l : Launch} {e : Env} {R : Room} {s : State} {m : MethodId} {args : Array Value} {below : List Frame} {meth : Method} {c : Code} {T0 : State} {locs : List Loc} {cells slots : Nat} {Z : State} {a0 : Array Value} {h0 : Heap} {Q : Outcome → State → Prop} (X0 : Stand p l e R s m args below meth c T0 locs cells slots) (hx : p.tables.exec = Jvm.exec) (hby : c.code = code) (hml : c.maxLocals = maxLocals) (hown : s.vm.findClass "com/example/weigh/weigh/eval/AveragePrecisionScorePinLaw" = some m.cls) (hZ : Z.Warmed39 s.vm) (hK : own_ks "com/example/weigh/weigh/eval/AveragePrecisionScorePinLaw" a0 Z kt0) (hF : own_fs "com/example/weigh/weigh/eval/AveragePrecisionScorePinLaw" a0 Z ft0) (e0 : T0.heap = h0) (u0 u1 u2 u3 u4 u5 u6 u11 u12 u13 u14 u15 u16 u17 u19 u20 : Slot) (ex x1 x2 f : Int32) (c0 : Bool) (hc0 : 0 < ex.toInt ↔ c0 = true)
    (kk : ∀ (r : Int32) (_ : own_cnt [c0] f = r), own_Aft X0 h0 Q 360 [u0, u1, u2, u3, u4, u5, u6, .val (.int (1 : Int32)), .val (.int ex), .val (.int x1), .val (.int x2), u11, u12, u13, u14, u15, u16, u17, .val (.int r), u19, u20] []) : own_Go p.tables e below Q (T0.setTop (mkF m 319 (Array.mk [u0, u1, u2, u3, u4, u5, u6, .val (.int (1 : Int32)), .val (.int ex), .val (.int x1), .val (.int x2), u11, u12, u13, u14, u15, u16, u17, .val (.int f), u19, u20]) [])) := by
  have C0 : own_cnt [c0] f = own_cnt [c0] f := rfl
  refine own_blk dec0 seq0 hby hx hZ hown hK hF 3 [false] [] X0 e0 ?_
  show (¬ (((1 : Int32)).toInt ≤ 0)) ∧ own_Aft X0 h0 _ 326 [u0, u1, u2, u3, u4, u5, u6, .val (.int (1 : Int32)), .val (.int ex), .val (.int x1), .val (.int x2), u11, u12, u13, u14, u15, u16, u17, .val (.int f), u19, u20] [.int ex]
  refine ⟨by decide, fun T1 X1 eh1 => ?_⟩
  suffices tl2 : ∀ (r1 : Int32) (_ : own_cnt [] r1 = own_cnt [c0] f), own_Aft X1 h0 Q 332 [u0, u1, u2, u3, u4, u5, u6, .val (.int (1 : Int32)), .val (.int ex), .val (.int x1), .val (.int x2), u11, u12, u13, u14, u15, u16, u17, .val (.int r1), u19, u20] [] by
    by_cases hy : 0 < ex.toInt
    · skip
      have hb := hc0.mp hy
      subst hb
      refine own_blk dec0 seq0 hby hx hZ hown hK hF 2 [false] [] X1 eh1 ?_
      show (¬ ((ex).toInt ≤ 0)) ∧ own_Aft X1 h0 _ 332 [u0, u1, u2, u3, u4, u5, u6, .val (.int (1 : Int32)), .val (.int ex), .val (.int x1), .val (.int x2), u11, u12, u13, u14, u15, u16, u17, .val (.int (f + (1 : Int32))), u19, u20] []
      refine ⟨by omega, fun T3 X3 eh3 => ?_⟩
      exact tl2 _ C0 T3 X3 eh3
    · skip
      have hb : c0 = false := Bool.eq_false_iff.mpr (fun q => hy (hc0.mpr q))
      subst hb
      refine own_blk dec0 seq0 hby hx hZ hown hK hF 1 [true] [] X1 eh1 ?_
      show ((ex).toInt ≤ 0) ∧ own_Aft X1 h0 _ 332 [u0, u1, u2, u3, u4, u5, u6, .val (.int (1 : Int32)), .val (.int ex), .val (.int x1), .val (.int x2), u11, u12, u13, u14, u15, u16, u17, .val (.int f), u19, u20] []
      refine ⟨by omega, fun T4 X4 eh4 => ?_⟩
      exact tl2 _ C0 T4 X4 eh4
  intro r1 C1 T2 X2 eh2
  refine own_blk dec0 seq0 hby hx hZ hown hK hF 3 [true] [] X2 eh2 ?_
  show (((1 : Int32)).toInt ≤ ((1 : Int32)).toInt) ∧ own_Aft X2 h0 _ 346 [u0, u1, u2, u3, u4, u5, u6, .val (.int (1 : Int32)), .val (.int ex), .val (.int x1), .val (.int x2), u11, u12, u13, u14, u15, u16, u17, .val (.int r1), u19, u20] []
  refine ⟨by decide, fun T5 X5 eh5 => ?_⟩
  refine own_blk dec0 seq0 hby hx hZ hown hK hF 3 [true] [] X5 eh5 ?_
  show (((1 : Int32)).toInt ≤ ((2 : Int32)).toInt) ∧ own_Aft X5 h0 _ 360 [u0, u1, u2, u3, u4, u5, u6, .val (.int (1 : Int32)), .val (.int ex), .val (.int x1), .val (.int x2), u11, u12, u13, u14, u15, u16, u17, .val (.int r1), u19, u20] []
  refine ⟨by decide, fun T6 X6 eh6 => ?_⟩
  exact kk _ C1.symm T6 X6 eh6
set_option maxRecDepth 65536 in
set_option maxHeartbeats 40000000 in
theorem ptD_2 {p : Program} {l : Launch} {e : Env} {R : Room} {s : State} {m : MethodId} {args : Array Value} {below : List Frame} {meth : Method} {c : Code} {T0 : State} {locs : List Loc} {cells slots : Nat} {Z : State} {a0 : Array Value} {h0 : Heap} {Q : Outcome → State → Prop} (X0 : Stand p l e R s m args below meth c T0 locs cells slots) (hx : p.tables.exec = Jvm.exec) (hby : c.code = code) (hml : c.maxLocals = maxLocals) (hown : s.vm.findClass "com/example/weigh/weigh/eval/AveragePrecisionScorePinLaw" = some m.cls) (hZ : Z.Warmed39 s.vm) (hK : own_ks "com/example/weigh/weigh/eval/AveragePrecisionScorePinLaw" a0 Z kt0) (hF : own_fs "com/example/weigh/weigh/eval/AveragePrecisionScorePinLaw" a0 Z ft0) (e0 : T0.heap = h0) (u0 u1 u2 u3 u4 u5 u6 u11 u12 u13 u14 u15 u16 u17 u19 u20 : Slot) (ex x1 x2 f : Int32) (c0 c1 : Bool) (hc0 : 0 < ex.toInt ↔ c0 = true) (hc1 : 0 < x1.toInt ↔ c1 = true)
    (kk : ∀ (r : Int32) (_ : own_cnt [c0, c1] f = r), own_Aft X0 h0 Q 360 [u0, u1, u2, u3, u4, u5, u6, .val (.int (2 : Int32)), .val (.int ex), .val (.int x1), .val (.int x2), u11, u12, u13, u14, u15, u16, u17, .val (.int r), u19, u20] []) : own_Go p.tables e below Q (T0.setTop (mkF m 319 (Array.mk [u0, u1, u2, u3, u4, u5, u6, .val (.int (2 : Int32)), .val (.int ex), .val (.int x1), .val (.int x2), u11, u12, u13, u14, u15, u16, u17, .val (.int f), u19, u20]) [])) := by
  have C0 : own_cnt [c0, c1] f = own_cnt [c0, c1] f := rfl
  refine own_blk dec0 seq0 hby hx hZ hown hK hF 3 [false] [] X0 e0 ?_
  show (¬ (((2 : Int32)).toInt ≤ 0)) ∧ own_Aft X0 h0 _ 326 [u0, u1, u2, u3, u4, u5, u6, .val (.int (2 : Int32)), .val (.int ex), .val (.int x1), .val (.int x2), u11, u12, u13, u14, u15, u16, u17, .val (.int f), u19, u20] [.int ex]
  refine ⟨by decide, fun T1 X1 eh1 => ?_⟩
  suffices tl2 : ∀ (r1 : Int32) (_ : own_cnt [c1] r1 = own_cnt [c0, c1] f), own_Aft X1 h0 Q 332 [u0, u1, u2, u3, u4, u5, u6, .val (.int (2 : Int32)), .val (.int ex), .val (.int x1), .val (.int x2), u11, u12, u13, u14, u15, u16, u17, .val (.int r1), u19, u20] [] by
    by_cases hy : 0 < ex.toInt
    · skip
      have hb := hc0.mp hy
      subst hb
      refine own_blk dec0 seq0 hby hx hZ hown hK hF 2 [false] [] X1 eh1 ?_
      show (¬ ((ex).toInt ≤ 0)) ∧ own_Aft X1 h0 _ 332 [u0, u1, u2, u3, u4, u5, u6, .val (.int (2 : Int32)), .val (.int ex), .val (.int x1), .val (.int x2), u11, u12, u13, u14, u15, u16, u17, .val (.int (f + (1 : Int32))), u19, u20] []
      refine ⟨by omega, fun T3 X3 eh3 => ?_⟩
      exact tl2 _ C0 T3 X3 eh3
    · skip
      have hb : c0 = false := Bool.eq_false_iff.mpr (fun q => hy (hc0.mpr q))
      subst hb
      refine own_blk dec0 seq0 hby hx hZ hown hK hF 1 [true] [] X1 eh1 ?_
      show ((ex).toInt ≤ 0) ∧ own_Aft X1 h0 _ 332 [u0, u1, u2, u3, u4, u5, u6, .val (.int (2 : Int32)), .val (.int ex), .val (.int x1), .val (.int x2), u11, u12, u13, u14, u15, u16, u17, .val (.int f), u19, u20] []
      refine ⟨by omega, fun T4 X4 eh4 => ?_⟩
      exact tl2 _ C0 T4 X4 eh4
  intro r1 C1 T2 X2 eh2
  refine own_blk dec0 seq0 hby hx hZ hown hK hF 4 [false] [] X2 eh2 ?_
  show (¬ (((2 : Int32)).toInt ≤ ((1 : Int32)).toInt)) ∧ own_Aft X2 h0 _ 340 [u0, u1, u2, u3, u4, u5, u6, .val (.int (2 : Int32)), .val (.int ex), .val (.int x1), .val (.int x2), u11, u12, u13, u14, u15, u16, u17, .val (.int r1), u19, u20] [.int x1]
  refine ⟨by decide, fun T5 X5 eh5 => ?_⟩
  suffices tl6 : ∀ (r2 : Int32) (_ : own_cnt [] r2 = own_cnt [c0, c1] f), own_Aft X5 h0 Q 346 [u0, u1, u2, u3, u4, u5, u6, .val (.int (2 : Int32)), .val (.int ex), .val (.int x1), .val (.int x2), u11, u12, u13, u14, u15, u16, u17, .val (.int r2), u19, u20] [] by
    by_cases hy : 0 < x1.toInt
    · skip
      have hb := hc1.mp hy
      subst hb
      refine own_blk dec0 seq0 hby hx hZ hown hK hF 2 [false] [] X5 eh5 ?_
      show (¬ ((x1).toInt ≤ 0)) ∧ own_Aft X5 h0 _ 346 [u0, u1, u2, u3, u4, u5, u6, .val (.int (2 : Int32)), .val (.int ex), .val (.int x1), .val (.int x2), u11, u12, u13, u14, u15, u16, u17, .val (.int (r1 + (1 : Int32))), u19, u20] []
      refine ⟨by omega, fun T7 X7 eh7 => ?_⟩
      exact tl6 _ C1 T7 X7 eh7
    · skip
      have hb : c1 = false := Bool.eq_false_iff.mpr (fun q => hy (hc1.mpr q))
      subst hb
      refine own_blk dec0 seq0 hby hx hZ hown hK hF 1 [true] [] X5 eh5 ?_
      show ((x1).toInt ≤ 0) ∧ own_Aft X5 h0 _ 346 [u0, u1, u2, u3, u4, u5, u6, .val (.int (2 : Int32)), .val (.int ex), .val (.int x1), .val (.int x2), u11, u12, u13, u14, u15, u16, u17, .val (.int r1), u19, u20] []
      refine ⟨by omega, fun T8 X8 eh8 => ?_⟩
      exact tl6 _ C1 T8 X8 eh8
  intro r2 C2 T6 X6 eh6
  refine own_blk dec0 seq0 hby hx hZ hown hK hF 3 [true] [] X6 eh6 ?_
  show (((2 : Int32)).toInt ≤ ((2 : Int32)).toInt) ∧ own_Aft X6 h0 _ 360 [u0, u1, u2, u3, u4, u5, u6, .val (.int (2 : Int32)), .val (.int ex), .val (.int x1), .val (.int x2), u11, u12, u13, u14, u15, u16, u17, .val (.int r2), u19, u20] []
  refine ⟨by decide, fun T9 X9 eh9 => ?_⟩
  exact kk _ C2.symm T9 X9 eh9
set_option maxRecDepth 65536 in
set_option maxHeartbeats 40000000 in
theorem ptD_3 {p : Program} {l : Launch} {e : Env} {R : Room} {s : State} {m : MethodId} {args : Array Value} {below : List Frame} {meth : Method} {c : Code} {T0 : State} {locs : List Loc} {cells slots : Nat} {Z : State} {a0 : Array Value} {h0 : Heap} {Q : Outcome → State → Prop} (X0 : Stand p l e R s m args below meth c T0 locs cells slots) (hx : p.tables.exec = Jvm.exec) (hby : c.code = code) (hml : c.maxLocals = maxLocals) (hown : s.vm.findClass "com/example/weigh/weigh/eval/AveragePrecisionScorePinLaw" = some m.cls) (hZ : Z.Warmed39 s.vm) (hK : own_ks "com/example/weigh/weigh/eval/AveragePrecisionScorePinLaw" a0 Z kt0) (hF : own_fs "com/example/weigh/weigh/eval/AveragePrecisionScorePinLaw" a0 Z ft0) (e0 : T0.heap = h0) (u0 u1 u2 u3 u4 u5 u6 u11 u12 u13 u14 u15 u16 u17 u19 u20 : Slot) (ex x1 x2 f : Int32) (c0 c1 c2 : Bool) (hc0 : 0 < ex.toInt ↔ c0 = true) (hc1 : 0 < x1.toInt ↔ c1 = true) (hc2 : 0 < x2.toInt ↔ c2 = true)
    (kk : ∀ (r : Int32) (_ : own_cnt [c0, c1, c2] f = r), own_Aft X0 h0 Q 360 [u0, u1, u2, u3, u4, u5, u6, .val (.int (3 : Int32)), .val (.int ex), .val (.int x1), .val (.int x2), u11, u12, u13, u14, u15, u16, u17, .val (.int r), u19, u20] []) : own_Go p.tables e below Q (T0.setTop (mkF m 319 (Array.mk [u0, u1, u2, u3, u4, u5, u6, .val (.int (3 : Int32)), .val (.int ex), .val (.int x1), .val (.int x2), u11, u12, u13, u14, u15, u16, u17, .val (.int f), u19, u20]) [])) := by
  have C0 : own_cnt [c0, c1, c2] f = own_cnt [c0, c1, c2] f := rfl
  refine own_blk dec0 seq0 hby hx hZ hown hK hF 3 [false] [] X0 e0 ?_
  show (¬ (((3 : Int32)).toInt ≤ 0)) ∧ own_Aft X0 h0 _ 326 [u0, u1, u2, u3, u4, u5, u6, .val (.int (3 : Int32)), .val (.int ex), .val (.int x1), .val (.int x2), u11, u12, u13, u14, u15, u16, u17, .val (.int f), u19, u20] [.int ex]
  refine ⟨by decide, fun T1 X1 eh1 => ?_⟩
  suffices tl2 : ∀ (r1 : Int32) (_ : own_cnt [c1, c2] r1 = own_cnt [c0, c1, c2] f), own_Aft X1 h0 Q 332 [u0, u1, u2, u3, u4, u5, u6, .val (.int (3 : Int32)), .val (.int ex), .val (.int x1), .val (.int x2), u11, u12, u13, u14, u15, u16, u17, .val (.int r1), u19, u20] [] by
    by_cases hy : 0 < ex.toInt
    · skip
      have hb := hc0.mp hy
      subst hb
      refine own_blk dec0 seq0 hby hx hZ hown hK hF 2 [false] [] X1 eh1 ?_
      show (¬ ((ex).toInt ≤ 0)) ∧ own_Aft X1 h0 _ 332 [u0, u1, u2, u3, u4, u5, u6, .val (.int (3 : Int32)), .val (.int ex), .val (.int x1), .val (.int x2), u11, u12, u13, u14, u15, u16, u17, .val (.int (f + (1 : Int32))), u19, u20] []
      refine ⟨by omega, fun T3 X3 eh3 => ?_⟩
      exact tl2 _ C0 T3 X3 eh3
    · skip
      have hb : c0 = false := Bool.eq_false_iff.mpr (fun q => hy (hc0.mpr q))
      subst hb
      refine own_blk dec0 seq0 hby hx hZ hown hK hF 1 [true] [] X1 eh1 ?_
      show ((ex).toInt ≤ 0) ∧ own_Aft X1 h0 _ 332 [u0, u1, u2, u3, u4, u5, u6, .val (.int (3 : Int32)), .val (.int ex), .val (.int x1), .val (.int x2), u11, u12, u13, u14, u15, u16, u17, .val (.int f), u19, u20] []
      refine ⟨by omega, fun T4 X4 eh4 => ?_⟩
      exact tl2 _ C0 T4 X4 eh4
  intro r1 C1 T2 X2 eh2
  refine own_blk dec0 seq0 hby hx hZ hown hK hF 4 [false] [] X2 eh2 ?_
  show (¬ (((3 : Int32)).toInt ≤ ((1 : Int32)).toInt)) ∧ own_Aft X2 h0 _ 340 [u0, u1, u2, u3, u4, u5, u6, .val (.int (3 : Int32)), .val (.int ex), .val (.int x1), .val (.int x2), u11, u12, u13, u14, u15, u16, u17, .val (.int r1), u19, u20] [.int x1]
  refine ⟨by decide, fun T5 X5 eh5 => ?_⟩
  suffices tl6 : ∀ (r2 : Int32) (_ : own_cnt [c2] r2 = own_cnt [c0, c1, c2] f), own_Aft X5 h0 Q 346 [u0, u1, u2, u3, u4, u5, u6, .val (.int (3 : Int32)), .val (.int ex), .val (.int x1), .val (.int x2), u11, u12, u13, u14, u15, u16, u17, .val (.int r2), u19, u20] [] by
    by_cases hy : 0 < x1.toInt
    · skip
      have hb := hc1.mp hy
      subst hb
      refine own_blk dec0 seq0 hby hx hZ hown hK hF 2 [false] [] X5 eh5 ?_
      show (¬ ((x1).toInt ≤ 0)) ∧ own_Aft X5 h0 _ 346 [u0, u1, u2, u3, u4, u5, u6, .val (.int (3 : Int32)), .val (.int ex), .val (.int x1), .val (.int x2), u11, u12, u13, u14, u15, u16, u17, .val (.int (r1 + (1 : Int32))), u19, u20] []
      refine ⟨by omega, fun T7 X7 eh7 => ?_⟩
      exact tl6 _ C1 T7 X7 eh7
    · skip
      have hb : c1 = false := Bool.eq_false_iff.mpr (fun q => hy (hc1.mpr q))
      subst hb
      refine own_blk dec0 seq0 hby hx hZ hown hK hF 1 [true] [] X5 eh5 ?_
      show ((x1).toInt ≤ 0) ∧ own_Aft X5 h0 _ 346 [u0, u1, u2, u3, u4, u5, u6, .val (.int (3 : Int32)), .val (.int ex), .val (.int x1), .val (.int x2), u11, u12, u13, u14, u15, u16, u17, .val (.int r1), u19, u20] []
      refine ⟨by omega, fun T8 X8 eh8 => ?_⟩
      exact tl6 _ C1 T8 X8 eh8
  intro r2 C2 T6 X6 eh6
  refine own_blk dec0 seq0 hby hx hZ hown hK hF 4 [false] [] X6 eh6 ?_
  show (¬ (((3 : Int32)).toInt ≤ ((2 : Int32)).toInt)) ∧ own_Aft X6 h0 _ 354 [u0, u1, u2, u3, u4, u5, u6, .val (.int (3 : Int32)), .val (.int ex), .val (.int x1), .val (.int x2), u11, u12, u13, u14, u15, u16, u17, .val (.int r2), u19, u20] [.int x2]
  refine ⟨by decide, fun T9 X9 eh9 => ?_⟩
  suffices tl10 : ∀ (r3 : Int32) (_ : own_cnt [] r3 = own_cnt [c0, c1, c2] f), own_Aft X9 h0 Q 360 [u0, u1, u2, u3, u4, u5, u6, .val (.int (3 : Int32)), .val (.int ex), .val (.int x1), .val (.int x2), u11, u12, u13, u14, u15, u16, u17, .val (.int r3), u19, u20] [] by
    by_cases hy : 0 < x2.toInt
    · skip
      have hb := hc2.mp hy
      subst hb
      refine own_blk dec0 seq0 hby hx hZ hown hK hF 2 [false] [] X9 eh9 ?_
      show (¬ ((x2).toInt ≤ 0)) ∧ own_Aft X9 h0 _ 360 [u0, u1, u2, u3, u4, u5, u6, .val (.int (3 : Int32)), .val (.int ex), .val (.int x1), .val (.int x2), u11, u12, u13, u14, u15, u16, u17, .val (.int (r2 + (1 : Int32))), u19, u20] []
      refine ⟨by omega, fun T11 X11 eh11 => ?_⟩
      exact tl10 _ C2 T11 X11 eh11
    · skip
      have hb : c2 = false := Bool.eq_false_iff.mpr (fun q => hy (hc2.mpr q))
      subst hb
      refine own_blk dec0 seq0 hby hx hZ hown hK hF 1 [true] [] X9 eh9 ?_
      show ((x2).toInt ≤ 0) ∧ own_Aft X9 h0 _ 360 [u0, u1, u2, u3, u4, u5, u6, .val (.int (3 : Int32)), .val (.int ex), .val (.int x1), .val (.int x2), u11, u12, u13, u14, u15, u16, u17, .val (.int r2), u19, u20] []
      refine ⟨by omega, fun T12 X12 eh12 => ?_⟩
      exact tl10 _ C2 T12 X12 eh12
  intro r3 C3 T10 X10 eh10
  exact kk _ C3.symm T10 X10 eh10
set_option maxRecDepth 65536 in
set_option maxHeartbeats 40000000 in
theorem rm0 (l : Launch) (Z : State) (a0 : Array Value) (hw : ∀ d ∈ tables_1, d.before a0 Z = true) (ws : List Jvm.Cond) (g0 g1 g2 g3 sh ex : Int32) (h0 : Heap) (n0 : Nat) (Z0 : n0 ≤ h0.size)  :
    MetFree l x (head1 (Jvm.Cond.code x code maxLocals ret :: ws) room_1) (fun as_ U => as_ = #[.int g0, .int g1, .int g2, .int g3, .int sh, .int ex] ∧ Z.Warmed39 U.vm ∧ U.heap = h0) (fun _ _ _ _ _ => True) (fun _ U o U' => own_Fin U 16 128 (fun v h L => v = some (.int 1) ∧ Fr n0 L) o U') := by
  refine own_body (plainFor_of_name pn0) (ls0 := [.val (.int g0), .val (.int g1), .val (.int g2), .val (.int g3), .val (.int sh), .val (.int ex), .unset, .unset, .unset, .unset, .unset, .unset, .unset, .unset, .unset, .unset, .unset, .unset, .unset, .unset, .unset]) (fun m => by first | (simp [entryFrame, mkF, argsToLocals, Value.category, maxLocals]; done) | rfl) ?_
  intro p e s m below meth c T0 hx hby hml hown hnm hlk hret hZ X0 e0
  have hK : own_ks "com/example/weigh/weigh/eval/AveragePrecisionScorePinLaw" a0 Z kt0 := ⟨hw _ (List.mem_of_getElem? (i := 0) rfl), hw _ (List.mem_of_getElem? (i := 16) rfl), hw _ (List.mem_of_getElem? (i := 17) rfl), hw _ (List.mem_of_getElem? (i := 18) rfl), hw _ (List.mem_of_getElem? (i := 19) rfl), hw _ (List.mem_of_getElem? (i := 20) rfl), hw _ (List.mem_of_getElem? (i := 21) rfl), hw _ (List.mem_of_getElem? (i := 22) rfl), trivial⟩
  have hF : own_fs "com/example/weigh/weigh/eval/AveragePrecisionScorePinLaw" a0 Z ft0 := trivial
  have N0 := Fr.nil n0
  have s1 := own_and32 sh 2147483647 (by decide)
  have s2 := own_rem_pos s1.1 (b := 5) (by decide)
  have s3 : (5 : Int32).toInt = 5 := rfl
  have s4 := own_and32 (Jvm.Free.XT.ushr sh (4 : Int32)) 3 (by decide)
  have s5 : (3 : Int32).toInt = 3 := rfl
  refine own_blk dec0 seq0 hby hx hZ hown hK hF 22 [] [.int (8 : Int32)] X0 e0 ?_
  show ((5 : Int32) ≠ 0) ∧ ((Int8.ofInt 8).toInt32 = (8 : Int32)) ∧ own_Aft X0 h0 _ 34 [.val (.int g0), .val (.int g1), .val (.int g2), .val (.int g3), .val (.int sh), .val (.int ex), .val (.int ((sh &&& (2147483647 : Int32)) % (5 : Int32))), .val (.int ((Jvm.Free.XT.ushr sh (4 : Int32)) &&& (3 : Int32))), .val (.int ex), .val (.int (sh >>> ((8 : Int32) &&& 31))), .val (.int (ex ^^^ g0)), .unset, .unset, .unset, .unset, .unset, .unset, .unset, .unset, .unset, .unset] []
  refine ⟨by decide, by decide +kernel, fun T1 X1 eh1 => ?_⟩
  generalize (sh &&& (2147483647 : Int32)) % (5 : Int32) = nn at s2 ⊢
  generalize Jvm.Free.XT.ushr sh (4 : Int32) &&& (3 : Int32) = ee at s4 ⊢
  generalize sh >>> ((8 : Int32) &&& 31) = x1
  generalize ex ^^^ g0 = x2
  show own_Go p.tables e below _ (T1.setTop (mkF m 34 (Array.mk [.val (.int g0), .val (.int g1), .val (.int g2), .val (.int g3), .val (.int sh), .val (.int ex), .val (.int nn), .val (.int ee), .val (.int ex), .val (.int x1), .val (.int x2), .unset, .unset, .unset, .unset, .unset, .unset, .unset, .unset, .unset, .unset]) []))
  obtain hn | hn | hn | hn | hn : nn.toInt = (0 : Int32).toInt ∨ nn.toInt = (1 : Int32).toInt ∨ nn.toInt = (2 : Int32).toInt ∨ nn.toInt = (3 : Int32).toInt ∨ nn.toInt = (4 : Int32).toInt := by show nn.toInt = 0 ∨ nn.toInt = 1 ∨ nn.toInt = 2 ∨ nn.toInt = 3 ∨ nn.toInt = 4; omega
  · skip
    obtain rfl : nn = (0 : Int32) := Int32.toInt_inj.mp hn
    show own_Go p.tables e below _ (T1.setTop (mkF m 34 (Array.mk [.val (.int g0), .val (.int g1), .val (.int g2), .val (.int g3), .val (.int sh), .val (.int ex), .val (.int (0 : Int32)), .val (.int ee), .val (.int ex), .val (.int x1), .val (.int x2), .unset, .unset, .unset, .unset, .unset, .unset, .unset, .unset, .unset, .unset]) []))
    refine own_blk dec0 seq0 hby hx hZ hown hK hF 1 [] [] X1 eh1 ?_
    show own_Aft X1 h0 _ 36 [.val (.int g0), .val (.int g1), .val (.int g2), .val (.int g3), .val (.int sh), .val (.int ex), .val (.int (0 : Int32)), .val (.int ee), .val (.int ex), .val (.int x1), .val (.int x2), .unset, .unset, .unset, .unset, .unset, .unset, .unset, .unset, .unset, .unset] [.int (0 : Int32)]
    refine fun T2 X2 eh2 => ?_
    refine own_newP X2 hx hZ (hw _ (List.mem_of_getElem? (i := 1) rfl)) eh2 0 rfl (cap := 0) (by decide) (by decide) (hb hby at_36) (by decide) (by decide) (fun T3 hp3 ra ga3 X3 eh3 Ex3 Ar3 => ?_)
    have nw_ra : n0 ≤ ra := by rw [ga3]; exact Z0
    have Z_3 : n0 ≤ hp3.size := Nat.le_trans Z0 Ex3.1
    have Ar3' : own_A Z hp3 ra .int [] := Ar3
    show own_Go p.tables e below _ (T3.setTop (mkF m 38 (Array.mk [.val (.int g0), .val (.int g1), .val (.int g2), .val (.int g3), .val (.int sh), .val (.int ex), .val (.int (0 : Int32)), .val (.int ee), .val (.int ex), .val (.int x1), .val (.int x2), .unset, .unset, .unset, .unset, .unset, .unset, .unset, .unset, .unset, .unset]) [.ref ra]))
    refine own_blk dec0 seq0 hby hx hZ hown hK hF 12 [true, true, true, true] [] X3 eh3 ?_
    show (((0 : Int32)).toInt ≤ 0) ∧ (((0 : Int32)).toInt ≤ ((1 : Int32)).toInt) ∧ (((0 : Int32)).toInt ≤ ((2 : Int32)).toInt) ∧ (((0 : Int32)).toInt ≤ ((3 : Int32)).toInt) ∧ own_Aft X3 hp3 _ 83 [.val (.int g0), .val (.int g1), .val (.int g2), .val (.int g3), .val (.int sh), .val (.int ex), .val (.int (0 : Int32)), .val (.int ee), .val (.int ex), .val (.int x1), .val (.int x2), .val (.ref ra), .unset, .unset, .unset, .unset, .unset, .unset, .unset, .unset, .unset] []
    refine ⟨by decide, by decide, by decide, by decide, fun T4 X4 eh4 => ?_⟩
    obtain he | he | he | he : ee.toInt = (0 : Int32).toInt ∨ ee.toInt = (1 : Int32).toInt ∨ ee.toInt = (2 : Int32).toInt ∨ ee.toInt = (3 : Int32).toInt := by show ee.toInt = 0 ∨ ee.toInt = 1 ∨ ee.toInt = 2 ∨ ee.toInt = 3; omega
    · skip
      obtain rfl : ee = (0 : Int32) := Int32.toInt_inj.mp he
      show own_Go p.tables e below _ (T4.setTop (mkF m 83 (Array.mk [.val (.int g0), .val (.int g1), .val (.int g2), .val (.int g3), .val (.int sh), .val (.int ex), .val (.int (0 : Int32)), .val (.int (0 : Int32)), .val (.int ex), .val (.int x1), .val (.int x2), .val (.ref ra), .unset, .unset, .unset, .unset, .unset, .unset, .unset, .unset, .unset]) []))
      refine own_blk dec0 seq0 hby hx hZ hown hK hF 3 [] [] X4 eh4 ?_
      show own_Aft X4 hp3 _ 88 [.val (.int g0), .val (.int g1), .val (.int g2), .val (.int g3), .val (.int sh), .val (.int ex), .val (.int (0 : Int32)), .val (.int (0 : Int32)), .val (.int ex), .val (.int x1), .val (.int x2), .val (.ref ra), .unset, .unset, .unset, .unset, .unset, .unset, .unset, .unset, .unset] [.int (0 : Int32)]
      refine fun T5 X5 eh5 => ?_
      refine own_newP X5 hx hZ (hw _ (List.mem_of_getElem? (i := 1) rfl)) eh5 0 rfl (cap := 0) (by decide) (by decide) (hb hby at_88) (by decide) (by decide) (fun T6 hp6 ja ga6 X6 eh6 Ex6 Ar6 => ?_)
      have ne_ra_ja : ra ≠ ja := fun q => absurd Ar3'.lt (by rw [q, ga6]; exact Nat.lt_irrefl _)
      have nw_ja : n0 ≤ ja := by rw [ga6]; exact Z_3
      have Ar3'_6 := Ar3'.ext Ex6
      have Z_6 : n0 ≤ hp6.size := Nat.le_trans Z_3 Ex6.1
      have Ar6' : own_A Z hp6 ja .int [] := Ar6
      show own_Go p.tables e below _ (T6.setTop (mkF m 90 (Array.mk [.val (.int g0), .val (.int g1), .val (.int g2), .val (.int g3), .val (.int sh), .val (.int ex), .val (.int (0 : Int32)), .val (.int (0 : Int32)), .val (.int ex), .val (.int x1), .val (.int x2), .val (.ref ra), .unset, .unset, .unset, .unset, .unset, .unset, .unset, .unset, .unset]) [.ref ja]))
      refine own_blk dec0 seq0 hby hx hZ hown hK hF 20 [true, true, true, true, true, true, true] [] X6 eh6 ?_
      show (((0 : Int32)).toInt ≤ 0) ∧ (((0 : Int32)).toInt ≤ ((1 : Int32)).toInt) ∧ (((0 : Int32)).toInt ≤ ((2 : Int32)).toInt) ∧ (((0 : Int32)).toInt ≤ 0) ∧ (((0 : Int32)).toInt ≤ ((1 : Int32)).toInt) ∧ (((0 : Int32)).toInt ≤ ((2 : Int32)).toInt) ∧ (((0 : Int32)).toInt ≤ ((3 : Int32)).toInt) ∧ own_Aft X6 hp6 _ 180 [.val (.int g0), .val (.int g1), .val (.int g2), .val (.int g3), .val (.int sh), .val (.int ex), .val (.int (0 : Int32)), .val (.int (0 : Int32)), .val (.int ex), .val (.int x1), .val (.int x2), .val (.ref ra), .val (.ref ja), .unset, .unset, .unset, .unset, .unset, .unset, .unset, .unset] []
      refine ⟨by decide, by decide, by decide, by decide, by decide, by decide, by decide, fun T7 X7 eh7 => ?_⟩
      refine own_new X7 hx hZ hown (hw _ (List.mem_of_getElem? (i := 2) rfl)) (hw _ (List.mem_of_getElem? (i := 3) rfl)) (hw _ (List.mem_of_getElem? (i := 4) rfl)) eh7 (hb hby at_180) (by decide) (by decide) (fun T8 hp8 ao ga8 X8 eh8 Ex8 Ea8 Dn8 => ?_)
      have ne_ra_ao : ra ≠ ao := fun q => absurd Ar3'_6.lt (by rw [q, ga8]; exact Nat.lt_irrefl _)
      have ne_ja_ao : ja ≠ ao := fun q => absurd Ar6'.lt (by rw [q, ga8]; exact Nat.lt_irrefl _)
      have nw_ao : n0 ≤ ao := by rw [ga8]; exact Z_6
      have Ar3'_8 := Ar3'_6.ext Ex8
      have Ar6'_8 := Ar6'.ext Ex8
      have Z_8 : n0 ≤ hp8.size := Nat.le_trans Z_6 Ex8.1
      show own_Go p.tables e below _ (T8.setTop (mkF m 183 (Array.mk [.val (.int g0), .val (.int g1), .val (.int g2), .val (.int g3), .val (.int sh), .val (.int ex), .val (.int (0 : Int32)), .val (.int (0 : Int32)), .val (.int ex), .val (.int x1), .val (.int x2), .val (.ref ra), .val (.ref ja), .unset, .unset, .unset, .unset, .unset, .unset, .unset, .unset]) [.ref ao]))
      refine own_blk dec0 seq0 hby hx hZ hown hK hF 1 [] [] X8 eh8 ?_
      show own_Aft X8 hp8 _ 184 [.val (.int g0), .val (.int g1), .val (.int g2), .val (.int g3), .val (.int sh), .val (.int ex), .val (.int (0 : Int32)), .val (.int (0 : Int32)), .val (.int ex), .val (.int x1), .val (.int x2), .val (.ref ra), .val (.ref ja), .unset, .unset, .unset, .unset, .unset, .unset, .unset, .unset] [.ref ao, .ref ao]
      refine fun T9 X9 eh9 => ?_
      refine own_callI X9 hx hZ hown rfl (hw _ (List.mem_of_getElem? (i := 5) rfl)) (hw _ (List.mem_of_getElem? (i := 6) rfl)) (hw _ (List.mem_of_getElem? (i := 4) rfl)) (hw _ (List.mem_of_getElem? (i := 7) rfl)) (by decide) eh9 ao [] pd1 rfl (rm := ({ frames := 1, cells := 0, slots := 0, locals := 12 } : Room)) (rm1 l Z a0 hw [] ao hp8 n0 Z_8) (by rw [hml]; rfl) 1 rfl (Nat.le_of_eq rfl) (hb hby at_184) (by decide) (by decide) (by decide) (by decide) (fun T10 rv10 Lc10 X10 qc10 => ?_)
      obtain ⟨rfl, M1, hh⟩ := qc10
      show own_Go p.tables e below _ (T10.setTop (mkF m 187 (Array.mk [.val (.int g0), .val (.int g1), .val (.int g2), .val (.int g3), .val (.int sh), .val (.int ex), .val (.int (0 : Int32)), .val (.int (0 : Int32)), .val (.int ex), .val (.int x1), .val (.int x2), .val (.ref ra), .val (.ref ja), .unset, .unset, .unset, .unset, .unset, .unset, .unset, .unset]) [.ref ao]))
      refine own_blk dec0 seq0 hby hx hZ hown hK hF 2 [] [] X10 hh ?_
      show own_Aft X10 hp8 _ 191 [.val (.int g0), .val (.int g1), .val (.int g2), .val (.int g3), .val (.int sh), .val (.int ex), .val (.int (0 : Int32)), .val (.int (0 : Int32)), .val (.int ex), .val (.int x1), .val (.int x2), .val (.ref ra), .val (.ref ja), .unset, .unset, .unset, .unset, .unset, .unset, .unset, .unset] [.ref ja, .ref ra, .ref ao]
      refine fun T11 X11 eh11 => ?_
      obtain ⟨hrok, hchk⟩ := Bool.and_eq_true_iff.mp (own_chk_0_0 )
      refine own_callV X11 hx hZ hown (hw _ (List.mem_of_getElem? (i := 11) rfl)) (hw _ (List.mem_of_getElem? (i := 12) rfl)) (hw _ (List.mem_of_getElem? (i := 14) rfl)) (hw _ (List.mem_of_getElem? (i := 13) rfl)) (hw _ (List.mem_of_getElem? (i := 4) rfl)) (hw _ (List.mem_of_getElem? (i := 15) rfl)) (by decide) eh11 Ea8 [.ref ra, .ref ja] pd3 rfl (rm := ({ frames := 0, cells := 0, slots := 0, locals := 0 } : Room)) (rm3_0_0 l Z a0 hw [] ao ra ja   hp8 n0 Z_8 Ar3'_8 Ar6'_8   hrok) (by rw [hml]; rfl) 0 rfl (Nat.le_of_eq rfl) (hb hby at_191) (by decide) (by decide) (by decide) (by decide) (fun T12 rv12 Lc12 X12 qc12 => ?_)
      obtain ⟨rfl, M2, hh2⟩ := qc12
      have hres : own_res [] ([] ++ []) = own_res [] [] := rfl
      generalize own_res [] [] = sc at hres ⊢
      show own_Go p.tables e below _ (T12.setTop (mkF m 194 (Array.mk [.val (.int g0), .val (.int g1), .val (.int g2), .val (.int g3), .val (.int sh), .val (.int ex), .val (.int (0 : Int32)), .val (.int (0 : Int32)), .val (.int ex), .val (.int x1), .val (.int x2), .val (.ref ra), .val (.ref ja), .unset, .unset, .unset, .unset, .unset, .unset, .unset, .unset]) [.double sc]))
      refine own_blk dec0 seq0 hby hx hZ hown hK hF 5 [] [] X12 hh2 ?_
      show own_Aft X12 hp8 _ 202 [.val (.int g0), .val (.int g1), .val (.int g2), .val (.int g3), .val (.int sh), .val (.int ex), .val (.int (0 : Int32)), .val (.int (0 : Int32)), .val (.int ex), .val (.int x1), .val (.int x2), .val (.ref ra), .val (.ref ja), .val (.double sc), .second, .val (.int (0 : Int32)), .val (.long (0 : Int64)), .second, .unset, .unset, .unset] []
      refine fun T13 X13 eh13 => ?_
      refine ptC_0 X13 hx hby hml hown hZ hK hF eh13 _ _ _ _ _ _ _ _ _ _ _ _ _ g0 g1 g2 g3   (fun f0 y0 HF T14 X14 eh14 => ?_)
      show own_Go p.tables e below _ (T14.setTop (mkF m 315 (Array.mk [.val (.int g0), .val (.int g1), .val (.int g2), .val (.int g3), .val (.int sh), .val (.int ex), .val (.int (0 : Int32)), .val (.int (0 : Int32)), .val (.int ex), .val (.int x1), .val (.int x2), .val (.ref ra), .val (.ref ja), .val (.double sc), .second, .val (.int f0), .val (.long y0), .second, .unset, .unset, .unset]) []))
      refine own_blk dec0 seq0 hby hx hZ hown hK hF 2 [] [] X14 eh14 ?_
      show own_Aft X14 hp8 _ 319 [.val (.int g0), .val (.int g1), .val (.int g2), .val (.int g3), .val (.int sh), .val (.int ex), .val (.int (0 : Int32)), .val (.int (0 : Int32)), .val (.int ex), .val (.int x1), .val (.int x2), .val (.ref ra), .val (.ref ja), .val (.double sc), .second, .val (.int f0), .val (.long y0), .second, .val (.int f0), .unset, .unset] []
      refine fun T15 X15 eh15 => ?_
      refine ptD_0 X15 hx hby hml hown hZ hK hF eh15 _ _ _ _ _ _ _ _ _ _ _ _ _ _ _ _ ex x1 x2 f0   (fun rr CF T16 X16 eh16 => ?_)
      show own_Go p.tables e below _ (T16.setTop (mkF m 360 (Array.mk [.val (.int g0), .val (.int g1), .val (.int g2), .val (.int g3), .val (.int sh), .val (.int ex), .val (.int (0 : Int32)), .val (.int (0 : Int32)), .val (.int ex), .val (.int x1), .val (.int x2), .val (.ref ra), .val (.ref ja), .val (.double sc), .second, .val (.int f0), .val (.long y0), .second, .val (.int rr), .unset, .unset]) []))
      unfold own_dif at hchk
      rw [hres, HF] at hchk
      dsimp only at hchk
      rw [CF] at hchk
      by_cases hf : f0.toInt = 0
      · skip
        rw [if_pos hf] at hchk
        refine own_blk dec0 seq0 hby hx hZ hown hK hF 8 [false, false] [] X16 eh16 ?_
        show (¬ ((f0).toInt ≠ 0)) ∧ (¬ ((cmpValue (FP.dcmp sc 0) .l).toInt ≠ 0)) ∧ own_Aft X16 hp8 _ 377 [.val (.int g0), .val (.int g1), .val (.int g2), .val (.int g3), .val (.int sh), .val (.int ex), .val (.int (0 : Int32)), .val (.int (0 : Int32)), .val (.int ex), .val (.int x1), .val (.int x2), .val (.ref ra), .val (.ref ja), .val (.double sc), .second, .val (.int f0), .val (.long y0), .second, .val (.int rr), .unset, .unset] [.int (1 : Int32)]
        refine ⟨by omega, by have := of_decide_eq_true hchk; omega, fun T17 X17 eh17 => ?_⟩
        exact own_ret X17 hx hlk eh17 hret (by first | rfl | decide) (Or.inl ⟨rfl, by simp, _, rfl⟩) (hb hby at_377) (by decide) (by decide) (⟨rfl, Fr.app (Fr.app N0 M1) M2⟩)
      · skip
        rw [if_neg hf] at hchk
        obtain ⟨hchk, k5⟩ := Bool.and_eq_true_iff.mp hchk
        obtain ⟨hchk, k4⟩ := Bool.and_eq_true_iff.mp hchk
        obtain ⟨hchk, k3⟩ := Bool.and_eq_true_iff.mp hchk
        obtain ⟨k1, k2⟩ := Bool.and_eq_true_iff.mp hchk
        refine own_blk dec0 seq0 hby hx hZ hown hK hF 22 [true, false, false] [] X16 eh16 ?_
        show ((f0).toInt ≠ 0) ∧ (Jvm.Free.Fl.NoNaN64 (FP.dmul 4622945017495814144 (FP.i2d rr))) ∧ (Jvm.Free.Fl.NoNaN64 (FP.dmul sc (FP.dmul 4622945017495814144 (FP.i2d rr)))) ∧ (Jvm.Free.Fl.NoNaN64 (FP.dsub (FP.dmul sc (FP.dmul 4622945017495814144 (FP.i2d rr))) (FP.l2d y0))) ∧ (¬ (0 ≤ (cmpValue (FP.dcmp (FP.dsub (FP.dmul sc (FP.dmul 4622945017495814144 (FP.i2d rr))) (FP.l2d y0)) 4472406533629990549) .g).toInt)) ∧ (¬ ((cmpValue (FP.dcmp (FP.dsub (FP.dmul sc (FP.dmul 4622945017495814144 (FP.i2d rr))) (FP.l2d y0)) 13695778570484766357) .l).toInt ≤ 0)) ∧ own_Aft X16 hp8 _ 417 [.val (.int g0), .val (.int g1), .val (.int g2), .val (.int g3), .val (.int sh), .val (.int ex), .val (.int (0 : Int32)), .val (.int (0 : Int32)), .val (.int ex), .val (.int x1), .val (.int x2), .val (.ref ra), .val (.ref ja), .val (.double sc), .second, .val (.int f0), .val (.long y0), .second, .val (.int rr), .val (.double (FP.dsub (FP.dmul sc (FP.dmul 4622945017495814144 (FP.i2d rr))) (FP.l2d y0))), .second] [.int (1 : Int32)]
        refine ⟨by omega, own_nb_e k1, own_nb_e k2, own_nb_e k3, by have := of_decide_eq_true k4; omega, by have := of_decide_eq_true k5; omega, fun T18 X18 eh18 => ?_⟩
        exact own_ret X18 hx hlk eh18 hret (by first | rfl | decide) (Or.inl ⟨rfl, by simp, _, rfl⟩) (hb hby at_417) (by decide) (by decide) (⟨rfl, Fr.app (Fr.app N0 M1) M2⟩)
    · skip
      obtain rfl : ee = (1 : Int32) := Int32.toInt_inj.mp he
      show own_Go p.tables e below _ (T4.setTop (mkF m 83 (Array.mk [.val (.int g0), .val (.int g1), .val (.int g2), .val (.int g3), .val (.int sh), .val (.int ex), .val (.int (0 : Int32)), .val (.int (1 : Int32)), .val (.int ex), .val (.int x1), .val (.int x2), .val (.ref ra), .unset, .unset, .unset, .unset, .unset, .unset, .unset, .unset, .unset]) []))
      refine own_blk dec0 seq0 hby hx hZ hown hK hF 3 [] [] X4 eh4 ?_
      show own_Aft X4 hp3 _ 88 [.val (.int g0), .val (.int g1), .val (.int g2), .val (.int g3), .val (.int sh), .val (.int ex), .val (.int (0 : Int32)), .val (.int (1 : Int32)), .val (.int ex), .val (.int x1), .val (.int x2), .val (.ref ra), .unset, .unset, .unset, .unset, .unset, .unset, .unset, .unset, .unset] [.int (1 : Int32)]
      refine fun T19 X19 eh19 => ?_
      refine own_newP X19 hx hZ (hw _ (List.mem_of_getElem? (i := 1) rfl)) eh19 1 rfl (cap := 1) (by decide) (by decide) (hb hby at_88) (by decide) (by decide) (fun T20 hp20 ja ga20 X20 eh20 Ex20 Ar20 => ?_)
      have ne_ra_ja : ra ≠ ja := fun q => absurd Ar3'.lt (by rw [q, ga20]; exact Nat.lt_irrefl _)
      have nw_ja : n0 ≤ ja := by rw [ga20]; exact Z_3
      have Ar3'_20 := Ar3'.ext Ex20
      have Z_20 : n0 ≤ hp20.size := Nat.le_trans Z_3 Ex20.1
      have Ar20' : own_A Z hp20 ja .int [.int (0 : Int32)] := Ar20
      show own_Go p.tables e below _ (T20.setTop (mkF m 90 (Array.mk [.val (.int g0), .val (.int g1), .val (.int g2), .val (.int g3), .val (.int sh), .val (.int ex), .val (.int (0 : Int32)), .val (.int (1 : Int32)), .val (.int ex), .val (.int x1), .val (.int x2), .val (.ref ra), .unset, .unset, .unset, .unset, .unset, .unset, .unset, .unset, .unset]) [.ref ja]))
      refine own_blk dec0 seq0 hby hx hZ hown hK hF 6 [false] [] X20 eh20 ?_
      show (¬ (((1 : Int32)).toInt ≤ 0)) ∧ own_Aft X20 hp20 _ 102 [.val (.int g0), .val (.int g1), .val (.int g2), .val (.int g3), .val (.int sh), .val (.int ex), .val (.int (0 : Int32)), .val (.int (1 : Int32)), .val (.int ex), .val (.int x1), .val (.int x2), .val (.ref ra), .val (.ref ja), .unset, .unset, .unset, .unset, .unset, .unset, .unset, .unset] [.int ex, .int (0 : Int32), .ref ja]
      refine ⟨by decide, fun T21 X21 eh21 => ?_⟩
      refine own_sI X21 hx hZ eh21 Ar20' 0 rfl (by show 0 < 1; decide) (hb hby at_102) (fun T22 hp22 X22 eh22 Wr22 Ar22 => ?_)
      have Ar22' : own_A Z hp22 ja .int [.int ex] := Ar22
      have Ar3'_22 := Ar3'_20.other Wr22 ne_ra_ja
      have Nf22 := Fr.snoc X22 N0 nw_ja
      have Z_22 : n0 ≤ hp22.size := by rw [Wr.size Wr22]; exact Z_20
      refine own_blk dec0 seq0 hby hx hZ hown hK hF 17 [true, true, true, true, true, true] [] X22 eh22 ?_
      show (((1 : Int32)).toInt ≤ ((1 : Int32)).toInt) ∧ (((1 : Int32)).toInt ≤ ((2 : Int32)).toInt) ∧ (((0 : Int32)).toInt ≤ 0) ∧ (((0 : Int32)).toInt ≤ ((1 : Int32)).toInt) ∧ (((0 : Int32)).toInt ≤ ((2 : Int32)).toInt) ∧ (((0 : Int32)).toInt ≤ ((3 : Int32)).toInt) ∧ own_Aft X22 hp22 _ 180 [.val (.int g0), .val (.int g1), .val (.int g2), .val (.int g3), .val (.int sh), .val (.int ex), .val (.int (0 : Int32)), .val (.int (1 : Int32)), .val (.int ex), .val (.int x1), .val (.int x2), .val (.ref ra), .val (.ref ja), .unset, .unset, .unset, .unset, .unset, .unset, .unset, .unset] []
      refine ⟨by decide, by decide, by decide, by decide, by decide, by decide, fun T23 X23 eh23 => ?_⟩
      refine own_new X23 hx hZ hown (hw _ (List.mem_of_getElem? (i := 2) rfl)) (hw _ (List.mem_of_getElem? (i := 3) rfl)) (hw _ (List.mem_of_getElem? (i := 4) rfl)) eh23 (hb hby at_180) (by decide) (by decide) (fun T24 hp24 ao ga24 X24 eh24 Ex24 Ea24 Dn24 => ?_)
      have ne_ra_ao : ra ≠ ao := fun q => absurd Ar3'_22.lt (by rw [q, ga24]; exact Nat.lt_irrefl _)
      have ne_ja_ao : ja ≠ ao := fun q => absurd Ar22'.lt (by rw [q, ga24]; exact Nat.lt_irrefl _)
      have nw_ao : n0 ≤ ao := by rw [ga24]; exact Z_22
      have Ar3'_24 := Ar3'_22.ext Ex24
      have Ar22'_24 := Ar22'.ext Ex24
      have Z_24 : n0 ≤ hp24.size := Nat.le_trans Z_22 Ex24.1
      show own_Go p.tables e below _ (T24.setTop (mkF m 183 (Array.mk [.val (.int g0), .val (.int g1), .val (.int g2), .val (.int g3), .val (.int sh), .val (.int ex), .val (.int (0 : Int32)), .val (.int (1 : Int32)), .val (.int ex), .val (.int x1), .val (.int x2), .val (.ref ra), .val (.ref ja), .unset, .unset, .unset, .unset, .unset, .unset, .unset, .unset]) [.ref ao]))
      refine own_blk dec0 seq0 hby hx hZ hown hK hF 1 [] [] X24 eh24 ?_
      show own_Aft X24 hp24 _ 184 [.val (.int g0), .val (.int g1), .val (.int g2), .val (.int g3), .val (.int sh), .val (.int ex), .val (.int (0 : Int32)), .val (.int (1 : Int32)), .val (.int ex), .val (.int x1), .val (.int x2), .val (.ref ra), .val (.ref ja), .unset, .unset, .unset, .unset, .unset, .unset, .unset, .unset] [.ref ao, .ref ao]
      refine fun T25 X25 eh25 => ?_
      refine own_callI X25 hx hZ hown rfl (hw _ (List.mem_of_getElem? (i := 5) rfl)) (hw _ (List.mem_of_getElem? (i := 6) rfl)) (hw _ (List.mem_of_getElem? (i := 4) rfl)) (hw _ (List.mem_of_getElem? (i := 7) rfl)) (by decide) eh25 ao [] pd1 rfl (rm := ({ frames := 1, cells := 0, slots := 0, locals := 12 } : Room)) (rm1 l Z a0 hw [] ao hp24 n0 Z_24) (by rw [hml]; rfl) 1 rfl (Nat.le_of_eq rfl) (hb hby at_184) (by decide) (by decide) (by decide) (by decide) (fun T26 rv26 Lc26 X26 qc26 => ?_)
      obtain ⟨rfl, M1, hh⟩ := qc26
      show own_Go p.tables e below _ (T26.setTop (mkF m 187 (Array.mk [.val (.int g0), .val (.int g1), .val (.int g2), .val (.int g3), .val (.int sh), .val (.int ex), .val (.int (0 : Int32)), .val (.int (1 : Int32)), .val (.int ex), .val (.int x1), .val (.int x2), .val (.ref ra), .val (.ref ja), .unset, .unset, .unset, .unset, .unset, .unset, .unset, .unset]) [.ref ao]))
      refine own_blk dec0 seq0 hby hx hZ hown hK hF 2 [] [] X26 hh ?_
      show own_Aft X26 hp24 _ 191 [.val (.int g0), .val (.int g1), .val (.int g2), .val (.int g3), .val (.int sh), .val (.int ex), .val (.int (0 : Int32)), .val (.int (1 : Int32)), .val (.int ex), .val (.int x1), .val (.int x2), .val (.ref ra), .val (.ref ja), .unset, .unset, .unset, .unset, .unset, .unset, .unset, .unset] [.ref ja, .ref ra, .ref ao]
      refine fun T27 X27 eh27 => ?_
      obtain ⟨c0, hc0⟩ : ∃ b : Bool, (0 < ex.toInt ↔ b = true) := ⟨decide (0 < ex.toInt), by simp⟩
      obtain ⟨hrok, hchk⟩ := Bool.and_eq_true_iff.mp (own_chk_0_1 c0)
      refine own_callV X27 hx hZ hown (hw _ (List.mem_of_getElem? (i := 11) rfl)) (hw _ (List.mem_of_getElem? (i := 12) rfl)) (hw _ (List.mem_of_getElem? (i := 14) rfl)) (hw _ (List.mem_of_getElem? (i := 13) rfl)) (hw _ (List.mem_of_getElem? (i := 4) rfl)) (hw _ (List.mem_of_getElem? (i := 15) rfl)) (by decide) eh27 Ea24 [.ref ra, .ref ja] pd3 rfl (rm := ({ frames := 0, cells := 0, slots := 0, locals := 0 } : Room)) (rm3_0_1 l Z a0 hw [] ao ra ja ex c0 hp24 n0 Z_24 Ar3'_24 Ar22'_24  hc0 hrok) (by rw [hml]; rfl) 0 rfl (Nat.le_of_eq rfl) (hb hby at_191) (by decide) (by decide) (by decide) (by decide) (fun T28 rv28 Lc28 X28 qc28 => ?_)
      obtain ⟨rfl, M2, hh2⟩ := qc28
      have hres : own_res [] ([c0] ++ []) = own_res [] [c0] := rfl
      generalize own_res [] [c0] = sc at hres ⊢
      show own_Go p.tables e below _ (T28.setTop (mkF m 194 (Array.mk [.val (.int g0), .val (.int g1), .val (.int g2), .val (.int g3), .val (.int sh), .val (.int ex), .val (.int (0 : Int32)), .val (.int (1 : Int32)), .val (.int ex), .val (.int x1), .val (.int x2), .val (.ref ra), .val (.ref ja), .unset, .unset, .unset, .unset, .unset, .unset, .unset, .unset]) [.double sc]))
      refine own_blk dec0 seq0 hby hx hZ hown hK hF 5 [] [] X28 hh2 ?_
      show own_Aft X28 hp24 _ 202 [.val (.int g0), .val (.int g1), .val (.int g2), .val (.int g3), .val (.int sh), .val (.int ex), .val (.int (0 : Int32)), .val (.int (1 : Int32)), .val (.int ex), .val (.int x1), .val (.int x2), .val (.ref ra), .val (.ref ja), .val (.double sc), .second, .val (.int (0 : Int32)), .val (.long (0 : Int64)), .second, .unset, .unset, .unset] []
      refine fun T29 X29 eh29 => ?_
      refine ptC_0 X29 hx hby hml hown hZ hK hF eh29 _ _ _ _ _ _ _ _ _ _ _ _ _ g0 g1 g2 g3   (fun f0 y0 HF T30 X30 eh30 => ?_)
      show own_Go p.tables e below _ (T30.setTop (mkF m 315 (Array.mk [.val (.int g0), .val (.int g1), .val (.int g2), .val (.int g3), .val (.int sh), .val (.int ex), .val (.int (0 : Int32)), .val (.int (1 : Int32)), .val (.int ex), .val (.int x1), .val (.int x2), .val (.ref ra), .val (.ref ja), .val (.double sc), .second, .val (.int f0), .val (.long y0), .second, .unset, .unset, .unset]) []))
      refine own_blk dec0 seq0 hby hx hZ hown hK hF 2 [] [] X30 eh30 ?_
      show own_Aft X30 hp24 _ 319 [.val (.int g0), .val (.int g1), .val (.int g2), .val (.int g3), .val (.int sh), .val (.int ex), .val (.int (0 : Int32)), .val (.int (1 : Int32)), .val (.int ex), .val (.int x1), .val (.int x2), .val (.ref ra), .val (.ref ja), .val (.double sc), .second, .val (.int f0), .val (.long y0), .second, .val (.int f0), .unset, .unset] []
      refine fun T31 X31 eh31 => ?_
      refine ptD_1 X31 hx hby hml hown hZ hK hF eh31 _ _ _ _ _ _ _ _ _ _ _ _ _ _ _ _ ex x1 x2 f0 c0 hc0 (fun rr CF T32 X32 eh32 => ?_)
      show own_Go p.tables e below _ (T32.setTop (mkF m 360 (Array.mk [.val (.int g0), .val (.int g1), .val (.int g2), .val (.int g3), .val (.int sh), .val (.int ex), .val (.int (0 : Int32)), .val (.int (1 : Int32)), .val (.int ex), .val (.int x1), .val (.int x2), .val (.ref ra), .val (.ref ja), .val (.double sc), .second, .val (.int f0), .val (.long y0), .second, .val (.int rr), .unset, .unset]) []))
      unfold own_dif at hchk
      rw [hres, HF] at hchk
      dsimp only at hchk
      rw [CF] at hchk
      by_cases hf : f0.toInt = 0
      · skip
        rw [if_pos hf] at hchk
        refine own_blk dec0 seq0 hby hx hZ hown hK hF 8 [false, false] [] X32 eh32 ?_
        show (¬ ((f0).toInt ≠ 0)) ∧ (¬ ((cmpValue (FP.dcmp sc 0) .l).toInt ≠ 0)) ∧ own_Aft X32 hp24 _ 377 [.val (.int g0), .val (.int g1), .val (.int g2), .val (.int g3), .val (.int sh), .val (.int ex), .val (.int (0 : Int32)), .val (.int (1 : Int32)), .val (.int ex), .val (.int x1), .val (.int x2), .val (.ref ra), .val (.ref ja), .val (.double sc), .second, .val (.int f0), .val (.long y0), .second, .val (.int rr), .unset, .unset] [.int (1 : Int32)]
        refine ⟨by omega, by have := of_decide_eq_true hchk; omega, fun T33 X33 eh33 => ?_⟩
        exact own_ret X33 hx hlk eh33 hret (by first | rfl | decide) (Or.inl ⟨rfl, by simp, _, rfl⟩) (hb hby at_377) (by decide) (by decide) (⟨rfl, Fr.app (Fr.app Nf22 M1) M2⟩)
      · skip
        rw [if_neg hf] at hchk
        obtain ⟨hchk, k5⟩ := Bool.and_eq_true_iff.mp hchk
        obtain ⟨hchk, k4⟩ := Bool.and_eq_true_iff.mp hchk
        obtain ⟨hchk, k3⟩ := Bool.and_eq_true_iff.mp hchk
        obtain ⟨k1, k2⟩ := Bool.and_eq_true_iff.mp hchk
        refine own_blk dec0 seq0 hby hx hZ hown hK hF 22 [true, false, false] [] X32 eh32 ?_
        show ((f0).toInt ≠ 0) ∧ (Jvm.Free.Fl.NoNaN64 (FP.dmul 4622945017495814144 (FP.i2d rr))) ∧ (Jvm.Free.Fl.NoNaN64 (FP.dmul sc (FP.dmul 4622945017495814144 (FP.i2d rr)))) ∧ (Jvm.Free.Fl.NoNaN64 (FP.dsub (FP.dmul sc (FP.dmul 4622945017495814144 (FP.i2d rr))) (FP.l2d y0))) ∧ (¬ (0 ≤ (cmpValue (FP.dcmp (FP.dsub (FP.dmul sc (FP.dmul 4622945017495814144 (FP.i2d rr))) (FP.l2d y0)) 4472406533629990549) .g).toInt)) ∧ (¬ ((cmpValue (FP.dcmp (FP.dsub (FP.dmul sc (FP.dmul 4622945017495814144 (FP.i2d rr))) (FP.l2d y0)) 13695778570484766357) .l).toInt ≤ 0)) ∧ own_Aft X32 hp24 _ 417 [.val (.int g0), .val (.int g1), .val (.int g2), .val (.int g3), .val (.int sh), .val (.int ex), .val (.int (0 : Int32)), .val (.int (1 : Int32)), .val (.int ex), .val (.int x1), .val (.int x2), .val (.ref ra), .val (.ref ja), .val (.double sc), .second, .val (.int f0), .val (.long y0), .second, .val (.int rr), .val (.double (FP.dsub (FP.dmul sc (FP.dmul 4622945017495814144 (FP.i2d rr))) (FP.l2d y0))), .second] [.int (1 : Int32)]
        refine ⟨by omega, own_nb_e k1, own_nb_e k2, own_nb_e k3, by have := of_decide_eq_true k4; omega, by have := of_decide_eq_true k5; omega, fun T34 X34 eh34 => ?_⟩
        exact own_ret X34 hx hlk eh34 hret (by first | rfl | decide) (Or.inl ⟨rfl, by simp, _, rfl⟩) (hb hby at_417) (by decide) (by decide) (⟨rfl, Fr.app (Fr.app Nf22 M1) M2⟩)
    · skip
      obtain rfl : ee = (2 : Int32) := Int32.toInt_inj.mp he
      show own_Go p.tables e below _ (T4.setTop (mkF m 83 (Array.mk [.val (.int g0), .val (.int g1), .val (.int g2), .val (.int g3), .val (.int sh), .val (.int ex), .val (.int (0 : Int32)), .val (.int (2 : Int32)), .val (.int ex), .val (.int x1), .val (.int x2), .val (.ref ra), .unset, .unset, .unset, .unset, .unset, .unset, .unset, .unset, .unset]) []))
      refine own_blk dec0 seq0 hby hx hZ hown hK hF 3 [] [] X4 eh4 ?_
      show own_Aft X4 hp3 _ 88 [.val (.int g0), .val (.int g1), .val (.int g2), .val (.int g3), .val (.int sh), .val (.int ex), .val (.int (0 : Int32)), .val (.int (2 : Int32)), .val (.int ex), .val (.int x1), .val (.int x2), .val (.ref ra), .unset, .unset, .unset, .unset, .unset, .unset, .unset, .unset, .unset] [.int (2 : Int32)]
      refine fun T35 X35 eh35 => ?_
      refine own_newP X35 hx hZ (hw _ (List.mem_of_getElem? (i := 1) rfl)) eh35 2 rfl (cap := 2) (by decide) (by decide) (hb hby at_88) (by decide) (by decide) (fun T36 hp36 ja ga36 X36 eh36 Ex36 Ar36 => ?_)
      have ne_ra_ja : ra ≠ ja := fun q => absurd Ar3'.lt (by rw [q, ga36]; exact Nat.lt_irrefl _)
      have nw_ja : n0 ≤ ja := by rw [ga36]; exact Z_3
      have Ar3'_36 := Ar3'.ext Ex36
      have Z_36 : n0 ≤ hp36.size := Nat.le_trans Z_3 Ex36.1
      have Ar36' : own_A Z hp36 ja .int [.int (0 : Int32), .int (0 : Int32)] := Ar36
      show own_Go p.tables e below _ (T36.setTop (mkF m 90 (Array.mk [.val (.int g0), .val (.int g1), .val (.int g2), .val (.int g3), .val (.int sh), .val (.int ex), .val (.int (0 : Int32)), .val (.int (2 : Int32)), .val (.int ex), .val (.int x1), .val (.int x2), .val (.ref ra), .unset, .unset, .unset, .unset, .unset, .unset, .unset, .unset, .unset]) [.ref ja]))
      refine own_blk dec0 seq0 hby hx hZ hown hK hF 6 [false] [] X36 eh36 ?_
      show (¬ (((2 : Int32)).toInt ≤ 0)) ∧ own_Aft X36 hp36 _ 102 [.val (.int g0), .val (.int g1), .val (.int g2), .val (.int g3), .val (.int sh), .val (.int ex), .val (.int (0 : Int32)), .val (.int (2 : Int32)), .val (.int ex), .val (.int x1), .val (.int x2), .val (.ref ra), .val (.ref ja), .unset, .unset, .unset, .unset, .unset, .unset, .unset, .unset] [.int ex, .int (0 : Int32), .ref ja]
      refine ⟨by decide, fun T37 X37 eh37 => ?_⟩
      refine own_sI X37 hx hZ eh37 Ar36' 0 rfl (by show 0 < 2; decide) (hb hby at_102) (fun T38 hp38 X38 eh38 Wr38 Ar38 => ?_)
      have Ar38' : own_A Z hp38 ja .int [.int ex, .int (0 : Int32)] := Ar38
      have Ar3'_38 := Ar3'_36.other Wr38 ne_ra_ja
      have Nf38 := Fr.snoc X38 N0 nw_ja
      have Z_38 : n0 ≤ hp38.size := by rw [Wr.size Wr38]; exact Z_36
      refine own_blk dec0 seq0 hby hx hZ hown hK hF 6 [false] [] X38 eh38 ?_
      show (¬ (((2 : Int32)).toInt ≤ ((1 : Int32)).toInt)) ∧ own_Aft X38 hp38 _ 114 [.val (.int g0), .val (.int g1), .val (.int g2), .val (.int g3), .val (.int sh), .val (.int ex), .val (.int (0 : Int32)), .val (.int (2 : Int32)), .val (.int ex), .val (.int x1), .val (.int x2), .val (.ref ra), .val (.ref ja), .unset, .unset, .unset, .unset, .unset, .unset, .unset, .unset] [.int x1, .int (1 : Int32), .ref ja]
      refine ⟨by decide, fun T39 X39 eh39 => ?_⟩
      refine own_sI X39 hx hZ eh39 Ar38' 1 rfl (by show 1 < 2; decide) (hb hby at_114) (fun T40 hp40 X40 eh40 Wr40 Ar40 => ?_)
      have Ar40' : own_A Z hp40 ja .int [.int ex, .int x1] := Ar40
      have Ar3'_40 := Ar3'_38.other Wr40 ne_ra_ja
      have Nf40 := Fr.snoc X40 Nf38 nw_ja
      have Z_40 : n0 ≤ hp40.size := by rw [Wr.size Wr40]; exact Z_38
      refine own_blk dec0 seq0 hby hx hZ hown hK hF 14 [true, true, true, true, true] [] X40 eh40 ?_
      show (((2 : Int32)).toInt ≤ ((2 : Int32)).toInt) ∧ (((0 : Int32)).toInt ≤ 0) ∧ (((0 : Int32)).toInt ≤ ((1 : Int32)).toInt) ∧ (((0 : Int32)).toInt ≤ ((2 : Int32)).toInt) ∧ (((0 : Int32)).toInt ≤ ((3 : Int32)).toInt) ∧ own_Aft X40 hp40 _ 180 [.val (.int g0), .val (.int g1), .val (.int g2), .val (.int g3), .val (.int sh), .val (.int ex), .val (.int (0 : Int32)), .val (.int (2 : Int32)), .val (.int ex), .val (.int x1), .val (.int x2), .val (.ref ra), .val (.ref ja), .unset, .unset, .unset, .unset, .unset, .unset, .unset, .unset] []
      refine ⟨by decide, by decide, by decide, by decide, by decide, fun T41 X41 eh41 => ?_⟩
      refine own_new X41 hx hZ hown (hw _ (List.mem_of_getElem? (i := 2) rfl)) (hw _ (List.mem_of_getElem? (i := 3) rfl)) (hw _ (List.mem_of_getElem? (i := 4) rfl)) eh41 (hb hby at_180) (by decide) (by decide) (fun T42 hp42 ao ga42 X42 eh42 Ex42 Ea42 Dn42 => ?_)
      have ne_ra_ao : ra ≠ ao := fun q => absurd Ar3'_40.lt (by rw [q, ga42]; exact Nat.lt_irrefl _)
      have ne_ja_ao : ja ≠ ao := fun q => absurd Ar40'.lt (by rw [q, ga42]; exact Nat.lt_irrefl _)
      have nw_ao : n0 ≤ ao := by rw [ga42]; exact Z_40
      have Ar3'_42 := Ar3'_40.ext Ex42
      have Ar40'_42 := Ar40'.ext Ex42
      have Z_42 : n0 ≤ hp42.size := Nat.le_trans Z_40 Ex42.1
      show own_Go p.tables e below _ (T42.setTop (mkF m 183 (Array.mk [.val (.int g0), .val (.int g1), .val (.int g2), .val (.int g3), .val (.int sh), .val (.int ex), .val (.int (0 : Int32)), .val (.int (2 : Int32)), .val (.int ex), .val (.int x1), .val (.int x2), .val (.ref ra), .val (.ref ja), .unset, .unset, .unset, .unset, .unset, .unset, .unset, .unset]) [.ref ao]))
      refine own_blk dec0 seq0 hby hx hZ hown hK hF 1 [] [] X42 eh42 ?_
      show own_Aft X42 hp42 _ 184 [.val (.int g0), .val (.int g1), .val (.int g2), .val (.int g3), .val (.int sh), .val (.int ex), .val (.int (0 : Int32)), .val (.int (2 : Int32)), .val (.int ex), .val (.int x1), .val (.int x2), .val (.ref ra), .val (.ref ja), .unset, .unset, .unset, .unset, .unset, .unset, .unset, .unset] [.ref ao, .ref ao]
      refine fun T43 X43 eh43 => ?_
      refine own_callI X43 hx hZ hown rfl (hw _ (List.mem_of_getElem? (i := 5) rfl)) (hw _ (List.mem_of_getElem? (i := 6) rfl)) (hw _ (List.mem_of_getElem? (i := 4) rfl)) (hw _ (List.mem_of_getElem? (i := 7) rfl)) (by decide) eh43 ao [] pd1 rfl (rm := ({ frames := 1, cells := 0, slots := 0, locals := 12 } : Room)) (rm1 l Z a0 hw [] ao hp42 n0 Z_42) (by rw [hml]; rfl) 1 rfl (Nat.le_of_eq rfl) (hb hby at_184) (by decide) (by decide) (by decide) (by decide) (fun T44 rv44 Lc44 X44 qc44 => ?_)
      obtain ⟨rfl, M1, hh⟩ := qc44
      show own_Go p.tables e below _ (T44.setTop (mkF m 187 (Array.mk [.val (.int g0), .val (.int g1), .val (.int g2), .val (.int g3), .val (.int sh), .val (.int ex), .val (.int (0 : Int32)), .val (.int (2 : Int32)), .val (.int ex), .val (.int x1), .val (.int x2), .val (.ref ra), .val (.ref ja), .unset, .unset, .unset, .unset, .unset, .unset, .unset, .unset]) [.ref ao]))
      refine own_blk dec0 seq0 hby hx hZ hown hK hF 2 [] [] X44 hh ?_
      show own_Aft X44 hp42 _ 191 [.val (.int g0), .val (.int g1), .val (.int g2), .val (.int g3), .val (.int sh), .val (.int ex), .val (.int (0 : Int32)), .val (.int (2 : Int32)), .val (.int ex), .val (.int x1), .val (.int x2), .val (.ref ra), .val (.ref ja), .unset, .unset, .unset, .unset, .unset, .unset, .unset, .unset] [.ref ja, .ref ra, .ref ao]
      refine fun T45 X45 eh45 => ?_
      obtain ⟨c0, hc0⟩ : ∃ b : Bool, (0 < ex.toInt ↔ b = true) := ⟨decide (0 < ex.toInt), by simp⟩
      obtain ⟨c1, hc1⟩ : ∃ b : Bool, (0 < x1.toInt ↔ b = true) := ⟨decide (0 < x1.toInt), by simp⟩
      obtain ⟨hrok, hchk⟩ := Bool.and_eq_true_iff.mp (own_chk_0_2 c0 c1)
      refine own_callV X45 hx hZ hown (hw _ (List.mem_of_getElem? (i := 11) rfl)) (hw _ (List.mem_of_getElem? (i := 12) rfl)) (hw _ (List.mem_of_getElem? (i := 14) rfl)) (hw _ (List.mem_of_getElem? (i := 13) rfl)) (hw _ (List.mem_of_getElem? (i := 4) rfl)) (hw _ (List.mem_of_getElem? (i := 15) rfl)) (by decide) eh45 Ea42 [.ref ra, .ref ja] pd3 rfl (rm := ({ frames := 0, cells := 0, slots := 0, locals := 0 } : Room)) (rm3_0_2 l Z a0 hw [] ao ra ja ex x1 c0 c1 hp42 n0 Z_42 Ar3'_42 Ar40'_42  hc0 hc1 hrok) (by rw [hml]; rfl) 0 rfl (Nat.le_of_eq rfl) (hb hby at_191) (by decide) (by decide) (by decide) (by decide) (fun T46 rv46 Lc46 X46 qc46 => ?_)
      obtain ⟨rfl, M2, hh2⟩ := qc46
      have hres : own_res [] ([c0, c1] ++ []) = own_res [] [c0, c1] := rfl
      generalize own_res [] [c0, c1] = sc at hres ⊢
      show own_Go p.tables e below _ (T46.setTop (mkF m 194 (Array.mk [.val (.int g0), .val (.int g1), .val (.int g2), .val (.int g3), .val (.int sh), .val (.int ex), .val (.int (0 : Int32)), .val (.int (2 : Int32)), .val (.int ex), .val (.int x1), .val (.int x2), .val (.ref ra), .val (.ref ja), .unset, .unset, .unset, .unset, .unset, .unset, .unset, .unset]) [.double sc]))
      refine own_blk dec0 seq0 hby hx hZ hown hK hF 5 [] [] X46 hh2 ?_
      show own_Aft X46 hp42 _ 202 [.val (.int g0), .val (.int g1), .val (.int g2), .val (.int g3), .val (.int sh), .val (.int ex), .val (.int (0 : Int32)), .val (.int (2 : Int32)), .val (.int ex), .val (.int x1), .val (.int x2), .val (.ref ra), .val (.ref ja), .val (.double sc), .second, .val (.int (0 : Int32)), .val (.long (0 : Int64)), .second, .unset, .unset, .unset] []
      refine fun T47 X47 eh47 => ?_
      refine ptC_0 X47 hx hby hml hown hZ hK hF eh47 _ _ _ _ _ _ _ _ _ _ _ _ _ g0 g1 g2 g3   (fun f0 y0 HF T48 X48 eh48 => ?_)
      show own_Go p.tables e below _ (T48.setTop (mkF m 315 (Array.mk [.val (.int g0), .val (.int g1), .val (.int g2), .val (.int g3), .val (.int sh), .val (.int ex), .val (.int (0 : Int32)), .val (.int (2 : Int32)), .val (.int ex), .val (.int x1), .val (.int x2), .val (.ref ra), .val (.ref ja), .val (.double sc), .second, .val (.int f0), .val (.long y0), .second, .unset, .unset, .unset]) []))
      refine own_blk dec0 seq0 hby hx hZ hown hK hF 2 [] [] X48 eh48 ?_
      show own_Aft X48 hp42 _ 319 [.val (.int g0), .val (.int g1), .val (.int g2), .val (.int g3), .val (.int sh), .val (.int ex), .val (.int (0 : Int32)), .val (.int (2 : Int32)), .val (.int ex), .val (.int x1), .val (.int x2), .val (.ref ra), .val (.ref ja), .val (.double sc), .second, .val (.int f0), .val (.long y0), .second, .val (.int f0), .unset, .unset] []
      refine fun T49 X49 eh49 => ?_
      refine ptD_2 X49 hx hby hml hown hZ hK hF eh49 _ _ _ _ _ _ _ _ _ _ _ _ _ _ _ _ ex x1 x2 f0 c0 c1 hc0 hc1 (fun rr CF T50 X50 eh50 => ?_)
      show own_Go p.tables e below _ (T50.setTop (mkF m 360 (Array.mk [.val (.int g0), .val (.int g1), .val (.int g2), .val (.int g3), .val (.int sh), .val (.int ex), .val (.int (0 : Int32)), .val (.int (2 : Int32)), .val (.int ex), .val (.int x1), .val (.int x2), .val (.ref ra), .val (.ref ja), .val (.double sc), .second, .val (.int f0), .val (.long y0), .second, .val (.int rr), .unset, .unset]) []))
      unfold own_dif at hchk
      rw [hres, HF] at hchk
      dsimp only at hchk
      rw [CF] at hchk
      by_cases hf : f0.toInt = 0
      · skip
        rw [if_pos hf] at hchk
        refine own_blk dec0 seq0 hby hx hZ hown hK hF 8 [false, false] [] X50 eh50 ?_
        show (¬ ((f0).toInt ≠ 0)) ∧ (¬ ((cmpValue (FP.dcmp sc 0) .l).toInt ≠ 0)) ∧ own_Aft X50 hp42 _ 377 [.val (.int g0), .val (.int g1), .val (.int g2), .val (.int g3), .val (.int sh), .val (.int ex), .val (.int (0 : Int32)), .val (.int (2 : Int32)), .val (.int ex), .val (.int x1), .val (.int x2), .val (.ref ra), .val (.ref ja), .val (.double sc), .second, .val (.int f0), .val (.long y0), .second, .val (.int rr), .unset, .unset] [.int (1 : Int32)]
        refine ⟨by omega, by have := of_decide_eq_true hchk; omega, fun T51 X51 eh51 => ?_⟩
        exact own_ret X51 hx hlk eh51 hret (by first | rfl | decide) (Or.inl ⟨rfl, by simp, _, rfl⟩) (hb hby at_377) (by decide) (by decide) (⟨rfl, Fr.app (Fr.app Nf40 M1) M2⟩)
      · skip
        rw [if_neg hf] at hchk
        obtain ⟨hchk, k5⟩ := Bool.and_eq_true_iff.mp hchk
        obtain ⟨hchk, k4⟩ := Bool.and_eq_true_iff.mp hchk
        obtain ⟨hchk, k3⟩ := Bool.and_eq_true_iff.mp hchk
        obtain ⟨k1, k2⟩ := Bool.and_eq_true_iff.mp hchk
        refine own_blk dec0 seq0 hby hx hZ hown hK hF 22 [true, false, false] [] X50 eh50 ?_
        show ((f0).toInt ≠ 0) ∧ (Jvm.Free.Fl.NoNaN64 (FP.dmul 4622945017495814144 (FP.i2d rr))) ∧ (Jvm.Free.Fl.NoNaN64 (FP.dmul sc (FP.dmul 4622945017495814144 (FP.i2d rr)))) ∧ (Jvm.Free.Fl.NoNaN64 (FP.dsub (FP.dmul sc (FP.dmul 4622945017495814144 (FP.i2d rr))) (FP.l2d y0))) ∧ (¬ (0 ≤ (cmpValue (FP.dcmp (FP.dsub (FP.dmul sc (FP.dmul 4622945017495814144 (FP.i2d rr))) (FP.l2d y0)) 4472406533629990549) .g).toInt)) ∧ (¬ ((cmpValue (FP.dcmp (FP.dsub (FP.dmul sc (FP.dmul 4622945017495814144 (FP.i2d rr))) (FP.l2d y0)) 13695778570484766357) .l).toInt ≤ 0)) ∧ own_Aft X50 hp42 _ 417 [.val (.int g0), .val (.int g1), .val (.int g2), .val (.int g3), .val (.int sh), .val (.int ex), .val (.int (0 : Int32)), .val (.int (2 : Int32)), .val (.int ex), .val (.int x1), .val (.int x2), .val (.ref ra), .val (.ref ja), .val (.double sc), .second, .val (.int f0), .val (.long y0), .second, .val (.int rr), .val (.double (FP.dsub (FP.dmul sc (FP.dmul 4622945017495814144 (FP.i2d rr))) (FP.l2d y0))), .second] [.int (1 : Int32)]
        refine ⟨by omega, own_nb_e k1, own_nb_e k2, own_nb_e k3, by have := of_decide_eq_true k4; omega, by have := of_decide_eq_true k5; omega, fun T52 X52 eh52 => ?_⟩
        exact own_ret X52 hx hlk eh52 hret (by first | rfl | decide) (Or.inl ⟨rfl, by simp, _, rfl⟩) (hb hby at_417) (by decide) (by decide) (⟨rfl, Fr.app (Fr.app Nf40 M1) M2⟩)
    · skip
      obtain rfl : ee = (3 : Int32) := Int32.toInt_inj.mp he
      show own_Go p.tables e below _ (T4.setTop (mkF m 83 (Array.mk [.val (.int g0), .val (.int g1), .val (.int g2), .val (.int g3), .val (.int sh), .val (.int ex), .val (.int (0 : Int32)), .val (.int (3 : Int32)), .val (.int ex), .val (.int x1), .val (.int x2), .val (.ref ra), .unset, .unset, .unset, .unset, .unset, .unset, .unset, .unset, .unset]) []))
      refine own_blk dec0 seq0 hby hx hZ hown hK hF 3 [] [] X4 eh4 ?_
      show own_Aft X4 hp3 _ 88 [.val (.int g0), .val (.int g1), .val (.int g2), .val (.int g3), .val (.int sh), .val (.int ex), .val (.int (0 : Int32)), .val (.int (3 : Int32)), .val (.int ex), .val (.int x1), .val (.int x2), .val (.ref ra), .unset, .unset, .unset, .unset, .unset, .unset, .unset, .unset, .unset] [.int (3 : Int32)]
      refine fun T53 X53 eh53 => ?_
      refine own_newP X53 hx hZ (hw _ (List.mem_of_getElem? (i := 1) rfl)) eh53 3 rfl (cap := 3) (by decide) (by decide) (hb hby at_88) (by decide) (by decide) (fun T54 hp54 ja ga54 X54 eh54 Ex54 Ar54 => ?_)
      have ne_ra_ja : ra ≠ ja := fun q => absurd Ar3'.lt (by rw [q, ga54]; exact Nat.lt_irrefl _)
      have nw_ja : n0 ≤ ja := by rw [ga54]; exact Z_3
      have Ar3'_54 := Ar3'.ext Ex54
      have Z_54 : n0 ≤ hp54.size := Nat.le_trans Z_3 Ex54.1
      have Ar54' : own_A Z hp54 ja .int [.int (0 : Int32), .int (0 : Int32), .int (0 : Int32)] := Ar54
      show own_Go p.tables e below _ (T54.setTop (mkF m 90 (Array.mk [.val (.int g0), .val (.int g1), .val (.int g2), .val (.int g3), .val (.int sh), .val (.int ex), .val (.int (0 : Int32)), .val (.int (3 : Int32)), .val (.int ex), .val (.int x1), .val (.int x2), .val (.ref ra), .unset, .unset, .unset, .unset, .unset, .unset, .unset, .unset, .unset]) [.ref ja]))
      refine own_blk dec0 seq0 hby hx hZ hown hK hF 6 [false] [] X54 eh54 ?_
      show (¬ (((3 : Int32)).toInt ≤ 0)) ∧ own_Aft X54 hp54 _ 102 [.val (.int g0), .val (.int g1), .val (.int g2), .val (.int g3), .val (.int sh), .val (.int ex), .val (.int (0 : Int32)), .val (.int (3 : Int32)), .val (.int ex), .val (.int x1), .val (.int x2), .val (.ref ra), .val (.ref ja), .unset, .unset, .unset, .unset, .unset, .unset, .unset, .unset] [.int ex, .int (0 : Int32), .ref ja]
      refine ⟨by decide, fun T55 X55 eh55 => ?_⟩
      refine own_sI X55 hx hZ eh55 Ar54' 0 rfl (by show 0 < 3; decide) (hb hby at_102) (fun T56 hp56 X56 eh56 Wr56 Ar56 => ?_)
      have Ar56' : own_A Z hp56 ja .int [.int ex, .int (0 : Int32), .int (0 : Int32)] := Ar56
      have Ar3'_56 := Ar3'_54.other Wr56 ne_ra_ja
      have Nf56 := Fr.snoc X56 N0 nw_ja
      have Z_56 : n0 ≤ hp56.size := by rw [Wr.size Wr56]; exact Z_54
      refine own_blk dec0 seq0 hby hx hZ hown hK hF 6 [false] [] X56 eh56 ?_
      show (¬ (((3 : Int32)).toInt ≤ ((1 : Int32)).toInt)) ∧ own_Aft X56 hp56 _ 114 [.val (.int g0), .val (.int g1), .val (.int g2), .val (.int g3), .val (.int sh), .val (.int ex), .val (.int (0 : Int32)), .val (.int (3 : Int32)), .val (.int ex), .val (.int x1), .val (.int x2), .val (.ref ra), .val (.ref ja), .unset, .unset, .unset, .unset, .unset, .unset, .unset, .unset] [.int x1, .int (1 : Int32), .ref ja]
      refine ⟨by decide, fun T57 X57 eh57 => ?_⟩
      refine own_sI X57 hx hZ eh57 Ar56' 1 rfl (by show 1 < 3; decide) (hb hby at_114) (fun T58 hp58 X58 eh58 Wr58 Ar58 => ?_)
      have Ar58' : own_A Z hp58 ja .int [.int ex, .int x1, .int (0 : Int32)] := Ar58
      have Ar3'_58 := Ar3'_56.other Wr58 ne_ra_ja
      have Nf58 := Fr.snoc X58 Nf56 nw_ja
      have Z_58 : n0 ≤ hp58.size := by rw [Wr.size Wr58]; exact Z_56
      refine own_blk dec0 seq0 hby hx hZ hown hK hF 6 [false] [] X58 eh58 ?_
      show (¬ (((3 : Int32)).toInt ≤ ((2 : Int32)).toInt)) ∧ own_Aft X58 hp58 _ 126 [.val (.int g0), .val (.int g1), .val (.int g2), .val (.int g3), .val (.int sh), .val (.int ex), .val (.int (0 : Int32)), .val (.int (3 : Int32)), .val (.int ex), .val (.int x1), .val (.int x2), .val (.ref ra), .val (.ref ja), .unset, .unset, .unset, .unset, .unset, .unset, .unset, .unset] [.int x2, .int (2 : Int32), .ref ja]
      refine ⟨by decide, fun T59 X59 eh59 => ?_⟩
      refine own_sI X59 hx hZ eh59 Ar58' 2 rfl (by show 2 < 3; decide) (hb hby at_126) (fun T60 hp60 X60 eh60 Wr60 Ar60 => ?_)
      have Ar60' : own_A Z hp60 ja .int [.int ex, .int x1, .int x2] := Ar60
      have Ar3'_60 := Ar3'_58.other Wr60 ne_ra_ja
      have Nf60 := Fr.snoc X60 Nf58 nw_ja
      have Z_60 : n0 ≤ hp60.size := by rw [Wr.size Wr60]; exact Z_58
      refine own_blk dec0 seq0 hby hx hZ hown hK hF 11 [true, true, true, true] [] X60 eh60 ?_
      show (((0 : Int32)).toInt ≤ 0) ∧ (((0 : Int32)).toInt ≤ ((1 : Int32)).toInt) ∧ (((0 : Int32)).toInt ≤ ((2 : Int32)).toInt) ∧ (((0 : Int32)).toInt ≤ ((3 : Int32)).toInt) ∧ own_Aft X60 hp60 _ 180 [.val (.int g0), .val (.int g1), .val (.int g2), .val (.int g3), .val (.int sh), .val (.int ex), .val (.int (0 : Int32)), .val (.int (3 : Int32)), .val (.int ex), .val (.int x1), .val (.int x2), .val (.ref ra), .val (.ref ja), .unset, .unset, .unset, .unset, .unset, .unset, .unset, .unset] []
      refine ⟨by decide, by decide, by decide, by decide, fun T61 X61 eh61 => ?_⟩
      refine own_new X61 hx hZ hown (hw _ (List.mem_of_getElem? (i := 2) rfl)) (hw _ (List.mem_of_getElem? (i := 3) rfl)) (hw _ (List.mem_of_getElem? (i := 4) rfl)) eh61 (hb hby at_180) (by decide) (by decide) (fun T62 hp62 ao ga62 X62 eh62 Ex62 Ea62 Dn62 => ?_)
      have ne_ra_ao : ra ≠ ao := fun q => absurd Ar3'_60.lt (by rw [q, ga62]; exact Nat.lt_irrefl _)
      have ne_ja_ao : ja ≠ ao := fun q => absurd Ar60'.lt (by rw [q, ga62]; exact Nat.lt_irrefl _)
      have nw_ao : n0 ≤ ao := by rw [ga62]; exact Z_60
      have Ar3'_62 := Ar3'_60.ext Ex62
      have Ar60'_62 := Ar60'.ext Ex62
      have Z_62 : n0 ≤ hp62.size := Nat.le_trans Z_60 Ex62.1
      show own_Go p.tables e below _ (T62.setTop (mkF m 183 (Array.mk [.val (.int g0), .val (.int g1), .val (.int g2), .val (.int g3), .val (.int sh), .val (.int ex), .val (.int (0 : Int32)), .val (.int (3 : Int32)), .val (.int ex), .val (.int x1), .val (.int x2), .val (.ref ra), .val (.ref ja), .unset, .unset, .unset, .unset, .unset, .unset, .unset, .unset]) [.ref ao]))
      refine own_blk dec0 seq0 hby hx hZ hown hK hF 1 [] [] X62 eh62 ?_
      show own_Aft X62 hp62 _ 184 [.val (.int g0), .val (.int g1), .val (.int g2), .val (.int g3), .val (.int sh), .val (.int ex), .val (.int (0 : Int32)), .val (.int (3 : Int32)), .val (.int ex), .val (.int x1), .val (.int x2), .val (.ref ra), .val (.ref ja), .unset, .unset, .unset, .unset, .unset, .unset, .unset, .unset] [.ref ao, .ref ao]
      refine fun T63 X63 eh63 => ?_
      refine own_callI X63 hx hZ hown rfl (hw _ (List.mem_of_getElem? (i := 5) rfl)) (hw _ (List.mem_of_getElem? (i := 6) rfl)) (hw _ (List.mem_of_getElem? (i := 4) rfl)) (hw _ (List.mem_of_getElem? (i := 7) rfl)) (by decide) eh63 ao [] pd1 rfl (rm := ({ frames := 1, cells := 0, slots := 0, locals := 12 } : Room)) (rm1 l Z a0 hw [] ao hp62 n0 Z_62) (by rw [hml]; rfl) 1 rfl (Nat.le_of_eq rfl) (hb hby at_184) (by decide) (by decide) (by decide) (by decide) (fun T64 rv64 Lc64 X64 qc64 => ?_)
      obtain ⟨rfl, M1, hh⟩ := qc64
      show own_Go p.tables e below _ (T64.setTop (mkF m 187 (Array.mk [.val (.int g0), .val (.int g1), .val (.int g2), .val (.int g3), .val (.int sh), .val (.int ex), .val (.int (0 : Int32)), .val (.int (3 : Int32)), .val (.int ex), .val (.int x1), .val (.int x2), .val (.ref ra), .val (.ref ja), .unset, .unset, .unset, .unset, .unset, .unset, .unset, .unset]) [.ref ao]))
      refine own_blk dec0 seq0 hby hx hZ hown hK hF 2 [] [] X64 hh ?_
      show own_Aft X64 hp62 _ 191 [.val (.int g0), .val (.int g1), .val (.int g2), .val (.int g3), .val (.int sh), .val (.int ex), .val (.int (0 : Int32)), .val (.int (3 : Int32)), .val (.int ex), .val (.int x1), .val (.int x2), .val (.ref ra), .val (.ref ja), .unset, .unset, .unset, .unset, .unset, .unset, .unset, .unset] [.ref ja, .ref ra, .ref ao]
      refine fun T65 X65 eh65 => ?_
      obtain ⟨c0, hc0⟩ : ∃ b : Bool, (0 < ex.toInt ↔ b = true) := ⟨decide (0 < ex.toInt), by simp⟩
      obtain ⟨c1, hc1⟩ : ∃ b : Bool, (0 < x1.toInt ↔ b = true) := ⟨decide (0 < x1.toInt), by simp⟩
      obtain ⟨c2, hc2⟩ : ∃ b : Bool, (0 < x2.toInt ↔ b = true) := ⟨decide (0 < x2.toInt), by simp⟩
      obtain ⟨hrok, hchk⟩ := Bool.and_eq_true_iff.mp (own_chk_0_3 c0 c1 c2)
      refine own_callV X65 hx hZ hown (hw _ (List.mem_of_getElem? (i := 11) rfl)) (hw _ (List.mem_of_getElem? (i := 12) rfl)) (hw _ (List.mem_of_getElem? (i := 14) rfl)) (hw _ (List.mem_of_getElem? (i := 13) rfl)) (hw _ (List.mem_of_getElem? (i := 4) rfl)) (hw _ (List.mem_of_getElem? (i := 15) rfl)) (by decide) eh65 Ea62 [.ref ra, .ref ja] pd3 rfl (rm := ({ frames := 0, cells := 0, slots := 0, locals := 0 } : Room)) (rm3_0_3 l Z a0 hw [] ao ra ja ex x1 x2 c0 c1 c2 hp62 n0 Z_62 Ar3'_62 Ar60'_62  hc0 hc1 hc2 hrok) (by rw [hml]; rfl) 0 rfl (Nat.le_of_eq rfl) (hb hby at_191) (by decide) (by decide) (by decide) (by decide) (fun T66 rv66 Lc66 X66 qc66 => ?_)
      obtain ⟨rfl, M2, hh2⟩ := qc66
      have hres : own_res [] ([c0, c1, c2] ++ []) = own_res [] [c0, c1, c2] := rfl
      generalize own_res [] [c0, c1, c2] = sc at hres ⊢
      show own_Go p.tables e below _ (T66.setTop (mkF m 194 (Array.mk [.val (.int g0), .val (.int g1), .val (.int g2), .val (.int g3), .val (.int sh), .val (.int ex), .val (.int (0 : Int32)), .val (.int (3 : Int32)), .val (.int ex), .val (.int x1), .val (.int x2), .val (.ref ra), .val (.ref ja), .unset, .unset, .unset, .unset, .unset, .unset, .unset, .unset]) [.double sc]))
      refine own_blk dec0 seq0 hby hx hZ hown hK hF 5 [] [] X66 hh2 ?_
      show own_Aft X66 hp62 _ 202 [.val (.int g0), .val (.int g1), .val (.int g2), .val (.int g3), .val (.int sh), .val (.int ex), .val (.int (0 : Int32)), .val (.int (3 : Int32)), .val (.int ex), .val (.int x1), .val (.int x2), .val (.ref ra), .val (.ref ja), .val (.double sc), .second, .val (.int (0 : Int32)), .val (.long (0 : Int64)), .second, .unset, .unset, .unset] []
      refine fun T67 X67 eh67 => ?_
      refine ptC_0 X67 hx hby hml hown hZ hK hF eh67 _ _ _ _ _ _ _ _ _ _ _ _ _ g0 g1 g2 g3   (fun f0 y0 HF T68 X68 eh68 => ?_)
      show own_Go p.tables e below _ (T68.setTop (mkF m 315 (Array.mk [.val (.int g0), .val (.int g1), .val (.int g2), .val (.int g3), .val (.int sh), .val (.int ex), .val (.int (0 : Int32)), .val (.int (3 : Int32)), .val (.int ex), .val (.int x1), .val (.int x2), .val (.ref ra), .val (.ref ja), .val (.double sc), .second, .val (.int f0), .val (.long y0), .second, .unset, .unset, .unset]) []))
      refine own_blk dec0 seq0 hby hx hZ hown hK hF 2 [] [] X68 eh68 ?_
      show own_Aft X68 hp62 _ 319 [.val (.int g0), .val (.int g1), .val (.int g2), .val (.int g3), .val (.int sh), .val (.int ex), .val (.int (0 : Int32)), .val (.int (3 : Int32)), .val (.int ex), .val (.int x1), .val (.int x2), .val (.ref ra), .val (.ref ja), .val (.double sc), .second, .val (.int f0), .val (.long y0), .second, .val (.int f0), .unset, .unset] []
      refine fun T69 X69 eh69 => ?_
      refine ptD_3 X69 hx hby hml hown hZ hK hF eh69 _ _ _ _ _ _ _ _ _ _ _ _ _ _ _ _ ex x1 x2 f0 c0 c1 c2 hc0 hc1 hc2 (fun rr CF T70 X70 eh70 => ?_)
      show own_Go p.tables e below _ (T70.setTop (mkF m 360 (Array.mk [.val (.int g0), .val (.int g1), .val (.int g2), .val (.int g3), .val (.int sh), .val (.int ex), .val (.int (0 : Int32)), .val (.int (3 : Int32)), .val (.int ex), .val (.int x1), .val (.int x2), .val (.ref ra), .val (.ref ja), .val (.double sc), .second, .val (.int f0), .val (.long y0), .second, .val (.int rr), .unset, .unset]) []))
      unfold own_dif at hchk
      rw [hres, HF] at hchk
      dsimp only at hchk
      rw [CF] at hchk
      by_cases hf : f0.toInt = 0
      · skip
        rw [if_pos hf] at hchk
        refine own_blk dec0 seq0 hby hx hZ hown hK hF 8 [false, false] [] X70 eh70 ?_
        show (¬ ((f0).toInt ≠ 0)) ∧ (¬ ((cmpValue (FP.dcmp sc 0) .l).toInt ≠ 0)) ∧ own_Aft X70 hp62 _ 377 [.val (.int g0), .val (.int g1), .val (.int g2), .val (.int g3), .val (.int sh), .val (.int ex), .val (.int (0 : Int32)), .val (.int (3 : Int32)), .val (.int ex), .val (.int x1), .val (.int x2), .val (.ref ra), .val (.ref ja), .val (.double sc), .second, .val (.int f0), .val (.long y0), .second, .val (.int rr), .unset, .unset] [.int (1 : Int32)]
        refine ⟨by omega, by have := of_decide_eq_true hchk; omega, fun T71 X71 eh71 => ?_⟩
        exact own_ret X71 hx hlk eh71 hret (by first | rfl | decide) (Or.inl ⟨rfl, by simp, _, rfl⟩) (hb hby at_377) (by decide) (by decide) (⟨rfl, Fr.app (Fr.app Nf60 M1) M2⟩)
      · skip
        rw [if_neg hf] at hchk
        obtain ⟨hchk, k5⟩ := Bool.and_eq_true_iff.mp hchk
        obtain ⟨hchk, k4⟩ := Bool.and_eq_true_iff.mp hchk
        obtain ⟨hchk, k3⟩ := Bool.and_eq_true_iff.mp hchk
        obtain ⟨k1, k2⟩ := Bool.and_eq_true_iff.mp hchk
        refine own_blk dec0 seq0 hby hx hZ hown hK hF 22 [true, false, false] [] X70 eh70 ?_
        show ((f0).toInt ≠ 0) ∧ (Jvm.Free.Fl.NoNaN64 (FP.dmul 4622945017495814144 (FP.i2d rr))) ∧ (Jvm.Free.Fl.NoNaN64 (FP.dmul sc (FP.dmul 4622945017495814144 (FP.i2d rr)))) ∧ (Jvm.Free.Fl.NoNaN64 (FP.dsub (FP.dmul sc (FP.dmul 4622945017495814144 (FP.i2d rr))) (FP.l2d y0))) ∧ (¬ (0 ≤ (cmpValue (FP.dcmp (FP.dsub (FP.dmul sc (FP.dmul 4622945017495814144 (FP.i2d rr))) (FP.l2d y0)) 4472406533629990549) .g).toInt)) ∧ (¬ ((cmpValue (FP.dcmp (FP.dsub (FP.dmul sc (FP.dmul 4622945017495814144 (FP.i2d rr))) (FP.l2d y0)) 13695778570484766357) .l).toInt ≤ 0)) ∧ own_Aft X70 hp62 _ 417 [.val (.int g0), .val (.int g1), .val (.int g2), .val (.int g3), .val (.int sh), .val (.int ex), .val (.int (0 : Int32)), .val (.int (3 : Int32)), .val (.int ex), .val (.int x1), .val (.int x2), .val (.ref ra), .val (.ref ja), .val (.double sc), .second, .val (.int f0), .val (.long y0), .second, .val (.int rr), .val (.double (FP.dsub (FP.dmul sc (FP.dmul 4622945017495814144 (FP.i2d rr))) (FP.l2d y0))), .second] [.int (1 : Int32)]
        refine ⟨by omega, own_nb_e k1, own_nb_e k2, own_nb_e k3, by have := of_decide_eq_true k4; omega, by have := of_decide_eq_true k5; omega, fun T72 X72 eh72 => ?_⟩
        exact own_ret X72 hx hlk eh72 hret (by first | rfl | decide) (Or.inl ⟨rfl, by simp, _, rfl⟩) (hb hby at_417) (by decide) (by decide) (⟨rfl, Fr.app (Fr.app Nf60 M1) M2⟩)
  · skip
    obtain rfl : nn = (1 : Int32) := Int32.toInt_inj.mp hn
    show own_Go p.tables e below _ (T1.setTop (mkF m 34 (Array.mk [.val (.int g0), .val (.int g1), .val (.int g2), .val (.int g3), .val (.int sh), .val (.int ex), .val (.int (1 : Int32)), .val (.int ee), .val (.int ex), .val (.int x1), .val (.int x2), .unset, .unset, .unset, .unset, .unset, .unset, .unset, .unset, .unset, .unset]) []))
    refine own_blk dec0 seq0 hby hx hZ hown hK hF 1 [] [] X1 eh1 ?_
    show own_Aft X1 h0 _ 36 [.val (.int g0), .val (.int g1), .val (.int g2), .val (.int g3), .val (.int sh), .val (.int ex), .val (.int (1 : Int32)), .val (.int ee), .val (.int ex), .val (.int x1), .val (.int x2), .unset, .unset, .unset, .unset, .unset, .unset, .unset, .unset, .unset, .unset] [.int (1 : Int32)]
    refine fun T73 X73 eh73 => ?_
    refine own_newP X73 hx hZ (hw _ (List.mem_of_getElem? (i := 1) rfl)) eh73 1 rfl (cap := 1) (by decide) (by decide) (hb hby at_36) (by decide) (by decide) (fun T74 hp74 ra ga74 X74 eh74 Ex74 Ar74 => ?_)
    have nw_ra : n0 ≤ ra := by rw [ga74]; exact Z0
    have Z_74 : n0 ≤ hp74.size := Nat.le_trans Z0 Ex74.1
    have Ar74' : own_A Z hp74 ra .int [.int (0 : Int32)] := Ar74
    show own_Go p.tables e below _ (T74.setTop (mkF m 38 (Array.mk [.val (.int g0), .val (.int g1), .val (.int g2), .val (.int g3), .val (.int sh), .val (.int ex), .val (.int (1 : Int32)), .val (.int ee), .val (.int ex), .val (.int x1), .val (.int x2), .unset, .unset, .unset, .unset, .unset, .unset, .unset, .unset, .unset, .unset]) [.ref ra]))
    refine own_blk dec0 seq0 hby hx hZ hown hK hF 6 [false] [] X74 eh74 ?_
    show (¬ (((1 : Int32)).toInt ≤ 0)) ∧ own_Aft X74 hp74 _ 49 [.val (.int g0), .val (.int g1), .val (.int g2), .val (.int g3), .val (.int sh), .val (.int ex), .val (.int (1 : Int32)), .val (.int ee), .val (.int ex), .val (.int x1), .val (.int x2), .val (.ref ra), .unset, .unset, .unset, .unset, .unset, .unset, .unset, .unset, .unset] [.int g0, .int (0 : Int32), .ref ra]
    refine ⟨by decide, fun T75 X75 eh75 => ?_⟩
    refine own_sI X75 hx hZ eh75 Ar74' 0 rfl (by show 0 < 1; decide) (hb hby at_49) (fun T76 hp76 X76 eh76 Wr76 Ar76 => ?_)
    have Ar76' : own_A Z hp76 ra .int [.int g0] := Ar76
    have Nf76 := Fr.snoc X76 N0 nw_ra
    have Z_76 : n0 ≤ hp76.size := by rw [Wr.size Wr76]; exact Z_74
    refine own_blk dec0 seq0 hby hx hZ hown hK hF 9 [true, true, true] [] X76 eh76 ?_
    show (((1 : Int32)).toInt ≤ ((1 : Int32)).toInt) ∧ (((1 : Int32)).toInt ≤ ((2 : Int32)).toInt) ∧ (((1 : Int32)).toInt ≤ ((3 : Int32)).toInt) ∧ own_Aft X76 hp76 _ 83 [.val (.int g0), .val (.int g1), .val (.int g2), .val (.int g3), .val (.int sh), .val (.int ex), .val (.int (1 : Int32)), .val (.int ee), .val (.int ex), .val (.int x1), .val (.int x2), .val (.ref ra), .unset, .unset, .unset, .unset, .unset, .unset, .unset, .unset, .unset] []
    refine ⟨by decide, by decide, by decide, fun T77 X77 eh77 => ?_⟩
    obtain he | he | he | he : ee.toInt = (0 : Int32).toInt ∨ ee.toInt = (1 : Int32).toInt ∨ ee.toInt = (2 : Int32).toInt ∨ ee.toInt = (3 : Int32).toInt := by show ee.toInt = 0 ∨ ee.toInt = 1 ∨ ee.toInt = 2 ∨ ee.toInt = 3; omega
    · skip
      obtain rfl : ee = (0 : Int32) := Int32.toInt_inj.mp he
      show own_Go p.tables e below _ (T77.setTop (mkF m 83 (Array.mk [.val (.int g0), .val (.int g1), .val (.int g2), .val (.int g3), .val (.int sh), .val (.int ex), .val (.int (1 : Int32)), .val (.int (0 : Int32)), .val (.int ex), .val (.int x1), .val (.int x2), .val (.ref ra), .unset, .unset, .unset, .unset, .unset, .unset, .unset, .unset, .unset]) []))
      refine own_blk dec0 seq0 hby hx hZ hown hK hF 3 [] [] X77 eh77 ?_
      show own_Aft X77 hp76 _ 88 [.val (.int g0), .val (.int g1), .val (.int g2), .val (.int g3), .val (.int sh), .val (.int ex), .val (.int (1 : Int32)), .val (.int (0 : Int32)), .val (.int ex), .val (.int x1), .val (.int x2), .val (.ref ra), .unset, .unset, .unset, .unset, .unset, .unset, .unset, .unset, .unset] [.int (1 : Int32)]
      refine fun T78 X78 eh78 => ?_
      refine own_newP X78 hx hZ (hw _ (List.mem_of_getElem? (i := 1) rfl)) eh78 1 rfl (cap := 1) (by decide) (by decide) (hb hby at_88) (by decide) (by decide) (fun T79 hp79 ja ga79 X79 eh79 Ex79 Ar79 => ?_)
      have ne_ra_ja : ra ≠ ja := fun q => absurd Ar76'.lt (by rw [q, ga79]; exact Nat.lt_irrefl _)
      have nw_ja : n0 ≤ ja := by rw [ga79]; exact Z_76
      have Ar76'_79 := Ar76'.ext Ex79
      have Z_79 : n0 ≤ hp79.size := Nat.le_trans Z_76 Ex79.1
      have Ar79' : own_A Z hp79 ja .int [.int (0 : Int32)] := Ar79
      show own_Go p.tables e below _ (T79.setTop (mkF m 90 (Array.mk [.val (.int g0), .val (.int g1), .val (.int g2), .val (.int g3), .val (.int sh), .val (.int ex), .val (.int (1 : Int32)), .val (.int (0 : Int32)), .val (.int ex), .val (.int x1), .val (.int x2), .val (.ref ra), .unset, .unset, .unset, .unset, .unset, .unset, .unset, .unset, .unset]) [.ref ja]))
      refine own_blk dec0 seq0 hby hx hZ hown hK hF 14 [true, true, true, false] [] X79 eh79 ?_
      show (((0 : Int32)).toInt ≤ 0) ∧ (((0 : Int32)).toInt ≤ ((1 : Int32)).toInt) ∧ (((0 : Int32)).toInt ≤ ((2 : Int32)).toInt) ∧ (¬ (((1 : Int32)).toInt ≤ 0)) ∧ own_Aft X79 hp79 _ 137 [.val (.int g0), .val (.int g1), .val (.int g2), .val (.int g3), .val (.int sh), .val (.int ex), .val (.int (1 : Int32)), .val (.int (0 : Int32)), .val (.int ex), .val (.int x1), .val (.int x2), .val (.ref ra), .val (.ref ja), .unset, .unset, .unset, .unset, .unset, .unset, .unset, .unset] [.int g0, .int (0 : Int32), .ref ja]
      refine ⟨by decide, by decide, by decide, by decide, fun T80 X80 eh80 => ?_⟩
      refine own_sI X80 hx hZ eh80 Ar79' 0 rfl (by show 0 < 1; decide) (hb hby at_137) (fun T81 hp81 X81 eh81 Wr81 Ar81 => ?_)
      have Ar81' : own_A Z hp81 ja .int [.int g0] := Ar81
      have Ar76'_81 := Ar76'_79.other Wr81 ne_ra_ja
      have Nf81 := Fr.snoc X81 Nf76 nw_ja
      have Z_81 : n0 ≤ hp81.size := by rw [Wr.size Wr81]; exact Z_79
      refine own_blk dec0 seq0 hby hx hZ hown hK hF 9 [true, true, true] [] X81 eh81 ?_
      show (((1 : Int32)).toInt ≤ ((1 : Int32)).toInt) ∧ (((1 : Int32)).toInt ≤ ((2 : Int32)).toInt) ∧ (((1 : Int32)).toInt ≤ ((3 : Int32)).toInt) ∧ own_Aft X81 hp81 _ 180 [.val (.int g0), .val (.int g1), .val (.int g2), .val (.int g3), .val (.int sh), .val (.int ex), .val (.int (1 : Int32)), .val (.int (0 : Int32)), .val (.int ex), .val (.int x1), .val (.int x2), .val (.ref ra), .val (.ref ja), .unset, .unset, .unset, .unset, .unset, .unset, .unset, .unset] []
      refine ⟨by decide, by decide, by decide, fun T82 X82 eh82 => ?_⟩
      refine own_new X82 hx hZ hown (hw _ (List.mem_of_getElem? (i := 2) rfl)) (hw _ (List.mem_of_getElem? (i := 3) rfl)) (hw _ (List.mem_of_getElem? (i := 4) rfl)) eh82 (hb hby at_180) (by decide) (by decide) (fun T83 hp83 ao ga83 X83 eh83 Ex83 Ea83 Dn83 => ?_)
      have ne_ra_ao : ra ≠ ao := fun q => absurd Ar76'_81.lt (by rw [q, ga83]; exact Nat.lt_irrefl _)
      have ne_ja_ao : ja ≠ ao := fun q => absurd Ar81'.lt (by rw [q, ga83]; exact Nat.lt_irrefl _)
      have nw_ao : n0 ≤ ao := by rw [ga83]; exact Z_81
      have Ar76'_83 := Ar76'_81.ext Ex83
      have Ar81'_83 := Ar81'.ext Ex83
      have Z_83 : n0 ≤ hp83.size := Nat.le_trans Z_81 Ex83.1
      show own_Go p.tables e below _ (T83.setTop (mkF m 183 (Array.mk [.val (.int g0), .val (.int g1), .val (.int g2), .val (.int g3), .val (.int sh), .val (.int ex), .val (.int (1 : Int32)), .val (.int (0 : Int32)), .val (.int ex), .val (.int x1), .val (.int x2), .val (.ref ra), .val (.ref ja), .unset, .unset, .unset, .unset, .unset, .unset, .unset, .unset]) [.ref ao]))
      refine own_blk dec0 seq0 hby hx hZ hown hK hF 1 [] [] X83 eh83 ?_
      show own_Aft X83 hp83 _ 184 [.val (.int g0), .val (.int g1), .val (.int g2), .val (.int g3), .val (.int sh), .val (.int ex), .val (.int (1 : Int32)), .val (.int (0 : Int32)), .val (.int ex), .val (.int x1), .val (.int x2), .val (.ref ra), .val (.ref ja), .unset, .unset, .unset, .unset, .unset, .unset, .unset, .unset] [.ref ao, .ref ao]
      refine fun T84 X84 eh84 => ?_
      refine own_callI X84 hx hZ hown rfl (hw _ (List.mem_of_getElem? (i := 5) rfl)) (hw _ (List.mem_of_getElem? (i := 6) rfl)) (hw _ (List.mem_of_getElem? (i := 4) rfl)) (hw _ (List.mem_of_getElem? (i := 7) rfl)) (by decide) eh84 ao [] pd1 rfl (rm := ({ frames := 1, cells := 0, slots := 0, locals := 12 } : Room)) (rm1 l Z a0 hw [] ao hp83 n0 Z_83) (by rw [hml]; rfl) 1 rfl (Nat.le_of_eq rfl) (hb hby at_184) (by decide) (by decide) (by decide) (by decide) (fun T85 rv85 Lc85 X85 qc85 => ?_)
      obtain ⟨rfl, M1, hh⟩ := qc85
      show own_Go p.tables e below _ (T85.setTop (mkF m 187 (Array.mk [.val (.int g0), .val (.int g1), .val (.int g2), .val (.int g3), .val (.int sh), .val (.int ex), .val (.int (1 : Int32)), .val (.int (0 : Int32)), .val (.int ex), .val (.int x1), .val (.int x2), .val (.ref ra), .val (.ref ja), .unset, .unset, .unset, .unset, .unset, .unset, .unset, .unset]) [.ref ao]))
      refine own_blk dec0 seq0 hby hx hZ hown hK hF 2 [] [] X85 hh ?_
      show own_Aft X85 hp83 _ 191 [.val (.int g0), .val (.int g1), .val (.int g2), .val (.int g3), .val (.int sh), .val (.int ex), .val (.int (1 : Int32)), .val (.int (0 : Int32)), .val (.int ex), .val (.int x1), .val (.int x2), .val (.ref ra), .val (.ref ja), .unset, .unset, .unset, .unset, .unset, .unset, .unset, .unset] [.ref ja, .ref ra, .ref ao]
      refine fun T86 X86 eh86 => ?_
      obtain ⟨b0, hb0⟩ : ∃ b : Bool, (0 < g0.toInt ↔ b = true) := ⟨decide (0 < g0.toInt), by simp⟩
      obtain ⟨hrok, hchk⟩ := Bool.and_eq_true_iff.mp (own_chk_1_0 b0)
      refine own_callV X86 hx hZ hown (hw _ (List.mem_of_getElem? (i := 11) rfl)) (hw _ (List.mem_of_getElem? (i := 12) rfl)) (hw _ (List.mem_of_getElem? (i := 14) rfl)) (hw _ (List.mem_of_getElem? (i := 13) rfl)) (hw _ (List.mem_of_getElem? (i := 4) rfl)) (hw _ (List.mem_of_getElem? (i := 15) rfl)) (by decide) eh86 Ea83 [.ref ra, .ref ja] pd3 rfl (rm := ({ frames := 0, cells := 0, slots := 0, locals := 0 } : Room)) (rm3_1_1 l Z a0 hw [] ao ra ja g0 g0 b0 b0 hp83 n0 Z_83 Ar76'_83 Ar81'_83 hb0 hb0 hrok) (by rw [hml]; rfl) 0 rfl (Nat.le_of_eq rfl) (hb hby at_191) (by decide) (by decide) (by decide) (by decide) (fun T87 rv87 Lc87 X87 qc87 => ?_)
      obtain ⟨rfl, M2, hh2⟩ := qc87
      have hres : own_res [b0] ([] ++ [b0]) = own_res [b0] [b0] := rfl
      generalize own_res [b0] [b0] = sc at hres ⊢
      show own_Go p.tables e below _ (T87.setTop (mkF m 194 (Array.mk [.val (.int g0), .val (.int g1), .val (.int g2), .val (.int g3), .val (.int sh), .val (.int ex), .val (.int (1 : Int32)), .val (.int (0 : Int32)), .val (.int ex), .val (.int x1), .val (.int x2), .val (.ref ra), .val (.ref ja), .unset, .unset, .unset, .unset, .unset, .unset, .unset, .unset]) [.double sc]))
      refine own_blk dec0 seq0 hby hx hZ hown hK hF 5 [] [] X87 hh2 ?_
      show own_Aft X87 hp83 _ 202 [.val (.int g0), .val (.int g1), .val (.int g2), .val (.int g3), .val (.int sh), .val (.int ex), .val (.int (1 : Int32)), .val (.int (0 : Int32)), .val (.int ex), .val (.int x1), .val (.int x2), .val (.ref ra), .val (.ref ja), .val (.double sc), .second, .val (.int (0 : Int32)), .val (.long (0 : Int64)), .second, .unset, .unset, .unset] []
      refine fun T88 X88 eh88 => ?_
      refine ptC_1 X88 hx hby hml hown hZ hK hF eh88 _ _ _ _ _ _ _ _ _ _ _ _ _ g0 g1 g2 g3 b0 hb0 (fun f0 y0 HF T89 X89 eh89 => ?_)
      show own_Go p.tables e below _ (T89.setTop (mkF m 315 (Array.mk [.val (.int g0), .val (.int g1), .val (.int g2), .val (.int g3), .val (.int sh), .val (.int ex), .val (.int (1 : Int32)), .val (.int (0 : Int32)), .val (.int ex), .val (.int x1), .val (.int x2), .val (.ref ra), .val (.ref ja), .val (.double sc), .second, .val (.int f0), .val (.long y0), .second, .unset, .unset, .unset]) []))
      refine own_blk dec0 seq0 hby hx hZ hown hK hF 2 [] [] X89 eh89 ?_
      show own_Aft X89 hp83 _ 319 [.val (.int g0), .val (.int g1), .val (.int g2), .val (.int g3), .val (.int sh), .val (.int ex), .val (.int (1 : Int32)), .val (.int (0 : Int32)), .val (.int ex), .val (.int x1), .val (.int x2), .val (.ref ra), .val (.ref ja), .val (.double sc), .second, .val (.int f0), .val (.long y0), .second, .val (.int f0), .unset, .unset] []
      refine fun T90 X90 eh90 => ?_
      refine ptD_0 X90 hx hby hml hown hZ hK hF eh90 _ _ _ _ _ _ _ _ _ _ _ _ _ _ _ _ ex x1 x2 f0   (fun rr CF T91 X91 eh91 => ?_)
      show own_Go p.tables e below _ (T91.setTop (mkF m 360 (Array.mk [.val (.int g0), .val (.int g1), .val (.int g2), .val (.int g3), .val (.int sh), .val (.int ex), .val (.int (1 : Int32)), .val (.int (0 : Int32)), .val (.int ex), .val (.int x1), .val (.int x2), .val (.ref ra), .val (.ref ja), .val (.double sc), .second, .val (.int f0), .val (.long y0), .second, .val (.int rr), .unset, .unset]) []))
      unfold own_dif at hchk
      rw [hres, HF] at hchk
      dsimp only at hchk
      rw [CF] at hchk
      by_cases hf : f0.toInt = 0
      · skip
        rw [if_pos hf] at hchk
        refine own_blk dec0 seq0 hby hx hZ hown hK hF 8 [false, false] [] X91 eh91 ?_
        show (¬ ((f0).toInt ≠ 0)) ∧ (¬ ((cmpValue (FP.dcmp sc 0) .l).toInt ≠ 0)) ∧ own_Aft X91 hp83 _ 377 [.val (.int g0), .val (.int g1), .val (.int g2), .val (.int g3), .val (.int sh), .val (.int ex), .val (.int (1 : Int32)), .val (.int (0 : Int32)), .val (.int ex), .val (.int x1), .val (.int x2), .val (.ref ra), .val (.ref ja), .val (.double sc), .second, .val (.int f0), .val (.long y0), .second, .val (.int rr), .unset, .unset] [.int (1 : Int32)]
        refine ⟨by omega, by have := of_decide_eq_true hchk; omega, fun T92 X92 eh92 => ?_⟩
        exact own_ret X92 hx hlk eh92 hret (by first | rfl | decide) (Or.inl ⟨rfl, by simp, _, rfl⟩) (hb hby at_377) (by decide) (by decide) (⟨rfl, Fr.app (Fr.app Nf81 M1) M2⟩)
      · skip
        rw [if_neg hf] at hchk
        obtain ⟨hchk, k5⟩ := Bool.and_eq_true_iff.mp hchk
        obtain ⟨hchk, k4⟩ := Bool.and_eq_true_iff.mp hchk
        obtain ⟨hchk, k3⟩ := Bool.and_eq_true_iff.mp hchk
        obtain ⟨k1, k2⟩ := Bool.and_eq_true_iff.mp hchk
        refine own_blk dec0 seq0 hby hx hZ hown hK hF 22 [true, false, false] [] X91 eh91 ?_
        show ((f0).toInt ≠ 0) ∧ (Jvm.Free.Fl.NoNaN64 (FP.dmul 4622945017495814144 (FP.i2d rr))) ∧ (Jvm.Free.Fl.NoNaN64 (FP.dmul sc (FP.dmul 4622945017495814144 (FP.i2d rr)))) ∧ (Jvm.Free.Fl.NoNaN64 (FP.dsub (FP.dmul sc (FP.dmul 4622945017495814144 (FP.i2d rr))) (FP.l2d y0))) ∧ (¬ (0 ≤ (cmpValue (FP.dcmp (FP.dsub (FP.dmul sc (FP.dmul 4622945017495814144 (FP.i2d rr))) (FP.l2d y0)) 4472406533629990549) .g).toInt)) ∧ (¬ ((cmpValue (FP.dcmp (FP.dsub (FP.dmul sc (FP.dmul 4622945017495814144 (FP.i2d rr))) (FP.l2d y0)) 13695778570484766357) .l).toInt ≤ 0)) ∧ own_Aft X91 hp83 _ 417 [.val (.int g0), .val (.int g1), .val (.int g2), .val (.int g3), .val (.int sh), .val (.int ex), .val (.int (1 : Int32)), .val (.int (0 : Int32)), .val (.int ex), .val (.int x1), .val (.int x2), .val (.ref ra), .val (.ref ja), .val (.double sc), .second, .val (.int f0), .val (.long y0), .second, .val (.int rr), .val (.double (FP.dsub (FP.dmul sc (FP.dmul 4622945017495814144 (FP.i2d rr))) (FP.l2d y0))), .second] [.int (1 : Int32)]
        refine ⟨by omega, own_nb_e k1, own_nb_e k2, own_nb_e k3, by have := of_decide_eq_true k4; omega, by have := of_decide_eq_true k5; omega, fun T93 X93 eh93 => ?_⟩
        exact own_ret X93 hx hlk eh93 hret (by first | rfl | decide) (Or.inl ⟨rfl, by simp, _, rfl⟩) (hb hby at_417) (by decide) (by decide) (⟨rfl, Fr.app (Fr.app Nf81 M1) M2⟩)
    · skip
      obtain rfl : ee = (1 : Int32) := Int32.toInt_inj.mp he
      show own_Go p.tables e below _ (T77.setTop (mkF m 83 (Array.mk [.val (.int g0), .val (.int g1), .val (.int g2), .val (.int g3), .val (.int sh), .val (.int ex), .val (.int (1 : Int32)), .val (.int (1 : Int32)), .val (.int ex), .val (.int x1), .val (.int x2), .val (.ref ra), .unset, .unset, .unset, .unset, .unset, .unset, .unset, .unset, .unset]) []))
      refine own_blk dec0 seq0 hby hx hZ hown hK hF 3 [] [] X77 eh77 ?_
      show own_Aft X77 hp76 _ 88 [.val (.int g0), .val (.int g1), .val (.int g2), .val (.int g3), .val (.int sh), .val (.int ex), .val (.int (1 : Int32)), .val (.int (1 : Int32)), .val (.int ex), .val (.int x1), .val (.int x2), .val (.ref ra), .unset, .unset, .unset, .unset, .unset, .unset, .unset, .unset, .unset] [.int (2 : Int32)]
      refine fun T94 X94 eh94 => ?_
      refine own_newP X94 hx hZ (hw _ (List.mem_of_getElem? (i := 1) rfl)) eh94 2 rfl (cap := 2) (by decide) (by decide) (hb hby at_88) (by decide) (by decide) (fun T95 hp95 ja ga95 X95 eh95 Ex95 Ar95 => ?_)
      have ne_ra_ja : ra ≠ ja := fun q => absurd Ar76'.lt (by rw [q, ga95]; exact Nat.lt_irrefl _)
      have nw_ja : n0 ≤ ja := by rw [ga95]; exact Z_76
      have Ar76'_95 := Ar76'.ext Ex95
      have Z_95 : n0 ≤ hp95.size := Nat.le_trans Z_76 Ex95.1
      have Ar95' : own_A Z hp95 ja .int [.int (0 : Int32), .int (0 : Int32)] := Ar95
      show own_Go p.tables e below _ (T95.setTop (mkF m 90 (Array.mk [.val (.int g0), .val (.int g1), .val (.int g2), .val (.int g3), .val (.int sh), .val (.int ex), .val (.int (1 : Int32)), .val (.int (1 : Int32)), .val (.int ex), .val (.int x1), .val (.int x2), .val (.ref ra), .unset, .unset, .unset, .unset, .unset, .unset, .unset, .unset, .unset]) [.ref ja]))
      refine own_blk dec0 seq0 hby hx hZ hown hK hF 6 [false] [] X95 eh95 ?_
      show (¬ (((1 : Int32)).toInt ≤ 0)) ∧ own_Aft X95 hp95 _ 102 [.val (.int g0), .val (.int g1), .val (.int g2), .val (.int g3), .val (.int sh), .val (.int ex), .val (.int (1 : Int32)), .val (.int (1 : Int32)), .val (.int ex), .val (.int x1), .val (.int x2), .val (.ref ra), .val (.ref ja), .unset, .unset, .unset, .unset, .unset, .unset, .unset, .unset] [.int ex, .int (0 : Int32), .ref ja]
      refine ⟨by decide, fun T96 X96 eh96 => ?_⟩
      refine own_sI X96 hx hZ eh96 Ar95' 0 rfl (by show 0 < 2; decide) (hb hby at_102) (fun T97 hp97 X97 eh97 Wr97 Ar97 => ?_)
      have Ar97' : own_A Z hp97 ja .int [.int ex, .int (0 : Int32)] := Ar97
      have Ar76'_97 := Ar76'_95.other Wr97 ne_ra_ja
      have Nf97 := Fr.snoc X97 Nf76 nw_ja
      have Z_97 : n0 ≤ hp97.size := by rw [Wr.size Wr97]; exact Z_95
      refine own_blk dec0 seq0 hby hx hZ hown hK hF 11 [true, true, false] [] X97 eh97 ?_
      show (((1 : Int32)).toInt ≤ ((1 : Int32)).toInt) ∧ (((1 : Int32)).toInt ≤ ((2 : Int32)).toInt) ∧ (¬ (((1 : Int32)).toInt ≤ 0)) ∧ own_Aft X97 hp97 _ 137 [.val (.int g0), .val (.int g1), .val (.int g2), .val (.int g3), .val (.int sh), .val (.int ex), .val (.int (1 : Int32)), .val (.int (1 : Int32)), .val (.int ex), .val (.int x1), .val (.int x2), .val (.ref ra), .val (.ref ja), .unset, .unset, .unset, .unset, .unset, .unset, .unset, .unset] [.int g0, .int (1 : Int32), .ref ja]
      refine ⟨by decide, by decide, by decide, fun T98 X98 eh98 => ?_⟩
      refine own_sI X98 hx hZ eh98 Ar97' 1 rfl (by show 1 < 2; decide) (hb hby at_137) (fun T99 hp99 X99 eh99 Wr99 Ar99 => ?_)
      have Ar99' : own_A Z hp99 ja .int [.int ex, .int g0] := Ar99
      have Ar76'_99 := Ar76'_97.other Wr99 ne_ra_ja
      have Nf99 := Fr.snoc X99 Nf97 nw_ja
      have Z_99 : n0 ≤ hp99.size := by rw [Wr.size Wr99]; exact Z_97
      refine own_blk dec0 seq0 hby hx hZ hown hK hF 9 [true, true, true] [] X99 eh99 ?_
      show (((1 : Int32)).toInt ≤ ((1 : Int32)).toInt) ∧ (((1 : Int32)).toInt ≤ ((2 : Int32)).toInt) ∧ (((1 : Int32)).toInt ≤ ((3 : Int32)).toInt) ∧ own_Aft X99 hp99 _ 180 [.val (.int g0), .val (.int g1), .val (.int g2), .val (.int g3), .val (.int sh), .val (.int ex), .val (.int (1 : Int32)), .val (.int (1 : Int32)), .val (.int ex), .val (.int x1), .val (.int x2), .val (.ref ra), .val (.ref ja), .unset, .unset, .unset, .unset, .unset, .unset, .unset, .unset] []
      refine ⟨by decide, by decide, by decide, fun T100 X100 eh100 => ?_⟩
      refine own_new X100 hx hZ hown (hw _ (List.mem_of_getElem? (i := 2) rfl)) (hw _ (List.mem_of_getElem? (i := 3) rfl)) (hw _ (List.mem_of_getElem? (i := 4) rfl)) eh100 (hb hby at_180) (by decide) (by decide) (fun T101 hp101 ao ga101 X101 eh101 Ex101 Ea101 Dn101 => ?_)
      have ne_ra_ao : ra ≠ ao := fun q => absurd Ar76'_99.lt (by rw [q, ga101]; exact Nat.lt_irrefl _)
      have ne_ja_ao : ja ≠ ao := fun q => absurd Ar99'.lt (by rw [q, ga101]; exact Nat.lt_irrefl _)
      have nw_ao : n0 ≤ ao := by rw [ga101]; exact Z_99
      have Ar76'_101 := Ar76'_99.ext Ex101
      have Ar99'_101 := Ar99'.ext Ex101
      have Z_101 : n0 ≤ hp101.size := Nat.le_trans Z_99 Ex101.1
      show own_Go p.tables e below _ (T101.setTop (mkF m 183 (Array.mk [.val (.int g0), .val (.int g1), .val (.int g2), .val (.int g3), .val (.int sh), .val (.int ex), .val (.int (1 : Int32)), .val (.int (1 : Int32)), .val (.int ex), .val (.int x1), .val (.int x2), .val (.ref ra), .val (.ref ja), .unset, .unset, .unset, .unset, .unset, .unset, .unset, .unset]) [.ref ao]))
      refine own_blk dec0 seq0 hby hx hZ hown hK hF 1 [] [] X101 eh101 ?_
      show own_Aft X101 hp101 _ 184 [.val (.int g0), .val (.int g1), .val (.int g2), .val (.int g3), .val (.int sh), .val (.int ex), .val (.int (1 : Int32)), .val (.int (1 : Int32)), .val (.int ex), .val (.int x1), .val (.int x2), .val (.ref ra), .val (.ref ja), .unset, .unset, .unset, .unset, .unset, .unset, .unset, .unset] [.ref ao, .ref ao]
      refine fun T102 X102 eh102 => ?_
      refine own_callI X102 hx hZ hown rfl (hw _ (List.mem_of_getElem? (i := 5) rfl)) (hw _ (List.mem_of_getElem? (i := 6) rfl)) (hw _ (List.mem_of_getElem? (i := 4) rfl)) (hw _ (List.mem_of_getElem? (i := 7) rfl)) (by decide) eh102 ao [] pd1 rfl (rm := ({ frames := 1, cells := 0, slots := 0, locals := 12 } : Room)) (rm1 l Z a0 hw [] ao hp101 n0 Z_101) (by rw [hml]; rfl) 1 rfl (Nat.le_of_eq rfl) (hb hby at_184) (by decide) (by decide) (by decide) (by decide) (fun T103 rv103 Lc103 X103 qc103 => ?_)
      obtain ⟨rfl, M1, hh⟩ := qc103
      show own_Go p.tables e below _ (T103.setTop (mkF m 187 (Array.mk [.val (.int g0), .val (.int g1), .val (.int g2), .val (.int g3), .val (.int sh), .val (.int ex), .val (.int (1 : Int32)), .val (.int (1 : Int32)), .val (.int ex), .val (.int x1), .val (.int x2), .val (.ref ra), .val (.ref ja), .unset, .unset, .unset, .unset, .unset, .unset, .unset, .unset]) [.ref ao]))
      refine own_blk dec0 seq0 hby hx hZ hown hK hF 2 [] [] X103 hh ?_
      show own_Aft X103 hp101 _ 191 [.val (.int g0), .val (.int g1), .val (.int g2), .val (.int g3), .val (.int sh), .val (.int ex), .val (.int (1 : Int32)), .val (.int (1 : Int32)), .val (.int ex), .val (.int x1), .val (.int x2), .val (.ref ra), .val (.ref ja), .unset, .unset, .unset, .unset, .unset, .unset, .unset, .unset] [.ref ja, .ref ra, .ref ao]
      refine fun T104 X104 eh104 => ?_
      obtain ⟨b0, hb0⟩ : ∃ b : Bool, (0 < g0.toInt ↔ b = true) := ⟨decide (0 < g0.toInt), by simp⟩
      obtain ⟨c0, hc0⟩ : ∃ b : Bool, (0 < ex.toInt ↔ b = true) := ⟨decide (0 < ex.toInt), by simp⟩
      obtain ⟨hrok, hchk⟩ := Bool.and_eq_true_iff.mp (own_chk_1_1 b0 c0)
      refine own_callV X104 hx hZ hown (hw _ (List.mem_of_getElem? (i := 11) rfl)) (hw _ (List.mem_of_getElem? (i := 12) rfl)) (hw _ (List.mem_of_getElem? (i := 14) rfl)) (hw _ (List.mem_of_getElem? (i := 13) rfl)) (hw _ (List.mem_of_getElem? (i := 4) rfl)) (hw _ (List.mem_of_getElem? (i := 15) rfl)) (by decide) eh104 Ea101 [.ref ra, .ref ja] pd3 rfl (rm := ({ frames := 0, cells := 0, slots := 0, locals := 0 } : Room)) (rm3_1_2 l Z a0 hw [] ao ra ja g0 ex g0 b0 c0 b0 hp101 n0 Z_101 Ar76'_101 Ar99'_101 hb0 hc0 hb0 hrok) (by rw [hml]; rfl) 0 rfl (Nat.le_of_eq rfl) (hb hby at_191) (by decide) (by decide) (by decide) (by decide) (fun T105 rv105 Lc105 X105 qc105 => ?_)
      obtain ⟨rfl, M2, hh2⟩ := qc105
      have hres : own_res [b0] ([c0] ++ [b0]) = own_res [b0] [c0, b0] := rfl
      generalize own_res [b0] [c0, b0] = sc at hres ⊢
      show own_Go p.tables e below _ (T105.setTop (mkF m 194 (Array.mk [.val (.int g0), .val (.int g1), .val (.int g2), .val (.int g3), .val (.int sh), .val (.int ex), .val (.int (1 : Int32)), .val (.int (1 : Int32)), .val (.int ex), .val (.int x1), .val (.int x2), .val (.ref ra), .val (.ref ja), .unset, .unset, .unset, .unset, .unset, .unset, .unset, .unset]) [.double sc]))
      refine own_blk dec0 seq0 hby hx hZ hown hK hF 5 [] [] X105 hh2 ?_
      show own_Aft X105 hp101 _ 202 [.val (.int g0), .val (.int g1), .val (.int g2), .val (.int g3), .val (.int sh), .val (.int ex), .val (.int (1 : Int32)), .val (.int (1 : Int32)), .val (.int ex), .val (.int x1), .val (.int x2), .val (.ref ra), .val (.ref ja), .val (.double sc), .second, .val (.int (0 : Int32)), .val (.long (0 : Int64)), .second, .unset, .unset, .unset] []
      refine fun T106 X106 eh106 => ?_
      refine ptC_1 X106 hx hby hml hown hZ hK hF eh106 _ _ _ _ _ _ _ _ _ _ _ _ _ g0 g1 g2 g3 b0 hb0 (fun f0 y0 HF T107 X107 eh107 => ?_)
      show own_Go p.tables e below _ (T107.setTop (mkF m 315 (Array.mk [.val (.int g0), .val (.int g1), .val (.int g2), .val (.int g3), .val (.int sh), .val (.int ex), .val (.int (1 : Int32)), .val (.int (1 : Int32)), .val (.int ex), .val (.int x1), .val (.int x2), .val (.ref ra), .val (.ref ja), .val (.double sc), .second, .val (.int f0), .val (.long y0), .second, .unset, .unset, .unset]) []))
      refine own_blk dec0 seq0 hby hx hZ hown hK hF 2 [] [] X107 eh107 ?_
      show own_Aft X107 hp101 _ 319 [.val (.int g0), .val (.int g1), .val (.int g2), .val (.int g3), .val (.int sh), .val (.int ex), .val (.int (1 : Int32)), .val (.int (1 : Int32)), .val (.int ex), .val (.int x1), .val (.int x2), .val (.ref ra), .val (.ref ja), .val (.double sc), .second, .val (.int f0), .val (.long y0), .second, .val (.int f0), .unset, .unset] []
      refine fun T108 X108 eh108 => ?_
      refine ptD_1 X108 hx hby hml hown hZ hK hF eh108 _ _ _ _ _ _ _ _ _ _ _ _ _ _ _ _ ex x1 x2 f0 c0 hc0 (fun rr CF T109 X109 eh109 => ?_)
      show own_Go p.tables e below _ (T109.setTop (mkF m 360 (Array.mk [.val (.int g0), .val (.int g1), .val (.int g2), .val (.int g3), .val (.int sh), .val (.int ex), .val (.int (1 : Int32)), .val (.int (1 : Int32)), .val (.int ex), .val (.int x1), .val (.int x2), .val (.ref ra), .val (.ref ja), .val (.double sc), .second, .val (.int f0), .val (.long y0), .second, .val (.int rr), .unset, .unset]) []))
      unfold own_dif at hchk
      rw [hres, HF] at hchk
      dsimp only at hchk
      rw [CF] at hchk
      by_cases hf : f0.toInt = 0
      · skip
        rw [if_pos hf] at hchk
        refine own_blk dec0 seq0 hby hx hZ hown hK hF 8 [false, false] [] X109 eh109 ?_
        show (¬ ((f0).toInt ≠ 0)) ∧ (¬ ((cmpValue (FP.dcmp sc 0) .l).toInt ≠ 0)) ∧ own_Aft X109 hp101 _ 377 [.val (.int g0), .val (.int g1), .val (.int g2), .val (.int g3), .val (.int sh), .val (.int ex), .val (.int (1 : Int32)), .val (.int (1 : Int32)), .val (.int ex), .val (.int x1), .val (.int x2), .val (.ref ra), .val (.ref ja), .val (.double sc), .second, .val (.int f0), .val (.long y0), .second, .val (.int rr), .unset, .unset] [.int (1 : Int32)]
        refine ⟨by omega, by have := of_decide_eq_true hchk; omega, fun T110 X110 eh110 => ?_⟩
        exact own_ret X110 hx hlk eh110 hret (by first | rfl | decide) (Or.inl ⟨rfl, by simp, _, rfl⟩) (hb hby at_377) (by decide) (by decide) (⟨rfl, Fr.app (Fr.app Nf99 M1) M2⟩)
      · skip
        rw [if_neg hf] at hchk
        obtain ⟨hchk, k5⟩ := Bool.and_eq_true_iff.mp hchk
        obtain ⟨hchk, k4⟩ := Bool.and_eq_true_iff.mp hchk
        obtain ⟨hchk, k3⟩ := Bool.and_eq_true_iff.mp hchk
        obtain ⟨k1, k2⟩ := Bool.and_eq_true_iff.mp hchk
        refine own_blk dec0 seq0 hby hx hZ hown hK hF 22 [true, false, false] [] X109 eh109 ?_
        show ((f0).toInt ≠ 0) ∧ (Jvm.Free.Fl.NoNaN64 (FP.dmul 4622945017495814144 (FP.i2d rr))) ∧ (Jvm.Free.Fl.NoNaN64 (FP.dmul sc (FP.dmul 4622945017495814144 (FP.i2d rr)))) ∧ (Jvm.Free.Fl.NoNaN64 (FP.dsub (FP.dmul sc (FP.dmul 4622945017495814144 (FP.i2d rr))) (FP.l2d y0))) ∧ (¬ (0 ≤ (cmpValue (FP.dcmp (FP.dsub (FP.dmul sc (FP.dmul 4622945017495814144 (FP.i2d rr))) (FP.l2d y0)) 4472406533629990549) .g).toInt)) ∧ (¬ ((cmpValue (FP.dcmp (FP.dsub (FP.dmul sc (FP.dmul 4622945017495814144 (FP.i2d rr))) (FP.l2d y0)) 13695778570484766357) .l).toInt ≤ 0)) ∧ own_Aft X109 hp101 _ 417 [.val (.int g0), .val (.int g1), .val (.int g2), .val (.int g3), .val (.int sh), .val (.int ex), .val (.int (1 : Int32)), .val (.int (1 : Int32)), .val (.int ex), .val (.int x1), .val (.int x2), .val (.ref ra), .val (.ref ja), .val (.double sc), .second, .val (.int f0), .val (.long y0), .second, .val (.int rr), .val (.double (FP.dsub (FP.dmul sc (FP.dmul 4622945017495814144 (FP.i2d rr))) (FP.l2d y0))), .second] [.int (1 : Int32)]
        refine ⟨by omega, own_nb_e k1, own_nb_e k2, own_nb_e k3, by have := of_decide_eq_true k4; omega, by have := of_decide_eq_true k5; omega, fun T111 X111 eh111 => ?_⟩
        exact own_ret X111 hx hlk eh111 hret (by first | rfl | decide) (Or.inl ⟨rfl, by simp, _, rfl⟩) (hb hby at_417) (by decide) (by decide) (⟨rfl, Fr.app (Fr.app Nf99 M1) M2⟩)
    · skip
      obtain rfl : ee = (2 : Int32) := Int32.toInt_inj.mp he
      show own_Go p.tables e below _ (T77.setTop (mkF m 83 (Array.mk [.val (.int g0), .val (.int g1), .val (.int g2), .val (.int g3), .val (.int sh), .val (.int ex), .val (.int (1 : Int32)), .val (.int (2 : Int32)), .val (.int ex), .val (.int x1), .val (.int x2), .val (.ref ra), .unset, .unset, .unset, .unset, .unset, .unset, .unset, .unset, .unset]) []))
      refine own_blk dec0 seq0 hby hx hZ hown hK hF 3 [] [] X77 eh77 ?_
      show own_Aft X77 hp76 _ 88 [.val (.int g0), .val (.int g1), .val (.int g2), .val (.int g3), .val (.int sh), .val (.int ex), .val (.int (1 : Int32)), .val (.int (2 : Int32)), .val (.int ex), .val (.int x1), .val (.int x2), .val (.ref ra), .unset, .unset, .unset, .unset, .unset, .unset, .unset, .unset, .unset] [.int (3 : Int32)]
      refine fun T112 X112 eh112 => ?_
      refine own_newP X112 hx hZ (hw _ (List.mem_of_getElem? (i := 1) rfl)) eh112 3 rfl (cap := 3) (by decide) (by decide) (hb hby at_88) (by decide) (by decide) (fun T113 hp113 ja ga113 X113 eh113 Ex113 Ar113 => ?_)
      have ne_ra_ja : ra ≠ ja := fun q => absurd Ar76'.lt (by rw [q, ga113]; exact Nat.lt_irrefl _)
      have nw_ja : n0 ≤ ja := by rw [ga113]; exact Z_76
      have Ar76'_113 := Ar76'.ext Ex113
      have Z_113 : n0 ≤ hp113.size := Nat.le_trans Z_76 Ex113.1
      have Ar113' : own_A Z hp113 ja .int [.int (0 : Int32), .int (0 : Int32), .int (0 : Int32)] := Ar113
      show own_Go p.tables e below _ (T113.setTop (mkF m 90 (Array.mk [.val (.int g0), .val (.int g1), .val (.int g2), .val (.int g3), .val (.int sh), .val (.int ex), .val (.int (1 : Int32)), .val (.int (2 : Int32)), .val (.int ex), .val (.int x1), .val (.int x2), .val (.ref ra), .unset, .unset, .unset, .unset, .unset, .unset, .unset, .unset, .unset]) [.ref ja]))
      refine own_blk dec0 seq0 hby hx hZ hown hK hF 6 [false] [] X113 eh113 ?_
      show (¬ (((2 : Int32)).toInt ≤ 0)) ∧ own_Aft X113 hp113 _ 102 [.val (.int g0), .val (.int g1), .val (.int g2), .val (.int g3), .val (.int sh), .val (.int ex), .val (.int (1 : Int32)), .val (.int (2 : Int32)), .val (.int ex), .val (.int x1), .val (.int x2), .val (.ref ra), .val (.ref ja), .unset, .unset, .unset, .unset, .unset, .unset, .unset, .unset] [.int ex, .int (0 : Int32), .ref ja]
      refine ⟨by decide, fun T114 X114 eh114 => ?_⟩
      refine own_sI X114 hx hZ eh114 Ar113' 0 rfl (by show 0 < 3; decide) (hb hby at_102) (fun T115 hp115 X115 eh115 Wr115 Ar115 => ?_)
      have Ar115' : own_A Z hp115 ja .int [.int ex, .int (0 : Int32), .int (0 : Int32)] := Ar115
      have Ar76'_115 := Ar76'_113.other Wr115 ne_ra_ja
      have Nf115 := Fr.snoc X115 Nf76 nw_ja
      have Z_115 : n0 ≤ hp115.size := by rw [Wr.size Wr115]; exact Z_113
      refine own_blk dec0 seq0 hby hx hZ hown hK hF 6 [false] [] X115 eh115 ?_
      show (¬ (((2 : Int32)).toInt ≤ ((1 : Int32)).toInt)) ∧ own_Aft X115 hp115 _ 114 [.val (.int g0), .val (.int g1), .val (.int g2), .val (.int g3), .val (.int sh), .val (.int ex), .val (.int (1 : Int32)), .val (.int (2 : Int32)), .val (.int ex), .val (.int x1), .val (.int x2), .val (.ref ra), .val (.ref ja), .unset, .unset, .unset, .unset, .unset, .unset, .unset, .unset] [.int x1, .int (1 : Int32), .ref ja]
      refine ⟨by decide, fun T116 X116 eh116 => ?_⟩
      refine own_sI X116 hx hZ eh116 Ar115' 1 rfl (by show 1 < 3; decide) (hb hby at_114) (fun T117 hp117 X117 eh117 Wr117 Ar117 => ?_)
      have Ar117' : own_A Z hp117 ja .int [.int ex, .int x1, .int (0 : Int32)] := Ar117
      have Ar76'_117 := Ar76'_115.other Wr117 ne_ra_ja
      have Nf117 := Fr.snoc X117 Nf115 nw_ja
      have Z_117 : n0 ≤ hp117.size := by rw [Wr.size Wr117]; exact Z_115
      refine own_blk dec0 seq0 hby hx hZ hown hK hF 8 [true, false] [] X117 eh117 ?_
      show (((2 : Int32)).toInt ≤ ((2 : Int32)).toInt) ∧ (¬ (((1 : Int32)).toInt ≤ 0)) ∧ own_Aft X117 hp117 _ 137 [.val (.int g0), .val (.int g1), .val (.int g2), .val (.int g3), .val (.int sh), .val (.int ex), .val (.int (1 : Int32)), .val (.int (2 : Int32)), .val (.int ex), .val (.int x1), .val (.int x2), .val (.ref ra), .val (.ref ja), .unset, .unset, .unset, .unset, .unset, .unset, .unset, .unset] [.int g0, .int (2 : Int32), .ref ja]
      refine ⟨by decide, by decide, fun T118 X118 eh118 => ?_⟩
      refine own_sI X118 hx hZ eh118 Ar117' 2 rfl (by show 2 < 3; decide) (hb hby at_137) (fun T119 hp119 X119 eh119 Wr119 Ar119 => ?_)
      have Ar119' : own_A Z hp119 ja .int [.int ex, .int x1, .int g0] := Ar119
      have Ar76'_119 := Ar76'_117.other Wr119 ne_ra_ja
      have Nf119 := Fr.snoc X119 Nf117 nw_ja
      have Z_119 : n0 ≤ hp119.size := by rw [Wr.size Wr119]; exact Z_117
      refine own_blk dec0 seq0 hby hx hZ hown hK hF 9 [true, true, true] [] X119 eh119 ?_
      show (((1 : Int32)).toInt ≤ ((1 : Int32)).toInt) ∧ (((1 : Int32)).toInt ≤ ((2 : Int32)).toInt) ∧ (((1 : Int32)).toInt ≤ ((3 : Int32)).toInt) ∧ own_Aft X119 hp119 _ 180 [.val (.int g0), .val (.int g1), .val (.int g2), .val (.int g3), .val (.int sh), .val (.int ex), .val (.int (1 : Int32)), .val (.int (2 : Int32)), .val (.int ex), .val (.int x1), .val (.int x2), .val (.ref ra), .val (.ref ja), .unset, .unset, .unset, .unset, .unset, .unset, .unset, .unset] []
      refine ⟨by decide, by decide, by decide, fun T120 X120 eh120 => ?_⟩
      refine own_new X120 hx hZ hown (hw _ (List.mem_of_getElem? (i := 2) rfl)) (hw _ (List.mem_of_getElem? (i := 3) rfl)) (hw _ (List.mem_of_getElem? (i := 4) rfl)) eh120 (hb hby at_180) (by decide) (by decide) (fun T121 hp121 ao ga121 X121 eh121 Ex121 Ea121 Dn121 => ?_)
      have ne_ra_ao : ra ≠ ao := fun q => absurd Ar76'_119.lt (by rw [q, ga121]; exact Nat.lt_irrefl _)
      have ne_ja_ao : ja ≠ ao := fun q => absurd Ar119'.lt (by rw [q, ga121]; exact Nat.lt_irrefl _)
      have nw_ao : n0 ≤ ao := by rw [ga121]; exact Z_119
      have Ar76'_121 := Ar76'_119.ext Ex121
      have Ar119'_121 := Ar119'.ext Ex121
      have Z_121 : n0 ≤ hp121.size := Nat.le_trans Z_119 Ex121.1
      show own_Go p.tables e below _ (T121.setTop (mkF m 183 (Array.mk [.val (.int g0), .val (.int g1), .val (.int g2), .val (.int g3), .val (.int sh), .val (.int ex), .val (.int (1 : Int32)), .val (.int (2 : Int32)), .val (.int ex), .val (.int x1), .val (.int x2), .val (.ref ra), .val (.ref ja), .unset, .unset, .unset, .unset, .unset, .unset, .unset, .unset]) [.ref ao]))
      refine own_blk dec0 seq0 hby hx hZ hown hK hF 1 [] [] X121 eh121 ?_
      show own_Aft X121 hp121 _ 184 [.val (.int g0), .val (.int g1), .val (.int g2), .val (.int g3), .val (.int sh), .val (.int ex), .val (.int (1 : Int32)), .val (.int (2 : Int32)), .val (.int ex), .val (.int x1), .val (.int x2), .val (.ref ra), .val (.ref ja), .unset, .unset, .unset, .unset, .unset, .unset, .unset, .unset] [.ref ao, .ref ao]
      refine fun T122 X122 eh122 => ?_
      refine own_callI X122 hx hZ hown rfl (hw _ (List.mem_of_getElem? (i := 5) rfl)) (hw _ (List.mem_of_getElem? (i := 6) rfl)) (hw _ (List.mem_of_getElem? (i := 4) rfl)) (hw _ (List.mem_of_getElem? (i := 7) rfl)) (by decide) eh122 ao [] pd1 rfl (rm := ({ frames := 1, cells := 0, slots := 0, locals := 12 } : Room)) (rm1 l Z a0 hw [] ao hp121 n0 Z_121) (by rw [hml]; rfl) 1 rfl (Nat.le_of_eq rfl) (hb hby at_184) (by decide) (by decide) (by decide) (by decide) (fun T123 rv123 Lc123 X123 qc123 => ?_)
      obtain ⟨rfl, M1, hh⟩ := qc123
      show own_Go p.tables e below _ (T123.setTop (mkF m 187 (Array.mk [.val (.int g0), .val (.int g1), .val (.int g2), .val (.int g3), .val (.int sh), .val (.int ex), .val (.int (1 : Int32)), .val (.int (2 : Int32)), .val (.int ex), .val (.int x1), .val (.int x2), .val (.ref ra), .val (.ref ja), .unset, .unset, .unset, .unset, .unset, .unset, .unset, .unset]) [.ref ao]))
      refine own_blk dec0 seq0 hby hx hZ hown hK hF 2 [] [] X123 hh ?_
      show own_Aft X123 hp121 _ 191 [.val (.int g0), .val (.int g1), .val (.int g2), .val (.int g3), .val (.int sh), .val (.int ex), .val (.int (1 : Int32)), .val (.int (2 : Int32)), .val (.int ex), .val (.int x1), .val (.int x2), .val (.ref ra), .val (.ref ja), .unset, .unset, .unset, .unset, .unset, .unset, .unset, .unset] [.ref ja, .ref ra, .ref ao]
      refine fun T124 X124 eh124 => ?_
      obtain ⟨b0, hb0⟩ : ∃ b : Bool, (0 < g0.toInt ↔ b = true) := ⟨decide (0 < g0.toInt), by simp⟩
      obtain ⟨c0, hc0⟩ : ∃ b : Bool, (0 < ex.toInt ↔ b = true) := ⟨decide (0 < ex.toInt), by simp⟩
      obtain ⟨c1, hc1⟩ : ∃ b : Bool, (0 < x1.toInt ↔ b = true) := ⟨decide (0 < x1.toInt), by simp⟩
      obtain ⟨hrok, hchk⟩ := Bool.and_eq_true_iff.mp (own_chk_1_2 b0 c0 c1)
      refine own_callV X124 hx hZ hown (hw _ (List.mem_of_getElem? (i := 11) rfl)) (hw _ (List.mem_of_getElem? (i := 12) rfl)) (hw _ (List.mem_of_getElem? (i := 14) rfl)) (hw _ (List.mem_of_getElem? (i := 13) rfl)) (hw _ (List.mem_of_getElem? (i := 4) rfl)) (hw _ (List.mem_of_getElem? (i := 15) rfl)) (by decide) eh124 Ea121 [.ref ra, .ref ja] pd3 rfl (rm := ({ frames := 0, cells := 0, slots := 0, locals := 0 } : Room)) (rm3_1_3 l Z a0 hw [] ao ra ja g0 ex x1 g0 b0 c0 c1 b0 hp121 n0 Z_121 Ar76'_121 Ar119'_121 hb0 hc0 hc1 hb0 hrok) (by rw [hml]; rfl) 0 rfl (Nat.le_of_eq rfl) (hb hby at_191) (by decide) (by decide) (by decide) (by decide) (fun T125 rv125 Lc125 X125 qc125 => ?_)
      obtain ⟨rfl, M2, hh2⟩ := qc125
      have hres : own_res [b0] ([c0, c1] ++ [b0]) = own_res [b0] [c0, c1, b0] := rfl
      generalize own_res [b0] [c0, c1, b0] = sc at hres ⊢
      show own_Go p.tables e below _ (T125.setTop (mkF m 194 (Array.mk [.val (.int g0), .val (.int g1), .val (.int g2), .val (.int g3), .val (.int sh), .val (.int ex), .val (.int (1 : Int32)), .val (.int (2 : Int32)), .val (.int ex), .val (.int x1), .val (.int x2), .val (.ref ra), .val (.ref ja), .unset, .unset, .unset, .unset, .unset, .unset, .unset, .unset]) [.double sc]))
      refine own_blk dec0 seq0 hby hx hZ hown hK hF 5 [] [] X125 hh2 ?_
      show own_Aft X125 hp121 _ 202 [.val (.int g0), .val (.int g1), .val (.int g2), .val (.int g3), .val (.int sh), .val (.int ex), .val (.int (1 : Int32)), .val (.int (2 : Int32)), .val (.int ex), .val (.int x1), .val (.int x2), .val (.ref ra), .val (.ref ja), .val (.double sc), .second, .val (.int (0 : Int32)), .val (.long (0 : Int64)), .second, .unset, .unset, .unset] []
      refine fun T126 X126 eh126 => ?_
      refine ptC_1 X126 hx hby hml hown hZ hK hF eh126 _ _ _ _ _ _ _ _ _ _ _ _ _ g0 g1 g2 g3 b0 hb0 (fun f0 y0 HF T127 X127 eh127 => ?_)
      show own_Go p.tables e below _ (T127.setTop (mkF m 315 (Array.mk [.val (.int g0), .val (.int g1), .val (.int g2), .val (.int g3), .val (.int sh), .val (.int ex), .val (.int (1 : Int32)), .val (.int (2 : Int32)), .val (.int ex), .val (.int x1), .val (.int x2), .val (.ref ra), .val (.ref ja), .val (.double sc), .second, .val (.int f0), .val (.long y0), .second, .unset, .unset, .unset]) []))
      refine own_blk dec0 seq0 hby hx hZ hown hK hF 2 [] [] X127 eh127 ?_
      show own_Aft X127 hp121 _ 319 [.val (.int g0), .val (.int g1), .val (.int g2), .val (.int g3), .val (.int sh), .val (.int ex), .val (.int (1 : Int32)), .val (.int (2 : Int32)), .val (.int ex), .val (.int x1), .val (.int x2), .val (.ref ra), .val (.ref ja), .val (.double sc), .second, .val (.int f0), .val (.long y0), .second, .val (.int f0), .unset, .unset] []
      refine fun T128 X128 eh128 => ?_
      refine ptD_2 X128 hx hby hml hown hZ hK hF eh128 _ _ _ _ _ _ _ _ _ _ _ _ _ _ _ _ ex x1 x2 f0 c0 c1 hc0 hc1 (fun rr CF T129 X129 eh129 => ?_)
      show own_Go p.tables e below _ (T129.setTop (mkF m 360 (Array.mk [.val (.int g0), .val (.int g1), .val (.int g2), .val (.int g3), .val (.int sh), .val (.int ex), .val (.int (1 : Int32)), .val (.int (2 : Int32)), .val (.int ex), .val (.int x1), .val (.int x2), .val (.ref ra), .val (.ref ja), .val (.double sc), .second, .val (.int f0), .val (.long y0), .second, .val (.int rr), .unset, .unset]) []))
      unfold own_dif at hchk
      rw [hres, HF] at hchk
      dsimp only at hchk
      rw [CF] at hchk
      by_cases hf : f0.toInt = 0
      · skip
        rw [if_pos hf] at hchk
        refine own_blk dec0 seq0 hby hx hZ hown hK hF 8 [false, false] [] X129 eh129 ?_
        show (¬ ((f0).toInt ≠ 0)) ∧ (¬ ((cmpValue (FP.dcmp sc 0) .l).toInt ≠ 0)) ∧ own_Aft X129 hp121 _ 377 [.val (.int g0), .val (.int g1), .val (.int g2), .val (.int g3), .val (.int sh), .val (.int ex), .val (.int (1 : Int32)), .val (.int (2 : Int32)), .val (.int ex), .val (.int x1), .val (.int x2), .val (.ref ra), .val (.ref ja), .val (.double sc), .second, .val (.int f0), .val (.long y0), .second, .val (.int rr), .unset, .unset] [.int (1 : Int32)]
        refine ⟨by omega, by have := of_decide_eq_true hchk; omega, fun T130 X130 eh130 => ?_⟩
        exact own_ret X130 hx hlk eh130 hret (by first | rfl | decide) (Or.inl ⟨rfl, by simp, _, rfl⟩) (hb hby at_377) (by decide) (by decide) (⟨rfl, Fr.app (Fr.app Nf119 M1) M2⟩)
      · skip
        rw [if_neg hf] at hchk
        obtain ⟨hchk, k5⟩ := Bool.and_eq_true_iff.mp hchk
        obtain ⟨hchk, k4⟩ := Bool.and_eq_true_iff.mp hchk
        obtain ⟨hchk, k3⟩ := Bool.and_eq_true_iff.mp hchk
        obtain ⟨k1, k2⟩ := Bool.and_eq_true_iff.mp hchk
        refine own_blk dec0 seq0 hby hx hZ hown hK hF 22 [true, false, false] [] X129 eh129 ?_
        show ((f0).toInt ≠ 0) ∧ (Jvm.Free.Fl.NoNaN64 (FP.dmul 4622945017495814144 (FP.i2d rr))) ∧ (Jvm.Free.Fl.NoNaN64 (FP.dmul sc (FP.dmul 4622945017495814144 (FP.i2d rr)))) ∧ (Jvm.Free.Fl.NoNaN64 (FP.dsub (FP.dmul sc (FP.dmul 4622945017495814144 (FP.i2d rr))) (FP.l2d y0))) ∧ (¬ (0 ≤ (cmpValue (FP.dcmp (FP.dsub (FP.dmul sc (FP.dmul 4622945017495814144 (FP.i2d rr))) (FP.l2d y0)) 4472406533629990549) .g).toInt)) ∧ (¬ ((cmpValue (FP.dcmp (FP.dsub (FP.dmul sc (FP.dmul 4622945017495814144 (FP.i2d rr))) (FP.l2d y0)) 13695778570484766357) .l).toInt ≤ 0)) ∧ own_Aft X129 hp121 _ 417 [.val (.int g0), .val (.int g1), .val (.int g2), .val (.int g3), .val (.int sh), .val (.int ex), .val (.int (1 : Int32)), .val (.int (2 : Int32)), .val (.int ex), .val (.int x1), .val (.int x2), .val (.ref ra), .val (.ref ja), .val (.double sc), .second, .val (.int f0), .val (.long y0), .second, .val (.int rr), .val (.double (FP.dsub (FP.dmul sc (FP.dmul 4622945017495814144 (FP.i2d rr))) (FP.l2d y0))), .second] [.int (1 : Int32)]
        refine ⟨by omega, own_nb_e k1, own_nb_e k2, own_nb_e k3, by have := of_decide_eq_true k4; omega, by have := of_decide_eq_true k5; omega, fun T131 X131 eh131 => ?_⟩
        exact own_ret X131 hx hlk eh131 hret (by first | rfl | decide) (Or.inl ⟨rfl, by simp, _, rfl⟩) (hb hby at_417) (by decide) (by decide) (⟨rfl, Fr.app (Fr.app Nf119 M1) M2⟩)
    · skip
      obtain rfl : ee = (3 : Int32) := Int32.toInt_inj.mp he
      show own_Go p.tables e below _ (T77.setTop (mkF m 83 (Array.mk [.val (.int g0), .val (.int g1), .val (.int g2), .val (.int g3), .val (.int sh), .val (.int ex), .val (.int (1 : Int32)), .val (.int (3 : Int32)), .val (.int ex), .val (.int x1), .val (.int x2), .val (.ref ra), .unset, .unset, .unset, .unset, .unset, .unset, .unset, .unset, .unset]) []))
      refine own_blk dec0 seq0 hby hx hZ hown hK hF 3 [] [] X77 eh77 ?_
      show own_Aft X77 hp76 _ 88 [.val (.int g0), .val (.int g1), .val (.int g2), .val (.int g3), .val (.int sh), .val (.int ex), .val (.int (1 : Int32)), .val (.int (3 : Int32)), .val (.int ex), .val (.int x1), .val (.int x2), .val (.ref ra), .unset, .unset, .unset, .unset, .unset, .unset, .unset, .unset, .unset] [.int (4 : Int32)]
      refine fun T132 X132 eh132 => ?_
      refine own_newP X132 hx hZ (hw _ (List.mem_of_getElem? (i := 1) rfl)) eh132 4 rfl (cap := 4) (by decide) (by decide) (hb hby at_88) (by decide) (by decide) (fun T133 hp133 ja ga133 X133 eh133 Ex133 Ar133 => ?_)
      have ne_ra_ja : ra ≠ ja := fun q => absurd Ar76'.lt (by rw [q, ga133]; exact Nat.lt_irrefl _)
      have nw_ja : n0 ≤ ja := by rw [ga133]; exact Z_76
      have Ar76'_133 := Ar76'.ext Ex133
      have Z_133 : n0 ≤ hp133.size := Nat.le_trans Z_76 Ex133.1
      have Ar133' : own_A Z hp133 ja .int [.int (0 : Int32), .int (0 : Int32), .int (0 : Int32), .int (0 : Int32)] := Ar133
      show own_Go p.tables e below _ (T133.setTop (mkF m 90 (Array.mk [.val (.int g0), .val (.int g1), .val (.int g2), .val (.int g3), .val (.int sh), .val (.int ex), .val (.int (1 : Int32)), .val (.int (3 : Int32)), .val (.int ex), .val (.int x1), .val (.int x2), .val (.ref ra), .unset, .unset, .unset, .unset, .unset, .unset, .unset, .unset, .unset]) [.ref ja]))
      refine own_blk dec0 seq0 hby hx hZ hown hK hF 6 [false] [] X133 eh133 ?_
      show (¬ (((3 : Int32)).toInt ≤ 0)) ∧ own_Aft X133 hp133 _ 102 [.val (.int g0), .val (.int g1), .val (.int g2), .val (.int g3), .val (.int sh), .val (.int ex), .val (.int (1 : Int32)), .val (.int (3 : Int32)), .val (.int ex), .val (.int x1), .val (.int x2), .val (.ref ra), .val (.ref ja), .unset, .unset, .unset, .unset, .unset, .unset, .unset, .unset] [.int ex, .int (0 : Int32), .ref ja]
      refine ⟨by decide, fun T134 X134 eh134 => ?_⟩
      refine own_sI X134 hx hZ eh134 Ar133' 0 rfl (by show 0 < 4; decide) (hb hby at_102) (fun T135 hp135 X135 eh135 Wr135 Ar135 => ?_)
      have Ar135' : own_A Z hp135 ja .int [.int ex, .int (0 : Int32), .int (0 : Int32), .int (0 : Int32)] := Ar135
      have Ar76'_135 := Ar76'_133.other Wr135 ne_ra_ja
      have Nf135 := Fr.snoc X135 Nf76 nw_ja
      have Z_135 : n0 ≤ hp135.size := by rw [Wr.size Wr135]; exact Z_133
      refine own_blk dec0 seq0 hby hx hZ hown hK hF 6 [false] [] X135 eh135 ?_
      show (¬ (((3 : Int32)).toInt ≤ ((1 : Int32)).toInt)) ∧ own_Aft X135 hp135 _ 114 [.val (.int g0), .val (.int g1), .val (.int g2), .val (.int g3), .val (.int sh), .val (.int ex), .val (.int (1 : Int32)), .val (.int (3 : Int32)), .val (.int ex), .val (.int x1), .val (.int x2), .val (.ref ra), .val (.ref ja), .unset, .unset, .unset, .unset, .unset, .unset, .unset, .unset] [.int x1, .int (1 : Int32), .ref ja]
      refine ⟨by decide, fun T136 X136 eh136 => ?_⟩
      refine own_sI X136 hx hZ eh136 Ar135' 1 rfl (by show 1 < 4; decide) (hb hby at_114) (fun T137 hp137 X137 eh137 Wr137 Ar137 => ?_)
      have Ar137' : own_A Z hp137 ja .int [.int ex, .int x1, .int (0 : Int32), .int (0 : Int32)] := Ar137
      have Ar76'_137 := Ar76'_135.other Wr137 ne_ra_ja
      have Nf137 := Fr.snoc X137 Nf135 nw_ja
      have Z_137 : n0 ≤ hp137.size := by rw [Wr.size Wr137]; exact Z_135
      refine own_blk dec0 seq0 hby hx hZ hown hK hF 6 [false] [] X137 eh137 ?_
      show (¬ (((3 : Int32)).toInt ≤ ((2 : Int32)).toInt)) ∧ own_Aft X137 hp137 _ 126 [.val (.int g0), .val (.int g1), .val (.int g2), .val (.int g3), .val (.int sh), .val (.int ex), .val (.int (1 : Int32)), .val (.int (3 : Int32)), .val (.int ex), .val (.int x1), .val (.int x2), .val (.ref ra), .val (.ref ja), .unset, .unset, .unset, .unset, .unset, .unset, .unset, .unset] [.int x2, .int (2 : Int32), .ref ja]
      refine ⟨by decide, fun T138 X138 eh138 => ?_⟩
      refine own_sI X138 hx hZ eh138 Ar137' 2 rfl (by show 2 < 4; decide) (hb hby at_126) (fun T139 hp139 X139 eh139 Wr139 Ar139 => ?_)
      have Ar139' : own_A Z hp139 ja .int [.int ex, .int x1, .int x2, .int (0 : Int32)] := Ar139
      have Ar76'_139 := Ar76'_137.other Wr139 ne_ra_ja
      have Nf139 := Fr.snoc X139 Nf137 nw_ja
      have Z_139 : n0 ≤ hp139.size := by rw [Wr.size Wr139]; exact Z_137
      refine own_blk dec0 seq0 hby hx hZ hown hK hF 5 [false] [] X139 eh139 ?_
      show (¬ (((1 : Int32)).toInt ≤ 0)) ∧ own_Aft X139 hp139 _ 137 [.val (.int g0), .val (.int g1), .val (.int g2), .val (.int g3), .val (.int sh), .val (.int ex), .val (.int (1 : Int32)), .val (.int (3 : Int32)), .val (.int ex), .val (.int x1), .val (.int x2), .val (.ref ra), .val (.ref ja), .unset, .unset, .unset, .unset, .unset, .unset, .unset, .unset] [.int g0, .int (3 : Int32), .ref ja]
      refine ⟨by decide, fun T140 X140 eh140 => ?_⟩
      refine own_sI X140 hx hZ eh140 Ar139' 3 rfl (by show 3 < 4; decide) (hb hby at_137) (fun T141 hp141 X141 eh141 Wr141 Ar141 => ?_)
      have Ar141' : own_A Z hp141 ja .int [.int ex, .int x1, .int x2, .int g0] := Ar141
      have Ar76'_141 := Ar76'_139.other Wr141 ne_ra_ja
      have Nf141 := Fr.snoc X141 Nf139 nw_ja
      have Z_141 : n0 ≤ hp141.size := by rw [Wr.size Wr141]; exact Z_139
      refine own_blk dec0 seq0 hby hx hZ hown hK hF 9 [true, true, true] [] X141 eh141 ?_
      show (((1 : Int32)).toInt ≤ ((1 : Int32)).toInt) ∧ (((1 : Int32)).toInt ≤ ((2 : Int32)).toInt) ∧ (((1 : Int32)).toInt ≤ ((3 : Int32)).toInt) ∧ own_Aft X141 hp141 _ 180 [.val (.int g0), .val (.int g1), .val (.int g2), .val (.int g3), .val (.int sh), .val (.int ex), .val (.int (1 : Int32)), .val (.int (3 : Int32)), .val (.int ex), .val (.int x1), .val (.int x2), .val (.ref ra), .val (.ref ja), .unset, .unset, .unset, .unset, .unset, .unset, .unset, .unset] []
      refine ⟨by decide, by decide, by decide, fun T142 X142 eh142 => ?_⟩
      refine own_new X142 hx hZ hown (hw _ (List.mem_of_getElem? (i := 2) rfl)) (hw _ (List.mem_of_getElem? (i := 3) rfl)) (hw _ (List.mem_of_getElem? (i := 4) rfl)) eh142 (hb hby at_180) (by decide) (by decide) (fun T143 hp143 ao ga143 X143 eh143 Ex143 Ea143 Dn143 => ?_)
      have ne_ra_ao : ra ≠ ao := fun q => absurd Ar76'_141.lt (by rw [q, ga143]; exact Nat.lt_irrefl _)
      have ne_ja_ao : ja ≠ ao := fun q => absurd Ar141'.lt (by rw [q, ga143]; exact Nat.lt_irrefl _)
      have nw_ao : n0 ≤ ao := by rw [ga143]; exact Z_141
      have Ar76'_143 := Ar76'_141.ext Ex143
      have Ar141'_143 := Ar141'.ext Ex143
      have Z_143 : n0 ≤ hp143.size := Nat.le_trans Z_141 Ex143.1
      show own_Go p.tables e below _ (T143.setTop (mkF m 183 (Array.mk [.val (.int g0), .val (.int g1), .val (.int g2), .val (.int g3), .val (.int sh), .val (.int ex), .val (.int (1 : Int32)), .val (.int (3 : Int32)), .val (.int ex), .val (.int x1), .val (.int x2), .val (.ref ra), .val (.ref ja), .unset, .unset, .unset, .unset, .unset, .unset, .unset, .unset]) [.ref ao]))
      refine own_blk dec0 seq0 hby hx hZ hown hK hF 1 [] [] X143 eh143 ?_
      show own_Aft X143 hp143 _ 184 [.val (.int g0), .val (.int g1), .val (.int g2), .val (.int g3), .val (.int sh), .val (.int ex), .val (.int (1 : Int32)), .val (.int (3 : Int32)), .val (.int ex), .val (.int x1), .val (.int x2), .val (.ref ra), .val (.ref ja), .unset, .unset, .unset, .unset, .unset, .unset, .unset, .unset] [.ref ao, .ref ao]
      refine fun T144 X144 eh144 => ?_
      refine own_callI X144 hx hZ hown rfl (hw _ (List.mem_of_getElem? (i := 5) rfl)) (hw _ (List.mem_of_getElem? (i := 6) rfl)) (hw _ (List.mem_of_getElem? (i := 4) rfl)) (hw _ (List.mem_of_getElem? (i := 7) rfl)) (by decide) eh144 ao [] pd1 rfl (rm := ({ frames := 1, cells := 0, slots := 0, locals := 12 } : Room)) (rm1 l Z a0 hw [] ao hp143 n0 Z_143) (by rw [hml]; rfl) 1 rfl (Nat.le_of_eq rfl) (hb hby at_184) (by decide) (by decide) (by decide) (by decide) (fun T145 rv145 Lc145 X145 qc145 => ?_)
      obtain ⟨rfl, M1, hh⟩ := qc145
      show own_Go p.tables e below _ (T145.setTop (mkF m 187 (Array.mk [.val (.int g0), .val (.int g1), .val (.int g2), .val (.int g3), .val (.int sh), .val (.int ex), .val (.int (1 : Int32)), .val (.int (3 : Int32)), .val (.int ex), .val (.int x1), .val (.int x2), .val (.ref ra), .val (.ref ja), .unset, .unset, .unset, .unset, .unset, .unset, .unset, .unset]) [.ref ao]))
      refine own_blk dec0 seq0 hby hx hZ hown hK hF 2 [] [] X145 hh ?_
      show own_Aft X145 hp143 _ 191 [.val (.int g0), .val (.int g1), .val (.int g2), .val (.int g3), .val (.int sh), .val (.int ex), .val (.int (1 : Int32)), .val (.int (3 : Int32)), .val (.int ex), .val (.int x1), .val (.int x2), .val (.ref ra), .val (.ref ja), .unset, .unset, .unset, .unset, .unset, .unset, .unset, .unset] [.ref ja, .ref ra, .ref ao]
      refine fun T146 X146 eh146 => ?_
      obtain ⟨b0, hb0⟩ : ∃ b : Bool, (0 < g0.toInt ↔ b = true) := ⟨decide (0 < g0.toInt), by simp⟩
      obtain ⟨c0, hc0⟩ : ∃ b : Bool, (0 < ex.toInt ↔ b = true) := ⟨decide (0 < ex.toInt), by simp⟩
      obtain ⟨c1, hc1⟩ : ∃ b : Bool, (0 < x1.toInt ↔ b = true) := ⟨decide (0 < x1.toInt), by simp⟩
      obtain ⟨c2, hc2⟩ : ∃ b : Bool, (0 < x2.toInt ↔ b = true) := ⟨decide (0 < x2.toInt), by simp⟩
      obtain ⟨hrok, hchk⟩ := Bool.and_eq_true_iff.mp (own_chk_1_3 b0 c0 c1 c2)
      refine own_callV X146 hx hZ hown (hw _ (List.mem_of_getElem? (i := 11) rfl)) (hw _ (List.mem_of_getElem? (i := 12) rfl)) (hw _ (List.mem_of_getElem? (i := 14) rfl)) (hw _ (List.mem_of_getElem? (i := 13) rfl)) (hw _ (List.mem_of_getElem? (i := 4) rfl)) (hw _ (List.mem_of_getElem? (i := 15) rfl)) (by decide) eh146 Ea143 [.ref ra, .ref ja] pd3 rfl (rm := ({ frames := 0, cells := 0, slots := 0, locals := 0 } : Room)) (rm3_1_4 l Z a0 hw [] ao ra ja g0 ex x1 x2 g0 b0 c0 c1 c2 b0 hp143 n0 Z_143 Ar76'_143 Ar141'_143 hb0 hc0 hc1 hc2 hb0 hrok) (by rw [hml]; rfl) 0 rfl (Nat.le_of_eq rfl) (hb hby at_191) (by decide) (by decide) (by decide) (by decide) (fun T147 rv147 Lc147 X147 qc147 => ?_)
      obtain ⟨rfl, M2, hh2⟩ := qc147
      have hres : own_res [b0] ([c0, c1, c2] ++ [b0]) = own_res [b0] [c0, c1, c2, b0] := rfl
      generalize own_res [b0] [c0, c1, c2, b0] = sc at hres ⊢
      show own_Go p.tables e below _ (T147.setTop (mkF m 194 (Array.mk [.val (.int g0), .val (.int g1), .val (.int g2), .val (.int g3), .val (.int sh), .val (.int ex), .val (.int (1 : Int32)), .val (.int (3 : Int32)), .val (.int ex), .val (.int x1), .val (.int x2), .val (.ref ra), .val (.ref ja), .unset, .unset, .unset, .unset, .unset, .unset, .unset, .unset]) [.double sc]))
      refine own_blk dec0 seq0 hby hx hZ hown hK hF 5 [] [] X147 hh2 ?_
      show own_Aft X147 hp143 _ 202 [.val (.int g0), .val (.int g1), .val (.int g2), .val (.int g3), .val (.int sh), .val (.int ex), .val (.int (1 : Int32)), .val (.int (3 : Int32)), .val (.int ex), .val (.int x1), .val (.int x2), .val (.ref ra), .val (.ref ja), .val (.double sc), .second, .val (.int (0 : Int32)), .val (.long (0 : Int64)), .second, .unset, .unset, .unset] []
      refine fun T148 X148 eh148 => ?_
      refine ptC_1 X148 hx hby hml hown hZ hK hF eh148 _ _ _ _ _ _ _ _ _ _ _ _ _ g0 g1 g2 g3 b0 hb0 (fun f0 y0 HF T149 X149 eh149 => ?_)
      show own_Go p.tables e below _ (T149.setTop (mkF m 315 (Array.mk [.val (.int g0), .val (.int g1), .val (.int g2), .val (.int g3), .val (.int sh), .val (.int ex), .val (.int (1 : Int32)), .val (.int (3 : Int32)), .val (.int ex), .val (.int x1), .val (.int x2), .val (.ref ra), .val (.ref ja), .val (.double sc), .second, .val (.int f0), .val (.long y0), .second, .unset, .unset, .unset]) []))
      refine own_blk dec0 seq0 hby hx hZ hown hK hF 2 [] [] X149 eh149 ?_
      show own_Aft X149 hp143 _ 319 [.val (.int g0), .val (.int g1), .val (.int g2), .val (.int g3), .val (.int sh), .val (.int ex), .val (.int (1 : Int32)), .val (.int (3 : Int32)), .val (.int ex), .val (.int x1), .val (.int x2), .val (.ref ra), .val (.ref ja), .val (.double sc), .second, .val (.int f0), .val (.long y0), .second, .val (.int f0), .unset, .unset] []
      refine fun T150 X150 eh150 => ?_
      refine ptD_3 X150 hx hby hml hown hZ hK hF eh150 _ _ _ _ _ _ _ _ _ _ _ _ _ _ _ _ ex x1 x2 f0 c0 c1 c2 hc0 hc1 hc2 (fun rr CF T151 X151 eh151 => ?_)
      show own_Go p.tables e below _ (T151.setTop (mkF m 360 (Array.mk [.val (.int g0), .val (.int g1), .val (.int g2), .val (.int g3), .val (.int sh), .val (.int ex), .val (.int (1 : Int32)), .val (.int (3 : Int32)), .val (.int ex), .val (.int x1), .val (.int x2), .val (.ref ra), .val (.ref ja), .val (.double sc), .second, .val (.int f0), .val (.long y0), .second, .val (.int rr), .unset, .unset]) []))
      unfold own_dif at hchk
      rw [hres, HF] at hchk
      dsimp only at hchk
      rw [CF] at hchk
      by_cases hf : f0.toInt = 0
      · skip
        rw [if_pos hf] at hchk
        refine own_blk dec0 seq0 hby hx hZ hown hK hF 8 [false, false] [] X151 eh151 ?_
        show (¬ ((f0).toInt ≠ 0)) ∧ (¬ ((cmpValue (FP.dcmp sc 0) .l).toInt ≠ 0)) ∧ own_Aft X151 hp143 _ 377 [.val (.int g0), .val (.int g1), .val (.int g2), .val (.int g3), .val (.int sh), .val (.int ex), .val (.int (1 : Int32)), .val (.int (3 : Int32)), .val (.int ex), .val (.int x1), .val (.int x2), .val (.ref ra), .val (.ref ja), .val (.double sc), .second, .val (.int f0), .val (.long y0), .second, .val (.int rr), .unset, .unset] [.int (1 : Int32)]
        refine ⟨by omega, by have := of_decide_eq_true hchk; omega, fun T152 X152 eh152 => ?_⟩
        exact own_ret X152 hx hlk eh152 hret (by first | rfl | decide) (Or.inl ⟨rfl, by simp, _, rfl⟩) (hb hby at_377) (by decide) (by decide) (⟨rfl, Fr.app (Fr.app Nf141 M1) M2⟩)
      · skip
        rw [if_neg hf] at hchk
        obtain ⟨hchk, k5⟩ := Bool.and_eq_true_iff.mp hchk
        obtain ⟨hchk, k4⟩ := Bool.and_eq_true_iff.mp hchk
        obtain ⟨hchk, k3⟩ := Bool.and_eq_true_iff.mp hchk
        obtain ⟨k1, k2⟩ := Bool.and_eq_true_iff.mp hchk
        refine own_blk dec0 seq0 hby hx hZ hown hK hF 22 [true, false, false] [] X151 eh151 ?_
        show ((f0).toInt ≠ 0) ∧ (Jvm.Free.Fl.NoNaN64 (FP.dmul 4622945017495814144 (FP.i2d rr))) ∧ (Jvm.Free.Fl.NoNaN64 (FP.dmul sc (FP.dmul 4622945017495814144 (FP.i2d rr)))) ∧ (Jvm.Free.Fl.NoNaN64 (FP.dsub (FP.dmul sc (FP.dmul 4622945017495814144 (FP.i2d rr))) (FP.l2d y0))) ∧ (¬ (0 ≤ (cmpValue (FP.dcmp (FP.dsub (FP.dmul sc (FP.dmul 4622945017495814144 (FP.i2d rr))) (FP.l2d y0)) 4472406533629990549) .g).toInt)) ∧ (¬ ((cmpValue (FP.dcmp (FP.dsub (FP.dmul sc (FP.dmul 4622945017495814144 (FP.i2d rr))) (FP.l2d y0)) 13695778570484766357) .l).toInt ≤ 0)) ∧ own_Aft X151 hp143 _ 417 [.val (.int g0), .val (.int g1), .val (.int g2), .val (.int g3), .val (.int sh), .val (.int ex), .val (.int (1 : Int32)), .val (.int (3 : Int32)), .val (.int ex), .val (.int x1), .val (.int x2), .val (.ref ra), .val (.ref ja), .val (.double sc), .second, .val (.int f0), .val (.long y0), .second, .val (.int rr), .val (.double (FP.dsub (FP.dmul sc (FP.dmul 4622945017495814144 (FP.i2d rr))) (FP.l2d y0))), .second] [.int (1 : Int32)]
        refine ⟨by omega, own_nb_e k1, own_nb_e k2, own_nb_e k3, by have := of_decide_eq_true k4; omega, by have := of_decide_eq_true k5; omega, fun T153 X153 eh153 => ?_⟩
        exact own_ret X153 hx hlk eh153 hret (by first | rfl | decide) (Or.inl ⟨rfl, by simp, _, rfl⟩) (hb hby at_417) (by decide) (by decide) (⟨rfl, Fr.app (Fr.app Nf141 M1) M2⟩)
  · skip
    obtain rfl : nn = (2 : Int32) := Int32.toInt_inj.mp hn
    show own_Go p.tables e below _ (T1.setTop (mkF m 34 (Array.mk [.val (.int g0), .val (.int g1), .val (.int g2), .val (.int g3), .val (.int sh), .val (.int ex), .val (.int (2 : Int32)), .val (.int ee), .val (.int ex), .val (.int x1), .val (.int x2), .unset, .unset, .unset, .unset, .unset, .unset, .unset, .unset, .unset, .unset]) []))
    refine own_blk dec0 seq0 hby hx hZ hown hK hF 1 [] [] X1 eh1 ?_
    show own_Aft X1 h0 _ 36 [.val (.int g0), .val (.int g1), .val (.int g2), .val (.int g3), .val (.int sh), .val (.int ex), .val (.int (2 : Int32)), .val (.int ee), .val (.int ex), .val (.int x1), .val (.int x2), .unset, .unset, .unset, .unset, .unset, .unset, .unset, .unset, .unset, .unset] [.int (2 : Int32)]
    refine fun T154 X154 eh154 => ?_
    refine own_newP X154 hx hZ (hw _ (List.mem_of_getElem? (i := 1) rfl)) eh154 2 rfl (cap := 2) (by decide) (by decide) (hb hby at_36) (by decide) (by decide) (fun T155 hp155 ra ga155 X155 eh155 Ex155 Ar155 => ?_)
    have nw_ra : n0 ≤ ra := by rw [ga155]; exact Z0
    have Z_155 : n0 ≤ hp155.size := Nat.le_trans Z0 Ex155.1
    have Ar155' : own_A Z hp155 ra .int [.int (0 : Int32), .int (0 : Int32)] := Ar155
    show own_Go p.tables e below _ (T155.setTop (mkF m 38 (Array.mk [.val (.int g0), .val (.int g1), .val (.int g2), .val (.int g3), .val (.int sh), .val (.int ex), .val (.int (2 : Int32)), .val (.int ee), .val (.int ex), .val (.int x1), .val (.int x2), .unset, .unset, .unset, .unset, .unset, .unset, .unset, .unset, .unset, .unset]) [.ref ra]))
    refine own_blk dec0 seq0 hby hx hZ hown hK hF 6 [false] [] X155 eh155 ?_
    show (¬ (((2 : Int32)).toInt ≤ 0)) ∧ own_Aft X155 hp155 _ 49 [.val (.int g0), .val (.int g1), .val (.int g2), .val (.int g3), .val (.int sh), .val (.int ex), .val (.int (2 : Int32)), .val (.int ee), .val (.int ex), .val (.int x1), .val (.int x2), .val (.ref ra), .unset, .unset, .unset, .unset, .unset, .unset, .unset, .unset, .unset] [.int g0, .int (0 : Int32), .ref ra]
    refine ⟨by decide, fun T156 X156 eh156 => ?_⟩
    refine own_sI X156 hx hZ eh156 Ar155' 0 rfl (by show 0 < 2; decide) (hb hby at_49) (fun T157 hp157 X157 eh157 Wr157 Ar157 => ?_)
    have Ar157' : own_A Z hp157 ra .int [.int g0, .int (0 : Int32)] := Ar157
    have Nf157 := Fr.snoc X157 N0 nw_ra
    have Z_157 : n0 ≤ hp157.size := by rw [Wr.size Wr157]; exact Z_155
    refine own_blk dec0 seq0 hby hx hZ hown hK hF 6 [false] [] X157 eh157 ?_
    show (¬ (((2 : Int32)).toInt ≤ ((1 : Int32)).toInt)) ∧ own_Aft X157 hp157 _ 60 [.val (.int g0), .val (.int g1), .val (.int g2), .val (.int g3), .val (.int sh), .val (.int ex), .val (.int (2 : Int32)), .val (.int ee), .val (.int ex), .val (.int x1), .val (.int x2), .val (.ref ra), .unset, .unset, .unset, .unset, .unset, .unset, .unset, .unset, .unset] [.int g1, .int (1 : Int32), .ref ra]
    refine ⟨by decide, fun T158 X158 eh158 => ?_⟩
    refine own_sI X158 hx hZ eh158 Ar157' 1 rfl (by show 1 < 2; decide) (hb hby at_60) (fun T159 hp159 X159 eh159 Wr159 Ar159 => ?_)
    have Ar159' : own_A Z hp159 ra .int [.int g0, .int g1] := Ar159
    have Nf159 := Fr.snoc X159 Nf157 nw_ra
    have Z_159 : n0 ≤ hp159.size := by rw [Wr.size Wr159]; exact Z_157
    refine own_blk dec0 seq0 hby hx hZ hown hK hF 6 [true, true] [] X159 eh159 ?_
    show (((2 : Int32)).toInt ≤ ((2 : Int32)).toInt) ∧ (((2 : Int32)).toInt ≤ ((3 : Int32)).toInt) ∧ own_Aft X159 hp159 _ 83 [.val (.int g0), .val (.int g1), .val (.int g2), .val (.int g3), .val (.int sh), .val (.int ex), .val (.int (2 : Int32)), .val (.int ee), .val (.int ex), .val (.int x1), .val (.int x2), .val (.ref ra), .unset, .unset, .unset, .unset, .unset, .unset, .unset, .unset, .unset] []
    refine ⟨by decide, by decide, fun T160 X160 eh160 => ?_⟩
    obtain he | he | he | he : ee.toInt = (0 : Int32).toInt ∨ ee.toInt = (1 : Int32).toInt ∨ ee.toInt = (2 : Int32).toInt ∨ ee.toInt = (3 : Int32).toInt := by show ee.toInt = 0 ∨ ee.toInt = 1 ∨ ee.toInt = 2 ∨ ee.toInt = 3; omega
    · skip
      obtain rfl : ee = (0 : Int32) := Int32.toInt_inj.mp he
      show own_Go p.tables e below _ (T160.setTop (mkF m 83 (Array.mk [.val (.int g0), .val (.int g1), .val (.int g2), .val (.int g3), .val (.int sh), .val (.int ex), .val (.int (2 : Int32)), .val (.int (0 : Int32)), .val (.int ex), .val (.int x1), .val (.int x2), .val (.ref ra), .unset, .unset, .unset, .unset, .unset, .unset, .unset, .unset, .unset]) []))
      refine own_blk dec0 seq0 hby hx hZ hown hK hF 3 [] [] X160 eh160 ?_
      show own_Aft X160 hp159 _ 88 [.val (.int g0), .val (.int g1), .val (.int g2), .val (.int g3), .val (.int sh), .val (.int ex), .val (.int (2 : Int32)), .val (.int (0 : Int32)), .val (.int ex), .val (.int x1), .val (.int x2), .val (.ref ra), .unset, .unset, .unset, .unset, .unset, .unset, .unset, .unset, .unset] [.int (2 : Int32)]
      refine fun T161 X161 eh161 => ?_
      refine own_newP X161 hx hZ (hw _ (List.mem_of_getElem? (i := 1) rfl)) eh161 2 rfl (cap := 2) (by decide) (by decide) (hb hby at_88) (by decide) (by decide) (fun T162 hp162 ja ga162 X162 eh162 Ex162 Ar162 => ?_)
      have ne_ra_ja : ra ≠ ja := fun q => absurd Ar159'.lt (by rw [q, ga162]; exact Nat.lt_irrefl _)
      have nw_ja : n0 ≤ ja := by rw [ga162]; exact Z_159
      have Ar159'_162 := Ar159'.ext Ex162
      have Z_162 : n0 ≤ hp162.size := Nat.le_trans Z_159 Ex162.1
      have Ar162' : own_A Z hp162 ja .int [.int (0 : Int32), .int (0 : Int32)] := Ar162
      show own_Go p.tables e below _ (T162.setTop (mkF m 90 (Array.mk [.val (.int g0), .val (.int g1), .val (.int g2), .val (.int g3), .val (.int sh), .val (.int ex), .val (.int (2 : Int32)), .val (.int (0 : Int32)), .val (.int ex), .val (.int x1), .val (.int x2), .val (.ref ra), .unset, .unset, .unset, .unset, .unset, .unset, .unset, .unset, .unset]) [.ref ja]))
      refine own_blk dec0 seq0 hby hx hZ hown hK hF 14 [true, true, true, false] [] X162 eh162 ?_
      show (((0 : Int32)).toInt ≤ 0) ∧ (((0 : Int32)).toInt ≤ ((1 : Int32)).toInt) ∧ (((0 : Int32)).toInt ≤ ((2 : Int32)).toInt) ∧ (¬ (((2 : Int32)).toInt ≤ 0)) ∧ own_Aft X162 hp162 _ 137 [.val (.int g0), .val (.int g1), .val (.int g2), .val (.int g3), .val (.int sh), .val (.int ex), .val (.int (2 : Int32)), .val (.int (0 : Int32)), .val (.int ex), .val (.int x1), .val (.int x2), .val (.ref ra), .val (.ref ja), .unset, .unset, .unset, .unset, .unset, .unset, .unset, .unset] [.int g0, .int (0 : Int32), .ref ja]
      refine ⟨by decide, by decide, by decide, by decide, fun T163 X163 eh163 => ?_⟩
      refine own_sI X163 hx hZ eh163 Ar162' 0 rfl (by show 0 < 2; decide) (hb hby at_137) (fun T164 hp164 X164 eh164 Wr164 Ar164 => ?_)
      have Ar164' : own_A Z hp164 ja .int [.int g0, .int (0 : Int32)] := Ar164
      have Ar159'_164 := Ar159'_162.other Wr164 ne_ra_ja
      have Nf164 := Fr.snoc X164 Nf159 nw_ja
      have Z_164 : n0 ≤ hp164.size := by rw [Wr.size Wr164]; exact Z_162
      refine own_blk dec0 seq0 hby hx hZ hown hK hF 8 [false] [] X164 eh164 ?_
      show (¬ (((2 : Int32)).toInt ≤ ((1 : Int32)).toInt)) ∧ own_Aft X164 hp164 _ 151 [.val (.int g0), .val (.int g1), .val (.int g2), .val (.int g3), .val (.int sh), .val (.int ex), .val (.int (2 : Int32)), .val (.int (0 : Int32)), .val (.int ex), .val (.int x1), .val (.int x2), .val (.ref ra), .val (.ref ja), .unset, .unset, .unset, .unset, .unset, .unset, .unset, .unset] [.int g1, .int (1 : Int32), .ref ja]
      refine ⟨by decide, fun T165 X165 eh165 => ?_⟩
      refine own_sI X165 hx hZ eh165 Ar164' 1 rfl (by show 1 < 2; decide) (hb hby at_151) (fun T166 hp166 X166 eh166 Wr166 Ar166 => ?_)
      have Ar166' : own_A Z hp166 ja .int [.int g0, .int g1] := Ar166
      have Ar159'_166 := Ar159'_164.other Wr166 ne_ra_ja
      have Nf166 := Fr.snoc X166 Nf164 nw_ja
      have Z_166 : n0 ≤ hp166.size := by rw [Wr.size Wr166]; exact Z_164
      refine own_blk dec0 seq0 hby hx hZ hown hK hF 6 [true, true] [] X166 eh166 ?_
      show (((2 : Int32)).toInt ≤ ((2 : Int32)).toInt) ∧ (((2 : Int32)).toInt ≤ ((3 : Int32)).toInt) ∧ own_Aft X166 hp166 _ 180 [.val (.int g0), .val (.int g1), .val (.int g2), .val (.int g3), .val (.int sh), .val (.int ex), .val (.int (2 : Int32)), .val (.int (0 : Int32)), .val (.int ex), .val (.int x1), .val (.int x2), .val (.ref ra), .val (.ref ja), .unset, .unset, .unset, .unset, .unset, .unset, .unset, .unset] []
      refine ⟨by decide, by decide, fun T167 X167 eh167 => ?_⟩
      refine own_new X167 hx hZ hown (hw _ (List.mem_of_getElem? (i := 2) rfl)) (hw _ (List.mem_of_getElem? (i := 3) rfl)) (hw _ (List.mem_of_getElem? (i := 4) rfl)) eh167 (hb hby at_180) (by decide) (by decide) (fun T168 hp168 ao ga168 X168 eh168 Ex168 Ea168 Dn168 => ?_)
      have ne_ra_ao : ra ≠ ao := fun q => absurd Ar159'_166.lt (by rw [q, ga168]; exact Nat.lt_irrefl _)
      have ne_ja_ao : ja ≠ ao := fun q => absurd Ar166'.lt (by rw [q, ga168]; exact Nat.lt_irrefl _)
      have nw_ao : n0 ≤ ao := by rw [ga168]; exact Z_166
      have Ar159'_168 := Ar159'_166.ext Ex168
      have Ar166'_168 := Ar166'.ext Ex168
      have Z_168 : n0 ≤ hp168.size := Nat.le_trans Z_166 Ex168.1
      show own_Go p.tables e below _ (T168.setTop (mkF m 183 (Array.mk [.val (.int g0), .val (.int g1), .val (.int g2), .val (.int g3), .val (.int sh), .val (.int ex), .val (.int (2 : Int32)), .val (.int (0 : Int32)), .val (.int ex), .val (.int x1), .val (.int x2), .val (.ref ra), .val (.ref ja), .unset, .unset, .unset, .unset, .unset, .unset, .unset, .unset]) [.ref ao]))
      refine own_blk dec0 seq0 hby hx hZ hown hK hF 1 [] [] X168 eh168 ?_
      show own_Aft X168 hp168 _ 184 [.val (.int g0), .val (.int g1), .val (.int g2), .val (.int g3), .val (.int sh), .val (.int ex), .val (.int (2 : Int32)), .val (.int (0 : Int32)), .val (.int ex), .val (.int x1), .val (.int x2), .val (.ref ra), .val (.ref ja), .unset, .unset, .unset, .unset, .unset, .unset, .unset, .unset] [.ref ao, .ref ao]
      refine fun T169 X169 eh169 => ?_
      refine own_callI X169 hx hZ hown rfl (hw _ (List.mem_of_getElem? (i := 5) rfl)) (hw _ (List.mem_of_getElem? (i := 6) rfl)) (hw _ (List.mem_of_getElem? (i := 4) rfl)) (hw _ (List.mem_of_getElem? (i := 7) rfl)) (by decide) eh169 ao [] pd1 rfl (rm := ({ frames := 1, cells := 0, slots := 0, locals := 12 } : Room)) (rm1 l Z a0 hw [] ao hp168 n0 Z_168) (by rw [hml]; rfl) 1 rfl (Nat.le_of_eq rfl) (hb hby at_184) (by decide) (by decide) (by decide) (by decide) (fun T170 rv170 Lc170 X170 qc170 => ?_)
      obtain ⟨rfl, M1, hh⟩ := qc170
      show own_Go p.tables e below _ (T170.setTop (mkF m 187 (Array.mk [.val (.int g0), .val (.int g1), .val (.int g2), .val (.int g3), .val (.int sh), .val (.int ex), .val (.int (2 : Int32)), .val (.int (0 : Int32)), .val (.int ex), .val (.int x1), .val (.int x2), .val (.ref ra), .val (.ref ja), .unset, .unset, .unset, .unset, .unset, .unset, .unset, .unset]) [.ref ao]))
      refine own_blk dec0 seq0 hby hx hZ hown hK hF 2 [] [] X170 hh ?_
      show own_Aft X170 hp168 _ 191 [.val (.int g0), .val (.int g1), .val (.int g2), .val (.int g3), .val (.int sh), .val (.int ex), .val (.int (2 : Int32)), .val (.int (0 : Int32)), .val (.int ex), .val (.int x1), .val (.int x2), .val (.ref ra), .val (.ref ja), .unset, .unset, .unset, .unset, .unset, .unset, .unset, .unset] [.ref ja, .ref ra, .ref ao]
      refine fun T171 X171 eh171 => ?_
      obtain ⟨b0, hb0⟩ : ∃ b : Bool, (0 < g0.toInt ↔ b = true) := ⟨decide (0 < g0.toInt), by simp⟩
      obtain ⟨b1, hb1⟩ : ∃ b : Bool, (0 < g1.toInt ↔ b = true) := ⟨decide (0 < g1.toInt), by simp⟩
      obtain ⟨hrok, hchk⟩ := Bool.and_eq_true_iff.mp (own_chk_2_0 b0 b1)
      refine own_callV X171 hx hZ hown (hw _ (List.mem_of_getElem? (i := 11) rfl)) (hw _ (List.mem_of_getElem? (i := 12) rfl)) (hw _ (List.mem_of_getElem? (i := 14) rfl)) (hw _ (List.mem_of_getElem? (i := 13) rfl)) (hw _ (List.mem_of_getElem? (i := 4) rfl)) (hw _ (List.mem_of_getElem? (i := 15) rfl)) (by decide) eh171 Ea168 [.ref ra, .ref ja] pd3 rfl (rm := ({ frames := 0, cells := 0, slots := 0, locals := 0 } : Room)) (rm3_2_2 l Z a0 hw [] ao ra ja g0 g1 g0 g1 b0 b1 b0 b1 hp168 n0 Z_168 Ar159'_168 Ar166'_168 hb0 hb1 hb0 hb1 hrok) (by rw [hml]; rfl) 0 rfl (Nat.le_of_eq rfl) (hb hby at_191) (by decide) (by decide) (by decide) (by decide) (fun T172 rv172 Lc172 X172 qc172 => ?_)
      obtain ⟨rfl, M2, hh2⟩ := qc172
      have hres : own_res [b0, b1] ([] ++ [b0, b1]) = own_res [b0, b1] [b0, b1] := rfl
      generalize own_res [b0, b1] [b0, b1] = sc at hres ⊢
      show own_Go p.tables e below _ (T172.setTop (mkF m 194 (Array.mk [.val (.int g0), .val (.int g1), .val (.int g2), .val (.int g3), .val (.int sh), .val (.int ex), .val (.int (2 : Int32)), .val (.int (0 : Int32)), .val (.int ex), .val (.int x1), .val (.int x2), .val (.ref ra), .val (.ref ja), .unset, .unset, .unset, .unset, .unset, .unset, .unset, .unset]) [.double sc]))
      refine own_blk dec0 seq0 hby hx hZ hown hK hF 5 [] [] X172 hh2 ?_
      show own_Aft X172 hp168 _ 202 [.val (.int g0), .val (.int g1), .val (.int g2), .val (.int g3), .val (.int sh), .val (.int ex), .val (.int (2 : Int32)), .val (.int (0 : Int32)), .val (.int ex), .val (.int x1), .val (.int x2), .val (.ref ra), .val (.ref ja), .val (.double sc), .second, .val (.int (0 : Int32)), .val (.long (0 : Int64)), .second, .unset, .unset, .unset] []
      refine fun T173 X173 eh173 => ?_
      refine ptC_2 X173 hx hby hml hown hZ hK hF eh173 _ _ _ _ _ _ _ _ _ _ _ _ _ g0 g1 g2 g3 b0 b1 hb0 hb1 (fun f0 y0 HF T174 X174 eh174 => ?_)
      show own_Go p.tables e below _ (T174.setTop (mkF m 315 (Array.mk [.val (.int g0), .val (.int g1), .val (.int g2), .val (.int g3), .val (.int sh), .val (.int ex), .val (.int (2 : Int32)), .val (.int (0 : Int32)), .val (.int ex), .val (.int x1), .val (.int x2), .val (.ref ra), .val (.ref ja), .val (.double sc), .second, .val (.int f0), .val (.long y0), .second, .unset, .unset, .unset]) []))
      refine own_blk dec0 seq0 hby hx hZ hown hK hF 2 [] [] X174 eh174 ?_
      show own_Aft X174 hp168 _ 319 [.val (.int g0), .val (.int g1), .val (.int g2), .val (.int g3), .val (.int sh), .val (.int ex), .val (.int (2 : Int32)), .val (.int (0 : Int32)), .val (.int ex), .val (.int x1), .val (.int x2), .val (.ref ra), .val (.ref ja), .val (.double sc), .second, .val (.int f0), .val (.long y0), .second, .val (.int f0), .unset, .unset] []
      refine fun T175 X175 eh175 => ?_
      refine ptD_0 X175 hx hby hml hown hZ hK hF eh175 _ _ _ _ _ _ _ _ _ _ _ _ _ _ _ _ ex x1 x2 f0   (fun rr CF T176 X176 eh176 => ?_)
      show own_Go p.tables e below _ (T176.setTop (mkF m 360 (Array.mk [.val (.int g0), .val (.int g1), .val (.int g2), .val (.int g3), .val (.int sh), .val (.int ex), .val (.int (2 : Int32)), .val (.int (0 : Int32)), .val (.int ex), .val (.int x1), .val (.int x2), .val (.ref ra), .val (.ref ja), .val (.double sc), .second, .val (.int f0), .val (.long y0), .second, .val (.int rr), .unset, .unset]) []))
      unfold own_dif at hchk
      rw [hres, HF] at hchk
      dsimp only at hchk
      rw [CF] at hchk
      by_cases hf : f0.toInt = 0
      · skip
        rw [if_pos hf] at hchk
        refine own_blk dec0 seq0 hby hx hZ hown hK hF 8 [false, false] [] X176 eh176 ?_
        show (¬ ((f0).toInt ≠ 0)) ∧ (¬ ((cmpValue (FP.dcmp sc 0) .l).toInt ≠ 0)) ∧ own_Aft X176 hp168 _ 377 [.val (.int g0), .val (.int g1), .val (.int g2), .val (.int g3), .val (.int sh), .val (.int ex), .val (.int (2 : Int32)), .val (.int (0 : Int32)), .val (.int ex), .val (.int x1), .val (.int x2), .val (.ref ra), .val (.ref ja), .val (.double sc), .second, .val (.int f0), .val (.long y0), .second, .val (.int rr), .unset, .unset] [.int (1 : Int32)]
        refine ⟨by omega, by have := of_decide_eq_true hchk; omega, fun T177 X177 eh177 => ?_⟩
        exact own_ret X177 hx hlk eh177 hret (by first | rfl | decide) (Or.inl ⟨rfl, by simp, _, rfl⟩) (hb hby at_377) (by decide) (by decide) (⟨rfl, Fr.app (Fr.app Nf166 M1) M2⟩)
      · skip
        rw [if_neg hf] at hchk
        obtain ⟨hchk, k5⟩ := Bool.and_eq_true_iff.mp hchk
        obtain ⟨hchk, k4⟩ := Bool.and_eq_true_iff.mp hchk
        obtain ⟨hchk, k3⟩ := Bool.and_eq_true_iff.mp hchk
        obtain ⟨k1, k2⟩ := Bool.and_eq_true_iff.mp hchk
        refine own_blk dec0 seq0 hby hx hZ hown hK hF 22 [true, false, false] [] X176 eh176 ?_
        show ((f0).toInt ≠ 0) ∧ (Jvm.Free.Fl.NoNaN64 (FP.dmul 4622945017495814144 (FP.i2d rr))) ∧ (Jvm.Free.Fl.NoNaN64 (FP.dmul sc (FP.dmul 4622945017495814144 (FP.i2d rr)))) ∧ (Jvm.Free.Fl.NoNaN64 (FP.dsub (FP.dmul sc (FP.dmul 4622945017495814144 (FP.i2d rr))) (FP.l2d y0))) ∧ (¬ (0 ≤ (cmpValue (FP.dcmp (FP.dsub (FP.dmul sc (FP.dmul 4622945017495814144 (FP.i2d rr))) (FP.l2d y0)) 4472406533629990549) .g).toInt)) ∧ (¬ ((cmpValue (FP.dcmp (FP.dsub (FP.dmul sc (FP.dmul 4622945017495814144 (FP.i2d rr))) (FP.l2d y0)) 13695778570484766357) .l).toInt ≤ 0)) ∧ own_Aft X176 hp168 _ 417 [.val (.int g0), .val (.int g1), .val (.int g2), .val (.int g3), .val (.int sh), .val (.int ex), .val (.int (2 : Int32)), .val (.int (0 : Int32)), .val (.int ex), .val (.int x1), .val (.int x2), .val (.ref ra), .val (.ref ja), .val (.double sc), .second, .val (.int f0), .val (.long y0), .second, .val (.int rr), .val (.double (FP.dsub (FP.dmul sc (FP.dmul 4622945017495814144 (FP.i2d rr))) (FP.l2d y0))), .second] [.int (1 : Int32)]
        refine ⟨by omega, own_nb_e k1, own_nb_e k2, own_nb_e k3, by have := of_decide_eq_true k4; omega, by have := of_decide_eq_true k5; omega, fun T178 X178 eh178 => ?_⟩
        exact own_ret X178 hx hlk eh178 hret (by first | rfl | decide) (Or.inl ⟨rfl, by simp, _, rfl⟩) (hb hby at_417) (by decide) (by decide) (⟨rfl, Fr.app (Fr.app Nf166 M1) M2⟩)
    · skip
      obtain rfl : ee = (1 : Int32) := Int32.toInt_inj.mp he
      show own_Go p.tables e below _ (T160.setTop (mkF m 83 (Array.mk [.val (.int g0), .val (.int g1), .val (.int g2), .val (.int g3), .val (.int sh), .val (.int ex), .val (.int (2 : Int32)), .val (.int (1 : Int32)), .val (.int ex), .val (.int x1), .val (.int x2), .val (.ref ra), .unset, .unset, .unset, .unset, .unset, .unset, .unset, .unset, .unset]) []))
      refine own_blk dec0 seq0 hby hx hZ hown hK hF 3 [] [] X160 eh160 ?_
      show own_Aft X160 hp159 _ 88 [.val (.int g0), .val (.int g1), .val (.int g2), .val (.int g3), .val (.int sh), .val (.int ex), .val (.int (2 : Int32)), .val (.int (1 : Int32)), .val (.int ex), .val (.int x1), .val (.int x2), .val (.ref ra), .unset, .unset, .unset, .unset, .unset, .unset, .unset, .unset, .unset] [.int (3 : Int32)]
      refine fun T179 X179 eh179 => ?_
      refine own_newP X179 hx hZ (hw _ (List.mem_of_getElem? (i := 1) rfl)) eh179 3 rfl (cap := 3) (by decide) (by decide) (hb hby at_88) (by decide) (by decide) (fun T180 hp180 ja ga180 X180 eh180 Ex180 Ar180 => ?_)
      have ne_ra_ja : ra ≠ ja := fun q => absurd Ar159'.lt (by rw [q, ga180]; exact Nat.lt_irrefl _)
      have nw_ja : n0 ≤ ja := by rw [ga180]; exact Z_159
      have Ar159'_180 := Ar159'.ext Ex180
      have Z_180 : n0 ≤ hp180.size := Nat.le_trans Z_159 Ex180.1
      have Ar180' : own_A Z hp180 ja .int [.int (0 : Int32), .int (0 : Int32), .int (0 : Int32)] := Ar180
      show own_Go p.tables e below _ (T180.setTop (mkF m 90 (Array.mk [.val (.int g0), .val (.int g1), .val (.int g2), .val (.int g3), .val (.int sh), .val (.int ex), .val (.int (2 : Int32)), .val (.int (1 : Int32)), .val (.int ex), .val (.int x1), .val (.int x2), .val (.ref ra), .unset, .unset, .unset, .unset, .unset, .unset, .unset, .unset, .unset]) [.ref ja]))
      refine own_blk dec0 seq0 hby hx hZ hown hK hF 6 [false] [] X180 eh180 ?_
      show (¬ (((1 : Int32)).toInt ≤ 0)) ∧ own_Aft X180 hp180 _ 102 [.val (.int g0), .val (.int g1), .val (.int g2), .val (.int g3), .val (.int sh), .val (.int ex), .val (.int (2 : Int32)), .val (.int (1 : Int32)), .val (.int ex), .val (.int x1), .val (.int x2), .val (.ref ra), .val (.ref ja), .unset, .unset, .unset, .unset, .unset, .unset, .unset, .unset] [.int ex, .int (0 : Int32), .ref ja]
      refine ⟨by decide, fun T181 X181 eh181 => ?_⟩
      refine own_sI X181 hx hZ eh181 Ar180' 0 rfl (by show 0 < 3; decide) (hb hby at_102) (fun T182 hp182 X182 eh182 Wr182 Ar182 => ?_)
      have Ar182' : own_A Z hp182 ja .int [.int ex, .int (0 : Int32), .int (0 : Int32)] := Ar182
      have Ar159'_182 := Ar159'_180.other Wr182 ne_ra_ja
      have Nf182 := Fr.snoc X182 Nf159 nw_ja
      have Z_182 : n0 ≤ hp182.size := by rw [Wr.size Wr182]; exact Z_180
      refine own_blk dec0 seq0 hby hx hZ hown hK hF 11 [true, true, false] [] X182 eh182 ?_
      show (((1 : Int32)).toInt ≤ ((1 : Int32)).toInt) ∧ (((1 : Int32)).toInt ≤ ((2 : Int32)).toInt) ∧ (¬ (((2 : Int32)).toInt ≤ 0)) ∧ own_Aft X182 hp182 _ 137 [.val (.int g0), .val (.int g1), .val (.int g2), .val (.int g3), .val (.int sh), .val (.int ex), .val (.int (2 : Int32)), .val (.int (1 : Int32)), .val (.int ex), .val (.int x1), .val (.int x2), .val (.ref ra), .val (.ref ja), .unset, .unset, .unset, .unset, .unset, .unset, .unset, .unset] [.int g0, .int (1 : Int32), .ref ja]
      refine ⟨by decide, by decide, by decide, fun T183 X183 eh183 => ?_⟩
      refine own_sI X183 hx hZ eh183 Ar182' 1 rfl (by show 1 < 3; decide) (hb hby at_137) (fun T184 hp184 X184 eh184 Wr184 Ar184 => ?_)
      have Ar184' : own_A Z hp184 ja .int [.int ex, .int g0, .int (0 : Int32)] := Ar184
      have Ar159'_184 := Ar159'_182.other Wr184 ne_ra_ja
      have Nf184 := Fr.snoc X184 Nf182 nw_ja
      have Z_184 : n0 ≤ hp184.size := by rw [Wr.size Wr184]; exact Z_182
      refine own_blk dec0 seq0 hby hx hZ hown hK hF 8 [false] [] X184 eh184 ?_
      show (¬ (((2 : Int32)).toInt ≤ ((1 : Int32)).toInt)) ∧ own_Aft X184 hp184 _ 151 [.val (.int g0), .val (.int g1), .val (.int g2), .val (.int g3), .val (.int sh), .val (.int ex), .val (.int (2 : Int32)), .val (.int (1 : Int32)), .val (.int ex), .val (.int x1), .val (.int x2), .val (.ref ra), .val (.ref ja), .unset, .unset, .unset, .unset, .unset, .unset, .unset, .unset] [.int g1, .int (2 : Int32), .ref ja]
      refine ⟨by decide, fun T185 X185 eh185 => ?_⟩
      refine own_sI X185 hx hZ eh185 Ar184' 2 rfl (by show 2 < 3; decide) (hb hby at_151) (fun T186 hp186 X186 eh186 Wr186 Ar186 => ?_)
      have Ar186' : own_A Z hp186 ja .int [.int ex, .int g0, .int g1] := Ar186
      have Ar159'_186 := Ar159'_184.other Wr186 ne_ra_ja
      have Nf186 := Fr.snoc X186 Nf184 nw_ja
      have Z_186 : n0 ≤ hp186.size := by rw [Wr.size Wr186]; exact Z_184
      refine own_blk dec0 seq0 hby hx hZ hown hK hF 6 [true, true] [] X186 eh186 ?_
      show (((2 : Int32)).toInt ≤ ((2 : Int32)).toInt) ∧ (((2 : Int32)).toInt ≤ ((3 : Int32)).toInt) ∧ own_Aft X186 hp186 _ 180 [.val (.int g0), .val (.int g1), .val (.int g2), .val (.int g3), .val (.int sh), .val (.int ex), .val (.int (2 : Int32)), .val (.int (1 : Int32)), .val (.int ex), .val (.int x1), .val (.int x2), .val (.ref ra), .val (.ref ja), .unset, .unset, .unset, .unset, .unset, .unset, .unset, .unset] []
      refine ⟨by decide, by decide, fun T187 X187 eh187 => ?_⟩
      refine own_new X187 hx hZ hown (hw _ (List.mem_of_getElem? (i := 2) rfl)) (hw _ (List.mem_of_getElem? (i := 3) rfl)) (hw _ (List.mem_of_getElem? (i := 4) rfl)) eh187 (hb hby at_180) (by decide) (by decide) (fun T188 hp188 ao ga188 X188 eh188 Ex188 Ea188 Dn188 => ?_)
      have ne_ra_ao : ra ≠ ao := fun q => absurd Ar159'_186.lt (by rw [q, ga188]; exact Nat.lt_irrefl _)
      have ne_ja_ao : ja ≠ ao := fun q => absurd Ar186'.lt (by rw [q, ga188]; exact Nat.lt_irrefl _)
      have nw_ao : n0 ≤ ao := by rw [ga188]; exact Z_186
      have Ar159'_188 := Ar159'_186.ext Ex188
      have Ar186'_188 := Ar186'.ext Ex188
      have Z_188 : n0 ≤ hp188.size := Nat.le_trans Z_186 Ex188.1
      show own_Go p.tables e below _ (T188.setTop (mkF m 183 (Array.mk [.val (.int g0), .val (.int g1), .val (.int g2), .val (.int g3), .val (.int sh), .val (.int ex), .val (.int (2 : Int32)), .val (.int (1 : Int32)), .val (.int ex), .val (.int x1), .val (.int x2), .val (.ref ra), .val (.ref ja), .unset, .unset, .unset, .unset, .unset, .unset, .unset, .unset]) [.ref ao]))
      refine own_blk dec0 seq0 hby hx hZ hown hK hF 1 [] [] X188 eh188 ?_
      show own_Aft X188 hp188 _ 184 [.val (.int g0), .val (.int g1), .val (.int g2), .val (.int g3), .val (.int sh), .val (.int ex), .val (.int (2 : Int32)), .val (.int (1 : Int32)), .val (.int ex), .val (.int x1), .val (.int x2), .val (.ref ra), .val (.ref ja), .unset, .unset, .unset, .unset, .unset, .unset, .unset, .unset] [.ref ao, .ref ao]
      refine fun T189 X189 eh189 => ?_
      refine own_callI X189 hx hZ hown rfl (hw _ (List.mem_of_getElem? (i := 5) rfl)) (hw _ (List.mem_of_getElem? (i := 6) rfl)) (hw _ (List.mem_of_getElem? (i := 4) rfl)) (hw _ (List.mem_of_getElem? (i := 7) rfl)) (by decide) eh189 ao [] pd1 rfl (rm := ({ frames := 1, cells := 0, slots := 0, locals := 12 } : Room)) (rm1 l Z a0 hw [] ao hp188 n0 Z_188) (by rw [hml]; rfl) 1 rfl (Nat.le_of_eq rfl) (hb hby at_184) (by decide) (by decide) (by decide) (by decide) (fun T190 rv190 Lc190 X190 qc190 => ?_)
      obtain ⟨rfl, M1, hh⟩ := qc190
      show own_Go p.tables e below _ (T190.setTop (mkF m 187 (Array.mk [.val (.int g0), .val (.int g1), .val (.int g2), .val (.int g3), .val (.int sh), .val (.int ex), .val (.int (2 : Int32)), .val (.int (1 : Int32)), .val (.int ex), .val (.int x1), .val (.int x2), .val (.ref ra), .val (.ref ja), .unset, .unset, .unset, .unset, .unset, .unset, .unset, .unset]) [.ref ao]))
      refine own_blk dec0 seq0 hby hx hZ hown hK hF 2 [] [] X190 hh ?_
      show own_Aft X190 hp188 _ 191 [.val (.int g0), .val (.int g1), .val (.int g2), .val (.int g3), .val (.int sh), .val (.int ex), .val (.int (2 : Int32)), .val (.int (1 : Int32)), .val (.int ex), .val (.int x1), .val (.int x2), .val (.ref ra), .val (.ref ja), .unset, .unset, .unset, .unset, .unset, .unset, .unset, .unset] [.ref ja, .ref ra, .ref ao]
      refine fun T191 X191 eh191 => ?_
      obtain ⟨b0, hb0⟩ : ∃ b : Bool, (0 < g0.toInt ↔ b = true) := ⟨decide (0 < g0.toInt), by simp⟩
      obtain ⟨b1, hb1⟩ : ∃ b : Bool, (0 < g1.toInt ↔ b = true) := ⟨decide (0 < g1.toInt), by simp⟩
      obtain ⟨c0, hc0⟩ : ∃ b : Bool, (0 < ex.toInt ↔ b = true) := ⟨decide (0 < ex.toInt), by simp⟩
      obtain ⟨hrok, hchk⟩ := Bool.and_eq_true_iff.mp (own_chk_2_1 b0 b1 c0)
      refine own_callV X191 hx hZ hown (hw _ (List.mem_of_getElem? (i := 11) rfl)) (hw _ (List.mem_of_getElem? (i := 12) rfl)) (hw _ (List.mem_of_getElem? (i := 14) rfl)) (hw _ (List.mem_of_getElem? (i := 13) rfl)) (hw _ (List.mem_of_getElem? (i := 4) rfl)) (hw _ (List.mem_of_getElem? (i := 15) rfl)) (by decide) eh191 Ea188 [.ref ra, .ref ja] pd3 rfl (rm := ({ frames := 0, cells := 0, slots := 0, locals := 0 } : Room)) (rm3_2_3 l Z a0 hw [] ao ra ja g0 g1 ex g0 g1 b0 b1 c0 b0 b1 hp188 n0 Z_188 Ar159'_188 Ar186'_188 hb0 hb1 hc0 hb0 hb1 hrok) (by rw [hml]; rfl) 0 rfl (Nat.le_of_eq rfl) (hb hby at_191) (by decide) (by decide) (by decide) (by decide) (fun T192 rv192 Lc192 X192 qc192 => ?_)
      obtain ⟨rfl, M2, hh2⟩ := qc192
      have hres : own_res [b0, b1] ([c0] ++ [b0, b1]) = own_res [b0, b1] [c0, b0, b1] := rfl
      generalize own_res [b0, b1] [c0, b0, b1] = sc at hres ⊢
      show own_Go p.tables e below _ (T192.setTop (mkF m 194 (Array.mk [.val (.int g0), .val (.int g1), .val (.int g2), .val (.int g3), .val (.int sh), .val (.int ex), .val (.int (2 : Int32)), .val (.int (1 : Int32)), .val (.int ex), .val (.int x1), .val (.int x2), .val (.ref ra), .val (.ref ja), .unset, .unset, .unset, .unset, .unset, .unset, .unset, .unset]) [.double sc]))
      refine own_blk dec0 seq0 hby hx hZ hown hK hF 5 [] [] X192 hh2 ?_
      show own_Aft X192 hp188 _ 202 [.val (.int g0), .val (.int g1), .val (.int g2), .val (.int g3), .val (.int sh), .val (.int ex), .val (.int (2 : Int32)), .val (.int (1 : Int32)), .val (.int ex), .val (.int x1), .val (.int x2), .val (.ref ra), .val (.ref ja), .val (.double sc), .second, .val (.int (0 : Int32)), .val (.long (0 : Int64)), .second, .unset, .unset, .unset] []
      refine fun T193 X193 eh193 => ?_
      refine ptC_2 X193 hx hby hml hown hZ hK hF eh193 _ _ _ _ _ _ _ _ _ _ _ _ _ g0 g1 g2 g3 b0 b1 hb0 hb1 (fun f0 y0 HF T194 X194 eh194 => ?_)
      show own_Go p.tables e below _ (T194.setTop (mkF m 315 (Array.mk [.val (.int g0), .val (.int g1), .val (.int g2), .val (.int g3), .val (.int sh), .val (.int ex), .val (.int (2 : Int32)), .val (.int (1 : Int32)), .val (.int ex), .val (.int x1), .val (.int x2), .val (.ref ra), .val (.ref ja), .val (.double sc), .second, .val (.int f0), .val (.long y0), .second, .unset, .unset, .unset]) []))
      refine own_blk dec0 seq0 hby hx hZ hown hK hF 2 [] [] X194 eh194 ?_
      show own_Aft X194 hp188 _ 319 [.val (.int g0), .val (.int g1), .val (.int g2), .val (.int g3), .val (.int sh), .val (.int ex), .val (.int (2 : Int32)), .val (.int (1 : Int32)), .val (.int ex), .val (.int x1), .val (.int x2), .val (.ref ra), .val (.ref ja), .val (.double sc), .second, .val (.int f0), .val (.long y0), .second, .val (.int f0), .unset, .unset] []
      refine fun T195 X195 eh195 => ?_
      refine ptD_1 X195 hx hby hml hown hZ hK hF eh195 _ _ _ _ _ _ _ _ _ _ _ _ _ _ _ _ ex x1 x2 f0 c0 hc0 (fun rr CF T196 X196 eh196 => ?_)
      show own_Go p.tables e below _ (T196.setTop (mkF m 360 (Array.mk [.val (.int g0), .val (.int g1), .val (.int g2), .val (.int g3), .val (.int sh), .val (.int ex), .val (.int (2 : Int32)), .val (.int (1 : Int32)), .val (.int ex), .val (.int x1), .val (.int x2), .val (.ref ra), .val (.ref ja), .val (.double sc), .second, .val (.int f0), .val (.long y0), .second, .val (.int rr), .unset, .unset]) []))
      unfold own_dif at hchk
      rw [hres, HF] at hchk
      dsimp only at hchk
      rw [CF] at hchk
      by_cases hf : f0.toInt = 0
      · skip
        rw [if_pos hf] at hchk
        refine own_blk dec0 seq0 hby hx hZ hown hK hF 8 [false, false] [] X196 eh196 ?_
        show (¬ ((f0).toInt ≠ 0)) ∧ (¬ ((cmpValue (FP.dcmp sc 0) .l).toInt ≠ 0)) ∧ own_Aft X196 hp188 _ 377 [.val (.int g0), .val (.int g1), .val (.int g2), .val (.int g3), .val (.int sh), .val (.int ex), .val (.int (2 : Int32)), .val (.int (1 : Int32)), .val (.int ex), .val (.int x1), .val (.int x2), .val (.ref ra), .val (.ref ja), .val (.double sc), .second, .val (.int f0), .val (.long y0), .second, .val (.int rr), .unset, .unset] [.int (1 : Int32)]
        refine ⟨by omega, by have := of_decide_eq_true hchk; omega, fun T197 X197 eh197 => ?_⟩
        exact own_ret X197 hx hlk eh197 hret (by first | rfl | decide) (Or.inl ⟨rfl, by simp, _, rfl⟩) (hb hby at_377) (by decide) (by decide) (⟨rfl, Fr.app (Fr.app Nf186 M1) M2⟩)
      · skip
        rw [if_neg hf] at hchk
        obtain ⟨hchk, k5⟩ := Bool.and_eq_true_iff.mp hchk
        obtain ⟨hchk, k4⟩ := Bool.and_eq_true_iff.mp hchk
        obtain ⟨hchk, k3⟩ := Bool.and_eq_true_iff.mp hchk
        obtain ⟨k1, k2⟩ := Bool.and_eq_true_iff.mp hchk
        refine own_blk dec0 seq0 hby hx hZ hown hK hF 22 [true, false, false] [] X196 eh196 ?_
        show ((f0).toInt ≠ 0) ∧ (Jvm.Free.Fl.NoNaN64 (FP.dmul 4622945017495814144 (FP.i2d rr))) ∧ (Jvm.Free.Fl.NoNaN64 (FP.dmul sc (FP.dmul 4622945017495814144 (FP.i2d rr)))) ∧ (Jvm.Free.Fl.NoNaN64 (FP.dsub (FP.dmul sc (FP.dmul 4622945017495814144 (FP.i2d rr))) (FP.l2d y0))) ∧ (¬ (0 ≤ (cmpValue (FP.dcmp (FP.dsub (FP.dmul sc (FP.dmul 4622945017495814144 (FP.i2d rr))) (FP.l2d y0)) 4472406533629990549) .g).toInt)) ∧ (¬ ((cmpValue (FP.dcmp (FP.dsub (FP.dmul sc (FP.dmul 4622945017495814144 (FP.i2d rr))) (FP.l2d y0)) 13695778570484766357) .l).toInt ≤ 0)) ∧ own_Aft X196 hp188 _ 417 [.val (.int g0), .val (.int g1), .val (.int g2), .val (.int g3), .val (.int sh), .val (.int ex), .val (.int (2 : Int32)), .val (.int (1 : Int32)), .val (.int ex), .val (.int x1), .val (.int x2), .val (.ref ra), .val (.ref ja), .val (.double sc), .second, .val (.int f0), .val (.long y0), .second, .val (.int rr), .val (.double (FP.dsub (FP.dmul sc (FP.dmul 4622945017495814144 (FP.i2d rr))) (FP.l2d y0))), .second] [.int (1 : Int32)]
        refine ⟨by omega, own_nb_e k1, own_nb_e k2, own_nb_e k3, by have := of_decide_eq_true k4; omega, by have := of_decide_eq_true k5; omega, fun T198 X198 eh198 => ?_⟩
        exact own_ret X198 hx hlk eh198 hret (by first | rfl | decide) (Or.inl ⟨rfl, by simp, _, rfl⟩) (hb hby at_417) (by decide) (by decide) (⟨rfl, Fr.app (Fr.app Nf186 M1) M2⟩)
    · skip
      obtain rfl : ee = (2 : Int32) := Int32.toInt_inj.mp he
      show own_Go p.tables e below _ (T160.setTop (mkF m 83 (Array.mk [.val (.int g0), .val (.int g1), .val (.int g2), .val (.int g3), .val (.int sh), .val (.int ex), .val (.int (2 : Int32)), .val (.int (2 : Int32)), .val (.int ex), .val (.int x1), .val (.int x2), .val (.ref ra), .unset, .unset, .unset, .unset, .unset, .unset, .unset, .unset, .unset]) []))
      refine own_blk dec0 seq0 hby hx hZ hown hK hF 3 [] [] X160 eh160 ?_
      show own_Aft X160 hp159 _ 88 [.val (.int g0), .val (.int g1), .val (.int g2), .val (.int g3), .val (.int sh), .val (.int ex), .val (.int (2 : Int32)), .val (.int (2 : Int32)), .val (.int ex), .val (.int x1), .val (.int x2), .val (.ref ra), .unset, .unset, .unset, .unset, .unset, .unset, .unset, .unset, .unset] [.int (4 : Int32)]
      refine fun T199 X199 eh199 => ?_
      refine own_newP X199 hx hZ (hw _ (List.mem_of_getElem? (i := 1) rfl)) eh199 4 rfl (cap := 4) (by decide) (by decide) (hb hby at_88) (by decide) (by decide) (fun T200 hp200 ja ga200 X200 eh200 Ex200 Ar200 => ?_)
      have ne_ra_ja : ra ≠ ja := fun q => absurd Ar159'.lt (by rw [q, ga200]; exact Nat.lt_irrefl _)
      have nw_ja : n0 ≤ ja := by rw [ga200]; exact Z_159
      have Ar159'_200 := Ar159'.ext Ex200
      have Z_200 : n0 ≤ hp200.size := Nat.le_trans Z_159 Ex200.1
      have Ar200' : own_A Z hp200 ja .int [.int (0 : Int32), .int (0 : Int32), .int (0 : Int32), .int (0 : Int32)] := Ar200
      show own_Go p.tables e below _ (T200.setTop (mkF m 90 (Array.mk [.val (.int g0), .val (.int g1), .val (.int g2), .val (.int g3), .val (.int sh), .val (.int ex), .val (.int (2 : Int32)), .val (.int (2 : Int32)), .val (.int ex), .val (.int x1), .val (.int x2), .val (.ref ra), .unset, .unset, .unset, .unset, .unset, .unset, .unset, .unset, .unset]) [.ref ja]))
      refine own_blk dec0 seq0 hby hx hZ hown hK hF 6 [false] [] X200 eh200 ?_
      show (¬ (((2 : Int32)).toInt ≤ 0)) ∧ own_Aft X200 hp200 _ 102 [.val (.int g0), .val (.int g1), .val (.int g2), .val (.int g3), .val (.int sh), .val (.int ex), .val (.int (2 : Int32)), .val (.int (2 : Int32)), .val (.int ex), .val (.int x1), .val (.int x2), .val (.ref ra), .val (.ref ja), .unset, .unset, .unset, .unset, .unset, .unset, .unset, .unset] [.int ex, .int (0 : Int32), .ref ja]
      refine ⟨by decide, fun T201 X201 eh201 => ?_⟩
      refine own_sI X201 hx hZ eh201 Ar200' 0 rfl (by show 0 < 4; decide) (hb hby at_102) (fun T202 hp202 X202 eh202 Wr202 Ar202 => ?_)
      have Ar202' : own_A Z hp202 ja .int [.int ex, .int (0 : Int32), .int (0 : Int32), .int (0 : Int32)] := Ar202
      have Ar159'_202 := Ar159'_200.other Wr202 ne_ra_ja
      have Nf202 := Fr.snoc X202 Nf159 nw_ja
      have Z_202 : n0 ≤ hp202.size := by rw [Wr.size Wr202]; exact Z_200
      refine own_blk dec0 seq0 hby hx hZ hown hK hF 6 [false] [] X202 eh202 ?_
      show (¬ (((2 : Int32)).toInt ≤ ((1 : Int32)).toInt)) ∧ own_Aft X202 hp202 _ 114 [.val (.int g0), .val (.int g1), .val (.int g2), .val (.int g3), .val (.int sh), .val (.int ex), .val (.int (2 : Int32)), .val (.int (2 : Int32)), .val (.int ex), .val (.int x1), .val (.int x2), .val (.ref ra), .val (.ref ja), .unset, .unset, .unset, .unset, .unset, .unset, .unset, .unset] [.int x1, .int (1 : Int32), .ref ja]
      refine ⟨by decide, fun T203 X203 eh203 => ?_⟩
      refine own_sI X203 hx hZ eh203 Ar202' 1 rfl (by show 1 < 4; decide) (hb hby at_114) (fun T204 hp204 X204 eh204 Wr204 Ar204 => ?_)
      have Ar204' : own_A Z hp204 ja .int [.int ex, .int x1, .int (0 : Int32), .int (0 : Int32)] := Ar204
      have Ar159'_204 := Ar159'_202.other Wr204 ne_ra_ja
      have Nf204 := Fr.snoc X204 Nf202 nw_ja
      have Z_204 : n0 ≤ hp204.size := by rw [Wr.size Wr204]; exact Z_202
      refine own_blk dec0 seq0 hby hx hZ hown hK hF 8 [true, false] [] X204 eh204 ?_
      show (((2 : Int32)).toInt ≤ ((2 : Int32)).toInt) ∧ (¬ (((2 : Int32)).toInt ≤ 0)) ∧ own_Aft X204 hp204 _ 137 [.val (.int g0), .val (.int g1), .val (.int g2), .val (.int g3), .val (.int sh), .val (.int ex), .val (.int (2 : Int32)), .val (.int (2 : Int32)), .val (.int ex), .val (.int x1), .val (.int x2), .val (.ref ra), .val (.ref ja), .unset, .unset, .unset, .unset, .unset, .unset, .unset, .unset] [.int g0, .int (2 : Int32), .ref ja]
      refine ⟨by decide, by decide, fun T205 X205 eh205 => ?_⟩
      refine own_sI X205 hx hZ eh205 Ar204' 2 rfl (by show 2 < 4; decide) (hb hby at_137) (fun T206 hp206 X206 eh206 Wr206 Ar206 => ?_)
      have Ar206' : own_A Z hp206 ja .int [.int ex, .int x1, .int g0, .int (0 : Int32)] := Ar206
      have Ar159'_206 := Ar159'_204.other Wr206 ne_ra_ja
      have Nf206 := Fr.snoc X206 Nf204 nw_ja
      have Z_206 : n0 ≤ hp206.size := by rw [Wr.size Wr206]; exact Z_204
      refine own_blk dec0 seq0 hby hx hZ hown hK hF 8 [false] [] X206 eh206 ?_
      show (¬ (((2 : Int32)).toInt ≤ ((1 : Int32)).toInt)) ∧ own_Aft X206 hp206 _ 151 [.val (.int g0), .val (.int g1), .val (.int g2), .val (.int g3), .val (.int sh), .val (.int ex), .val (.int (2 : Int32)), .val (.int (2 : Int32)), .val (.int ex), .val (.int x1), .val (.int x2), .val (.ref ra), .val (.ref ja), .unset, .unset, .unset, .unset, .unset, .unset, .unset, .unset] [.int g1, .int (3 : Int32), .ref ja]
      refine ⟨by decide, fun T207 X207 eh207 => ?_⟩
      refine own_sI X207 hx hZ eh207 Ar206' 3 rfl (by show 3 < 4; decide) (hb hby at_151) (fun T208 hp208 X208 eh208 Wr208 Ar208 => ?_)
      have Ar208' : own_A Z hp208 ja .int [.int ex, .int x1, .int g0, .int g1] := Ar208
      have Ar159'_208 := Ar159'_206.other Wr208 ne_ra_ja
      have Nf208 := Fr.snoc X208 Nf206 nw_ja
      have Z_208 : n0 ≤ hp208.size := by rw [Wr.size Wr208]; exact Z_206
      refine own_blk dec0 seq0 hby hx hZ hown hK hF 6 [true, true] [] X208 eh208 ?_
      show (((2 : Int32)).toInt ≤ ((2 : Int32)).toInt) ∧ (((2 : Int32)).toInt ≤ ((3 : Int32)).toInt) ∧ own_Aft X208 hp208 _ 180 [.val (.int g0), .val (.int g1), .val (.int g2), .val (.int g3), .val (.int sh), .val (.int ex), .val (.int (2 : Int32)), .val (.int (2 : Int32)), .val (.int ex), .val (.int x1), .val (.int x2), .val (.ref ra), .val (.ref ja), .unset, .unset, .unset, .unset, .unset, .unset, .unset, .unset] []
      refine ⟨by decide, by decide, fun T209 X209 eh209 => ?_⟩
      refine own_new X209 hx hZ hown (hw _ (List.mem_of_getElem? (i := 2) rfl)) (hw _ (List.mem_of_getElem? (i := 3) rfl)) (hw _ (List.mem_of_getElem? (i := 4) rfl)) eh209 (hb hby at_180) (by decide) (by decide) (fun T210 hp210 ao ga210 X210 eh210 Ex210 Ea210 Dn210 => ?_)
      have ne_ra_ao : ra ≠ ao := fun q => absurd Ar159'_208.lt (by rw [q, ga210]; exact Nat.lt_irrefl _)
      have ne_ja_ao : ja ≠ ao := fun q => absurd Ar208'.lt (by rw [q, ga210]; exact Nat.lt_irrefl _)
      have nw_ao : n0 ≤ ao := by rw [ga210]; exact Z_208
      have Ar159'_210 := Ar159'_208.ext Ex210
      have Ar208'_210 := Ar208'.ext Ex210
      have Z_210 : n0 ≤ hp210.size := Nat.le_trans Z_208 Ex210.1
      show own_Go p.tables e below _ (T210.setTop (mkF m 183 (Array.mk [.val (.int g0), .val (.int g1), .val (.int g2), .val (.int g3), .val (.int sh), .val (.int ex), .val (.int (2 : Int32)), .val (.int (2 : Int32)), .val (.int ex), .val (.int x1), .val (.int x2), .val (.ref ra), .val (.ref ja), .unset, .unset, .unset, .unset, .unset, .unset, .unset, .unset]) [.ref ao]))
      refine own_blk dec0 seq0 hby hx hZ hown hK hF 1 [] [] X210 eh210 ?_
      show own_Aft X210 hp210 _ 184 [.val (.int g0), .val (.int g1), .val (.int g2), .val (.int g3), .val (.int sh), .val (.int ex), .val (.int (2 : Int32)), .val (.int (2 : Int32)), .val (.int ex), .val (.int x1), .val (.int x2), .val (.ref ra), .val (.ref ja), .unset, .unset, .unset, .unset, .unset, .unset, .unset, .unset] [.ref ao, .ref ao]
      refine fun T211 X211 eh211 => ?_
      refine own_callI X211 hx hZ hown rfl (hw _ (List.mem_of_getElem? (i := 5) rfl)) (hw _ (List.mem_of_getElem? (i := 6) rfl)) (hw _ (List.mem_of_getElem? (i := 4) rfl)) (hw _ (List.mem_of_getElem? (i := 7) rfl)) (by decide) eh211 ao [] pd1 rfl (rm := ({ frames := 1, cells := 0, slots := 0, locals := 12 } : Room)) (rm1 l Z a0 hw [] ao hp210 n0 Z_210) (by rw [hml]; rfl) 1 rfl (Nat.le_of_eq rfl) (hb hby at_184) (by decide) (by decide) (by decide) (by decide) (fun T212 rv212 Lc212 X212 qc212 => ?_)
      obtain ⟨rfl, M1, hh⟩ := qc212
      show own_Go p.tables e below _ (T212.setTop (mkF m 187 (Array.mk [.val (.int g0), .val (.int g1), .val (.int g2), .val (.int g3), .val (.int sh), .val (.int ex), .val (.int (2 : Int32)), .val (.int (2 : Int32)), .val (.int ex), .val (.int x1), .val (.int x2), .val (.ref ra), .val (.ref ja), .unset, .unset, .unset, .unset, .unset, .unset, .unset, .unset]) [.ref ao]))
      refine own_blk dec0 seq0 hby hx hZ hown hK hF 2 [] [] X212 hh ?_
      show own_Aft X212 hp210 _ 191 [.val (.int g0), .val (.int g1), .val (.int g2), .val (.int g3), .val (.int sh), .val (.int ex), .val (.int (2 : Int32)), .val (.int (2 : Int32)), .val (.int ex), .val (.int x1), .val (.int x2), .val (.ref ra), .val (.ref ja), .unset, .unset, .unset, .unset, .unset, .unset, .unset, .unset] [.ref ja, .ref ra, .ref ao]
      refine fun T213 X213 eh213 => ?_
      obtain ⟨b0, hb0⟩ : ∃ b : Bool, (0 < g0.toInt ↔ b = true) := ⟨decide (0 < g0.toInt), by simp⟩
      obtain ⟨b1, hb1⟩ : ∃ b : Bool, (0 < g1.toInt ↔ b = true) := ⟨decide (0 < g1.toInt), by simp⟩
      obtain ⟨c0, hc0⟩ : ∃ b : Bool, (0 < ex.toInt ↔ b = true) := ⟨decide (0 < ex.toInt), by simp⟩
      obtain ⟨c1, hc1⟩ : ∃ b : Bool, (0 < x1.toInt ↔ b = true) := ⟨decide (0 < x1.toInt), by simp⟩
      obtain ⟨hrok, hchk⟩ := Bool.and_eq_true_iff.mp (own_chk_2_2 b0 b1 c0 c1)
      refine own_callV X213 hx hZ hown (hw _ (List.mem_of_getElem? (i := 11) rfl)) (hw _ (List.mem_of_getElem? (i := 12) rfl)) (hw _ (List.mem_of_getElem? (i := 14) rfl)) (hw _ (List.mem_of_getElem? (i := 13) rfl)) (hw _ (List.mem_of_getElem? (i := 4) rfl)) (hw _ (List.mem_of_getElem? (i := 15) rfl)) (by decide) eh213 Ea210 [.ref ra, .ref ja] pd3 rfl (rm := ({ frames := 0, cells := 0, slots := 0, locals := 0 } : Room)) (rm3_2_4 l Z a0 hw [] ao ra ja g0 g1 ex x1 g0 g1 b0 b1 c0 c1 b0 b1 hp210 n0 Z_210 Ar159'_210 Ar208'_210 hb0 hb1 hc0 hc1 hb0 hb1 hrok) (by rw [hml]; rfl) 0 rfl (Nat.le_of_eq rfl) (hb hby at_191) (by decide) (by decide) (by decide) (by decide) (fun T214 rv214 Lc214 X214 qc214 => ?_)
      obtain ⟨rfl, M2, hh2⟩ := qc214
      have hres : own_res [b0, b1] ([c0, c1] ++ [b0, b1]) = own_res [b0, b1] [c0, c1, b0, b1] := rfl
      generalize own_res [b0, b1] [c0, c1, b0, b1] = sc at hres ⊢
      show own_Go p.tables e below _ (T214.setTop (mkF m 194 (Array.mk [.val (.int g0), .val (.int g1), .val (.int g2), .val (.int g3), .val (.int sh), .val (.int ex), .val (.int (2 : Int32)), .val (.int (2 : Int32)), .val (.int ex), .val (.int x1), .val (.int x2), .val (.ref ra), .val (.ref ja), .unset, .unset, .unset, .unset, .unset, .unset, .unset, .unset]) [.double sc]))
      refine own_blk dec0 seq0 hby hx hZ hown hK hF 5 [] [] X214 hh2 ?_
      show own_Aft X214 hp210 _ 202 [.val (.int g0), .val (.int g1), .val (.int g2), .val (.int g3), .val (.int sh), .val (.int ex), .val (.int (2 : Int32)), .val (.int (2 : Int32)), .val (.int ex), .val (.int x1), .val (.int x2), .val (.ref ra), .val (.ref ja), .val (.double sc), .second, .val (.int (0 : Int32)), .val (.long (0 : Int64)), .second, .unset, .unset, .unset] []
      refine fun T215 X215 eh215 => ?_
      refine ptC_2 X215 hx hby hml hown hZ hK hF eh215 _ _ _ _ _ _ _ _ _ _ _ _ _ g0 g1 g2 g3 b0 b1 hb0 hb1 (fun f0 y0 HF T216 X216 eh216 => ?_)
      show own_Go p.tables e below _ (T216.setTop (mkF m 315 (Array.mk [.val (.int g0), .val (.int g1), .val (.int g2), .val (.int g3), .val (.int sh), .val (.int ex), .val (.int (2 : Int32)), .val (.int (2 : Int32)), .val (.int ex), .val (.int x1), .val (.int x2), .val (.ref ra), .val (.ref ja), .val (.double sc), .second, .val (.int f0), .val (.long y0), .second, .unset, .unset, .unset]) []))
      refine own_blk dec0 seq0 hby hx hZ hown hK hF 2 [] [] X216 eh216 ?_
      show own_Aft X216 hp210 _ 319 [.val (.int g0), .val (.int g1), .val (.int g2), .val (.int g3), .val (.int sh), .val (.int ex), .val (.int (2 : Int32)), .val (.int (2 : Int32)), .val (.int ex), .val (.int x1), .val (.int x2), .val (.ref ra), .val (.ref ja), .val (.double sc), .second, .val (.int f0), .val (.long y0), .second, .val (.int f0), .unset, .unset] []
      refine fun T217 X217 eh217 => ?_
      refine ptD_2 X217 hx hby hml hown hZ hK hF eh217 _ _ _ _ _ _ _ _ _ _ _ _ _ _ _ _ ex x1 x2 f0 c0 c1 hc0 hc1 (fun rr CF T218 X218 eh218 => ?_)
      show own_Go p.tables e below _ (T218.setTop (mkF m 360 (Array.mk [.val (.int g0), .val (.int g1), .val (.int g2), .val (.int g3), .val (.int sh), .val (.int ex), .val (.int (2 : Int32)), .val (.int (2 : Int32)), .val (.int ex), .val (.int x1), .val (.int x2), .val (.ref ra), .val (.ref ja), .val (.double sc), .second, .val (.int f0), .val (.long y0), .second, .val (.int rr), .unset, .unset]) []))
      unfold own_dif at hchk
      rw [hres, HF] at hchk
      dsimp only at hchk
      rw [CF] at hchk
      by_cases hf : f0.toInt = 0
      · skip
        rw [if_pos hf] at hchk
        refine own_blk dec0 seq0 hby hx hZ hown hK hF 8 [false, false] [] X218 eh218 ?_
        show (¬ ((f0).toInt ≠ 0)) ∧ (¬ ((cmpValue (FP.dcmp sc 0) .l).toInt ≠ 0)) ∧ own_Aft X218 hp210 _ 377 [.val (.int g0), .val (.int g1), .val (.int g2), .val (.int g3), .val (.int sh), .val (.int ex), .val (.int (2 : Int32)), .val (.int (2 : Int32)), .val (.int ex), .val (.int x1), .val (.int x2), .val (.ref ra), .val (.ref ja), .val (.double sc), .second, .val (.int f0), .val (.long y0), .second, .val (.int rr), .unset, .unset] [.int (1 : Int32)]
        refine ⟨by omega, by have := of_decide_eq_true hchk; omega, fun T219 X219 eh219 => ?_⟩
        exact own_ret X219 hx hlk eh219 hret (by first | rfl | decide) (Or.inl ⟨rfl, by simp, _, rfl⟩) (hb hby at_377) (by decide) (by decide) (⟨rfl, Fr.app (Fr.app Nf208 M1) M2⟩)
      · skip
        rw [if_neg hf] at hchk
        obtain ⟨hchk, k5⟩ := Bool.and_eq_true_iff.mp hchk
        obtain ⟨hchk, k4⟩ := Bool.and_eq_true_iff.mp hchk
        obtain ⟨hchk, k3⟩ := Bool.and_eq_true_iff.mp hchk
        obtain ⟨k1, k2⟩ := Bool.and_eq_true_iff.mp hchk
        refine own_blk dec0 seq0 hby hx hZ hown hK hF 22 [true, false, false] [] X218 eh218 ?_
        show ((f0).toInt ≠ 0) ∧ (Jvm.Free.Fl.NoNaN64 (FP.dmul 4622945017495814144 (FP.i2d rr))) ∧ (Jvm.Free.Fl.NoNaN64 (FP.dmul sc (FP.dmul 4622945017495814144 (FP.i2d rr)))) ∧ (Jvm.Free.Fl.NoNaN64 (FP.dsub (FP.dmul sc (FP.dmul 4622945017495814144 (FP.i2d rr))) (FP.l2d y0))) ∧ (¬ (0 ≤ (cmpValue (FP.dcmp (FP.dsub (FP.dmul sc (FP.dmul 4622945017495814144 (FP.i2d rr))) (FP.l2d y0)) 4472406533629990549) .g).toInt)) ∧ (¬ ((cmpValue (FP.dcmp (FP.dsub (FP.dmul sc (FP.dmul 4622945017495814144 (FP.i2d rr))) (FP.l2d y0)) 13695778570484766357) .l).toInt ≤ 0)) ∧ own_Aft X218 hp210 _ 417 [.val (.int g0), .val (.int g1), .val (.int g2), .val (.int g3), .val (.int sh), .val (.int ex), .val (.int (2 : Int32)), .val (.int (2 : Int32)), .val (.int ex), .val (.int x1), .val (.int x2), .val (.ref ra), .val (.ref ja), .val (.double sc), .second, .val (.int f0), .val (.long y0), .second, .val (.int rr), .val (.double (FP.dsub (FP.dmul sc (FP.dmul 4622945017495814144 (FP.i2d rr))) (FP.l2d y0))), .second] [.int (1 : Int32)]
        refine ⟨by omega, own_nb_e k1, own_nb_e k2, own_nb_e k3, by have := of_decide_eq_true k4; omega, by have := of_decide_eq_true k5; omega, fun T220 X220 eh220 => ?_⟩
        exact own_ret X220 hx hlk eh220 hret (by first | rfl | decide) (Or.inl ⟨rfl, by simp, _, rfl⟩) (hb hby at_417) (by decide) (by decide) (⟨rfl, Fr.app (Fr.app Nf208 M1) M2⟩)
    · skip
      obtain rfl : ee = (3 : Int32) := Int32.toInt_inj.mp he
      show own_Go p.tables e below _ (T160.setTop (mkF m 83 (Array.mk [.val (.int g0), .val (.int g1), .val (.int g2), .val (.int g3), .val (.int sh), .val (.int ex), .val (.int (2 : Int32)), .val (.int (3 : Int32)), .val (.int ex), .val (.int x1), .val (.int x2), .val (.ref ra), .unset, .unset, .unset, .unset, .unset, .unset, .unset, .unset, .unset]) []))
      refine own_blk dec0 seq0 hby hx hZ hown hK hF 3 [] [] X160 eh160 ?_
      show own_Aft X160 hp159 _ 88 [.val (.int g0), .val (.int g1), .val (.int g2), .val (.int g3), .val (.int sh), .val (.int ex), .val (.int (2 : Int32)), .val (.int (3 : Int32)), .val (.int ex), .val (.int x1), .val (.int x2), .val (.ref ra), .unset, .unset, .unset, .unset, .unset, .unset, .unset, .unset, .unset] [.int (5 : Int32)]
      refine fun T221 X221 eh221 => ?_
      refine own_newP X221 hx hZ (hw _ (List.mem_of_getElem? (i := 1) rfl)) eh221 5 rfl (cap := 5) (by decide) (by decide) (hb hby at_88) (by decide) (by decide) (fun T222 hp222 ja ga222 X222 eh222 Ex222 Ar222 => ?_)
      have ne_ra_ja : ra ≠ ja := fun q => absurd Ar159'.lt (by rw [q, ga222]; exact Nat.lt_irrefl _)
      have nw_ja : n0 ≤ ja := by rw [ga222]; exact Z_159
      have Ar159'_222 := Ar159'.ext Ex222
      have Z_222 : n0 ≤ hp222.size := Nat.le_trans Z_159 Ex222.1
      have Ar222' : own_A Z hp222 ja .int [.int (0 : Int32), .int (0 : Int32), .int (0 : Int32), .int (0 : Int32), .int (0 : Int32)] := Ar222
      show own_Go p.tables e below _ (T222.setTop (mkF m 90 (Array.mk [.val (.int g0), .val (.int g1), .val (.int g2), .val (.int g3), .val (.int sh), .val (.int ex), .val (.int (2 : Int32)), .val (.int (3 : Int32)), .val (.int ex), .val (.int x1), .val (.int x2), .val (.ref ra), .unset, .unset, .unset, .unset, .unset, .unset, .unset, .unset, .unset]) [.ref ja]))
      refine own_blk dec0 seq0 hby hx hZ hown hK hF 6 [false] [] X222 eh222 ?_
      show (¬ (((3 : Int32)).toInt ≤ 0)) ∧ own_Aft X222 hp222 _ 102 [.val (.int g0), .val (.int g1), .val (.int g2), .val (.int g3), .val (.int sh), .val (.int ex), .val (.int (2 : Int32)), .val (.int (3 : Int32)), .val (.int ex), .val (.int x1), .val (.int x2), .val (.ref ra), .val (.ref ja), .unset, .unset, .unset, .unset, .unset, .unset, .unset, .unset] [.int ex, .int (0 : Int32), .ref ja]
      refine ⟨by decide, fun T223 X223 eh223 => ?_⟩
      refine own_sI X223 hx hZ eh223 Ar222' 0 rfl (by show 0 < 5; decide) (hb hby at_102) (fun T224 hp224 X224 eh224 Wr224 Ar224 => ?_)
      have Ar224' : own_A Z hp224 ja .int [.int ex, .int (0 : Int32), .int (0 : Int32), .int (0 : Int32), .int (0 : Int32)] := Ar224
      have Ar159'_224 := Ar159'_222.other Wr224 ne_ra_ja
      have Nf224 := Fr.snoc X224 Nf159 nw_ja
      have Z_224 : n0 ≤ hp224.size := by rw [Wr.size Wr224]; exact Z_222
      refine own_blk dec0 seq0 hby hx hZ hown hK hF 6 [false] [] X224 eh224 ?_
      show (¬ (((3 : Int32)).toInt ≤ ((1 : Int32)).toInt)) ∧ own_Aft X224 hp224 _ 114 [.val (.int g0), .val (.int g1), .val (.int g2), .val (.int g3), .val (.int sh), .val (.int ex), .val (.int (2 : Int32)), .val (.int (3 : Int32)), .val (.int ex), .val (.int x1), .val (.int x2), .val (.ref ra), .val (.ref ja), .unset, .unset, .unset, .unset, .unset, .unset, .unset, .unset] [.int x1, .int (1 : Int32), .ref ja]
      refine ⟨by decide, fun T225 X225 eh225 => ?_⟩
      refine own_sI X225 hx hZ eh225 Ar224' 1 rfl (by show 1 < 5; decide) (hb hby at_114) (fun T226 hp226 X226 eh226 Wr226 Ar226 => ?_)
      have Ar226' : own_A Z hp226 ja .int [.int ex, .int x1, .int (0 : Int32), .int (0 : Int32), .int (0 : Int32)] := Ar226
      have Ar159'_226 := Ar159'_224.other Wr226 ne_ra_ja
      have Nf226 := Fr.snoc X226 Nf224 nw_ja
      have Z_226 : n0 ≤ hp226.size := by rw [Wr.size Wr226]; exact Z_224
      refine own_blk dec0 seq0 hby hx hZ hown hK hF 6 [false] [] X226 eh226 ?_
      show (¬ (((3 : Int32)).toInt ≤ ((2 : Int32)).toInt)) ∧ own_Aft X226 hp226 _ 126 [.val (.int g0), .val (.int g1), .val (.int g2), .val (.int g3), .val (.int sh), .val (.int ex), .val (.int (2 : Int32)), .val (.int (3 : Int32)), .val (.int ex), .val (.int x1), .val (.int x2), .val (.ref ra), .val (.ref ja), .unset, .unset, .unset, .unset, .unset, .unset, .unset, .unset] [.int x2, .int (2 : Int32), .ref ja]
      refine ⟨by decide, fun T227 X227 eh227 => ?_⟩
      refine own_sI X227 hx hZ eh227 Ar226' 2 rfl (by show 2 < 5; decide) (hb hby at_126) (fun T228 hp228 X228 eh228 Wr228 Ar228 => ?_)
      have Ar228' : own_A Z hp228 ja .int [.int ex, .int x1, .int x2, .int (0 : Int32), .int (0 : Int32)] := Ar228
      have Ar159'_228 := Ar159'_226.other Wr228 ne_ra_ja
      have Nf228 := Fr.snoc X228 Nf226 nw_ja
      have Z_228 : n0 ≤ hp228.size := by rw [Wr.size Wr228]; exact Z_226
      refine own_blk dec0 seq0 hby hx hZ hown hK hF 5 [false] [] X228 eh228 ?_
      show (¬ (((2 : Int32)).toInt ≤ 0)) ∧ own_Aft X228 hp228 _ 137 [.val (.int g0), .val (.int g1), .val (.int g2), .val (.int g3), .val (.int sh), .val (.int ex), .val (.int (2 : Int32)), .val (.int (3 : Int32)), .val (.int ex), .val (.int x1), .val (.int x2), .val (.ref ra), .val (.ref ja), .unset, .unset, .unset, .unset, .unset, .unset, .unset, .unset] [.int g0, .int (3 : Int32), .ref ja]
      refine ⟨by decide, fun T229 X229 eh229 => ?_⟩
      refine own_sI X229 hx hZ eh229 Ar228' 3 rfl (by show 3 < 5; decide) (hb hby at_137) (fun T230 hp230 X230 eh230 Wr230 Ar230 => ?_)
      have Ar230' : own_A Z hp230 ja .int [.int ex, .int x1, .int x2, .int g0, .int (0 : Int32)] := Ar230
      have Ar159'_230 := Ar159'_228.other Wr230 ne_ra_ja
      have Nf230 := Fr.snoc X230 Nf228 nw_ja
      have Z_230 : n0 ≤ hp230.size := by rw [Wr.size Wr230]; exact Z_228
      refine own_blk dec0 seq0 hby hx hZ hown hK hF 8 [false] [] X230 eh230 ?_
      show (¬ (((2 : Int32)).toInt ≤ ((1 : Int32)).toInt)) ∧ own_Aft X230 hp230 _ 151 [.val (.int g0), .val (.int g1), .val (.int g2), .val (.int g3), .val (.int sh), .val (.int ex), .val (.int (2 : Int32)), .val (.int (3 : Int32)), .val (.int ex), .val (.int x1), .val (.int x2), .val (.ref ra), .val (.ref ja), .unset, .unset, .unset, .unset, .unset, .unset, .unset, .unset] [.int g1, .int (4 : Int32), .ref ja]
      refine ⟨by decide, fun T231 X231 eh231 => ?_⟩
      refine own_sI X231 hx hZ eh231 Ar230' 4 rfl (by show 4 < 5; decide) (hb hby at_151) (fun T232 hp232 X232 eh232 Wr232 Ar232 => ?_)
      have Ar232' : own_A Z hp232 ja .int [.int ex, .int x1, .int x2, .int g0, .int g1] := Ar232
      have Ar159'_232 := Ar159'_230.other Wr232 ne_ra_ja
      have Nf232 := Fr.snoc X232 Nf230 nw_ja
      have Z_232 : n0 ≤ hp232.size := by rw [Wr.size Wr232]; exact Z_230
      refine own_blk dec0 seq0 hby hx hZ hown hK hF 6 [true, true] [] X232 eh232 ?_
      show (((2 : Int32)).toInt ≤ ((2 : Int32)).toInt) ∧ (((2 : Int32)).toInt ≤ ((3 : Int32)).toInt) ∧ own_Aft X232 hp232 _ 180 [.val (.int g0), .val (.int g1), .val (.int g2), .val (.int g3), .val (.int sh), .val (.int ex), .val (.int (2 : Int32)), .val (.int (3 : Int32)), .val (.int ex), .val (.int x1), .val (.int x2), .val (.ref ra), .val (.ref ja), .unset, .unset, .unset, .unset, .unset, .unset, .unset, .unset] []
      refine ⟨by decide, by decide, fun T233 X233 eh233 => ?_⟩
      refine own_new X233 hx hZ hown (hw _ (List.mem_of_getElem? (i := 2) rfl)) (hw _ (List.mem_of_getElem? (i := 3) rfl)) (hw _ (List.mem_of_getElem? (i := 4) rfl)) eh233 (hb hby at_180) (by decide) (by decide) (fun T234 hp234 ao ga234 X234 eh234 Ex234 Ea234 Dn234 => ?_)
      have ne_ra_ao : ra ≠ ao := fun q => absurd Ar159'_232.lt (by rw [q, ga234]; exact Nat.lt_irrefl _)
      have ne_ja_ao : ja ≠ ao := fun q => absurd Ar232'.lt (by rw [q, ga234]; exact Nat.lt_irrefl _)
      have nw_ao : n0 ≤ ao := by rw [ga234]; exact Z_232
      have Ar159'_234 := Ar159'_232.ext Ex234
      have Ar232'_234 := Ar232'.ext Ex234
      have Z_234 : n0 ≤ hp234.size := Nat.le_trans Z_232 Ex234.1
      show own_Go p.tables e below _ (T234.setTop (mkF m 183 (Array.mk [.val (.int g0), .val (.int g1), .val (.int g2), .val (.int g3), .val (.int sh), .val (.int ex), .val (.int (2 : Int32)), .val (.int (3 : Int32)), .val (.int ex), .val (.int x1), .val (.int x2), .val (.ref ra), .val (.ref ja), .unset, .unset, .unset, .unset, .unset, .unset, .unset, .unset]) [.ref ao]))
      refine own_blk dec0 seq0 hby hx hZ hown hK hF 1 [] [] X234 eh234 ?_
      show own_Aft X234 hp234 _ 184 [.val (.int g0), .val (.int g1), .val (.int g2), .val (.int g3), .val (.int sh), .val (.int ex), .val (.int (2 : Int32)), .val (.int (3 : Int32)), .val (.int ex), .val (.int x1), .val (.int x2), .val (.ref ra), .val (.ref ja), .unset, .unset, .unset, .unset, .unset, .unset, .unset, .unset] [.ref ao, .ref ao]
      refine fun T235 X235 eh235 => ?_
      refine own_callI X235 hx hZ hown rfl (hw _ (List.mem_of_getElem? (i := 5) rfl)) (hw _ (List.mem_of_getElem? (i := 6) rfl)) (hw _ (List.mem_of_getElem? (i := 4) rfl)) (hw _ (List.mem_of_getElem? (i := 7) rfl)) (by decide) eh235 ao [] pd1 rfl (rm := ({ frames := 1, cells := 0, slots := 0, locals := 12 } : Room)) (rm1 l Z a0 hw [] ao hp234 n0 Z_234) (by rw [hml]; rfl) 1 rfl (Nat.le_of_eq rfl) (hb hby at_184) (by decide) (by decide) (by decide) (by decide) (fun T236 rv236 Lc236 X236 qc236 => ?_)
      obtain ⟨rfl, M1, hh⟩ := qc236
      show own_Go p.tables e below _ (T236.setTop (mkF m 187 (Array.mk [.val (.int g0), .val (.int g1), .val (.int g2), .val (.int g3), .val (.int sh), .val (.int ex), .val (.int (2 : Int32)), .val (.int (3 : Int32)), .val (.int ex), .val (.int x1), .val (.int x2), .val (.ref ra), .val (.ref ja), .unset, .unset, .unset, .unset, .unset, .unset, .unset, .unset]) [.ref ao]))
      refine own_blk dec0 seq0 hby hx hZ hown hK hF 2 [] [] X236 hh ?_
      show own_Aft X236 hp234 _ 191 [.val (.int g0), .val (.int g1), .val (.int g2), .val (.int g3), .val (.int sh), .val (.int ex), .val (.int (2 : Int32)), .val (.int (3 : Int32)), .val (.int ex), .val (.int x1), .val (.int x2), .val (.ref ra), .val (.ref ja), .unset, .unset, .unset, .unset, .unset, .unset, .unset, .unset] [.ref ja, .ref ra, .ref ao]
      refine fun T237 X237 eh237 => ?_
      obtain ⟨b0, hb0⟩ : ∃ b : Bool, (0 < g0.toInt ↔ b = true) := ⟨decide (0 < g0.toInt), by simp⟩
      obtain ⟨b1, hb1⟩ : ∃ b : Bool, (0 < g1.toInt ↔ b = true) := ⟨decide (0 < g1.toInt), by simp⟩
      obtain ⟨c0, hc0⟩ : ∃ b : Bool, (0 < ex.toInt ↔ b = true) := ⟨decide (0 < ex.toInt), by simp⟩
      obtain ⟨c1, hc1⟩ : ∃ b : Bool, (0 < x1.toInt ↔ b = true) := ⟨decide (0 < x1.toInt), by simp⟩
      obtain ⟨c2, hc2⟩ : ∃ b : Bool, (0 < x2.toInt ↔ b = true) := ⟨decide (0 < x2.toInt), by simp⟩
      obtain ⟨hrok, hchk⟩ := Bool.and_eq_true_iff.mp (own_chk_2_3 b0 b1 c0 c1 c2)
      refine own_callV X237 hx hZ hown (hw _ (List.mem_of_getElem? (i := 11) rfl)) (hw _ (List.mem_of_getElem? (i := 12) rfl)) (hw _ (List.mem_of_getElem? (i := 14) rfl)) (hw _ (List.mem_of_getElem? (i := 13) rfl)) (hw _ (List.mem_of_getElem? (i := 4) rfl)) (hw _ (List.mem_of_getElem? (i := 15) rfl)) (by decide) eh237 Ea234 [.ref ra, .ref ja] pd3 rfl (rm := ({ frames := 0, cells := 0, slots := 0, locals := 0 } : Room)) (rm3_2_5 l Z a0 hw [] ao ra ja g0 g1 ex x1 x2 g0 g1 b0 b1 c0 c1 c2 b0 b1 hp234 n0 Z_234 Ar159'_234 Ar232'_234 hb0 hb1 hc0 hc1 hc2 hb0 hb1 hrok) (by rw [hml]; rfl) 0 rfl (Nat.le_of_eq rfl) (hb hby at_191) (by decide) (by decide) (by decide) (by decide) (fun T238 rv238 Lc238 X238 qc238 => ?_)
      obtain ⟨rfl, M2, hh2⟩ := qc238
      have hres : own_res [b0, b1] ([c0, c1, c2] ++ [b0, b1]) = own_res [b0, b1] [c0, c1, c2, b0, b1] := rfl
      generalize own_res [b0, b1] [c0, c1, c2, b0, b1] = sc at hres ⊢
      show own_Go p.tables e below _ (T238.setTop (mkF m 194 (Array.mk [.val (.int g0), .val (.int g1), .val (.int g2), .val (.int g3), .val (.int sh), .val (.int ex), .val (.int (2 : Int32)), .val (.int (3 : Int32)), .val (.int ex), .val (.int x1), .val (.int x2), .val (.ref ra), .val (.ref ja), .unset, .unset, .unset, .unset, .unset, .unset, .unset, .unset]) [.double sc]))
      refine own_blk dec0 seq0 hby hx hZ hown hK hF 5 [] [] X238 hh2 ?_
      show own_Aft X238 hp234 _ 202 [.val (.int g0), .val (.int g1), .val (.int g2), .val (.int g3), .val (.int sh), .val (.int ex), .val (.int (2 : Int32)), .val (.int (3 : Int32)), .val (.int ex), .val (.int x1), .val (.int x2), .val (.ref ra), .val (.ref ja), .val (.double sc), .second, .val (.int (0 : Int32)), .val (.long (0 : Int64)), .second, .unset, .unset, .unset] []
      refine fun T239 X239 eh239 => ?_
      refine ptC_2 X239 hx hby hml hown hZ hK hF eh239 _ _ _ _ _ _ _ _ _ _ _ _ _ g0 g1 g2 g3 b0 b1 hb0 hb1 (fun f0 y0 HF T240 X240 eh240 => ?_)
      show own_Go p.tables e below _ (T240.setTop (mkF m 315 (Array.mk [.val (.int g0), .val (.int g1), .val (.int g2), .val (.int g3), .val (.int sh), .val (.int ex), .val (.int (2 : Int32)), .val (.int (3 : Int32)), .val (.int ex), .val (.int x1), .val (.int x2), .val (.ref ra), .val (.ref ja), .val (.double sc), .second, .val (.int f0), .val (.long y0), .second, .unset, .unset, .unset]) []))
      refine own_blk dec0 seq0 hby hx hZ hown hK hF 2 [] [] X240 eh240 ?_
      show own_Aft X240 hp234 _ 319 [.val (.int g0), .val (.int g1), .val (.int g2), .val (.int g3), .val (.int sh), .val (.int ex), .val (.int (2 : Int32)), .val (.int (3 : Int32)), .val (.int ex), .val (.int x1), .val (.int x2), .val (.ref ra), .val (.ref ja), .val (.double sc), .second, .val (.int f0), .val (.long y0), .second, .val (.int f0), .unset, .unset] []
      refine fun T241 X241 eh241 => ?_
      refine ptD_3 X241 hx hby hml hown hZ hK hF eh241 _ _ _ _ _ _ _ _ _ _ _ _ _ _ _ _ ex x1 x2 f0 c0 c1 c2 hc0 hc1 hc2 (fun rr CF T242 X242 eh242 => ?_)
      show own_Go p.tables e below _ (T242.setTop (mkF m 360 (Array.mk [.val (.int g0), .val (.int g1), .val (.int g2), .val (.int g3), .val (.int sh), .val (.int ex), .val (.int (2 : Int32)), .val (.int (3 : Int32)), .val (.int ex), .val (.int x1), .val (.int x2), .val (.ref ra), .val (.ref ja), .val (.double sc), .second, .val (.int f0), .val (.long y0), .second, .val (.int rr), .unset, .unset]) []))
      unfold own_dif at hchk
      rw [hres, HF] at hchk
      dsimp only at hchk
      rw [CF] at hchk
      by_cases hf : f0.toInt = 0
      · skip
        rw [if_pos hf] at hchk
        refine own_blk dec0 seq0 hby hx hZ hown hK hF 8 [false, false] [] X242 eh242 ?_
        show (¬ ((f0).toInt ≠ 0)) ∧ (¬ ((cmpValue (FP.dcmp sc 0) .l).toInt ≠ 0)) ∧ own_Aft X242 hp234 _ 377 [.val (.int g0), .val (.int g1), .val (.int g2), .val (.int g3), .val (.int sh), .val (.int ex), .val (.int (2 : Int32)), .val (.int (3 : Int32)), .val (.int ex), .val (.int x1), .val (.int x2), .val (.ref ra), .val (.ref ja), .val (.double sc), .second, .val (.int f0), .val (.long y0), .second, .val (.int rr), .unset, .unset] [.int (1 : Int32)]
        refine ⟨by omega, by have := of_decide_eq_true hchk; omega, fun T243 X243 eh243 => ?_⟩
        exact own_ret X243 hx hlk eh243 hret (by first | rfl | decide) (Or.inl ⟨rfl, by simp, _, rfl⟩) (hb hby at_377) (by decide) (by decide) (⟨rfl, Fr.app (Fr.app Nf232 M1) M2⟩)
      · skip
        rw [if_neg hf] at hchk
        obtain ⟨hchk, k5⟩ := Bool.and_eq_true_iff.mp hchk
        obtain ⟨hchk, k4⟩ := Bool.and_eq_true_iff.mp hchk
        obtain ⟨hchk, k3⟩ := Bool.and_eq_true_iff.mp hchk
        obtain ⟨k1, k2⟩ := Bool.and_eq_true_iff.mp hchk
        refine own_blk dec0 seq0 hby hx hZ hown hK hF 22 [true, false, false] [] X242 eh242 ?_
        show ((f0).toInt ≠ 0) ∧ (Jvm.Free.Fl.NoNaN64 (FP.dmul 4622945017495814144 (FP.i2d rr))) ∧ (Jvm.Free.Fl.NoNaN64 (FP.dmul sc (FP.dmul 4622945017495814144 (FP.i2d rr)))) ∧ (Jvm.Free.Fl.NoNaN64 (FP.dsub (FP.dmul sc (FP.dmul 4622945017495814144 (FP.i2d rr))) (FP.l2d y0))) ∧ (¬ (0 ≤ (cmpValue (FP.dcmp (FP.dsub (FP.dmul sc (FP.dmul 4622945017495814144 (FP.i2d rr))) (FP.l2d y0)) 4472406533629990549) .g).toInt)) ∧ (¬ ((cmpValue (FP.dcmp (FP.dsub (FP.dmul sc (FP.dmul 4622945017495814144 (FP.i2d rr))) (FP.l2d y0)) 13695778570484766357) .l).toInt ≤ 0)) ∧ own_Aft X242 hp234 _ 417 [.val (.int g0), .val (.int g1), .val (.int g2), .val (.int g3), .val (.int sh), .val (.int ex), .val (.int (2 : Int32)), .val (.int (3 : Int32)), .val (.int ex), .val (.int x1), .val (.int x2), .val (.ref ra), .val (.ref ja), .val (.double sc), .second, .val (.int f0), .val (.long y0), .second, .val (.int rr), .val (.double (FP.dsub (FP.dmul sc (FP.dmul 4622945017495814144 (FP.i2d rr))) (FP.l2d y0))), .second] [.int (1 : Int32)]
        refine ⟨by omega, own_nb_e k1, own_nb_e k2, own_nb_e k3, by have := of_decide_eq_true k4; omega, by have := of_decide_eq_true k5; omega, fun T244 X244 eh244 => ?_⟩
        exact own_ret X244 hx hlk eh244 hret (by first | rfl | decide) (Or.inl ⟨rfl, by simp, _, rfl⟩) (hb hby at_417) (by decide) (by decide) (⟨rfl, Fr.app (Fr.app Nf232 M1) M2⟩)
  · skip
    obtain rfl : nn = (3 : Int32) := Int32.toInt_inj.mp hn
    show own_Go p.tables e below _ (T1.setTop (mkF m 34 (Array.mk [.val (.int g0), .val (.int g1), .val (.int g2), .val (.int g3), .val (.int sh), .val (.int ex), .val (.int (3 : Int32)), .val (.int ee), .val (.int ex), .val (.int x1), .val (.int x2), .unset, .unset, .unset, .unset, .unset, .unset, .unset, .unset, .unset, .unset]) []))
    refine own_blk dec0 seq0 hby hx hZ hown hK hF 1 [] [] X1 eh1 ?_
    show own_Aft X1 h0 _ 36 [.val (.int g0), .val (.int g1), .val (.int g2), .val (.int g3), .val (.int sh), .val (.int ex), .val (.int (3 : Int32)), .val (.int ee), .val (.int ex), .val (.int x1), .val (.int x2), .unset, .unset, .unset, .unset, .unset, .unset, .unset, .unset, .unset, .unset] [.int (3 : Int32)]
    refine fun T245 X245 eh245 => ?_
    refine own_newP X245 hx hZ (hw _ (List.mem_of_getElem? (i := 1) rfl)) eh245 3 rfl (cap := 3) (by decide) (by decide) (hb hby at_36) (by decide) (by decide) (fun T246 hp246 ra ga246 X246 eh246 Ex246 Ar246 => ?_)
    have nw_ra : n0 ≤ ra := by rw [ga246]; exact Z0
    have Z_246 : n0 ≤ hp246.size := Nat.le_trans Z0 Ex246.1
    have Ar246' : own_A Z hp246 ra .int [.int (0 : Int32), .int (0 : Int32), .int (0 : Int32)] := Ar246
    show own_Go p.tables e below _ (T246.setTop (mkF m 38 (Array.mk [.val (.int g0), .val (.int g1), .val (.int g2), .val (.int g3), .val (.int sh), .val (.int ex), .val (.int (3 : Int32)), .val (.int ee), .val (.int ex), .val (.int x1), .val (.int x2), .unset, .unset, .unset, .unset, .unset, .unset, .unset, .unset, .unset, .unset]) [.ref ra]))
    refine own_blk dec0 seq0 hby hx hZ hown hK hF 6 [false] [] X246 eh246 ?_
    show (¬ (((3 : Int32)).toInt ≤ 0)) ∧ own_Aft X246 hp246 _ 49 [.val (.int g0), .val (.int g1), .val (.int g2), .val (.int g3), .val (.int sh), .val (.int ex), .val (.int (3 : Int32)), .val (.int ee), .val (.int ex), .val (.int x1), .val (.int x2), .val (.ref ra), .unset, .unset, .unset, .unset, .unset, .unset, .unset, .unset, .unset] [.int g0, .int (0 : Int32), .ref ra]
    refine ⟨by decide, fun T247 X247 eh247 => ?_⟩
    refine own_sI X247 hx hZ eh247 Ar246' 0 rfl (by show 0 < 3; decide) (hb hby at_49) (fun T248 hp248 X248 eh248 Wr248 Ar248 => ?_)
    have Ar248' : own_A Z hp248 ra .int [.int g0, .int (0 : Int32), .int (0 : Int32)] := Ar248
    have Nf248 := Fr.snoc X248 N0 nw_ra
    have Z_248 : n0 ≤ hp248.size := by rw [Wr.size Wr248]; exact Z_246
    refine own_blk dec0 seq0 hby hx hZ hown hK hF 6 [false] [] X248 eh248 ?_
    show (¬ (((3 : Int32)).toInt ≤ ((1 : Int32)).toInt)) ∧ own_Aft X248 hp248 _ 60 [.val (.int g0), .val (.int g1), .val (.int g2), .val (.int g3), .val (.int sh), .val (.int ex), .val (.int (3 : Int32)), .val (.int ee), .val (.int ex), .val (.int x1), .val (.int x2), .val (.ref ra), .unset, .unset, .unset, .unset, .unset, .unset, .unset, .unset, .unset] [.int g1, .int (1 : Int32), .ref ra]
    refine ⟨by decide, fun T249 X249 eh249 => ?_⟩
    refine own_sI X249 hx hZ eh249 Ar248' 1 rfl (by show 1 < 3; decide) (hb hby at_60) (fun T250 hp250 X250 eh250 Wr250 Ar250 => ?_)
    have Ar250' : own_A Z hp250 ra .int [.int g0, .int g1, .int (0 : Int32)] := Ar250
    have Nf250 := Fr.snoc X250 Nf248 nw_ra
    have Z_250 : n0 ≤ hp250.size := by rw [Wr.size Wr250]; exact Z_248
    refine own_blk dec0 seq0 hby hx hZ hown hK hF 6 [false] [] X250 eh250 ?_
    show (¬ (((3 : Int32)).toInt ≤ ((2 : Int32)).toInt)) ∧ own_Aft X250 hp250 _ 71 [.val (.int g0), .val (.int g1), .val (.int g2), .val (.int g3), .val (.int sh), .val (.int ex), .val (.int (3 : Int32)), .val (.int ee), .val (.int ex), .val (.int x1), .val (.int x2), .val (.ref ra), .unset, .unset, .unset, .unset, .unset, .unset, .unset, .unset, .unset] [.int g2, .int (2 : Int32), .ref ra]
    refine ⟨by decide, fun T251 X251 eh251 => ?_⟩
    refine own_sI X251 hx hZ eh251 Ar250' 2 rfl (by show 2 < 3; decide) (hb hby at_71) (fun T252 hp252 X252 eh252 Wr252 Ar252 => ?_)
    have Ar252' : own_A Z hp252 ra .int [.int g0, .int g1, .int g2] := Ar252
    have Nf252 := Fr.snoc X252 Nf250 nw_ra
    have Z_252 : n0 ≤ hp252.size := by rw [Wr.size Wr252]; exact Z_250
    refine own_blk dec0 seq0 hby hx hZ hown hK hF 3 [true] [] X252 eh252 ?_
    show (((3 : Int32)).toInt ≤ ((3 : Int32)).toInt) ∧ own_Aft X252 hp252 _ 83 [.val (.int g0), .val (.int g1), .val (.int g2), .val (.int g3), .val (.int sh), .val (.int ex), .val (.int (3 : Int32)), .val (.int ee), .val (.int ex), .val (.int x1), .val (.int x2), .val (.ref ra), .unset, .unset, .unset, .unset, .unset, .unset, .unset, .unset, .unset] []
    refine ⟨by decide, fun T253 X253 eh253 => ?_⟩
    obtain he | he | he | he : ee.toInt = (0 : Int32).toInt ∨ ee.toInt = (1 : Int32).toInt ∨ ee.toInt = (2 : Int32).toInt ∨ ee.toInt = (3 : Int32).toInt := by show ee.toInt = 0 ∨ ee.toInt = 1 ∨ ee.toInt = 2 ∨ ee.toInt = 3; omega
    · skip
      obtain rfl : ee = (0 : Int32) := Int32.toInt_inj.mp he
      show own_Go p.tables e below _ (T253.setTop (mkF m 83 (Array.mk [.val (.int g0), .val (.int g1), .val (.int g2), .val (.int g3), .val (.int sh), .val (.int ex), .val (.int (3 : Int32)), .val (.int (0 : Int32)), .val (.int ex), .val (.int x1), .val (.int x2), .val (.ref ra), .unset, .unset, .unset, .unset, .unset, .unset, .unset, .unset, .unset]) []))
      refine own_blk dec0 seq0 hby hx hZ hown hK hF 3 [] [] X253 eh253 ?_
      show own_Aft X253 hp252 _ 88 [.val (.int g0), .val (.int g1), .val (.int g2), .val (.int g3), .val (.int sh), .val (.int ex), .val (.int (3 : Int32)), .val (.int (0 : Int32)), .val (.int ex), .val (.int x1), .val (.int x2), .val (.ref ra), .unset, .unset, .unset, .unset, .unset, .unset, .unset, .unset, .unset] [.int (3 : Int32)]
      refine fun T254 X254 eh254 => ?_
      refine own_newP X254 hx hZ (hw _ (List.mem_of_getElem? (i := 1) rfl)) eh254 3 rfl (cap := 3) (by decide) (by decide) (hb hby at_88) (by decide) (by decide) (fun T255 hp255 ja ga255 X255 eh255 Ex255 Ar255 => ?_)
      have ne_ra_ja : ra ≠ ja := fun q => absurd Ar252'.lt (by rw [q, ga255]; exact Nat.lt_irrefl _)
      have nw_ja : n0 ≤ ja := by rw [ga255]; exact Z_252
      have Ar252'_255 := Ar252'.ext Ex255
      have Z_255 : n0 ≤ hp255.size := Nat.le_trans Z_252 Ex255.1
      have Ar255' : own_A Z hp255 ja .int [.int (0 : Int32), .int (0 : Int32), .int (0 : Int32)] := Ar255
      show own_Go p.tables e below _ (T255.setTop (mkF m 90 (Array.mk [.val (.int g0), .val (.int g1), .val (.int g2), .val (.int g3), .val (.int sh), .val (.int ex), .val (.int (3 : Int32)), .val (.int (0 : Int32)), .val (.int ex), .val (.int x1), .val (.int x2), .val (.ref ra), .unset, .unset, .unset, .unset, .unset, .unset, .unset, .unset, .unset]) [.ref ja]))
      refine own_blk dec0 seq0 hby hx hZ hown hK hF 14 [true, true, true, false] [] X255 eh255 ?_
      show (((0 : Int32)).toInt ≤ 0) ∧ (((0 : Int32)).toInt ≤ ((1 : Int32)).toInt) ∧ (((0 : Int32)).toInt ≤ ((2 : Int32)).toInt) ∧ (¬ (((3 : Int32)).toInt ≤ 0)) ∧ own_Aft X255 hp255 _ 137 [.val (.int g0), .val (.int g1), .val (.int g2), .val (.int g3), .val (.int sh), .val (.int ex), .val (.int (3 : Int32)), .val (.int (0 : Int32)), .val (.int ex), .val (.int x1), .val (.int x2), .val (.ref ra), .val (.ref ja), .unset, .unset, .unset, .unset, .unset, .unset, .unset, .unset] [.int g0, .int (0 : Int32), .ref ja]
      refine ⟨by decide, by decide, by decide, by decide, fun T256 X256 eh256 => ?_⟩
      refine own_sI X256 hx hZ eh256 Ar255' 0 rfl (by show 0 < 3; decide) (hb hby at_137) (fun T257 hp257 X257 eh257 Wr257 Ar257 => ?_)
      have Ar257' : own_A Z hp257 ja .int [.int g0, .int (0 : Int32), .int (0 : Int32)] := Ar257
      have Ar252'_257 := Ar252'_255.other Wr257 ne_ra_ja
      have Nf257 := Fr.snoc X257 Nf252 nw_ja
      have Z_257 : n0 ≤ hp257.size := by rw [Wr.size Wr257]; exact Z_255
      refine own_blk dec0 seq0 hby hx hZ hown hK hF 8 [false] [] X257 eh257 ?_
      show (¬ (((3 : Int32)).toInt ≤ ((1 : Int32)).toInt)) ∧ own_Aft X257 hp257 _ 151 [.val (.int g0), .val (.int g1), .val (.int g2), .val (.int g3), .val (.int sh), .val (.int ex), .val (.int (3 : Int32)), .val (.int (0 : Int32)), .val (.int ex), .val (.int x1), .val (.int x2), .val (.ref ra), .val (.ref ja), .unset, .unset, .unset, .unset, .unset, .unset, .unset, .unset] [.int g1, .int (1 : Int32), .ref ja]
      refine ⟨by decide, fun T258 X258 eh258 => ?_⟩
      refine own_sI X258 hx hZ eh258 Ar257' 1 rfl (by show 1 < 3; decide) (hb hby at_151) (fun T259 hp259 X259 eh259 Wr259 Ar259 => ?_)
      have Ar259' : own_A Z hp259 ja .int [.int g0, .int g1, .int (0 : Int32)] := Ar259
      have Ar252'_259 := Ar252'_257.other Wr259 ne_ra_ja
      have Nf259 := Fr.snoc X259 Nf257 nw_ja
      have Z_259 : n0 ≤ hp259.size := by rw [Wr.size Wr259]; exact Z_257
      refine own_blk dec0 seq0 hby hx hZ hown hK hF 8 [false] [] X259 eh259 ?_
      show (¬ (((3 : Int32)).toInt ≤ ((2 : Int32)).toInt)) ∧ own_Aft X259 hp259 _ 165 [.val (.int g0), .val (.int g1), .val (.int g2), .val (.int g3), .val (.int sh), .val (.int ex), .val (.int (3 : Int32)), .val (.int (0 : Int32)), .val (.int ex), .val (.int x1), .val (.int x2), .val (.ref ra), .val (.ref ja), .unset, .unset, .unset, .unset, .unset, .unset, .unset, .unset] [.int g2, .int (2 : Int32), .ref ja]
      refine ⟨by decide, fun T260 X260 eh260 => ?_⟩
      refine own_sI X260 hx hZ eh260 Ar259' 2 rfl (by show 2 < 3; decide) (hb hby at_165) (fun T261 hp261 X261 eh261 Wr261 Ar261 => ?_)
      have Ar261' : own_A Z hp261 ja .int [.int g0, .int g1, .int g2] := Ar261
      have Ar252'_261 := Ar252'_259.other Wr261 ne_ra_ja
      have Nf261 := Fr.snoc X261 Nf259 nw_ja
      have Z_261 : n0 ≤ hp261.size := by rw [Wr.size Wr261]; exact Z_259
      refine own_blk dec0 seq0 hby hx hZ hown hK hF 3 [true] [] X261 eh261 ?_
      show (((3 : Int32)).toInt ≤ ((3 : Int32)).toInt) ∧ own_Aft X261 hp261 _ 180 [.val (.int g0), .val (.int g1), .val (.int g2), .val (.int g3), .val (.int sh), .val (.int ex), .val (.int (3 : Int32)), .val (.int (0 : Int32)), .val (.int ex), .val (.int x1), .val (.int x2), .val (.ref ra), .val (.ref ja), .unset, .unset, .unset, .unset, .unset, .unset, .unset, .unset] []
      refine ⟨by decide, fun T262 X262 eh262 => ?_⟩
      refine own_new X262 hx hZ hown (hw _ (List.mem_of_getElem? (i := 2) rfl)) (hw _ (List.mem_of_getElem? (i := 3) rfl)) (hw _ (List.mem_of_getElem? (i := 4) rfl)) eh262 (hb hby at_180) (by decide) (by decide) (fun T263 hp263 ao ga263 X263 eh263 Ex263 Ea263 Dn263 => ?_)
      have ne_ra_ao : ra ≠ ao := fun q => absurd Ar252'_261.lt (by rw [q, ga263]; exact Nat.lt_irrefl _)
      have ne_ja_ao : ja ≠ ao := fun q => absurd Ar261'.lt (by rw [q, ga263]; exact Nat.lt_irrefl _)
      have nw_ao : n0 ≤ ao := by rw [ga263]; exact Z_261
      have Ar252'_263 := Ar252'_261.ext Ex263
      have Ar261'_263 := Ar261'.ext Ex263
      have Z_263 : n0 ≤ hp263.size := Nat.le_trans Z_261 Ex263.1
      show own_Go p.tables e below _ (T263.setTop (mkF m 183 (Array.mk [.val (.int g0), .val (.int g1), .val (.int g2), .val (.int g3), .val (.int sh), .val (.int ex), .val (.int (3 : Int32)), .val (.int (0 : Int32)), .val (.int ex), .val (.int x1), .val (.int x2), .val (.ref ra), .val (.ref ja), .unset, .unset, .unset, .unset, .unset, .unset, .unset, .unset]) [.ref ao]))
      refine own_blk dec0 seq0 hby hx hZ hown hK hF 1 [] [] X263 eh263 ?_
      show own_Aft X263 hp263 _ 184 [.val (.int g0), .val (.int g1), .val (.int g2), .val (.int g3), .val (.int sh), .val (.int ex), .val (.int (3 : Int32)), .val (.int (0 : Int32)), .val (.int ex), .val (.int x1), .val (.int x2), .val (.ref ra), .val (.ref ja), .unset, .unset, .unset, .unset, .unset, .unset, .unset, .unset] [.ref ao, .ref ao]
      refine fun T264 X264 eh264 => ?_
      refine own_callI X264 hx hZ hown rfl (hw _ (List.mem_of_getElem? (i := 5) rfl)) (hw _ (List.mem_of_getElem? (i := 6) rfl)) (hw _ (List.mem_of_getElem? (i := 4) rfl)) (hw _ (List.mem_of_getElem? (i := 7) rfl)) (by decide) eh264 ao [] pd1 rfl (rm := ({ frames := 1, cells := 0, slots := 0, locals := 12 } : Room)) (rm1 l Z a0 hw [] ao hp263 n0 Z_263) (by rw [hml]; rfl) 1 rfl (Nat.le_of_eq rfl) (hb hby at_184) (by decide) (by decide) (by decide) (by decide) (fun T265 rv265 Lc265 X265 qc265 => ?_)
      obtain ⟨rfl, M1, hh⟩ := qc265
      show own_Go p.tables e below _ (T265.setTop (mkF m 187 (Array.mk [.val (.int g0), .val (.int g1), .val (.int g2), .val (.int g3), .val (.int sh), .val (.int ex), .val (.int (3 : Int32)), .val (.int (0 : Int32)), .val (.int ex), .val (.int x1), .val (.int x2), .val (.ref ra), .val (.ref ja), .unset, .unset, .unset, .unset, .unset, .unset, .unset, .unset]) [.ref ao]))
      refine own_blk dec0 seq0 hby hx hZ hown hK hF 2 [] [] X265 hh ?_
      show own_Aft X265 hp263 _ 191 [.val (.int g0), .val (.int g1), .val (.int g2), .val (.int g3), .val (.int sh), .val (.int ex), .val (.int (3 : Int32)), .val (.int (0 : Int32)), .val (.int ex), .val (.int x1), .val (.int x2), .val (.ref ra), .val (.ref ja), .unset, .unset, .unset, .unset, .unset, .unset, .unset, .unset] [.ref ja, .ref ra, .ref ao]
      refine fun T266 X266 eh266 => ?_
      obtain ⟨b0, hb0⟩ : ∃ b : Bool, (0 < g0.toInt ↔ b = true) := ⟨decide (0 < g0.toInt), by simp⟩
      obtain ⟨b1, hb1⟩ : ∃ b : Bool, (0 < g1.toInt ↔ b = true) := ⟨decide (0 < g1.toInt), by simp⟩
      obtain ⟨b2, hb2⟩ : ∃ b : Bool, (0 < g2.toInt ↔ b = true) := ⟨decide (0 < g2.toInt), by simp⟩
      obtain ⟨hrok, hchk⟩ := Bool.and_eq_true_iff.mp (own_chk_3_0 b0 b1 b2)
      refine own_callV X266 hx hZ hown (hw _ (List.mem_of_getElem? (i := 11) rfl)) (hw _ (List.mem_of_getElem? (i := 12) rfl)) (hw _ (List.mem_of_getElem? (i := 14) rfl)) (hw _ (List.mem_of_getElem? (i := 13) rfl)) (hw _ (List.mem_of_getElem? (i := 4) rfl)) (hw _ (List.mem_of_getElem? (i := 15) rfl)) (by decide) eh266 Ea263 [.ref ra, .ref ja] pd3 rfl (rm := ({ frames := 0, cells := 0, slots := 0, locals := 0 } : Room)) (rm3_3_3 l Z a0 hw [] ao ra ja g0 g1 g2 g0 g1 g2 b0 b1 b2 b0 b1 b2 hp263 n0 Z_263 Ar252'_263 Ar261'_263 hb0 hb1 hb2 hb0 hb1 hb2 hrok) (by rw [hml]; rfl) 0 rfl (Nat.le_of_eq rfl) (hb hby at_191) (by decide) (by decide) (by decide) (by decide) (fun T267 rv267 Lc267 X267 qc267 => ?_)
      obtain ⟨rfl, M2, hh2⟩ := qc267
      have hres : own_res [b0, b1, b2] ([] ++ [b0, b1, b2]) = own_res [b0, b1, b2] [b0, b1, b2] := rfl
      generalize own_res [b0, b1, b2] [b0, b1, b2] = sc at hres ⊢
      show own_Go p.tables e below _ (T267.setTop (mkF m 194 (Array.mk [.val (.int g0), .val (.int g1), .val (.int g2), .val (.int g3), .val (.int sh), .val (.int ex), .val (.int (3 : Int32)), .val (.int (0 : Int32)), .val (.int ex), .val (.int x1), .val (.int x2), .val (.ref ra), .val (.ref ja), .unset, .unset, .unset, .unset, .unset, .unset, .unset, .unset]) [.double sc]))
      refine own_blk dec0 seq0 hby hx hZ hown hK hF 5 [] [] X267 hh2 ?_
      show own_Aft X267 hp263 _ 202 [.val (.int g0), .val (.int g1), .val (.int g2), .val (.int g3), .val (.int sh), .val (.int ex), .val (.int (3 : Int32)), .val (.int (0 : Int32)), .val (.int ex), .val (.int x1), .val (.int x2), .val (.ref ra), .val (.ref ja), .val (.double sc), .second, .val (.int (0 : Int32)), .val (.long (0 : Int64)), .second, .unset, .unset, .unset] []
      refine fun T268 X268 eh268 => ?_
      refine ptC_3 X268 hx hby hml hown hZ hK hF eh268 _ _ _ _ _ _ _ _ _ _ _ _ _ g0 g1 g2 g3 b0 b1 b2 hb0 hb1 hb2 (fun f0 y0 HF T269 X269 eh269 => ?_)
      show own_Go p.tables e below _ (T269.setTop (mkF m 315 (Array.mk [.val (.int g0), .val (.int g1), .val (.int g2), .val (.int g3), .val (.int sh), .val (.int ex), .val (.int (3 : Int32)), .val (.int (0 : Int32)), .val (.int ex), .val (.int x1), .val (.int x2), .val (.ref ra), .val (.ref ja), .val (.double sc), .second, .val (.int f0), .val (.long y0), .second, .unset, .unset, .unset]) []))
      refine own_blk dec0 seq0 hby hx hZ hown hK hF 2 [] [] X269 eh269 ?_
      show own_Aft X269 hp263 _ 319 [.val (.int g0), .val (.int g1), .val (.int g2), .val (.int g3), .val (.int sh), .val (.int ex), .val (.int (3 : Int32)), .val (.int (0 : Int32)), .val (.int ex), .val (.int x1), .val (.int x2), .val (.ref ra), .val (.ref ja), .val (.double sc), .second, .val (.int f0), .val (.long y0), .second, .val (.int f0), .unset, .unset] []
      refine fun T270 X270 eh270 => ?_
      refine ptD_0 X270 hx hby hml hown hZ hK hF eh270 _ _ _ _ _ _ _ _ _ _ _ _ _ _ _ _ ex x1 x2 f0   (fun rr CF T271 X271 eh271 => ?_)
      show own_Go p.tables e below _ (T271.setTop (mkF m 360 (Array.mk [.val (.int g0), .val (.int g1), .val (.int g2), .val (.int g3), .val (.int sh), .val (.int ex), .val (.int (3 : Int32)), .val (.int (0 : Int32)), .val (.int ex), .val (.int x1), .val (.int x2), .val (.ref ra), .val (.ref ja), .val (.double sc), .second, .val (.int f0), .val (.long y0), .second, .val (.int rr), .unset, .unset]) []))
      unfold own_dif at hchk
      rw [hres, HF] at hchk
      dsimp only at hchk
      rw [CF] at hchk
      by_cases hf : f0.toInt = 0
      · skip
        rw [if_pos hf] at hchk
        refine own_blk dec0 seq0 hby hx hZ hown hK hF 8 [false, false] [] X271 eh271 ?_
        show (¬ ((f0).toInt ≠ 0)) ∧ (¬ ((cmpValue (FP.dcmp sc 0) .l).toInt ≠ 0)) ∧ own_Aft X271 hp263 _ 377 [.val (.int g0), .val (.int g1), .val (.int g2), .val (.int g3), .val (.int sh), .val (.int ex), .val (.int (3 : Int32)), .val (.int (0 : Int32)), .val (.int ex), .val (.int x1), .val (.int x2), .val (.ref ra), .val (.ref ja), .val (.double sc), .second, .val (.int f0), .val (.long y0), .second, .val (.int rr), .unset, .unset] [.int (1 : Int32)]
        refine ⟨by omega, by have := of_decide_eq_true hchk; omega, fun T272 X272 eh272 => ?_⟩
        exact own_ret X272 hx hlk eh272 hret (by first | rfl | decide) (Or.inl ⟨rfl, by simp, _, rfl⟩) (hb hby at_377) (by decide) (by decide) (⟨rfl, Fr.app (Fr.app Nf261 M1) M2⟩)
      · skip
        rw [if_neg hf] at hchk
        obtain ⟨hchk, k5⟩ := Bool.and_eq_true_iff.mp hchk
        obtain ⟨hchk, k4⟩ := Bool.and_eq_true_iff.mp hchk
        obtain ⟨hchk, k3⟩ := Bool.and_eq_true_iff.mp hchk
        obtain ⟨k1, k2⟩ := Bool.and_eq_true_iff.mp hchk
        refine own_blk dec0 seq0 hby hx hZ hown hK hF 22 [true, false, false] [] X271 eh271 ?_
        show ((f0).toInt ≠ 0) ∧ (Jvm.Free.Fl.NoNaN64 (FP.dmul 4622945017495814144 (FP.i2d rr))) ∧ (Jvm.Free.Fl.NoNaN64 (FP.dmul sc (FP.dmul 4622945017495814144 (FP.i2d rr)))) ∧ (Jvm.Free.Fl.NoNaN64 (FP.dsub (FP.dmul sc (FP.dmul 4622945017495814144 (FP.i2d rr))) (FP.l2d y0))) ∧ (¬ (0 ≤ (cmpValue (FP.dcmp (FP.dsub (FP.dmul sc (FP.dmul 4622945017495814144 (FP.i2d rr))) (FP.l2d y0)) 4472406533629990549) .g).toInt)) ∧ (¬ ((cmpValue (FP.dcmp (FP.dsub (FP.dmul sc (FP.dmul 4622945017495814144 (FP.i2d rr))) (FP.l2d y0)) 13695778570484766357) .l).toInt ≤ 0)) ∧ own_Aft X271 hp263 _ 417 [.val (.int g0), .val (.int g1), .val (.int g2), .val (.int g3), .val (.int sh), .val (.int ex), .val (.int (3 : Int32)), .val (.int (0 : Int32)), .val (.int ex), .val (.int x1), .val (.int x2), .val (.ref ra), .val (.ref ja), .val (.double sc), .second, .val (.int f0), .val (.long y0), .second, .val (.int rr), .val (.double (FP.dsub (FP.dmul sc (FP.dmul 4622945017495814144 (FP.i2d rr))) (FP.l2d y0))), .second] [.int (1 : Int32)]
        refine ⟨by omega, own_nb_e k1, own_nb_e k2, own_nb_e k3, by have := of_decide_eq_true k4; omega, by have := of_decide_eq_true k5; omega, fun T273 X273 eh273 => ?_⟩
        exact own_ret X273 hx hlk eh273 hret (by first | rfl | decide) (Or.inl ⟨rfl, by simp, _, rfl⟩) (hb hby at_417) (by decide) (by decide) (⟨rfl, Fr.app (Fr.app Nf261 M1) M2⟩)
    · skip
      obtain rfl : ee = (1 : Int32) := Int32.toInt_inj.mp he
      show own_Go p.tables e below _ (T253.setTop (mkF m 83 (Array.mk [.val (.int g0), .val (.int g1), .val (.int g2), .val (.int g3), .val (.int sh), .val (.int ex), .val (.int (3 : Int32)), .val (.int (1 : Int32)), .val (.int ex), .val (.int x1), .val (.int x2), .val (.ref ra), .unset, .unset, .unset, .unset, .unset, .unset, .unset, .unset, .unset]) []))
      refine own_blk dec0 seq0 hby hx hZ hown hK hF 3 [] [] X253 eh253 ?_
      show own_Aft X253 hp252 _ 88 [.val (.int g0), .val (.int g1), .val (.int g2), .val (.int g3), .val (.int sh), .val (.int ex), .val (.int (3 : Int32)), .val (.int (1 : Int32)), .val (.int ex), .val (.int x1), .val (.int x2), .val (.ref ra), .unset, .unset, .unset, .unset, .unset, .unset, .unset, .unset, .unset] [.int (4 : Int32)]
      refine fun T274 X274 eh274 => ?_
      refine own_newP X274 hx hZ (hw _ (List.mem_of_getElem? (i := 1) rfl)) eh274 4 rfl (cap := 4) (by decide) (by decide) (hb hby at_88) (by decide) (by decide) (fun T275 hp275 ja ga275 X275 eh275 Ex275 Ar275 => ?_)
      have ne_ra_ja : ra ≠ ja := fun q => absurd Ar252'.lt (by rw [q, ga275]; exact Nat.lt_irrefl _)
      have nw_ja : n0 ≤ ja := by rw [ga275]; exact Z_252
      have Ar252'_275 := Ar252'.ext Ex275
      have Z_275 : n0 ≤ hp275.size := Nat.le_trans Z_252 Ex275.1
      have Ar275' : own_A Z hp275 ja .int [.int (0 : Int32), .int (0 : Int32), .int (0 : Int32), .int (0 : Int32)] := Ar275
      show own_Go p.tables e below _ (T275.setTop (mkF m 90 (Array.mk [.val (.int g0), .val (.int g1), .val (.int g2), .val (.int g3), .val (.int sh), .val (.int ex), .val (.int (3 : Int32)), .val (.int (1 : Int32)), .val (.int ex), .val (.int x1), .val (.int x2), .val (.ref ra), .unset, .unset, .unset, .unset, .unset, .unset, .unset, .unset, .unset]) [.ref ja]))
      refine own_blk dec0 seq0 hby hx hZ hown hK hF 6 [false] [] X275 eh275 ?_
      show (¬ (((1 : Int32)).toInt ≤ 0)) ∧ own_Aft X275 hp275 _ 102 [.val (.int g0), .val (.int g1), .val (.int g2), .val (.int g3), .val (.int sh), .val (.int ex), .val (.int (3 : Int32)), .val (.int (1 : Int32)), .val (.int ex), .val (.int x1), .val (.int x2), .val (.ref ra), .val (.ref ja), .unset, .unset, .unset, .unset, .unset, .unset, .unset, .unset] [.int ex, .int (0 : Int32), .ref ja]
      refine ⟨by decide, fun T276 X276 eh276 => ?_⟩
      refine own_sI X276 hx hZ eh276 Ar275' 0 rfl (by show 0 < 4; decide) (hb hby at_102) (fun T277 hp277 X277 eh277 Wr277 Ar277 => ?_)
      have Ar277' : own_A Z hp277 ja .int [.int ex, .int (0 : Int32), .int (0 : Int32), .int (0 : Int32)] := Ar277
      have Ar252'_277 := Ar252'_275.other Wr277 ne_ra_ja
      have Nf277 := Fr.snoc X277 Nf252 nw_ja
      have Z_277 : n0 ≤ hp277.size := by rw [Wr.size Wr277]; exact Z_275
      refine own_blk dec0 seq0 hby hx hZ hown hK hF 11 [true, true, false] [] X277 eh277 ?_
      show (((1 : Int32)).toInt ≤ ((1 : Int32)).toInt) ∧ (((1 : Int32)).toInt ≤ ((2 : Int32)).toInt) ∧ (¬ (((3 : Int32)).toInt ≤ 0)) ∧ own_Aft X277 hp277 _ 137 [.val (.int g0), .val (.int g1), .val (.int g2), .val (.int g3), .val (.int sh), .val (.int ex), .val (.int (3 : Int32)), .val (.int (1 : Int32)), .val (.int ex), .val (.int x1), .val (.int x2), .val (.ref ra), .val (.ref ja), .unset, .unset, .unset, .unset, .unset, .unset, .unset, .unset] [.int g0, .int (1 : Int32), .ref ja]
      refine ⟨by decide, by decide, by decide, fun T278 X278 eh278 => ?_⟩
      refine own_sI X278 hx hZ eh278 Ar277' 1 rfl (by show 1 < 4; decide) (hb hby at_137) (fun T279 hp279 X279 eh279 Wr279 Ar279 => ?_)
      have Ar279' : own_A Z hp279 ja .int [.int ex, .int g0, .int (0 : Int32), .int (0 : Int32)] := Ar279
      have Ar252'_279 := Ar252'_277.other Wr279 ne_ra_ja
      have Nf279 := Fr.snoc X279 Nf277 nw_ja
      have Z_279 : n0 ≤ hp279.size := by rw [Wr.size Wr279]; exact Z_277
      refine own_blk dec0 seq0 hby hx hZ hown hK hF 8 [false] [] X279 eh279 ?_
      show (¬ (((3 : Int32)).toInt ≤ ((1 : Int32)).toInt)) ∧ own_Aft X279 hp279 _ 151 [.val (.int g0), .val (.int g1), .val (.int g2), .val (.int g3), .val (.int sh), .val (.int ex), .val (.int (3 : Int32)), .val (.int (1 : Int32)), .val (.int ex), .val (.int x1), .val (.int x2), .val (.ref ra), .val (.ref ja), .unset, .unset, .unset, .unset, .unset, .unset, .unset, .unset] [.int g1, .int (2 : Int32), .ref ja]
      refine ⟨by decide, fun T280 X280 eh280 => ?_⟩
      refine own_sI X280 hx hZ eh280 Ar279' 2 rfl (by show 2 < 4; decide) (hb hby at_151) (fun T281 hp281 X281 eh281 Wr281 Ar281 => ?_)
      have Ar281' : own_A Z hp281 ja .int [.int ex, .int g0, .int g1, .int (0 : Int32)] := Ar281
      have Ar252'_281 := Ar252'_279.other Wr281 ne_ra_ja
      have Nf281 := Fr.snoc X281 Nf279 nw_ja
      have Z_281 : n0 ≤ hp281.size := by rw [Wr.size Wr281]; exact Z_279
      refine own_blk dec0 seq0 hby hx hZ hown hK hF 8 [false] [] X281 eh281 ?_
      show (¬ (((3 : Int32)).toInt ≤ ((2 : Int32)).toInt)) ∧ own_Aft X281 hp281 _ 165 [.val (.int g0), .val (.int g1), .val (.int g2), .val (.int g3), .val (.int sh), .val (.int ex), .val (.int (3 : Int32)), .val (.int (1 : Int32)), .val (.int ex), .val (.int x1), .val (.int x2), .val (.ref ra), .val (.ref ja), .unset, .unset, .unset, .unset, .unset, .unset, .unset, .unset] [.int g2, .int (3 : Int32), .ref ja]
      refine ⟨by decide, fun T282 X282 eh282 => ?_⟩
      refine own_sI X282 hx hZ eh282 Ar281' 3 rfl (by show 3 < 4; decide) (hb hby at_165) (fun T283 hp283 X283 eh283 Wr283 Ar283 => ?_)
      have Ar283' : own_A Z hp283 ja .int [.int ex, .int g0, .int g1, .int g2] := Ar283
      have Ar252'_283 := Ar252'_281.other Wr283 ne_ra_ja
      have Nf283 := Fr.snoc X283 Nf281 nw_ja
      have Z_283 : n0 ≤ hp283.size := by rw [Wr.size Wr283]; exact Z_281
      refine own_blk dec0 seq0 hby hx hZ hown hK hF 3 [true] [] X283 eh283 ?_
      show (((3 : Int32)).toInt ≤ ((3 : Int32)).toInt) ∧ own_Aft X283 hp283 _ 180 [.val (.int g0), .val (.int g1), .val (.int g2), .val (.int g3), .val (.int sh), .val (.int ex), .val (.int (3 : Int32)), .val (.int (1 : Int32)), .val (.int ex), .val (.int x1), .val (.int x2), .val (.ref ra), .val (.ref ja), .unset, .unset, .unset, .unset, .unset, .unset, .unset, .unset] []
      refine ⟨by decide, fun T284 X284 eh284 => ?_⟩
      refine own_new X284 hx hZ hown (hw _ (List.mem_of_getElem? (i := 2) rfl)) (hw _ (List.mem_of_getElem? (i := 3) rfl)) (hw _ (List.mem_of_getElem? (i := 4) rfl)) eh284 (hb hby at_180) (by decide) (by decide) (fun T285 hp285 ao ga285 X285 eh285 Ex285 Ea285 Dn285 => ?_)
      have ne_ra_ao : ra ≠ ao := fun q => absurd Ar252'_283.lt (by rw [q, ga285]; exact Nat.lt_irrefl _)
      have ne_ja_ao : ja ≠ ao := fun q => absurd Ar283'.lt (by rw [q, ga285]; exact Nat.lt_irrefl _)
      have nw_ao : n0 ≤ ao := by rw [ga285]; exact Z_283
      have Ar252'_285 := Ar252'_283.ext Ex285
      have Ar283'_285 := Ar283'.ext Ex285
      have Z_285 : n0 ≤ hp285.size := Nat.le_trans Z_283 Ex285.1
      show own_Go p.tables e below _ (T285.setTop (mkF m 183 (Array.mk [.val (.int g0), .val (.int g1), .val (.int g2), .val (.int g3), .val (.int sh), .val (.int ex), .val (.int (3 : Int32)), .val (.int (1 : Int32)), .val (.int ex), .val (.int x1), .val (.int x2), .val (.ref ra), .val (.ref ja), .unset, .unset, .unset, .unset, .unset, .unset, .unset, .unset]) [.ref ao]))
      refine own_blk dec0 seq0 hby hx hZ hown hK hF 1 [] [] X285 eh285 ?_
      show own_Aft X285 hp285 _ 184 [.val (.int g0), .val (.int g1), .val (.int g2), .val (.int g3), .val (.int sh), .val (.int ex), .val (.int (3 : Int32)), .val (.int (1 : Int32)), .val (.int ex), .val (.int x1), .val (.int x2), .val (.ref ra), .val (.ref ja), .unset, .unset, .unset, .unset, .unset, .unset, .unset, .unset] [.ref ao, .ref ao]
      refine fun T286 X286 eh286 => ?_
      refine own_callI X286 hx hZ hown rfl (hw _ (List.mem_of_getElem? (i := 5) rfl)) (hw _ (List.mem_of_getElem? (i := 6) rfl)) (hw _ (List.mem_of_getElem? (i := 4) rfl)) (hw _ (List.mem_of_getElem? (i := 7) rfl)) (by decide) eh286 ao [] pd1 rfl (rm := ({ frames := 1, cells := 0, slots := 0, locals := 12 } : Room)) (rm1 l Z a0 hw [] ao hp285 n0 Z_285) (by rw [hml]; rfl) 1 rfl (Nat.le_of_eq rfl) (hb hby at_184) (by decide) (by decide) (by decide) (by decide) (fun T287 rv287 Lc287 X287 qc287 => ?_)
      obtain ⟨rfl, M1, hh⟩ := qc287
      show own_Go p.tables e below _ (T287.setTop (mkF m 187 (Array.mk [.val (.int g0), .val (.int g1), .val (.int g2), .val (.int g3), .val (.int sh), .val (.int ex), .val (.int (3 : Int32)), .val (.int (1 : Int32)), .val (.int ex), .val (.int x1), .val (.int x2), .val (.ref ra), .val (.ref ja), .unset, .unset, .unset, .unset, .unset, .unset, .unset, .unset]) [.ref ao]))
      refine own_blk dec0 seq0 hby hx hZ hown hK hF 2 [] [] X287 hh ?_
      show own_Aft X287 hp285 _ 191 [.val (.int g0), .val (.int g1), .val (.int g2), .val (.int g3), .val (.int sh), .val (.int ex), .val (.int (3 : Int32)), .val (.int (1 : Int32)), .val (.int ex), .val (.int x1), .val (.int x2), .val (.ref ra), .val (.ref ja), .unset, .unset, .unset, .unset, .unset, .unset, .unset, .unset] [.ref ja, .ref ra, .ref ao]
      refine fun T288 X288 eh288 => ?_
      obtain ⟨b0, hb0⟩ : ∃ b : Bool, (0 < g0.toInt ↔ b = true) := ⟨decide (0 < g0.toInt), by simp⟩
      obtain ⟨b1, hb1⟩ : ∃ b : Bool, (0 < g1.toInt ↔ b = true) := ⟨decide (0 < g1.toInt), by simp⟩
      obtain ⟨b2, hb2⟩ : ∃ b : Bool, (0 < g2.toInt ↔ b = true) := ⟨decide (0 < g2.toInt), by simp⟩
      obtain ⟨c0, hc0⟩ : ∃ b : Bool, (0 < ex.toInt ↔ b = true) := ⟨decide (0 < ex.toInt), by simp⟩
      obtain ⟨hrok, hchk⟩ := Bool.and_eq_true_iff.mp (own_chk_3_1 b0 b1 b2 c0)
      refine own_callV X288 hx hZ hown (hw _ (List.mem_of_getElem? (i := 11) rfl)) (hw _ (List.mem_of_getElem? (i := 12) rfl)) (hw _ (List.mem_of_getElem? (i := 14) rfl)) (hw _ (List.mem_of_getElem? (i := 13) rfl)) (hw _ (List.mem_of_getElem? (i := 4) rfl)) (hw _ (List.mem_of_getElem? (i := 15) rfl)) (by decide) eh288 Ea285 [.ref ra, .ref ja] pd3 rfl (rm := ({ frames := 0, cells := 0, slots := 0, locals := 0 } : Room)) (rm3_3_4 l Z a0 hw [] ao ra ja g0 g1 g2 ex g0 g1 g2 b0 b1 b2 c0 b0 b1 b2 hp285 n0 Z_285 Ar252'_285 Ar283'_285 hb0 hb1 hb2 hc0 hb0 hb1 hb2 hrok) (by rw [hml]; rfl) 0 rfl (Nat.le_of_eq rfl) (hb hby at_191) (by decide) (by decide) (by decide) (by decide) (fun T289 rv289 Lc289 X289 qc289 => ?_)
      obtain ⟨rfl, M2, hh2⟩ := qc289
      have hres : own_res [b0, b1, b2] ([c0] ++ [b0, b1, b2]) = own_res [b0, b1, b2] [c0, b0, b1, b2] := rfl
      generalize own_res [b0, b1, b2] [c0, b0, b1, b2] = sc at hres ⊢
      show own_Go p.tables e below _ (T289.setTop (mkF m 194 (Array.mk [.val (.int g0), .val (.int g1), .val (.int g2), .val (.int g3), .val (.int sh), .val (.int ex), .val (.int (3 : Int32)), .val (.int (1 : Int32)), .val (.int ex), .val (.int x1), .val (.int x2), .val (.ref ra), .val (.ref ja), .unset, .unset, .unset, .unset, .unset, .unset, .unset, .unset]) [.double sc]))
      refine own_blk dec0 seq0 hby hx hZ hown hK hF 5 [] [] X289 hh2 ?_
      show own_Aft X289 hp285 _ 202 [.val (.int g0), .val (.int g1), .val (.int g2), .val (.int g3), .val (.int sh), .val (.int ex), .val (.int (3 : Int32)), .val (.int (1 : Int32)), .val (.int ex), .val (.int x1), .val (.int x2), .val (.ref ra), .val (.ref ja), .val (.double sc), .second, .val (.int (0 : Int32)), .val (.long (0 : Int64)), .second, .unset, .unset, .unset] []
      refine fun T290 X290 eh290 => ?_
      refine ptC_3 X290 hx hby hml hown hZ hK hF eh290 _ _ _ _ _ _ _ _ _ _ _ _ _ g0 g1 g2 g3 b0 b1 b2 hb0 hb1 hb2 (fun f0 y0 HF T291 X291 eh291 => ?_)
      show own_Go p.tables e below _ (T291.setTop (mkF m 315 (Array.mk [.val (.int g0), .val (.int g1), .val (.int g2), .val (.int g3), .val (.int sh), .val (.int ex), .val (.int (3 : Int32)), .val (.int (1 : Int32)), .val (.int ex), .val (.int x1), .val (.int x2), .val (.ref ra), .val (.ref ja), .val (.double sc), .second, .val (.int f0), .val (.long y0), .second, .unset, .unset, .unset]) []))
      refine own_blk dec0 seq0 hby hx hZ hown hK hF 2 [] [] X291 eh291 ?_
      show own_Aft X291 hp285 _ 319 [.val (.int g0), .val (.int g1), .val (.int g2), .val (.int g3), .val (.int sh), .val (.int ex), .val (.int (3 : Int32)), .val (.int (1 : Int32)), .val (.int ex), .val (.int x1), .val (.int x2), .val (.ref ra), .val (.ref ja), .val (.double sc), .second, .val (.int f0), .val (.long y0), .second, .val (.int f0), .unset, .unset] []
      refine fun T292 X292 eh292 => ?_
      refine ptD_1 X292 hx hby hml hown hZ hK hF eh292 _ _ _ _ _ _ _ _ _ _ _ _ _ _ _ _ ex x1 x2 f0 c0 hc0 (fun rr CF T293 X293 eh293 => ?_)
      show own_Go p.tables e below _ (T293.setTop (mkF m 360 (Array.mk [.val (.int g0), .val (.int g1), .val (.int g2), .val (.int g3), .val (.int sh), .val (.int ex), .val (.int (3 : Int32)), .val (.int (1 : Int32)), .val (.int ex), .val (.int x1), .val (.int x2), .val (.ref ra), .val (.ref ja), .val (.double sc), .second, .val (.int f0), .val (.long y0), .second, .val (.int rr), .unset, .unset]) []))
      unfold own_dif at hchk
      rw [hres, HF] at hchk
      dsimp only at hchk
      rw [CF] at hchk
      by_cases hf : f0.toInt = 0
      · skip
        rw [if_pos hf] at hchk
        refine own_blk dec0 seq0 hby hx hZ hown hK hF 8 [false, false] [] X293 eh293 ?_
        show (¬ ((f0).toInt ≠ 0)) ∧ (¬ ((cmpValue (FP.dcmp sc 0) .l).toInt ≠ 0)) ∧ own_Aft X293 hp285 _ 377 [.val (.int g0), .val (.int g1), .val (.int g2), .val (.int g3), .val (.int sh), .val (.int ex), .val (.int (3 : Int32)), .val (.int (1 : Int32)), .val (.int ex), .val (.int x1), .val (.int x2), .val (.ref ra), .val (.ref ja), .val (.double sc), .second, .val (.int f0), .val (.long y0), .second, .val (.int rr), .unset, .unset] [.int (1 : Int32)]
        refine ⟨by omega, by have := of_decide_eq_true hchk; omega, fun T294 X294 eh294 => ?_⟩
        exact own_ret X294 hx hlk eh294 hret (by first | rfl | decide) (Or.inl ⟨rfl, by simp, _, rfl⟩) (hb hby at_377) (by decide) (by decide) (⟨rfl, Fr.app (Fr.app Nf283 M1) M2⟩)
      · skip
        rw [if_neg hf] at hchk
        obtain ⟨hchk, k5⟩ := Bool.and_eq_true_iff.mp hchk
        obtain ⟨hchk, k4⟩ := Bool.and_eq_true_iff.mp hchk
        obtain ⟨hchk, k3⟩ := Bool.and_eq_true_iff.mp hchk
        obtain ⟨k1, k2⟩ := Bool.and_eq_true_iff.mp hchk
        refine own_blk dec0 seq0 hby hx hZ hown hK hF 22 [true, false, false] [] X293 eh293 ?_
        show ((f0).toInt ≠ 0) ∧ (Jvm.Free.Fl.NoNaN64 (FP.dmul 4622945017495814144 (FP.i2d rr))) ∧ (Jvm.Free.Fl.NoNaN64 (FP.dmul sc (FP.dmul 4622945017495814144 (FP.i2d rr)))) ∧ (Jvm.Free.Fl.NoNaN64 (FP.dsub (FP.dmul sc (FP.dmul 4622945017495814144 (FP.i2d rr))) (FP.l2d y0))) ∧ (¬ (0 ≤ (cmpValue (FP.dcmp (FP.dsub (FP.dmul sc (FP.dmul 4622945017495814144 (FP.i2d rr))) (FP.l2d y0)) 4472406533629990549) .g).toInt)) ∧ (¬ ((cmpValue (FP.dcmp (FP.dsub (FP.dmul sc (FP.dmul 4622945017495814144 (FP.i2d rr))) (FP.l2d y0)) 13695778570484766357) .l).toInt ≤ 0)) ∧ own_Aft X293 hp285 _ 417 [.val (.int g0), .val (.int g1), .val (.int g2), .val (.int g3), .val (.int sh), .val (.int ex), .val (.int (3 : Int32)), .val (.int (1 : Int32)), .val (.int ex), .val (.int x1), .val (.int x2), .val (.ref ra), .val (.ref ja), .val (.double sc), .second, .val (.int f0), .val (.long y0), .second, .val (.int rr), .val (.double (FP.dsub (FP.dmul sc (FP.dmul 4622945017495814144 (FP.i2d rr))) (FP.l2d y0))), .second] [.int (1 : Int32)]
        refine ⟨by omega, own_nb_e k1, own_nb_e k2, own_nb_e k3, by have := of_decide_eq_true k4; omega, by have := of_decide_eq_true k5; omega, fun T295 X295 eh295 => ?_⟩
        exact own_ret X295 hx hlk eh295 hret (by first | rfl | decide) (Or.inl ⟨rfl, by simp, _, rfl⟩) (hb hby at_417) (by decide) (by decide) (⟨rfl, Fr.app (Fr.app Nf283 M1) M2⟩)
    · skip
      obtain rfl : ee = (2 : Int32) := Int32.toInt_inj.mp he
      show own_Go p.tables e below _ (T253.setTop (mkF m 83 (Array.mk [.val (.int g0), .val (.int g1), .val (.int g2), .val (.int g3), .val (.int sh), .val (.int ex), .val (.int (3 : Int32)), .val (.int (2 : Int32)), .val (.int ex), .val (.int x1), .val (.int x2), .val (.ref ra), .unset, .unset, .unset, .unset, .unset, .unset, .unset, .unset, .unset]) []))
      refine own_blk dec0 seq0 hby hx hZ hown hK hF 3 [] [] X253 eh253 ?_
      show own_Aft X253 hp252 _ 88 [.val (.int g0), .val (.int g1), .val (.int g2), .val (.int g3), .val (.int sh), .val (.int ex), .val (.int (3 : Int32)), .val (.int (2 : Int32)), .val (.int ex), .val (.int x1), .val (.int x2), .val (.ref ra), .unset, .unset, .unset, .unset, .unset, .unset, .unset, .unset, .unset] [.int (5 : Int32)]
      refine fun T296 X296 eh296 => ?_
      refine own_newP X296 hx hZ (hw _ (List.mem_of_getElem? (i := 1) rfl)) eh296 5 rfl (cap := 5) (by decide) (by decide) (hb hby at_88) (by decide) (by decide) (fun T297 hp297 ja ga297 X297 eh297 Ex297 Ar297 => ?_)
      have ne_ra_ja : ra ≠ ja := fun q => absurd Ar252'.lt (by rw [q, ga297]; exact Nat.lt_irrefl _)
      have nw_ja : n0 ≤ ja := by rw [ga297]; exact Z_252
      have Ar252'_297 := Ar252'.ext Ex297
      have Z_297 : n0 ≤ hp297.size := Nat.le_trans Z_252 Ex297.1
      have Ar297' : own_A Z hp297 ja .int [.int (0 : Int32), .int (0 : Int32), .int (0 : Int32), .int (0 : Int32), .int (0 : Int32)] := Ar297
      show own_Go p.tables e below _ (T297.setTop (mkF m 90 (Array.mk [.val (.int g0), .val (.int g1), .val (.int g2), .val (.int g3), .val (.int sh), .val (.int ex), .val (.int (3 : Int32)), .val (.int (2 : Int32)), .val (.int ex), .val (.int x1), .val (.int x2), .val (.ref ra), .unset, .unset, .unset, .unset, .unset, .unset, .unset, .unset, .unset]) [.ref ja]))
      refine own_blk dec0 seq0 hby hx hZ hown hK hF 6 [false] [] X297 eh297 ?_
      show (¬ (((2 : Int32)).toInt ≤ 0)) ∧ own_Aft X297 hp297 _ 102 [.val (.int g0), .val (.int g1), .val (.int g2), .val (.int g3), .val (.int sh), .val (.int ex), .val (.int (3 : Int32)), .val (.int (2 : Int32)), .val (.int ex), .val (.int x1), .val (.int x2), .val (.ref ra), .val (.ref ja), .unset, .unset, .unset, .unset, .unset, .unset, .unset, .unset] [.int ex, .int (0 : Int32), .ref ja]
      refine ⟨by decide, fun T298 X298 eh298 => ?_⟩
      refine own_sI X298 hx hZ eh298 Ar297' 0 rfl (by show 0 < 5; decide) (hb hby at_102) (fun T299 hp299 X299 eh299 Wr299 Ar299 => ?_)
      have Ar299' : own_A Z hp299 ja .int [.int ex, .int (0 : Int32), .int (0 : Int32), .int (0 : Int32), .int (0 : Int32)] := Ar299
      have Ar252'_299 := Ar252'_297.other Wr299 ne_ra_ja
      have Nf299 := Fr.snoc X299 Nf252 nw_ja
      have Z_299 : n0 ≤ hp299.size := by rw [Wr.size Wr299]; exact Z_297
      refine own_blk dec0 seq0 hby hx hZ hown hK hF 6 [false] [] X299 eh299 ?_
      show (¬ (((2 : Int32)).toInt ≤ ((1 : Int32)).toInt)) ∧ own_Aft X299 hp299 _ 114 [.val (.int g0), .val (.int g1), .val (.int g2), .val (.int g3), .val (.int sh), .val (.int ex), .val (.int (3 : Int32)), .val (.int (2 : Int32)), .val (.int ex), .val (.int x1), .val (.int x2), .val (.ref ra), .val (.ref ja), .unset, .unset, .unset, .unset, .unset, .unset, .unset, .unset] [.int x1, .int (1 : Int32), .ref ja]
      refine ⟨by decide, fun T300 X300 eh300 => ?_⟩
      refine own_sI X300 hx hZ eh300 Ar299' 1 rfl (by show 1 < 5; decide) (hb hby at_114) (fun T301 hp301 X301 eh301 Wr301 Ar301 => ?_)
      have Ar301' : own_A Z hp301 ja .int [.int ex, .int x1, .int (0 : Int32), .int (0 : Int32), .int (0 : Int32)] := Ar301
      have Ar252'_301 := Ar252'_299.other Wr301 ne_ra_ja
      have Nf301 := Fr.snoc X301 Nf299 nw_ja
      have Z_301 : n0 ≤ hp301.size := by rw [Wr.size Wr301]; exact Z_299
      refine own_blk dec0 seq0 hby hx hZ hown hK hF 8 [true, false] [] X301 eh301 ?_
      show (((2 : Int32)).toInt ≤ ((2 : Int32)).toInt) ∧ (¬ (((3 : Int32)).toInt ≤ 0)) ∧ own_Aft X301 hp301 _ 137 [.val (.int g0), .val (.int g1), .val (.int g2), .val (.int g3), .val (.int sh), .val (.int ex), .val (.int (3 : Int32)), .val (.int (2 : Int32)), .val (.int ex), .val (.int x1), .val (.int x2), .val (.ref ra), .val (.ref ja), .unset, .unset, .unset, .unset, .unset, .unset, .unset, .unset] [.int g0, .int (2 : Int32), .ref ja]
      refine ⟨by decide, by decide, fun T302 X302 eh302 => ?_⟩
      refine own_sI X302 hx hZ eh302 Ar301' 2 rfl (by show 2 < 5; decide) (hb hby at_137) (fun T303 hp303 X303 eh303 Wr303 Ar303 => ?_)
      have Ar303' : own_A Z hp303 ja .int [.int ex, .int x1, .int g0, .int (0 : Int32), .int (0 : Int32)] := Ar303
      have Ar252'_303 := Ar252'_301.other Wr303 ne_ra_ja
      have Nf303 := Fr.snoc X303 Nf301 nw_ja
      have Z_303 : n0 ≤ hp303.size := by rw [Wr.size Wr303]; exact Z_301
      refine own_blk dec0 seq0 hby hx hZ hown hK hF 8 [false] [] X303 eh303 ?_
      show (¬ (((3 : Int32)).toInt ≤ ((1 : Int32)).toInt)) ∧ own_Aft X303 hp303 _ 151 [.val (.int g0), .val (.int g1), .val (.int g2), .val (.int g3), .val (.int sh), .val (.int ex), .val (.int (3 : Int32)), .val (.int (2 : Int32)), .val (.int ex), .val (.int x1), .val (.int x2), .val (.ref ra), .val (.ref ja), .unset, .unset, .unset, .unset, .unset, .unset, .unset, .unset] [.int g1, .int (3 : Int32), .ref ja]
      refine ⟨by decide, fun T304 X304 eh304 => ?_⟩
      refine own_sI X304 hx hZ eh304 Ar303' 3 rfl (by show 3 < 5; decide) (hb hby at_151) (fun T305 hp305 X305 eh305 Wr305 Ar305 => ?_)
      have Ar305' : own_A Z hp305 ja .int [.int ex, .int x1, .int g0, .int g1, .int (0 : Int32)] := Ar305
      have Ar252'_305 := Ar252'_303.other Wr305 ne_ra_ja
      have Nf305 := Fr.snoc X305 Nf303 nw_ja
      have Z_305 : n0 ≤ hp305.size := by rw [Wr.size Wr305]; exact Z_303
      refine own_blk dec0 seq0 hby hx hZ hown hK hF 8 [false] [] X305 eh305 ?_
      show (¬ (((3 : Int32)).toInt ≤ ((2 : Int32)).toInt)) ∧ own_Aft X305 hp305 _ 165 [.val (.int g0), .val (.int g1), .val (.int g2), .val (.int g3), .val (.int sh), .val (.int ex), .val (.int (3 : Int32)), .val (.int (2 : Int32)), .val (.int ex), .val (.int x1), .val (.int x2), .val (.ref ra), .val (.ref ja), .unset, .unset, .unset, .unset, .unset, .unset, .unset, .unset] [.int g2, .int (4 : Int32), .ref ja]
      refine ⟨by decide, fun T306 X306 eh306 => ?_⟩
      refine own_sI X306 hx hZ eh306 Ar305' 4 rfl (by show 4 < 5; decide) (hb hby at_165) (fun T307 hp307 X307 eh307 Wr307 Ar307 => ?_)
      have Ar307' : own_A Z hp307 ja .int [.int ex, .int x1, .int g0, .int g1, .int g2] := Ar307
      have Ar252'_307 := Ar252'_305.other Wr307 ne_ra_ja
      have Nf307 := Fr.snoc X307 Nf305 nw_ja
      have Z_307 : n0 ≤ hp307.size := by rw [Wr.size Wr307]; exact Z_305
      refine own_blk dec0 seq0 hby hx hZ hown hK hF 3 [true] [] X307 eh307 ?_
      show (((3 : Int32)).toInt ≤ ((3 : Int32)).toInt) ∧ own_Aft X307 hp307 _ 180 [.val (.int g0), .val (.int g1), .val (.int g2), .val (.int g3), .val (.int sh), .val (.int ex), .val (.int (3 : Int32)), .val (.int (2 : Int32)), .val (.int ex), .val (.int x1), .val (.int x2), .val (.ref ra), .val (.ref ja), .unset, .unset, .unset, .unset, .unset, .unset, .unset, .unset] []
      refine ⟨by decide, fun T308 X308 eh308 => ?_⟩
      refine own_new X308 hx hZ hown (hw _ (List.mem_of_getElem? (i := 2) rfl)) (hw _ (List.mem_of_getElem? (i := 3) rfl)) (hw _ (List.mem_of_getElem? (i := 4) rfl)) eh308 (hb hby at_180) (by decide) (by decide) (fun T309 hp309 ao ga309 X309 eh309 Ex309 Ea309 Dn309 => ?_)
      have ne_ra_ao : ra ≠ ao := fun q => absurd Ar252'_307.lt (by rw [q, ga309]; exact Nat.lt_irrefl _)
      have ne_ja_ao : ja ≠ ao := fun q => absurd Ar307'.lt (by rw [q, ga309]; exact Nat.lt_irrefl _)
      have nw_ao : n0 ≤ ao := by rw [ga309]; exact Z_307
      have Ar252'_309 := Ar252'_307.ext Ex309
      have Ar307'_309 := Ar307'.ext Ex309
      have Z_309 : n0 ≤ hp309.size := Nat.le_trans Z_307 Ex309.1
      show own_Go p.tables e below _ (T309.setTop (mkF m 183 (Array.mk [.val (.int g0), .val (.int g1), .val (.int g2), .val (.int g3), .val (.int sh), .val (.int ex), .val (.int (3 : Int32)), .val (.int (2 : Int32)), .val (.int ex), .val (.int x1), .val (.int x2), .val (.ref ra), .val (.ref ja), .unset, .unset, .unset, .unset, .unset, .unset, .unset, .unset]) [.ref ao]))
      refine own_blk dec0 seq0 hby hx hZ hown hK hF 1 [] [] X309 eh309 ?_
      show own_Aft X309 hp309 _ 184 [.val (.int g0), .val (.int g1), .val (.int g2), .val (.int g3), .val (.int sh), .val (.int ex), .val (.int (3 : Int32)), .val (.int (2 : Int32)), .val (.int ex), .val (.int x1), .val (.int x2), .val (.ref ra), .val (.ref ja), .unset, .unset, .unset, .unset, .unset, .unset, .unset, .unset] [.ref ao, .ref ao]
      refine fun T310 X310 eh310 => ?_
      refine own_callI X310 hx hZ hown rfl (hw _ (List.mem_of_getElem? (i := 5) rfl)) (hw _ (List.mem_of_getElem? (i := 6) rfl)) (hw _ (List.mem_of_getElem? (i := 4) rfl)) (hw _ (List.mem_of_getElem? (i := 7) rfl)) (by decide) eh310 ao [] pd1 rfl (rm := ({ frames := 1, cells := 0, slots := 0, locals := 12 } : Room)) (rm1 l Z a0 hw [] ao hp309 n0 Z_309) (by rw [hml]; rfl) 1 rfl (Nat.le_of_eq rfl) (hb hby at_184) (by decide) (by decide) (by decide) (by decide) (fun T311 rv311 Lc311 X311 qc311 => ?_)
      obtain ⟨rfl, M1, hh⟩ := qc311
      show own_Go p.tables e below _ (T311.setTop (mkF m 187 (Array.mk [.val (.int g0), .val (.int g1), .val (.int g2), .val (.int g3), .val (.int sh), .val (.int ex), .val (.int (3 : Int32)), .val (.int (2 : Int32)), .val (.int ex), .val (.int x1), .val (.int x2), .val (.ref ra), .val (.ref ja), .unset, .unset, .unset, .unset, .unset, .unset, .unset, .unset]) [.ref ao]))
      refine own_blk dec0 seq0 hby hx hZ hown hK hF 2 [] [] X311 hh ?_
      show own_Aft X311 hp309 _ 191 [.val (.int g0), .val (.int g1), .val (.int g2), .val (.int g3), .val (.int sh), .val (.int ex), .val (.int (3 : Int32)), .val (.int (2 : Int32)), .val (.int ex), .val (.int x1), .val (.int x2), .val (.ref ra), .val (.ref ja), .unset, .unset, .unset, .unset, .unset, .unset, .unset, .unset] [.ref ja, .ref ra, .ref ao]
      refine fun T312 X312 eh312 => ?_
      obtain ⟨b0, hb0⟩ : ∃ b : Bool, (0 < g0.toInt ↔ b = true) := ⟨decide (0 < g0.toInt), by simp⟩
      obtain ⟨b1, hb1⟩ : ∃ b : Bool, (0 < g1.toInt ↔ b = true) := ⟨decide (0 < g1.toInt), by simp⟩
      obtain ⟨b2, hb2⟩ : ∃ b : Bool, (0 < g2.toInt ↔ b = true) := ⟨decide (0 < g2.toInt), by simp⟩
      obtain ⟨c0, hc0⟩ : ∃ b : Bool, (0 < ex.toInt ↔ b = true) := ⟨decide (0 < ex.toInt), by simp⟩
      obtain ⟨c1, hc1⟩ : ∃ b : Bool, (0 < x1.toInt ↔ b = true) := ⟨decide (0 < x1.toInt), by simp⟩
      obtain ⟨hrok, hchk⟩ := Bool.and_eq_true_iff.mp (own_chk_3_2 b0 b1 b2 c0 c1)
      refine own_callV X312 hx hZ hown (hw _ (List.mem_of_getElem? (i := 11) rfl)) (hw _ (List.mem_of_getElem? (i := 12) rfl)) (hw _ (List.mem_of_getElem? (i := 14) rfl)) (hw _ (List.mem_of_getElem? (i := 13) rfl)) (hw _ (List.mem_of_getElem? (i := 4) rfl)) (hw _ (List.mem_of_getElem? (i := 15) rfl)) (by decide) eh312 Ea309 [.ref ra, .ref ja] pd3 rfl (rm := ({ frames := 0, cells := 0, slots := 0, locals := 0 } : Room)) (rm3_3_5 l Z a0 hw [] ao ra ja g0 g1 g2 ex x1 g0 g1 g2 b0 b1 b2 c0 c1 b0 b1 b2 hp309 n0 Z_309 Ar252'_309 Ar307'_309 hb0 hb1 hb2 hc0 hc1 hb0 hb1 hb2 hrok) (by rw [hml]; rfl) 0 rfl (Nat.le_of_eq rfl) (hb hby at_191) (by decide) (by decide) (by decide) (by decide) (fun T313 rv313 Lc313 X313 qc313 => ?_)
      obtain ⟨rfl, M2, hh2⟩ := qc313
      have hres : own_res [b0, b1, b2] ([c0, c1] ++ [b0, b1, b2]) = own_res [b0, b1, b2] [c0, c1, b0, b1, b2] := rfl
      generalize own_res [b0, b1, b2] [c0, c1, b0, b1, b2] = sc at hres ⊢
      show own_Go p.tables e below _ (T313.setTop (mkF m 194 (Array.mk [.val (.int g0), .val (.int g1), .val (.int g2), .val (.int g3), .val (.int sh), .val (.int ex), .val (.int (3 : Int32)), .val (.int (2 : Int32)), .val (.int ex), .val (.int x1), .val (.int x2), .val (.ref ra), .val (.ref ja), .unset, .unset, .unset, .unset, .unset, .unset, .unset, .unset]) [.double sc]))
      refine own_blk dec0 seq0 hby hx hZ hown hK hF 5 [] [] X313 hh2 ?_
      show own_Aft X313 hp309 _ 202 [.val (.int g0), .val (.int g1), .val (.int g2), .val (.int g3), .val (.int sh), .val (.int ex), .val (.int (3 : Int32)), .val (.int (2 : Int32)), .val (.int ex), .val (.int x1), .val (.int x2), .val (.ref ra), .val (.ref ja), .val (.double sc), .second, .val (.int (0 : Int32)), .val (.long (0 : Int64)), .second, .unset, .unset, .unset] []
      refine fun T314 X314 eh314 => ?_
      refine ptC_3 X314 hx hby hml hown hZ hK hF eh314 _ _ _ _ _ _ _ _ _ _ _ _ _ g0 g1 g2 g3 b0 b1 b2 hb0 hb1 hb2 (fun f0 y0 HF T315 X315 eh315 => ?_)
      show own_Go p.tables e below _ (T315.setTop (mkF m 315 (Array.mk [.val (.int g0), .val (.int g1), .val (.int g2), .val (.int g3), .val (.int sh), .val (.int ex), .val (.int (3 : Int32)), .val (.int (2 : Int32)), .val (.int ex), .val (.int x1), .val (.int x2), .val (.ref ra), .val (.ref ja), .val (.double sc), .second, .val (.int f0), .val (.long y0), .second, .unset, .unset, .unset]) []))
      refine own_blk dec0 seq0 hby hx hZ hown hK hF 2 [] [] X315 eh315 ?_
      show own_Aft X315 hp309 _ 319 [.val (.int g0), .val (.int g1), .val (.int g2), .val (.int g3), .val (.int sh), .val (.int ex), .val (.int (3 : Int32)), .val (.int (2 : Int32)), .val (.int ex), .val (.int x1), .val (.int x2), .val (.ref ra), .val (.ref ja), .val (.double sc), .second, .val (.int f0), .val (.long y0), .second, .val (.int f0), .unset, .unset] []
      refine fun T316 X316 eh316 => ?_
      refine ptD_2 X316 hx hby hml hown hZ hK hF eh316 _ _ _ _ _ _ _ _ _ _ _ _ _ _ _ _ ex x1 x2 f0 c0 c1 hc0 hc1 (fun rr CF T317 X317 eh317 => ?_)
      show own_Go p.tables e below _ (T317.setTop (mkF m 360 (Array.mk [.val (.int g0), .val (.int g1), .val (.int g2), .val (.int g3), .val (.int sh), .val (.int ex), .val (.int (3 : Int32)), .val (.int (2 : Int32)), .val (.int ex), .val (.int x1), .val (.int x2), .val (.ref ra), .val (.ref ja), .val (.double sc), .second, .val (.int f0), .val (.long y0), .second, .val (.int rr), .unset, .unset]) []))
      unfold own_dif at hchk
      rw [hres, HF] at hchk
      dsimp only at hchk
      rw [CF] at hchk
      by_cases hf : f0.toInt = 0
      · skip
        rw [if_pos hf] at hchk
        refine own_blk dec0 seq0 hby hx hZ hown hK hF 8 [false, false] [] X317 eh317 ?_
        show (¬ ((f0).toInt ≠ 0)) ∧ (¬ ((cmpValue (FP.dcmp sc 0) .l).toInt ≠ 0)) ∧ own_Aft X317 hp309 _ 377 [.val (.int g0), .val (.int g1), .val (.int g2), .val (.int g3), .val (.int sh), .val (.int ex), .val (.int (3 : Int32)), .val (.int (2 : Int32)), .val (.int ex), .val (.int x1), .val (.int x2), .val (.ref ra), .val (.ref ja), .val (.double sc), .second, .val (.int f0), .val (.long y0), .second, .val (.int rr), .unset, .unset] [.int (1 : Int32)]
        refine ⟨by omega, by have := of_decide_eq_true hchk; omega, fun T318 X318 eh318 => ?_⟩
        exact own_ret X318 hx hlk eh318 hret (by first | rfl | decide) (Or.inl ⟨rfl, by simp, _, rfl⟩) (hb hby at_377) (by decide) (by decide) (⟨rfl, Fr.app (Fr.app Nf307 M1) M2⟩)
      · skip
        rw [if_neg hf] at hchk
        obtain ⟨hchk, k5⟩ := Bool.and_eq_true_iff.mp hchk
        obtain ⟨hchk, k4⟩ := Bool.and_eq_true_iff.mp hchk
        obtain ⟨hchk, k3⟩ := Bool.and_eq_true_iff.mp hchk
        obtain ⟨k1, k2⟩ := Bool.and_eq_true_iff.mp hchk
        refine own_blk dec0 seq0 hby hx hZ hown hK hF 22 [true, false, false] [] X317 eh317 ?_
        show ((f0).toInt ≠ 0) ∧ (Jvm.Free.Fl.NoNaN64 (FP.dmul 4622945017495814144 (FP.i2d rr))) ∧ (Jvm.Free.Fl.NoNaN64 (FP.dmul sc (FP.dmul 4622945017495814144 (FP.i2d rr)))) ∧ (Jvm.Free.Fl.NoNaN64 (FP.dsub (FP.dmul sc (FP.dmul 4622945017495814144 (FP.i2d rr))) (FP.l2d y0))) ∧ (¬ (0 ≤ (cmpValue (FP.dcmp (FP.dsub (FP.dmul sc (FP.dmul 4622945017495814144 (FP.i2d rr))) (FP.l2d y0)) 4472406533629990549) .g).toInt)) ∧ (¬ ((cmpValue (FP.dcmp (FP.dsub (FP.dmul sc (FP.dmul 4622945017495814144 (FP.i2d rr))) (FP.l2d y0)) 13695778570484766357) .l).toInt ≤ 0)) ∧ own_Aft X317 hp309 _ 417 [.val (.int g0), .val (.int g1), .val (.int g2), .val (.int g3), .val (.int sh), .val (.int ex), .val (.int (3 : Int32)), .val (.int (2 : Int32)), .val (.int ex), .val (.int x1), .val (.int x2), .val (.ref ra), .val (.ref ja), .val (.double sc), .second, .val (.int f0), .val (.long y0), .second, .val (.int rr), .val (.double (FP.dsub (FP.dmul sc (FP.dmul 4622945017495814144 (FP.i2d rr))) (FP.l2d y0))), .second] [.int (1 : Int32)]
        refine ⟨by omega, own_nb_e k1, own_nb_e k2, own_nb_e k3, by have := of_decide_eq_true k4; omega, by have := of_decide_eq_true k5; omega, fun T319 X319 eh319 => ?_⟩
        exact own_ret X319 hx hlk eh319 hret (by first | rfl | decide) (Or.inl ⟨rfl, by simp, _, rfl⟩) (hb hby at_417) (by decide) (by decide) (⟨rfl, Fr.app (Fr.app Nf307 M1) M2⟩)
    · skip
      obtain rfl : ee = (3 : Int32) := Int32.toInt_inj.mp he
      show own_Go p.tables e below _ (T253.setTop (mkF m 83 (Array.mk [.val (.int g0), .val (.int g1), .val (.int g2), .val (.int g3), .val (.int sh), .val (.int ex), .val (.int (3 : Int32)), .val (.int (3 : Int32)), .val (.int ex), .val (.int x1), .val (.int x2), .val (.ref ra), .unset, .unset, .unset, .unset, .unset, .unset, .unset, .unset, .unset]) []))
      refine own_blk dec0 seq0 hby hx hZ hown hK hF 3 [] [] X253 eh253 ?_
      show own_Aft X253 hp252 _ 88 [.val (.int g0), .val (.int g1), .val (.int g2), .val (.int g3), .val (.int sh), .val (.int ex), .val (.int (3 : Int32)), .val (.int (3 : Int32)), .val (.int ex), .val (.int x1), .val (.int x2), .val (.ref ra), .unset, .unset, .unset, .unset, .unset, .unset, .unset, .unset, .unset] [.int (6 : Int32)]
      refine fun T320 X320 eh320 => ?_
      refine own_newP X320 hx hZ (hw _ (List.mem_of_getElem? (i := 1) rfl)) eh320 6 rfl (cap := 6) (by decide) (by decide) (hb hby at_88) (by decide) (by decide) (fun T321 hp321 ja ga321 X321 eh321 Ex321 Ar321 => ?_)
      have ne_ra_ja : ra ≠ ja := fun q => absurd Ar252'.lt (by rw [q, ga321]; exact Nat.lt_irrefl _)
      have nw_ja : n0 ≤ ja := by rw [ga321]; exact Z_252
      have Ar252'_321 := Ar252'.ext Ex321
      have Z_321 : n0 ≤ hp321.size := Nat.le_trans Z_252 Ex321.1
      have Ar321' : own_A Z hp321 ja .int [.int (0 : Int32), .int (0 : Int32), .int (0 : Int32), .int (0 : Int32), .int (0 : Int32), .int (0 : Int32)] := Ar321
      show own_Go p.tables e below _ (T321.setTop (mkF m 90 (Array.mk [.val (.int g0), .val (.int g1), .val (.int g2), .val (.int g3), .val (.int sh), .val (.int ex), .val (.int (3 : Int32)), .val (.int (3 : Int32)), .val (.int ex), .val (.int x1), .val (.int x2), .val (.ref ra), .unset, .unset, .unset, .unset, .unset, .unset, .unset, .unset, .unset]) [.ref ja]))
      refine own_blk dec0 seq0 hby hx hZ hown hK hF 6 [false] [] X321 eh321 ?_
      show (¬ (((3 : Int32)).toInt ≤ 0)) ∧ own_Aft X321 hp321 _ 102 [.val (.int g0), .val (.int g1), .val (.int g2), .val (.int g3), .val (.int sh), .val (.int ex), .val (.int (3 : Int32)), .val (.int (3 : Int32)), .val (.int ex), .val (.int x1), .val (.int x2), .val (.ref ra), .val (.ref ja), .unset, .unset, .unset, .unset, .unset, .unset, .unset, .unset] [.int ex, .int (0 : Int32), .ref ja]
      refine ⟨by decide, fun T322 X322 eh322 => ?_⟩
      refine own_sI X322 hx hZ eh322 Ar321' 0 rfl (by show 0 < 6; decide) (hb hby at_102) (fun T323 hp323 X323 eh323 Wr323 Ar323 => ?_)
      have Ar323' : own_A Z hp323 ja .int [.int ex, .int (0 : Int32), .int (0 : Int32), .int (0 : Int32), .int (0 : Int32), .int (0 : Int32)] := Ar323
      have Ar252'_323 := Ar252'_321.other Wr323 ne_ra_ja
      have Nf323 := Fr.snoc X323 Nf252 nw_ja
      have Z_323 : n0 ≤ hp323.size := by rw [Wr.size Wr323]; exact Z_321
      refine own_blk dec0 seq0 hby hx hZ hown hK hF 6 [false] [] X323 eh323 ?_
      show (¬ (((3 : Int32)).toInt ≤ ((1 : Int32)).toInt)) ∧ own_Aft X323 hp323 _ 114 [.val (.int g0), .val (.int g1), .val (.int g2), .val (.int g3), .val (.int sh), .val (.int ex), .val (.int (3 : Int32)), .val (.int (3 : Int32)), .val (.int ex), .val (.int x1), .val (.int x2), .val (.ref ra), .val (.ref ja), .unset, .unset, .unset, .unset, .unset, .unset, .unset, .unset] [.int x1, .int (1 : Int32), .ref ja]
      refine ⟨by decide, fun T324 X324 eh324 => ?_⟩
      refine own_sI X324 hx hZ eh324 Ar323' 1 rfl (by show 1 < 6; decide) (hb hby at_114) (fun T325 hp325 X325 eh325 Wr325 Ar325 => ?_)
      have Ar325' : own_A Z hp325 ja .int [.int ex, .int x1, .int (0 : Int32), .int (0 : Int32), .int (0 : Int32), .int (0 : Int32)] := Ar325
      have Ar252'_325 := Ar252'_323.other Wr325 ne_ra_ja
      have Nf325 := Fr.snoc X325 Nf323 nw_ja
      have Z_325 : n0 ≤ hp325.size := by rw [Wr.size Wr325]; exact Z_323
      refine own_blk dec0 seq0 hby hx hZ hown hK hF 6 [false] [] X325 eh325 ?_
      show (¬ (((3 : Int32)).toInt ≤ ((2 : Int32)).toInt)) ∧ own_Aft X325 hp325 _ 126 [.val (.int g0), .val (.int g1), .val (.int g2), .val (.int g3), .val (.int sh), .val (.int ex), .val (.int (3 : Int32)), .val (.int (3 : Int32)), .val (.int ex), .val (.int x1), .val (.int x2), .val (.ref ra), .val (.ref ja), .unset, .unset, .unset, .unset, .unset, .unset, .unset, .unset] [.int x2, .int (2 : Int32), .ref ja]
      refine ⟨by decide, fun T326 X326 eh326 => ?_⟩
      refine own_sI X326 hx hZ eh326 Ar325' 2 rfl (by show 2 < 6; decide) (hb hby at_126) (fun T327 hp327 X327 eh327 Wr327 Ar327 => ?_)
      have Ar327' : own_A Z hp327 ja .int [.int ex, .int x1, .int x2, .int (0 : Int32), .int (0 : Int32), .int (0 : Int32)] := Ar327
      have Ar252'_327 := Ar252'_325.other Wr327 ne_ra_ja
      have Nf327 := Fr.snoc X327 Nf325 nw_ja
      have Z_327 : n0 ≤ hp327.size := by rw [Wr.size Wr327]; exact Z_325
      refine own_blk dec0 seq0 hby hx hZ hown hK hF 5 [false] [] X327 eh327 ?_
      show (¬ (((3 : Int32)).toInt ≤ 0)) ∧ own_Aft X327 hp327 _ 137 [.val (.int g0), .val (.int g1), .val (.int g2), .val (.int g3), .val (.int sh), .val (.int ex), .val (.int (3 : Int32)), .val (.int (3 : Int32)), .val (.int ex), .val (.int x1), .val (.int x2), .val (.ref ra), .val (.ref ja), .unset, .unset, .unset, .unset, .unset, .unset, .unset, .unset] [.int g0, .int (3 : Int32), .ref ja]
      refine ⟨by decide, fun T328 X328 eh328 => ?_⟩
      refine own_sI X328 hx hZ eh328 Ar327' 3 rfl (by show 3 < 6; decide) (hb hby at_137) (fun T329 hp329 X329 eh329 Wr329 Ar329 => ?_)
      have Ar329' : own_A Z hp329 ja .int [.int ex, .int x1, .int x2, .int g0, .int (0 : Int32), .int (0 : Int32)] := Ar329
      have Ar252'_329 := Ar252'_327.other Wr329 ne_ra_ja
      have Nf329 := Fr.snoc X329 Nf327 nw_ja
      have Z_329 : n0 ≤ hp329.size := by rw [Wr.size Wr329]; exact Z_327
      refine own_blk dec0 seq0 hby hx hZ hown hK hF 8 [false] [] X329 eh329 ?_
      show (¬ (((3 : Int32)).toInt ≤ ((1 : Int32)).toInt)) ∧ own_Aft X329 hp329 _ 151 [.val (.int g0), .val (.int g1), .val (.int g2), .val (.int g3), .val (.int sh), .val (.int ex), .val (.int (3 : Int32)), .val (.int (3 : Int32)), .val (.int ex), .val (.int x1), .val (.int x2), .val (.ref ra), .val (.ref ja), .unset, .unset, .unset, .unset, .unset, .unset, .unset, .unset] [.int g1, .int (4 : Int32), .ref ja]
      refine ⟨by decide, fun T330 X330 eh330 => ?_⟩
      refine own_sI X330 hx hZ eh330 Ar329' 4 rfl (by show 4 < 6; decide) (hb hby at_151) (fun T331 hp331 X331 eh331 Wr331 Ar331 => ?_)
      have Ar331' : own_A Z hp331 ja .int [.int ex, .int x1, .int x2, .int g0, .int g1, .int (0 : Int32)] := Ar331
      have Ar252'_331 := Ar252'_329.other Wr331 ne_ra_ja
      have Nf331 := Fr.snoc X331 Nf329 nw_ja
      have Z_331 : n0 ≤ hp331.size := by rw [Wr.size Wr331]; exact Z_329
      refine own_blk dec0 seq0 hby hx hZ hown hK hF 8 [false] [] X331 eh331 ?_
      show (¬ (((3 : Int32)).toInt ≤ ((2 : Int32)).toInt)) ∧ own_Aft X331 hp331 _ 165 [.val (.int g0), .val (.int g1), .val (.int g2), .val (.int g3), .val (.int sh), .val (.int ex), .val (.int (3 : Int32)), .val (.int (3 : Int32)), .val (.int ex), .val (.int x1), .val (.int x2), .val (.ref ra), .val (.ref ja), .unset, .unset, .unset, .unset, .unset, .unset, .unset, .unset] [.int g2, .int (5 : Int32), .ref ja]
      refine ⟨by decide, fun T332 X332 eh332 => ?_⟩
      refine own_sI X332 hx hZ eh332 Ar331' 5 rfl (by show 5 < 6; decide) (hb hby at_165) (fun T333 hp333 X333 eh333 Wr333 Ar333 => ?_)
      have Ar333' : own_A Z hp333 ja .int [.int ex, .int x1, .int x2, .int g0, .int g1, .int g2] := Ar333
      have Ar252'_333 := Ar252'_331.other Wr333 ne_ra_ja
      have Nf333 := Fr.snoc X333 Nf331 nw_ja
      have Z_333 : n0 ≤ hp333.size := by rw [Wr.size Wr333]; exact Z_331
      refine own_blk dec0 seq0 hby hx hZ hown hK hF 3 [true] [] X333 eh333 ?_
      show (((3 : Int32)).toInt ≤ ((3 : Int32)).toInt) ∧ own_Aft X333 hp333 _ 180 [.val (.int g0), .val (.int g1), .val (.int g2), .val (.int g3), .val (.int sh), .val (.int ex), .val (.int (3 : Int32)), .val (.int (3 : Int32)), .val (.int ex), .val (.int x1), .val (.int x2), .val (.ref ra), .val (.ref ja), .unset, .unset, .unset, .unset, .unset, .unset, .unset, .unset] []
      refine ⟨by decide, fun T334 X334 eh334 => ?_⟩
      refine own_new X334 hx hZ hown (hw _ (List.mem_of_getElem? (i := 2) rfl)) (hw _ (List.mem_of_getElem? (i := 3) rfl)) (hw _ (List.mem_of_getElem? (i := 4) rfl)) eh334 (hb hby at_180) (by decide) (by decide) (fun T335 hp335 ao ga335 X335 eh335 Ex335 Ea335 Dn335 => ?_)
      have ne_ra_ao : ra ≠ ao := fun q => absurd Ar252'_333.lt (by rw [q, ga335]; exact Nat.lt_irrefl _)
      have ne_ja_ao : ja ≠ ao := fun q => absurd Ar333'.lt (by rw [q, ga335]; exact Nat.lt_irrefl _)
      have nw_ao : n0 ≤ ao := by rw [ga335]; exact Z_333
      have Ar252'_335 := Ar252'_333.ext Ex335
      have Ar333'_335 := Ar333'.ext Ex335
      have Z_335 : n0 ≤ hp335.size := Nat.le_trans Z_333 Ex335.1
      show own_Go p.tables e below _ (T335.setTop (mkF m 183 (Array.mk [.val (.int g0), .val (.int g1), .val (.int g2), .val (.int g3), .val (.int sh), .val (.int ex), .val (.int (3 : Int32)), .val (.int (3 : Int32)), .val (.int ex), .val (.int x1), .val (.int x2), .val (.ref ra), .val (.ref ja), .unset, .unset, .unset, .unset, .unset, .unset, .unset, .unset]) [.ref ao]))
      refine own_blk dec0 seq0 hby hx hZ hown hK hF 1 [] [] X335 eh335 ?_
      show own_Aft X335 hp335 _ 184 [.val (.int g0), .val (.int g1), .val (.int g2), .val (.int g3), .val (.int sh), .val (.int ex), .val (.int (3 : Int32)), .val (.int (3 : Int32)), .val (.int ex), .val (.int x1), .val (.int x2), .val (.ref ra), .val (.ref ja), .unset, .unset, .unset, .unset, .unset, .unset, .unset, .unset] [.ref ao, .ref ao]
      refine fun T336 X336 eh336 => ?_
      refine own_callI X336 hx hZ hown rfl (hw _ (List.mem_of_getElem? (i := 5) rfl)) (hw _ (List.mem_of_getElem? (i := 6) rfl)) (hw _ (List.mem_of_getElem? (i := 4) rfl)) (hw _ (List.mem_of_getElem? (i := 7) rfl)) (by decide) eh336 ao [] pd1 rfl (rm := ({ frames := 1, cells := 0, slots := 0, locals := 12 } : Room)) (rm1 l Z a0 hw [] ao hp335 n0 Z_335) (by rw [hml]; rfl) 1 rfl (Nat.le_of_eq rfl) (hb hby at_184) (by decide) (by decide) (by decide) (by decide) (fun T337 rv337 Lc337 X337 qc337 => ?_)
      obtain ⟨rfl, M1, hh⟩ := qc337
      show own_Go p.tables e below _ (T337.setTop (mkF m 187 (Array.mk [.val (.int g0), .val (.int g1), .val (.int g2), .val (.int g3), .val (.int sh), .val (.int ex), .val (.int (3 : Int32)), .val (.int (3 : Int32)), .val (.int ex), .val (.int x1), .val (.int x2), .val (.ref ra), .val (.ref ja), .unset, .unset, .unset, .unset, .unset, .unset, .unset, .unset]) [.ref ao]))
      refine own_blk dec0 seq0 hby hx hZ hown hK hF 2 [] [] X337 hh ?_
      show own_Aft X337 hp335 _ 191 [.val (.int g0), .val (.int g1), .val (.int g2), .val (.int g3), .val (.int sh), .val (.int ex), .val (.int (3 : Int32)), .val (.int (3 : Int32)), .val (.int ex), .val (.int x1), .val (.int x2), .val (.ref ra), .val (.ref ja), .unset, .unset, .unset, .unset, .unset, .unset, .unset, .unset] [.ref ja, .ref ra, .ref ao]
      refine fun T338 X338 eh338 => ?_
      obtain ⟨b0, hb0⟩ : ∃ b : Bool, (0 < g0.toInt ↔ b = true) := ⟨decide (0 < g0.toInt), by simp⟩
      obtain ⟨b1, hb1⟩ : ∃ b : Bool, (0 < g1.toInt ↔ b = true) := ⟨decide (0 < g1.toInt), by simp⟩
      obtain ⟨b2, hb2⟩ : ∃ b : Bool, (0 < g2.toInt ↔ b = true) := ⟨decide (0 < g2.toInt), by simp⟩
      obtain ⟨c0, hc0⟩ : ∃ b : Bool, (0 < ex.toInt ↔ b = true) := ⟨decide (0 < ex.toInt), by simp⟩
      obtain ⟨c1, hc1⟩ : ∃ b : Bool, (0 < x1.toInt ↔ b = true) := ⟨decide (0 < x1.toInt), by simp⟩
      obtain ⟨c2, hc2⟩ : ∃ b : Bool, (0 < x2.toInt ↔ b = true) := ⟨decide (0 < x2.toInt), by simp⟩
      obtain ⟨hrok, hchk⟩ := Bool.and_eq_true_iff.mp (own_chk_3_3 b0 b1 b2 c0 c1 c2)
      refine own_callV X338 hx hZ hown (hw _ (List.mem_of_getElem? (i := 11) rfl)) (hw _ (List.mem_of_getElem? (i := 12) rfl)) (hw _ (List.mem_of_getElem? (i := 14) rfl)) (hw _ (List.mem_of_getElem? (i := 13) rfl)) (hw _ (List.mem_of_getElem? (i := 4) rfl)) (hw _ (List.mem_of_getElem? (i := 15) rfl)) (by decide) eh338 Ea335 [.ref ra, .ref ja] pd3 rfl (rm := ({ frames := 0, cells := 0, slots := 0, locals := 0 } : Room)) (rm3_3_6 l Z a0 hw [] ao ra ja g0 g1 g2 ex x1 x2 g0 g1 g2 b0 b1 b2 c0 c1 c2 b0 b1 b2 hp335 n0 Z_335 Ar252'_335 Ar333'_335 hb0 hb1 hb2 hc0 hc1 hc2 hb0 hb1 hb2 hrok) (by rw [hml]; rfl) 0 rfl (Nat.le_of_eq rfl) (hb hby at_191) (by decide) (by decide) (by decide) (by decide) (fun T339 rv339 Lc339 X339 qc339 => ?_)
      obtain ⟨rfl, M2, hh2⟩ := qc339
      have hres : own_res [b0, b1, b2] ([c0, c1, c2] ++ [b0, b1, b2]) = own_res [b0, b1, b2] [c0, c1, c2, b0, b1, b2] := rfl
      generalize own_res [b0, b1, b2] [c0, c1, c2, b0, b1, b2] = sc at hres ⊢
      show own_Go p.tables e below _ (T339.setTop (mkF m 194 (Array.mk [.val (.int g0), .val (.int g1), .val (.int g2), .val (.int g3), .val (.int sh), .val (.int ex), .val (.int (3 : Int32)), .val (.int (3 : Int32)), .val (.int ex), .val (.int x1), .val (.int x2), .val (.ref ra), .val (.ref ja), .unset, .unset, .unset, .unset, .unset, .unset, .unset, .unset]) [.double sc]))
      refine own_blk dec0 seq0 hby hx hZ hown hK hF 5 [] [] X339 hh2 ?_
      show own_Aft X339 hp335 _ 202 [.val (.int g0), .val (.int g1), .val (.int g2), .val (.int g3), .val (.int sh), .val (.int ex), .val (.int (3 : Int32)), .val (.int (3 : Int32)), .val (.int ex), .val (.int x1), .val (.int x2), .val (.ref ra), .val (.ref ja), .val (.double sc), .second, .val (.int (0 : Int32)), .val (.long (0 : Int64)), .second, .unset, .unset, .unset] []
      refine fun T340 X340 eh340 => ?_
      refine ptC_3 X340 hx hby hml hown hZ hK hF eh340 _ _ _ _ _ _ _ _ _ _ _ _ _ g0 g1 g2 g3 b0 b1 b2 hb0 hb1 hb2 (fun f0 y0 HF T341 X341 eh341 => ?_)
      show own_Go p.tables e below _ (T341.setTop (mkF m 315 (Array.mk [.val (.int g0), .val (.int g1), .val (.int g2), .val (.int g3), .val (.int sh), .val (.int ex), .val (.int (3 : Int32)), .val (.int (3 : Int32)), .val (.int ex), .val (.int x1), .val (.int x2), .val (.ref ra), .val (.ref ja), .val (.double sc), .second, .val (.int f0), .val (.long y0), .second, .unset, .unset, .unset]) []))
      refine own_blk dec0 seq0 hby hx hZ hown hK hF 2 [] [] X341 eh341 ?_
      show own_Aft X341 hp335 _ 319 [.val (.int g0), .val (.int g1), .val (.int g2), .val (.int g3), .val (.int sh), .val (.int ex), .val (.int (3 : Int32)), .val (.int (3 : Int32)), .val (.int ex), .val (.int x1), .val (.int x2), .val (.ref ra), .val (.ref ja), .val (.double sc), .second, .val (.int f0), .val (.long y0), .second, .val (.int f0), .unset, .unset] []
      refine fun T342 X342 eh342 => ?_
      refine ptD_3 X342 hx hby hml hown hZ hK hF eh342 _ _ _ _ _ _ _ _ _ _ _ _ _ _ _ _ ex x1 x2 f0 c0 c1 c2 hc0 hc1 hc2 (fun rr CF T343 X343 eh343 => ?_)
      show own_Go p.tables e below _ (T343.setTop (mkF m 360 (Array.mk [.val (.int g0), .val (.int g1), .val (.int g2), .val (.int g3), .val (.int sh), .val (.int ex), .val (.int (3 : Int32)), .val (.int (3 : Int32)), .val (.int ex), .val (.int x1), .val (.int x2), .val (.ref ra), .val (.ref ja), .val (.double sc), .second, .val (.int f0), .val (.long y0), .second, .val (.int rr), .unset, .unset]) []))
      unfold own_dif at hchk
      rw [hres, HF] at hchk
      dsimp only at hchk
      rw [CF] at hchk
      by_cases hf : f0.toInt = 0
      · skip
        rw [if_pos hf] at hchk
        refine own_blk dec0 seq0 hby hx hZ hown hK hF 8 [false, false] [] X343 eh343 ?_
        show (¬ ((f0).toInt ≠ 0)) ∧ (¬ ((cmpValue (FP.dcmp sc 0) .l).toInt ≠ 0)) ∧ own_Aft X343 hp335 _ 377 [.val (.int g0), .val (.int g1), .val (.int g2), .val (.int g3), .val (.int sh), .val (.int ex), .val (.int (3 : Int32)), .val (.int (3 : Int32)), .val (.int ex), .val (.int x1), .val (.int x2), .val (.ref ra), .val (.ref ja), .val (.double sc), .second, .val (.int f0), .val (.long y0), .second, .val (.int rr), .unset, .unset] [.int (1 : Int32)]
        refine ⟨by omega, by have := of_decide_eq_true hchk; omega, fun T344 X344 eh344 => ?_⟩
        exact own_ret X344 hx hlk eh344 hret (by first | rfl | decide) (Or.inl ⟨rfl, by simp, _, rfl⟩) (hb hby at_377) (by decide) (by decide) (⟨rfl, Fr.app (Fr.app Nf333 M1) M2⟩)
      · skip
        rw [if_neg hf] at hchk
        obtain ⟨hchk, k5⟩ := Bool.and_eq_true_iff.mp hchk
        obtain ⟨hchk, k4⟩ := Bool.and_eq_true_iff.mp hchk
        obtain ⟨hchk, k3⟩ := Bool.and_eq_true_iff.mp hchk
        obtain ⟨k1, k2⟩ := Bool.and_eq_true_iff.mp hchk
        refine own_blk dec0 seq0 hby hx hZ hown hK hF 22 [true, false, false] [] X343 eh343 ?_
        show ((f0).toInt ≠ 0) ∧ (Jvm.Free.Fl.NoNaN64 (FP.dmul 4622945017495814144 (FP.i2d rr))) ∧ (Jvm.Free.Fl.NoNaN64 (FP.dmul sc (FP.dmul 4622945017495814144 (FP.i2d rr)))) ∧ (Jvm.Free.Fl.NoNaN64 (FP.dsub (FP.dmul sc (FP.dmul 4622945017495814144 (FP.i2d rr))) (FP.l2d y0))) ∧ (¬ (0 ≤ (cmpValue (FP.dcmp (FP.dsub (FP.dmul sc (FP.dmul 4622945017495814144 (FP.i2d rr))) (FP.l2d y0)) 4472406533629990549) .g).toInt)) ∧ (¬ ((cmpValue (FP.dcmp (FP.dsub (FP.dmul sc (FP.dmul 4622945017495814144 (FP.i2d rr))) (FP.l2d y0)) 13695778570484766357) .l).toInt ≤ 0)) ∧ own_Aft X343 hp335 _ 417 [.val (.int g0), .val (.int g1), .val (.int g2), .val (.int g3), .val (.int sh), .val (.int ex), .val (.int (3 : Int32)), .val (.int (3 : Int32)), .val (.int ex), .val (.int x1), .val (.int x2), .val (.ref ra), .val (.ref ja), .val (.double sc), .second, .val (.int f0), .val (.long y0), .second, .val (.int rr), .val (.double (FP.dsub (FP.dmul sc (FP.dmul 4622945017495814144 (FP.i2d rr))) (FP.l2d y0))), .second] [.int (1 : Int32)]
        refine ⟨by omega, own_nb_e k1, own_nb_e k2, own_nb_e k3, by have := of_decide_eq_true k4; omega, by have := of_decide_eq_true k5; omega, fun T345 X345 eh345 => ?_⟩
        exact own_ret X345 hx hlk eh345 hret (by first | rfl | decide) (Or.inl ⟨rfl, by simp, _, rfl⟩) (hb hby at_417) (by decide) (by decide) (⟨rfl, Fr.app (Fr.app Nf333 M1) M2⟩)
  · skip
    obtain rfl : nn = (4 : Int32) := Int32.toInt_inj.mp hn
    show own_Go p.tables e below _ (T1.setTop (mkF m 34 (Array.mk [.val (.int g0), .val (.int g1), .val (.int g2), .val (.int g3), .val (.int sh), .val (.int ex), .val (.int (4 : Int32)), .val (.int ee), .val (.int ex), .val (.int x1), .val (.int x2), .unset, .unset, .unset, .unset, .unset, .unset, .unset, .unset, .unset, .unset]) []))
    refine own_blk dec0 seq0 hby hx hZ hown hK hF 1 [] [] X1 eh1 ?_
    show own_Aft X1 h0 _ 36 [.val (.int g0), .val (.int g1), .val (.int g2), .val (.int g3), .val (.int sh), .val (.int ex), .val (.int (4 : Int32)), .val (.int ee), .val (.int ex), .val (.int x1), .val (.int x2), .unset, .unset, .unset, .unset, .unset, .unset, .unset, .unset, .unset, .unset] [.int (4 : Int32)]
    refine fun T346 X346 eh346 => ?_
    refine own_newP X346 hx hZ (hw _ (List.mem_of_getElem? (i := 1) rfl)) eh346 4 rfl (cap := 4) (by decide) (by decide) (hb hby at_36) (by decide) (by decide) (fun T347 hp347 ra ga347 X347 eh347 Ex347 Ar347 => ?_)
    have nw_ra : n0 ≤ ra := by rw [ga347]; exact Z0
    have Z_347 : n0 ≤ hp347.size := Nat.le_trans Z0 Ex347.1
    have Ar347' : own_A Z hp347 ra .int [.int (0 : Int32), .int (0 : Int32), .int (0 : Int32), .int (0 : Int32)] := Ar347
    show own_Go p.tables e below _ (T347.setTop (mkF m 38 (Array.mk [.val (.int g0), .val (.int g1), .val (.int g2), .val (.int g3), .val (.int sh), .val (.int ex), .val (.int (4 : Int32)), .val (.int ee), .val (.int ex), .val (.int x1), .val (.int x2), .unset, .unset, .unset, .unset, .unset, .unset, .unset, .unset, .unset, .unset]) [.ref ra]))
    refine own_blk dec0 seq0 hby hx hZ hown hK hF 6 [false] [] X347 eh347 ?_
    show (¬ (((4 : Int32)).toInt ≤ 0)) ∧ own_Aft X347 hp347 _ 49 [.val (.int g0), .val (.int g1), .val (.int g2), .val (.int g3), .val (.int sh), .val (.int ex), .val (.int (4 : Int32)), .val (.int ee), .val (.int ex), .val (.int x1), .val (.int x2), .val (.ref ra), .unset, .unset, .unset, .unset, .unset, .unset, .unset, .unset, .unset] [.int g0, .int (0 : Int32), .ref ra]
    refine ⟨by decide, fun T348 X348 eh348 => ?_⟩
    refine own_sI X348 hx hZ eh348 Ar347' 0 rfl (by show 0 < 4; decide) (hb hby at_49) (fun T349 hp349 X349 eh349 Wr349 Ar349 => ?_)
    have Ar349' : own_A Z hp349 ra .int [.int g0, .int (0 : Int32), .int (0 : Int32), .int (0 : Int32)] := Ar349
    have Nf349 := Fr.snoc X349 N0 nw_ra
    have Z_349 : n0 ≤ hp349.size := by rw [Wr.size Wr349]; exact Z_347
    refine own_blk dec0 seq0 hby hx hZ hown hK hF 6 [false] [] X349 eh349 ?_
    show (¬ (((4 : Int32)).toInt ≤ ((1 : Int32)).toInt)) ∧ own_Aft X349 hp349 _ 60 [.val (.int g0), .val (.int g1), .val (.int g2), .val (.int g3), .val (.int sh), .val (.int ex), .val (.int (4 : Int32)), .val (.int ee), .val (.int ex), .val (.int x1), .val (.int x2), .val (.ref ra), .unset, .unset, .unset, .unset, .unset, .unset, .unset, .unset, .unset] [.int g1, .int (1 : Int32), .ref ra]
    refine ⟨by decide, fun T350 X350 eh350 => ?_⟩
    refine own_sI X350 hx hZ eh350 Ar349' 1 rfl (by show 1 < 4; decide) (hb hby at_60) (fun T351 hp351 X351 eh351 Wr351 Ar351 => ?_)
    have Ar351' : own_A Z hp351 ra .int [.int g0, .int g1, .int (0 : Int32), .int (0 : Int32)] := Ar351
    have Nf351 := Fr.snoc X351 Nf349 nw_ra
    have Z_351 : n0 ≤ hp351.size := by rw [Wr.size Wr351]; exact Z_349
    refine own_blk dec0 seq0 hby hx hZ hown hK hF 6 [false] [] X351 eh351 ?_
    show (¬ (((4 : Int32)).toInt ≤ ((2 : Int32)).toInt)) ∧ own_Aft X351 hp351 _ 71 [.val (.int g0), .val (.int g1), .val (.int g2), .val (.int g3), .val (.int sh), .val (.int ex), .val (.int (4 : Int32)), .val (.int ee), .val (.int ex), .val (.int x1), .val (.int x2), .val (.ref ra), .unset, .unset, .unset, .unset, .unset, .unset, .unset, .unset, .unset] [.int g2, .int (2 : Int32), .ref ra]
    refine ⟨by decide, fun T352 X352 eh352 => ?_⟩
    refine own_sI X352 hx hZ eh352 Ar351' 2 rfl (by show 2 < 4; decide) (hb hby at_71) (fun T353 hp353 X353 eh353 Wr353 Ar353 => ?_)
    have Ar353' : own_A Z hp353 ra .int [.int g0, .int g1, .int g2, .int (0 : Int32)] := Ar353
    have Nf353 := Fr.snoc X353 Nf351 nw_ra
    have Z_353 : n0 ≤ hp353.size := by rw [Wr.size Wr353]; exact Z_351
    refine own_blk dec0 seq0 hby hx hZ hown hK hF 6 [false] [] X353 eh353 ?_
    show (¬ (((4 : Int32)).toInt ≤ ((3 : Int32)).toInt)) ∧ own_Aft X353 hp353 _ 82 [.val (.int g0), .val (.int g1), .val (.int g2), .val (.int g3), .val (.int sh), .val (.int ex), .val (.int (4 : Int32)), .val (.int ee), .val (.int ex), .val (.int x1), .val (.int x2), .val (.ref ra), .unset, .unset, .unset, .unset, .unset, .unset, .unset, .unset, .unset] [.int g3, .int (3 : Int32), .ref ra]
    refine ⟨by decide, fun T354 X354 eh354 => ?_⟩
    refine own_sI X354 hx hZ eh354 Ar353' 3 rfl (by show 3 < 4; decide) (hb hby at_82) (fun T355 hp355 X355 eh355 Wr355 Ar355 => ?_)
    have Ar355' : own_A Z hp355 ra .int [.int g0, .int g1, .int g2, .int g3] := Ar355
    have Nf355 := Fr.snoc X355 Nf353 nw_ra
    have Z_355 : n0 ≤ hp355.size := by rw [Wr.size Wr355]; exact Z_353
    obtain he | he | he | he : ee.toInt = (0 : Int32).toInt ∨ ee.toInt = (1 : Int32).toInt ∨ ee.toInt = (2 : Int32).toInt ∨ ee.toInt = (3 : Int32).toInt := by show ee.toInt = 0 ∨ ee.toInt = 1 ∨ ee.toInt = 2 ∨ ee.toInt = 3; omega
    · skip
      obtain rfl : ee = (0 : Int32) := Int32.toInt_inj.mp he
      show own_Go p.tables e below _ (T355.setTop (mkF m 83 (Array.mk [.val (.int g0), .val (.int g1), .val (.int g2), .val (.int g3), .val (.int sh), .val (.int ex), .val (.int (4 : Int32)), .val (.int (0 : Int32)), .val (.int ex), .val (.int x1), .val (.int x2), .val (.ref ra), .unset, .unset, .unset, .unset, .unset, .unset, .unset, .unset, .unset]) []))
      refine own_blk dec0 seq0 hby hx hZ hown hK hF 3 [] [] X355 eh355 ?_
      show own_Aft X355 hp355 _ 88 [.val (.int g0), .val (.int g1), .val (.int g2), .val (.int g3), .val (.int sh), .val (.int ex), .val (.int (4 : Int32)), .val (.int (0 : Int32)), .val (.int ex), .val (.int x1), .val (.int x2), .val (.ref ra), .unset, .unset, .unset, .unset, .unset, .unset, .unset, .unset, .unset] [.int (4 : Int32)]
      refine fun T356 X356 eh356 => ?_
      refine own_newP X356 hx hZ (hw _ (List.mem_of_getElem? (i := 1) rfl)) eh356 4 rfl (cap := 4) (by decide) (by decide) (hb hby at_88) (by decide) (by decide) (fun T357 hp357 ja ga357 X357 eh357 Ex357 Ar357 => ?_)
      have ne_ra_ja : ra ≠ ja := fun q => absurd Ar355'.lt (by rw [q, ga357]; exact Nat.lt_irrefl _)
      have nw_ja : n0 ≤ ja := by rw [ga357]; exact Z_355
      have Ar355'_357 := Ar355'.ext Ex357
      have Z_357 : n0 ≤ hp357.size := Nat.le_trans Z_355 Ex357.1
      have Ar357' : own_A Z hp357 ja .int [.int (0 : Int32), .int (0 : Int32), .int (0 : Int32), .int (0 : Int32)] := Ar357
      show own_Go p.tables e below _ (T357.setTop (mkF m 90 (Array.mk [.val (.int g0), .val (.int g1), .val (.int g2), .val (.int g3), .val (.int sh), .val (.int ex), .val (.int (4 : Int32)), .val (.int (0 : Int32)), .val (.int ex), .val (.int x1), .val (.int x2), .val (.ref ra), .unset, .unset, .unset, .unset, .unset, .unset, .unset, .unset, .unset]) [.ref ja]))
      refine own_blk dec0 seq0 hby hx hZ hown hK hF 14 [true, true, true, false] [] X357 eh357 ?_
      show (((0 : Int32)).toInt ≤ 0) ∧ (((0 : Int32)).toInt ≤ ((1 : Int32)).toInt) ∧ (((0 : Int32)).toInt ≤ ((2 : Int32)).toInt) ∧ (¬ (((4 : Int32)).toInt ≤ 0)) ∧ own_Aft X357 hp357 _ 137 [.val (.int g0), .val (.int g1), .val (.int g2), .val (.int g3), .val (.int sh), .val (.int ex), .val (.int (4 : Int32)), .val (.int (0 : Int32)), .val (.int ex), .val (.int x1), .val (.int x2), .val (.ref ra), .val (.ref ja), .unset, .unset, .unset, .unset, .unset, .unset, .unset, .unset] [.int g0, .int (0 : Int32), .ref ja]
      refine ⟨by decide, by decide, by decide, by decide, fun T358 X358 eh358 => ?_⟩
      refine own_sI X358 hx hZ eh358 Ar357' 0 rfl (by show 0 < 4; decide) (hb hby at_137) (fun T359 hp359 X359 eh359 Wr359 Ar359 => ?_)
      have Ar359' : own_A Z hp359 ja .int [.int g0, .int (0 : Int32), .int (0 : Int32), .int (0 : Int32)] := Ar359
      have Ar355'_359 := Ar355'_357.other Wr359 ne_ra_ja
      have Nf359 := Fr.snoc X359 Nf355 nw_ja
      have Z_359 : n0 ≤ hp359.size := by rw [Wr.size Wr359]; exact Z_357
      refine own_blk dec0 seq0 hby hx hZ hown hK hF 8 [false] [] X359 eh359 ?_
      show (¬ (((4 : Int32)).toInt ≤ ((1 : Int32)).toInt)) ∧ own_Aft X359 hp359 _ 151 [.val (.int g0), .val (.int g1), .val (.int g2), .val (.int g3), .val (.int sh), .val (.int ex), .val (.int (4 : Int32)), .val (.int (0 : Int32)), .val (.int ex), .val (.int x1), .val (.int x2), .val (.ref ra), .val (.ref ja), .unset, .unset, .unset, .unset, .unset, .unset, .unset, .unset] [.int g1, .int (1 : Int32), .ref ja]
      refine ⟨by decide, fun T360 X360 eh360 => ?_⟩
      refine own_sI X360 hx hZ eh360 Ar359' 1 rfl (by show 1 < 4; decide) (hb hby at_151) (fun T361 hp361 X361 eh361 Wr361 Ar361 => ?_)
      have Ar361' : own_A Z hp361 ja .int [.int g0, .int g1, .int (0 : Int32), .int (0 : Int32)] := Ar361
      have Ar355'_361 := Ar355'_359.other Wr361 ne_ra_ja
      have Nf361 := Fr.snoc X361 Nf359 nw_ja
      have Z_361 : n0 ≤ hp361.size := by rw [Wr.size Wr361]; exact Z_359
      refine own_blk dec0 seq0 hby hx hZ hown hK hF 8 [false] [] X361 eh361 ?_
      show (¬ (((4 : Int32)).toInt ≤ ((2 : Int32)).toInt)) ∧ own_Aft X361 hp361 _ 165 [.val (.int g0), .val (.int g1), .val (.int g2), .val (.int g3), .val (.int sh), .val (.int ex), .val (.int (4 : Int32)), .val (.int (0 : Int32)), .val (.int ex), .val (.int x1), .val (.int x2), .val (.ref ra), .val (.ref ja), .unset, .unset, .unset, .unset, .unset, .unset, .unset, .unset] [.int g2, .int (2 : Int32), .ref ja]
      refine ⟨by decide, fun T362 X362 eh362 => ?_⟩
      refine own_sI X362 hx hZ eh362 Ar361' 2 rfl (by show 2 < 4; decide) (hb hby at_165) (fun T363 hp363 X363 eh363 Wr363 Ar363 => ?_)
      have Ar363' : own_A Z hp363 ja .int [.int g0, .int g1, .int g2, .int (0 : Int32)] := Ar363
      have Ar355'_363 := Ar355'_361.other Wr363 ne_ra_ja
      have Nf363 := Fr.snoc X363 Nf361 nw_ja
      have Z_363 : n0 ≤ hp363.size := by rw [Wr.size Wr363]; exact Z_361
      refine own_blk dec0 seq0 hby hx hZ hown hK hF 8 [false] [] X363 eh363 ?_
      show (¬ (((4 : Int32)).toInt ≤ ((3 : Int32)).toInt)) ∧ own_Aft X363 hp363 _ 179 [.val (.int g0), .val (.int g1), .val (.int g2), .val (.int g3), .val (.int sh), .val (.int ex), .val (.int (4 : Int32)), .val (.int (0 : Int32)), .val (.int ex), .val (.int x1), .val (.int x2), .val (.ref ra), .val (.ref ja), .unset, .unset, .unset, .unset, .unset, .unset, .unset, .unset] [.int g3, .int (3 : Int32), .ref ja]
      refine ⟨by decide, fun T364 X364 eh364 => ?_⟩
      refine own_sI X364 hx hZ eh364 Ar363' 3 rfl (by show 3 < 4; decide) (hb hby at_179) (fun T365 hp365 X365 eh365 Wr365 Ar365 => ?_)
      have Ar365' : own_A Z hp365 ja .int [.int g0, .int g1, .int g2, .int g3] := Ar365
      have Ar355'_365 := Ar355'_363.other Wr365 ne_ra_ja
      have Nf365 := Fr.snoc X365 Nf363 nw_ja
      have Z_365 : n0 ≤ hp365.size := by rw [Wr.size Wr365]; exact Z_363
      refine own_new X365 hx hZ hown (hw _ (List.mem_of_getElem? (i := 2) rfl)) (hw _ (List.mem_of_getElem? (i := 3) rfl)) (hw _ (List.mem_of_getElem? (i := 4) rfl)) eh365 (hb hby at_180) (by decide) (by decide) (fun T366 hp366 ao ga366 X366 eh366 Ex366 Ea366 Dn366 => ?_)
      have ne_ra_ao : ra ≠ ao := fun q => absurd Ar355'_365.lt (by rw [q, ga366]; exact Nat.lt_irrefl _)
      have ne_ja_ao : ja ≠ ao := fun q => absurd Ar365'.lt (by rw [q, ga366]; exact Nat.lt_irrefl _)
      have nw_ao : n0 ≤ ao := by rw [ga366]; exact Z_365
      have Ar355'_366 := Ar355'_365.ext Ex366
      have Ar365'_366 := Ar365'.ext Ex366
      have Z_366 : n0 ≤ hp366.size := Nat.le_trans Z_365 Ex366.1
      show own_Go p.tables e below _ (T366.setTop (mkF m 183 (Array.mk [.val (.int g0), .val (.int g1), .val (.int g2), .val (.int g3), .val (.int sh), .val (.int ex), .val (.int (4 : Int32)), .val (.int (0 : Int32)), .val (.int ex), .val (.int x1), .val (.int x2), .val (.ref ra), .val (.ref ja), .unset, .unset, .unset, .unset, .unset, .unset, .unset, .unset]) [.ref ao]))
      refine own_blk dec0 seq0 hby hx hZ hown hK hF 1 [] [] X366 eh366 ?_
      show own_Aft X366 hp366 _ 184 [.val (.int g0), .val (.int g1), .val (.int g2), .val (.int g3), .val (.int sh), .val (.int ex), .val (.int (4 : Int32)), .val (.int (0 : Int32)), .val (.int ex), .val (.int x1), .val (.int x2), .val (.ref ra), .val (.ref ja), .unset, .unset, .unset, .unset, .unset, .unset, .unset, .unset] [.ref ao, .ref ao]
      refine fun T367 X367 eh367 => ?_
      refine own_callI X367 hx hZ hown rfl (hw _ (List.mem_of_getElem? (i := 5) rfl)) (hw _ (List.mem_of_getElem? (i := 6) rfl)) (hw _ (List.mem_of_getElem? (i := 4) rfl)) (hw _ (List.mem_of_getElem? (i := 7) rfl)) (by decide) eh367 ao [] pd1 rfl (rm := ({ frames := 1, cells := 0, slots := 0, locals := 12 } : Room)) (rm1 l Z a0 hw [] ao hp366 n0 Z_366) (by rw [hml]; rfl) 1 rfl (Nat.le_of_eq rfl) (hb hby at_184) (by decide) (by decide) (by decide) (by decide) (fun T368 rv368 Lc368 X368 qc368 => ?_)
      obtain ⟨rfl, M1, hh⟩ := qc368
      show own_Go p.tables e below _ (T368.setTop (mkF m 187 (Array.mk [.val (.int g0), .val (.int g1), .val (.int g2), .val (.int g3), .val (.int sh), .val (.int ex), .val (.int (4 : Int32)), .val (.int (0 : Int32)), .val (.int ex), .val (.int x1), .val (.int x2), .val (.ref ra), .val (.ref ja), .unset, .unset, .unset, .unset, .unset, .unset, .unset, .unset]) [.ref ao]))
      refine own_blk dec0 seq0 hby hx hZ hown hK hF 2 [] [] X368 hh ?_
      show own_Aft X368 hp366 _ 191 [.val (.int g0), .val (.int g1), .val (.int g2), .val (.int g3), .val (.int sh), .val (.int ex), .val (.int (4 : Int32)), .val (.int (0 : Int32)), .val (.int ex), .val (.int x1), .val (.int x2), .val (.ref ra), .val (.ref ja), .unset, .unset, .unset, .unset, .unset, .unset, .unset, .unset] [.ref ja, .ref ra, .ref ao]
      refine fun T369 X369 eh369 => ?_
      obtain ⟨b0, hb0⟩ : ∃ b : Bool, (0 < g0.toInt ↔ b = true) := ⟨decide (0 < g0.toInt), by simp⟩
      obtain ⟨b1, hb1⟩ : ∃ b : Bool, (0 < g1.toInt ↔ b = true) := ⟨decide (0 < g1.toInt), by simp⟩
      obtain ⟨b2, hb2⟩ : ∃ b : Bool, (0 < g2.toInt ↔ b = true) := ⟨decide (0 < g2.toInt), by simp⟩
      obtain ⟨b3, hb3⟩ : ∃ b : Bool, (0 < g3.toInt ↔ b = true) := ⟨decide (0 < g3.toInt), by simp⟩
      obtain ⟨hrok, hchk⟩ := Bool.and_eq_true_iff.mp (own_chk_4_0 b0 b1 b2 b3)
      refine own_callV X369 hx hZ hown (hw _ (List.mem_of_getElem? (i := 11) rfl)) (hw _ (List.mem_of_getElem? (i := 12) rfl)) (hw _ (List.mem_of_getElem? (i := 14) rfl)) (hw _ (List.mem_of_getElem? (i := 13) rfl)) (hw _ (List.mem_of_getElem? (i := 4) rfl)) (hw _ (List.mem_of_getElem? (i := 15) rfl)) (by decide) eh369 Ea366 [.ref ra, .ref ja] pd3 rfl (rm := ({ frames := 0, cells := 0, slots := 0, locals := 0 } : Room)) (rm3_4_4 l Z a0 hw [] ao ra ja g0 g1 g2 g3 g0 g1 g2 g3 b0 b1 b2 b3 b0 b1 b2 b3 hp366 n0 Z_366 Ar355'_366 Ar365'_366 hb0 hb1 hb2 hb3 hb0 hb1 hb2 hb3 hrok) (by rw [hml]; rfl) 0 rfl (Nat.le_of_eq rfl) (hb hby at_191) (by decide) (by decide) (by decide) (by decide) (fun T370 rv370 Lc370 X370 qc370 => ?_)
      obtain ⟨rfl, M2, hh2⟩ := qc370
      have hres : own_res [b0, b1, b2, b3] ([] ++ [b0, b1, b2, b3]) = own_res [b0, b1, b2, b3] [b0, b1, b2, b3] := rfl
      generalize own_res [b0, b1, b2, b3] [b0, b1, b2, b3] = sc at hres ⊢
      show own_Go p.tables e below _ (T370.setTop (mkF m 194 (Array.mk [.val (.int g0), .val (.int g1), .val (.int g2), .val (.int g3), .val (.int sh), .val (.int ex), .val (.int (4 : Int32)), .val (.int (0 : Int32)), .val (.int ex), .val (.int x1), .val (.int x2), .val (.ref ra), .val (.ref ja), .unset, .unset, .unset, .unset, .unset, .unset, .unset, .unset]) [.double sc]))
      refine own_blk dec0 seq0 hby hx hZ hown hK hF 5 [] [] X370 hh2 ?_
      show own_Aft X370 hp366 _ 202 [.val (.int g0), .val (.int g1), .val (.int g2), .val (.int g3), .val (.int sh), .val (.int ex), .val (.int (4 : Int32)), .val (.int (0 : Int32)), .val (.int ex), .val (.int x1), .val (.int x2), .val (.ref ra), .val (.ref ja), .val (.double sc), .second, .val (.int (0 : Int32)), .val (.long (0 : Int64)), .second, .unset, .unset, .unset] []
      refine fun T371 X371 eh371 => ?_
      refine ptC_4 X371 hx hby hml hown hZ hK hF eh371 _ _ _ _ _ _ _ _ _ _ _ _ _ g0 g1 g2 g3 b0 b1 b2 b3 hb0 hb1 hb2 hb3 (fun f0 y0 HF T372 X372 eh372 => ?_)
      show own_Go p.tables e below _ (T372.setTop (mkF m 315 (Array.mk [.val (.int g0), .val (.int g1), .val (.int g2), .val (.int g3), .val (.int sh), .val (.int ex), .val (.int (4 : Int32)), .val (.int (0 : Int32)), .val (.int ex), .val (.int x1), .val (.int x2), .val (.ref ra), .val (.ref ja), .val (.double sc), .second, .val (.int f0), .val (.long y0), .second, .unset, .unset, .unset]) []))
      refine own_blk dec0 seq0 hby hx hZ hown hK hF 2 [] [] X372 eh372 ?_
      show own_Aft X372 hp366 _ 319 [.val (.int g0), .val (.int g1), .val (.int g2), .val (.int g3), .val (.int sh), .val (.int ex), .val (.int (4 : Int32)), .val (.int (0 : Int32)), .val (.int ex), .val (.int x1), .val (.int x2), .val (.ref ra), .val (.ref ja), .val (.double sc), .second, .val (.int f0), .val (.long y0), .second, .val (.int f0), .unset, .unset] []
      refine fun T373 X373 eh373 => ?_
      refine ptD_0 X373 hx hby hml hown hZ hK hF eh373 _ _ _ _ _ _ _ _ _ _ _ _ _ _ _ _ ex x1 x2 f0   (fun rr CF T374 X374 eh374 => ?_)
      show own_Go p.tables e below _ (T374.setTop (mkF m 360 (Array.mk [.val (.int g0), .val (.int g1), .val (.int g2), .val (.int g3), .val (.int sh), .val (.int ex), .val (.int (4 : Int32)), .val (.int (0 : Int32)), .val (.int ex), .val (.int x1), .val (.int x2), .val (.ref ra), .val (.ref ja), .val (.double sc), .second, .val (.int f0), .val (.long y0), .second, .val (.int rr), .unset, .unset]) []))
      unfold own_dif at hchk
      rw [hres, HF] at hchk
      dsimp only at hchk
      rw [CF] at hchk
      by_cases hf : f0.toInt = 0
      · skip
        rw [if_pos hf] at hchk
        refine own_blk dec0 seq0 hby hx hZ hown hK hF 8 [false, false] [] X374 eh374 ?_
        show (¬ ((f0).toInt ≠ 0)) ∧ (¬ ((cmpValue (FP.dcmp sc 0) .l).toInt ≠ 0)) ∧ own_Aft X374 hp366 _ 377 [.val (.int g0), .val (.int g1), .val (.int g2), .val (.int g3), .val (.int sh), .val (.int ex), .val (.int (4 : Int32)), .val (.int (0 : Int32)), .val (.int ex), .val (.int x1), .val (.int x2), .val (.ref ra), .val (.ref ja), .val (.double sc), .second, .val (.int f0), .val (.long y0), .second, .val (.int rr), .unset, .unset] [.int (1 : Int32)]
        refine ⟨by omega, by have := of_decide_eq_true hchk; omega, fun T375 X375 eh375 => ?_⟩
        exact own_ret X375 hx hlk eh375 hret (by first | rfl | decide) (Or.inl ⟨rfl, by simp, _, rfl⟩) (hb hby at_377) (by decide) (by decide) (⟨rfl, Fr.app (Fr.app Nf365 M1) M2⟩)
      · skip
        rw [if_neg hf] at hchk
        obtain ⟨hchk, k5⟩ := Bool.and_eq_true_iff.mp hchk
        obtain ⟨hchk, k4⟩ := Bool.and_eq_true_iff.mp hchk
        obtain ⟨hchk, k3⟩ := Bool.and_eq_true_iff.mp hchk
        obtain ⟨k1, k2⟩ := Bool.and_eq_true_iff.mp hchk
        refine own_blk dec0 seq0 hby hx hZ hown hK hF 22 [true, false, false] [] X374 eh374 ?_
        show ((f0).toInt ≠ 0) ∧ (Jvm.Free.Fl.NoNaN64 (FP.dmul 4622945017495814144 (FP.i2d rr))) ∧ (Jvm.Free.Fl.NoNaN64 (FP.dmul sc (FP.dmul 4622945017495814144 (FP.i2d rr)))) ∧ (Jvm.Free.Fl.NoNaN64 (FP.dsub (FP.dmul sc (FP.dmul 4622945017495814144 (FP.i2d rr))) (FP.l2d y0))) ∧ (¬ (0 ≤ (cmpValue (FP.dcmp (FP.dsub (FP.dmul sc (FP.dmul 4622945017495814144 (FP.i2d rr))) (FP.l2d y0)) 4472406533629990549) .g).toInt)) ∧ (¬ ((cmpValue (FP.dcmp (FP.dsub (FP.dmul sc (FP.dmul 4622945017495814144 (FP.i2d rr))) (FP.l2d y0)) 13695778570484766357) .l).toInt ≤ 0)) ∧ own_Aft X374 hp366 _ 417 [.val (.int g0), .val (.int g1), .val (.int g2), .val (.int g3), .val (.int sh), .val (.int ex), .val (.int (4 : Int32)), .val (.int (0 : Int32)), .val (.int ex), .val (.int x1), .val (.int x2), .val (.ref ra), .val (.ref ja), .val (.double sc), .second, .val (.int f0), .val (.long y0), .second, .val (.int rr), .val (.double (FP.dsub (FP.dmul sc (FP.dmul 4622945017495814144 (FP.i2d rr))) (FP.l2d y0))), .second] [.int (1 : Int32)]
        refine ⟨by omega, own_nb_e k1, own_nb_e k2, own_nb_e k3, by have := of_decide_eq_true k4; omega, by have := of_decide_eq_true k5; omega, fun T376 X376 eh376 => ?_⟩
        exact own_ret X376 hx hlk eh376 hret (by first | rfl | decide) (Or.inl ⟨rfl, by simp, _, rfl⟩) (hb hby at_417) (by decide) (by decide) (⟨rfl, Fr.app (Fr.app Nf365 M1) M2⟩)
    · skip
      obtain rfl : ee = (1 : Int32) := Int32.toInt_inj.mp he
      show own_Go p.tables e below _ (T355.setTop (mkF m 83 (Array.mk [.val (.int g0), .val (.int g1), .val (.int g2), .val (.int g3), .val (.int sh), .val (.int ex), .val (.int (4 : Int32)), .val (.int (1 : Int32)), .val (.int ex), .val (.int x1), .val (.int x2), .val (.ref ra), .unset, .unset, .unset, .unset, .unset, .unset, .unset, .unset, .unset]) []))
      refine own_blk dec0 seq0 hby hx hZ hown hK hF 3 [] [] X355 eh355 ?_
      show own_Aft X355 hp355 _ 88 [.val (.int g0), .val (.int g1), .val (.int g2), .val (.int g3), .val (.int sh), .val (.int ex), .val (.int (4 : Int32)), .val (.int (1 : Int32)), .val (.int ex), .val (.int x1), .val (.int x2), .val (.ref ra), .unset, .unset, .unset, .unset, .unset, .unset, .unset, .unset, .unset] [.int (5 : Int32)]
      refine fun T377 X377 eh377 => ?_
      refine own_newP X377 hx hZ (hw _ (List.mem_of_getElem? (i := 1) rfl)) eh377 5 rfl (cap := 5) (by decide) (by decide) (hb hby at_88) (by decide) (by decide) (fun T378 hp378 ja ga378 X378 eh378 Ex378 Ar378 => ?_)
      have ne_ra_ja : ra ≠ ja := fun q => absurd Ar355'.lt (by rw [q, ga378]; exact Nat.lt_irrefl _)
      have nw_ja : n0 ≤ ja := by rw [ga378]; exact Z_355
      have Ar355'_378 := Ar355'.ext Ex378
      have Z_378 : n0 ≤ hp378.size := Nat.le_trans Z_355 Ex378.1
      have Ar378' : own_A Z hp378 ja .int [.int (0 : Int32), .int (0 : Int32), .int (0 : Int32), .int (0 : Int32), .int (0 : Int32)] := Ar378
      show own_Go p.tables e below _ (T378.setTop (mkF m 90 (Array.mk [.val (.int g0), .val (.int g1), .val (.int g2), .val (.int g3), .val (.int sh), .val (.int ex), .val (.int (4 : Int32)), .val (.int (1 : Int32)), .val (.int ex), .val (.int x1), .val (.int x2), .val (.ref ra), .unset, .unset, .unset, .unset, .unset, .unset, .unset, .unset, .unset]) [.ref ja]))
      refine own_blk dec0 seq0 hby hx hZ hown hK hF 6 [false] [] X378 eh378 ?_
      show (¬ (((1 : Int32)).toInt ≤ 0)) ∧ own_Aft X378 hp378 _ 102 [.val (.int g0), .val (.int g1), .val (.int g2), .val (.int g3), .val (.int sh), .val (.int ex), .val (.int (4 : Int32)), .val (.int (1 : Int32)), .val (.int ex), .val (.int x1), .val (.int x2), .val (.ref ra), .val (.ref ja), .unset, .unset, .unset, .unset, .unset, .unset, .unset, .unset] [.int ex, .int (0 : Int32), .ref ja]
      refine ⟨by decide, fun T379 X379 eh379 => ?_⟩
      refine own_sI X379 hx hZ eh379 Ar378' 0 rfl (by show 0 < 5; decide) (hb hby at_102) (fun T380 hp380 X380 eh380 Wr380 Ar380 => ?_)
      have Ar380' : own_A Z hp380 ja .int [.int ex, .int (0 : Int32), .int (0 : Int32), .int (0 : Int32), .int (0 : Int32)] := Ar380
      have Ar355'_380 := Ar355'_378.other Wr380 ne_ra_ja
      have Nf380 := Fr.snoc X380 Nf355 nw_ja
      have Z_380 : n0 ≤ hp380.size := by rw [Wr.size Wr380]; exact Z_378
      refine own_blk dec0 seq0 hby hx hZ hown hK hF 11 [true, true, false] [] X380 eh380 ?_
      show (((1 : Int32)).toInt ≤ ((1 : Int32)).toInt) ∧ (((1 : Int32)).toInt ≤ ((2 : Int32)).toInt) ∧ (¬ (((4 : Int32)).toInt ≤ 0)) ∧ own_Aft X380 hp380 _ 137 [.val (.int g0), .val (.int g1), .val (.int g2), .val (.int g3), .val (.int sh), .val (.int ex), .val (.int (4 : Int32)), .val (.int (1 : Int32)), .val (.int ex), .val (.int x1), .val (.int x2), .val (.ref ra), .val (.ref ja), .unset, .unset, .unset, .unset, .unset, .unset, .unset, .unset] [.int g0, .int (1 : Int32), .ref ja]
      refine ⟨by decide, by decide, by decide, fun T381 X381 eh381 => ?_⟩
      refine own_sI X381 hx hZ eh381 Ar380' 1 rfl (by show 1 < 5; decide) (hb hby at_137) (fun T382 hp382 X382 eh382 Wr382 Ar382 => ?_)
      have Ar382' : own_A Z hp382 ja .int [.int ex, .int g0, .int (0 : Int32), .int (0 : Int32), .int (0 : Int32)] := Ar382
      have Ar355'_382 := Ar355'_380.other Wr382 ne_ra_ja
      have Nf382 := Fr.snoc X382 Nf380 nw_ja
      have Z_382 : n0 ≤ hp382.size := by rw [Wr.size Wr382]; exact Z_380
      refine own_blk dec0 seq0 hby hx hZ hown hK hF 8 [false] [] X382 eh382 ?_
      show (¬ (((4 : Int32)).toInt ≤ ((1 : Int32)).toInt)) ∧ own_Aft X382 hp382 _ 151 [.val (.int g0), .val (.int g1), .val (.int g2), .val (.int g3), .val (.int sh), .val (.int ex), .val (.int (4 : Int32)), .val (.int (1 : Int32)), .val (.int ex), .val (.int x1), .val (.int x2), .val (.ref ra), .val (.ref ja), .unset, .unset, .unset, .unset, .unset, .unset, .unset, .unset] [.int g1, .int (2 : Int32), .ref ja]
      refine ⟨by decide, fun T383 X383 eh383 => ?_⟩
      refine own_sI X383 hx hZ eh383 Ar382' 2 rfl (by show 2 < 5; decide) (hb hby at_151) (fun T384 hp384 X384 eh384 Wr384 Ar384 => ?_)
      have Ar384' : own_A Z hp384 ja .int [.int ex, .int g0, .int g1, .int (0 : Int32), .int (0 : Int32)] := Ar384
      have Ar355'_384 := Ar355'_382.other Wr384 ne_ra_ja
      have Nf384 := Fr.snoc X384 Nf382 nw_ja
      have Z_384 : n0 ≤ hp384.size := by rw [Wr.size Wr384]; exact Z_382
      refine own_blk dec0 seq0 hby hx hZ hown hK hF 8 [false] [] X384 eh384 ?_
      show (¬ (((4 : Int32)).toInt ≤ ((2 : Int32)).toInt)) ∧ own_Aft X384 hp384 _ 165 [.val (.int g0), .val (.int g1), .val (.int g2), .val (.int g3), .val (.int sh), .val (.int ex), .val (.int (4 : Int32)), .val (.int (1 : Int32)), .val (.int ex), .val (.int x1), .val (.int x2), .val (.ref ra), .val (.ref ja), .unset, .unset, .unset, .unset, .unset, .unset, .unset, .unset] [.int g2, .int (3 : Int32), .ref ja]
      refine ⟨by decide, fun T385 X385 eh385 => ?_⟩
      refine own_sI X385 hx hZ eh385 Ar384' 3 rfl (by show 3 < 5; decide) (hb hby at_165) (fun T386 hp386 X386 eh386 Wr386 Ar386 => ?_)
      have Ar386' : own_A Z hp386 ja .int [.int ex, .int g0, .int g1, .int g2, .int (0 : Int32)] := Ar386
      have Ar355'_386 := Ar355'_384.other Wr386 ne_ra_ja
      have Nf386 := Fr.snoc X386 Nf384 nw_ja
      have Z_386 : n0 ≤ hp386.size := by rw [Wr.size Wr386]; exact Z_384
      refine own_blk dec0 seq0 hby hx hZ hown hK hF 8 [false] [] X386 eh386 ?_
      show (¬ (((4 : Int32)).toInt ≤ ((3 : Int32)).toInt)) ∧ own_Aft X386 hp386 _ 179 [.val (.int g0), .val (.int g1), .val (.int g2), .val (.int g3), .val (.int sh), .val (.int ex), .val (.int (4 : Int32)), .val (.int (1 : Int32)), .val (.int ex), .val (.int x1), .val (.int x2), .val (.ref ra), .val (.ref ja), .unset, .unset, .unset, .unset, .unset, .unset, .unset, .unset] [.int g3, .int (4 : Int32), .ref ja]
      refine ⟨by decide, fun T387 X387 eh387 => ?_⟩
      refine own_sI X387 hx hZ eh387 Ar386' 4 rfl (by show 4 < 5; decide) (hb hby at_179) (fun T388 hp388 X388 eh388 Wr388 Ar388 => ?_)
      have Ar388' : own_A Z hp388 ja .int [.int ex, .int g0, .int g1, .int g2, .int g3] := Ar388
      have Ar355'_388 := Ar355'_386.other Wr388 ne_ra_ja
      have Nf388 := Fr.snoc X388 Nf386 nw_ja
      have Z_388 : n0 ≤ hp388.size := by rw [Wr.size Wr388]; exact Z_386
      refine own_new X388 hx hZ hown (hw _ (List.mem_of_getElem? (i := 2) rfl)) (hw _ (List.mem_of_getElem? (i := 3) rfl)) (hw _ (List.mem_of_getElem? (i := 4) rfl)) eh388 (hb hby at_180) (by decide) (by decide) (fun T389 hp389 ao ga389 X389 eh389 Ex389 Ea389 Dn389 => ?_)
      have ne_ra_ao : ra ≠ ao := fun q => absurd Ar355'_388.lt (by rw [q, ga389]; exact Nat.lt_irrefl _)
      have ne_ja_ao : ja ≠ ao := fun q => absurd Ar388'.lt (by rw [q, ga389]; exact Nat.lt_irrefl _)
      have nw_ao : n0 ≤ ao := by rw [ga389]; exact Z_388
      have Ar355'_389 := Ar355'_388.ext Ex389
      have Ar388'_389 := Ar388'.ext Ex389
      have Z_389 : n0 ≤ hp389.size := Nat.le_trans Z_388 Ex389.1
      show own_Go p.tables e below _ (T389.setTop (mkF m 183 (Array.mk [.val (.int g0), .val (.int g1), .val (.int g2), .val (.int g3), .val (.int sh), .val (.int ex), .val (.int (4 : Int32)), .val (.int (1 : Int32)), .val (.int ex), .val (.int x1), .val (.int x2), .val (.ref ra), .val (.ref ja), .unset, .unset, .unset, .unset, .unset, .unset, .unset, .unset]) [.ref ao]))
      refine own_blk dec0 seq0 hby hx hZ hown hK hF 1 [] [] X389 eh389 ?_
      show own_Aft X389 hp389 _ 184 [.val (.int g0), .val (.int g1), .val (.int g2), .val (.int g3), .val (.int sh), .val (.int ex), .val (.int (4 : Int32)), .val (.int (1 : Int32)), .val (.int ex), .val (.int x1), .val (.int x2), .val (.ref ra), .val (.ref ja), .unset, .unset, .unset, .unset, .unset, .unset, .unset, .unset] [.ref ao, .ref ao]
      refine fun T390 X390 eh390 => ?_
      refine own_callI X390 hx hZ hown rfl (hw _ (List.mem_of_getElem? (i := 5) rfl)) (hw _ (List.mem_of_getElem? (i := 6) rfl)) (hw _ (List.mem_of_getElem? (i := 4) rfl)) (hw _ (List.mem_of_getElem? (i := 7) rfl)) (by decide) eh390 ao [] pd1 rfl (rm := ({ frames := 1, cells := 0, slots := 0, locals := 12 } : Room)) (rm1 l Z a0 hw [] ao hp389 n0 Z_389) (by rw [hml]; rfl) 1 rfl (Nat.le_of_eq rfl) (hb hby at_184) (by decide) (by decide) (by decide) (by decide) (fun T391 rv391 Lc391 X391 qc391 => ?_)
      obtain ⟨rfl, M1, hh⟩ := qc391
      show own_Go p.tables e below _ (T391.setTop (mkF m 187 (Array.mk [.val (.int g0), .val (.int g1), .val (.int g2), .val (.int g3), .val (.int sh), .val (.int ex), .val (.int (4 : Int32)), .val (.int (1 : Int32)), .val (.int ex), .val (.int x1), .val (.int x2), .val (.ref ra), .val (.ref ja), .unset, .unset, .unset, .unset, .unset, .unset, .unset, .unset]) [.ref ao]))
      refine own_blk dec0 seq0 hby hx hZ hown hK hF 2 [] [] X391 hh ?_
      show own_Aft X391 hp389 _ 191 [.val (.int g0), .val (.int g1), .val (.int g2), .val (.int g3), .val (.int sh), .val (.int ex), .val (.int (4 : Int32)), .val (.int (1 : Int32)), .val (.int ex), .val (.int x1), .val (.int x2), .val (.ref ra), .val (.ref ja), .unset, .unset, .unset, .unset, .unset, .unset, .unset, .unset] [.ref ja, .ref ra, .ref ao]
      refine fun T392 X392 eh392 => ?_
      obtain ⟨b0, hb0⟩ : ∃ b : Bool, (0 < g0.toInt ↔ b = true) := ⟨decide (0 < g0.toInt), by simp⟩
      obtain ⟨b1, hb1⟩ : ∃ b : Bool, (0 < g1.toInt ↔ b = true) := ⟨decide (0 < g1.toInt), by simp⟩
      obtain ⟨b2, hb2⟩ : ∃ b : Bool, (0 < g2.toInt ↔ b = true) := ⟨decide (0 < g2.toInt), by simp⟩
      obtain ⟨b3, hb3⟩ : ∃ b : Bool, (0 < g3.toInt ↔ b = true) := ⟨decide (0 < g3.toInt), by simp⟩
      obtain ⟨c0, hc0⟩ : ∃ b : Bool, (0 < ex.toInt ↔ b = true) := ⟨decide (0 < ex.toInt), by simp⟩
      obtain ⟨hrok, hchk⟩ := Bool.and_eq_true_iff.mp (own_chk_4_1 b0 b1 b2 b3 c0)
      refine own_callV X392 hx hZ hown (hw _ (List.mem_of_getElem? (i := 11) rfl)) (hw _ (List.mem_of_getElem? (i := 12) rfl)) (hw _ (List.mem_of_getElem? (i := 14) rfl)) (hw _ (List.mem_of_getElem? (i := 13) rfl)) (hw _ (List.mem_of_getElem? (i := 4) rfl)) (hw _ (List.mem_of_getElem? (i := 15) rfl)) (by decide) eh392 Ea389 [.ref ra, .ref ja] pd3 rfl (rm := ({ frames := 0, cells := 0, slots := 0, locals := 0 } : Room)) (rm3_4_5 l Z a0 hw [] ao ra ja g0 g1 g2 g3 ex g0 g1 g2 g3 b0 b1 b2 b3 c0 b0 b1 b2 b3 hp389 n0 Z_389 Ar355'_389 Ar388'_389 hb0 hb1 hb2 hb3 hc0 hb0 hb1 hb2 hb3 hrok) (by rw [hml]; rfl) 0 rfl (Nat.le_of_eq rfl) (hb hby at_191) (by decide) (by decide) (by decide) (by decide) (fun T393 rv393 Lc393 X393 qc393 => ?_)
      obtain ⟨rfl, M2, hh2⟩ := qc393
      have hres : own_res [b0, b1, b2, b3] ([c0] ++ [b0, b1, b2, b3]) = own_res [b0, b1, b2, b3] [c0, b0, b1, b2, b3] := rfl
      generalize own_res [b0, b1, b2, b3] [c0, b0, b1, b2, b3] = sc at hres ⊢
      show own_Go p.tables e below _ (T393.setTop (mkF m 194 (Array.mk [.val (.int g0), .val (.int g1), .val (.int g2), .val (.int g3), .val (.int sh), .val (.int ex), .val (.int (4 : Int32)), .val (.int (1 : Int32)), .val (.int ex), .val (.int x1), .val (.int x2), .val (.ref ra), .val (.ref ja), .unset, .unset, .unset, .unset, .unset, .unset, .unset, .unset]) [.double sc]))
      refine own_blk dec0 seq0 hby hx hZ hown hK hF 5 [] [] X393 hh2 ?_
      show own_Aft X393 hp389 _ 202 [.val (.int g0), .val (.int g1), .val (.int g2), .val (.int g3), .val (.int sh), .val (.int ex), .val (.int (4 : Int32)), .val (.int (1 : Int32)), .val (.int ex), .val (.int x1), .val (.int x2), .val (.ref ra), .val (.ref ja), .val (.double sc), .second, .val (.int (0 : Int32)), .val (.long (0 : Int64)), .second, .unset, .unset, .unset] []
      refine fun T394 X394 eh394 => ?_
      refine ptC_4 X394 hx hby hml hown hZ hK hF eh394 _ _ _ _ _ _ _ _ _ _ _ _ _ g0 g1 g2 g3 b0 b1 b2 b3 hb0 hb1 hb2 hb3 (fun f0 y0 HF T395 X395 eh395 => ?_)
      show own_Go p.tables e below _ (T395.setTop (mkF m 315 (Array.mk [.val (.int g0), .val (.int g1), .val (.int g2), .val (.int g3), .val (.int sh), .val (.int ex), .val (.int (4 : Int32)), .val (.int (1 : Int32)), .val (.int ex), .val (.int x1), .val (.int x2), .val (.ref ra), .val (.ref ja), .val (.double sc), .second, .val (.int f0), .val (.long y0), .second, .unset, .unset, .unset]) []))
      refine own_blk dec0 seq0 hby hx hZ hown hK hF 2 [] [] X395 eh395 ?_
      show own_Aft X395 hp389 _ 319 [.val (.int g0), .val (.int g1), .val (.int g2), .val (.int g3), .val (.int sh), .val (.int ex), .val (.int (4 : Int32)), .val (.int (1 : Int32)), .val (.int ex), .val (.int x1), .val (.int x2), .val (.ref ra), .val (.ref ja), .val (.double sc), .second, .val (.int f0), .val (.long y0), .second, .val (.int f0), .unset, .unset] []
      refine fun T396 X396 eh396 => ?_
      refine ptD_1 X396 hx hby hml hown hZ hK hF eh396 _ _ _ _ _ _ _ _ _ _ _ _ _ _ _ _ ex x1 x2 f0 c0 hc0 (fun rr CF T397 X397 eh397 => ?_)
      show own_Go p.tables e below _ (T397.setTop (mkF m 360 (Array.mk [.val (.int g0), .val (.int g1), .val (.int g2), .val (.int g3), .val (.int sh), .val (.int ex), .val (.int (4 : Int32)), .val (.int (1 : Int32)), .val (.int ex), .val (.int x1), .val (.int x2), .val (.ref ra), .val (.ref ja), .val (.double sc), .second, .val (.int f0), .val (.long y0), .second, .val (.int rr), .unset, .unset]) []))
      unfold own_dif at hchk
      rw [hres, HF] at hchk
      dsimp only at hchk
      rw [CF] at hchk
      by_cases hf : f0.toInt = 0
      · skip
        rw [if_pos hf] at hchk
        refine own_blk dec0 seq0 hby hx hZ hown hK hF 8 [false, false] [] X397 eh397 ?_
        show (¬ ((f0).toInt ≠ 0)) ∧ (¬ ((cmpValue (FP.dcmp sc 0) .l).toInt ≠ 0)) ∧ own_Aft X397 hp389 _ 377 [.val (.int g0), .val (.int g1), .val (.int g2), .val (.int g3), .val (.int sh), .val (.int ex), .val (.int (4 : Int32)), .val (.int (1 : Int32)), .val (.int ex), .val (.int x1), .val (.int x2), .val (.ref ra), .val (.ref ja), .val (.double sc), .second, .val (.int f0), .val (.long y0), .second, .val (.int rr), .unset, .unset] [.int (1 : Int32)]
        refine ⟨by omega, by have := of_decide_eq_true hchk; omega, fun T398 X398 eh398 => ?_⟩
        exact own_ret X398 hx hlk eh398 hret (by first | rfl | decide) (Or.inl ⟨rfl, by simp, _, rfl⟩) (hb hby at_377) (by decide) (by decide) (⟨rfl, Fr.app (Fr.app Nf388 M1) M2⟩)
      · skip
        rw [if_neg hf] at hchk
        obtain ⟨hchk, k5⟩ := Bool.and_eq_true_iff.mp hchk
        obtain ⟨hchk, k4⟩ := Bool.and_eq_true_iff.mp hchk
        obtain ⟨hchk, k3⟩ := Bool.and_eq_true_iff.mp hchk
        obtain ⟨k1, k2⟩ := Bool.and_eq_true_iff.mp hchk
        refine own_blk dec0 seq0 hby hx hZ hown hK hF 22 [true, false, false] [] X397 eh397 ?_
        show ((f0).toInt ≠ 0) ∧ (Jvm.Free.Fl.NoNaN64 (FP.dmul 4622945017495814144 (FP.i2d rr))) ∧ (Jvm.Free.Fl.NoNaN64 (FP.dmul sc (FP.dmul 4622945017495814144 (FP.i2d rr)))) ∧ (Jvm.Free.Fl.NoNaN64 (FP.dsub (FP.dmul sc (FP.dmul 4622945017495814144 (FP.i2d rr))) (FP.l2d y0))) ∧ (¬ (0 ≤ (cmpValue (FP.dcmp (FP.dsub (FP.dmul sc (FP.dmul 4622945017495814144 (FP.i2d rr))) (FP.l2d y0)) 4472406533629990549) .g).toInt)) ∧ (¬ ((cmpValue (FP.dcmp (FP.dsub (FP.dmul sc (FP.dmul 4622945017495814144 (FP.i2d rr))) (FP.l2d y0)) 13695778570484766357) .l).toInt ≤ 0)) ∧ own_Aft X397 hp389 _ 417 [.val (.int g0), .val (.int g1), .val (.int g2), .val (.int g3), .val (.int sh), .val (.int ex), .val (.int (4 : Int32)), .val (.int (1 : Int32)), .val (.int ex), .val (.int x1), .val (.int x2), .val (.ref ra), .val (.ref ja), .val (.double sc), .second, .val (.int f0), .val (.long y0), .second, .val (.int rr), .val (.double (FP.dsub (FP.dmul sc (FP.dmul 4622945017495814144 (FP.i2d rr))) (FP.l2d y0))), .second] [.int (1 : Int32)]
        refine ⟨by omega, own_nb_e k1, own_nb_e k2, own_nb_e k3, by have := of_decide_eq_true k4; omega, by have := of_decide_eq_true k5; omega, fun T399 X399 eh399 => ?_⟩
        exact own_ret X399 hx hlk eh399 hret (by first | rfl | decide) (Or.inl ⟨rfl, by simp, _, rfl⟩) (hb hby at_417) (by decide) (by decide) (⟨rfl, Fr.app (Fr.app Nf388 M1) M2⟩)
    · skip
      obtain rfl : ee = (2 : Int32) := Int32.toInt_inj.mp he
      show own_Go p.tables e below _ (T355.setTop (mkF m 83 (Array.mk [.val (.int g0), .val (.int g1), .val (.int g2), .val (.int g3), .val (.int sh), .val (.int ex), .val (.int (4 : Int32)), .val (.int (2 : Int32)), .val (.int ex), .val (.int x1), .val (.int x2), .val (.ref ra), .unset, .unset, .unset, .unset, .unset, .unset, .unset, .unset, .unset]) []))
      refine own_blk dec0 seq0 hby hx hZ hown hK hF 3 [] [] X355 eh355 ?_
      show own_Aft X355 hp355 _ 88 [.val (.int g0), .val (.int g1), .val (.int g2), .val (.int g3), .val (.int sh), .val (.int ex), .val (.int (4 : Int32)), .val (.int (2 : Int32)), .val (.int ex), .val (.int x1), .val (.int x2), .val (.ref ra), .unset, .unset, .unset, .unset, .unset, .unset, .unset, .unset, .unset] [.int (6 : Int32)]
      refine fun T400 X400 eh400 => ?_
      refine own_newP X400 hx hZ (hw _ (List.mem_of_getElem? (i := 1) rfl)) eh400 6 rfl (cap := 6) (by decide) (by decide) (hb hby at_88) (by decide) (by decide) (fun T401 hp401 ja ga401 X401 eh401 Ex401 Ar401 => ?_)
      have ne_ra_ja : ra ≠ ja := fun q => absurd Ar355'.lt (by rw [q, ga401]; exact Nat.lt_irrefl _)
      have nw_ja : n0 ≤ ja := by rw [ga401]; exact Z_355
      have Ar355'_401 := Ar355'.ext Ex401
      have Z_401 : n0 ≤ hp401.size := Nat.le_trans Z_355 Ex401.1
      have Ar401' : own_A Z hp401 ja .int [.int (0 : Int32), .int (0 : Int32), .int (0 : Int32), .int (0 : Int32), .int (0 : Int32), .int (0 : Int32)] := Ar401
      show own_Go p.tables e below _ (T401.setTop (mkF m 90 (Array.mk [.val (.int g0), .val (.int g1), .val (.int g2), .val (.int g3), .val (.int sh), .val (.int ex), .val (.int (4 : Int32)), .val (.int (2 : Int32)), .val (.int ex), .val (.int x1), .val (.int x2), .val (.ref ra), .unset, .unset, .unset, .unset, .unset, .unset, .unset, .unset, .unset]) [.ref ja]))
      refine own_blk dec0 seq0 hby hx hZ hown hK hF 6 [false] [] X401 eh401 ?_
      show (¬ (((2 : Int32)).toInt ≤ 0)) ∧ own_Aft X401 hp401 _ 102 [.val (.int g0), .val (.int g1), .val (.int g2), .val (.int g3), .val (.int sh), .val (.int ex), .val (.int (4 : Int32)), .val (.int (2 : Int32)), .val (.int ex), .val (.int x1), .val (.int x2), .val (.ref ra), .val (.ref ja), .unset, .unset, .unset, .unset, .unset, .unset, .unset, .unset] [.int ex, .int (0 : Int32), .ref ja]
      refine ⟨by decide, fun T402 X402 eh402 => ?_⟩
      refine own_sI X402 hx hZ eh402 Ar401' 0 rfl (by show 0 < 6; decide) (hb hby at_102) (fun T403 hp403 X403 eh403 Wr403 Ar403 => ?_)
      have Ar403' : own_A Z hp403 ja .int [.int ex, .int (0 : Int32), .int (0 : Int32), .int (0 : Int32), .int (0 : Int32), .int (0 : Int32)] := Ar403
      have Ar355'_403 := Ar355'_401.other Wr403 ne_ra_ja
      have Nf403 := Fr.snoc X403 Nf355 nw_ja
      have Z_403 : n0 ≤ hp403.size := by rw [Wr.size Wr403]; exact Z_401
      refine own_blk dec0 seq0 hby hx hZ hown hK hF 6 [false] [] X403 eh403 ?_
      show (¬ (((2 : Int32)).toInt ≤ ((1 : Int32)).toInt)) ∧ own_Aft X403 hp403 _ 114 [.val (.int g0), .val (.int g1), .val (.int g2), .val (.int g3), .val (.int sh), .val (.int ex), .val (.int (4 : Int32)), .val (.int (2 : Int32)), .val (.int ex), .val (.int x1), .val (.int x2), .val (.ref ra), .val (.ref ja), .unset, .unset, .unset, .unset, .unset, .unset, .unset, .unset] [.int x1, .int (1 : Int32), .ref ja]
      refine ⟨by decide, fun T404 X404 eh404 => ?_⟩
      refine own_sI X404 hx hZ eh404 Ar403' 1 rfl (by show 1 < 6; decide) (hb hby at_114) (fun T405 hp405 X405 eh405 Wr405 Ar405 => ?_)
      have Ar405' : own_A Z hp405 ja .int [.int ex, .int x1, .int (0 : Int32), .int (0 : Int32), .int (0 : Int32), .int (0 : Int32)] := Ar405
      have Ar355'_405 := Ar355'_403.other Wr405 ne_ra_ja
      have Nf405 := Fr.snoc X405 Nf403 nw_ja
      have Z_405 : n0 ≤ hp405.size := by rw [Wr.size Wr405]; exact Z_403
      refine own_blk dec0 seq0 hby hx hZ hown hK hF 8 [true, false] [] X405 eh405 ?_
      show (((2 : Int32)).toInt ≤ ((2 : Int32)).toInt) ∧ (¬ (((4 : Int32)).toInt ≤ 0)) ∧ own_Aft X405 hp405 _ 137 [.val (.int g0), .val (.int g1), .val (.int g2), .val (.int g3), .val (.int sh), .val (.int ex), .val (.int (4 : Int32)), .val (.int (2 : Int32)), .val (.int ex), .val (.int x1), .val (.int x2), .val (.ref ra), .val (.ref ja), .unset, .unset, .unset, .unset, .unset, .unset, .unset, .unset] [.int g0, .int (2 : Int32), .ref ja]
      refine ⟨by decide, by decide, fun T406 X406 eh406 => ?_⟩
      refine own_sI X406 hx hZ eh406 Ar405' 2 rfl (by show 2 < 6; decide) (hb hby at_137) (fun T407 hp407 X407 eh407 Wr407 Ar407 => ?_)
      have Ar407' : own_A Z hp407 ja .int [.int ex, .int x1, .int g0, .int (0 : Int32), .int (0 : Int32), .int (0 : Int32)] := Ar407
      have Ar355'_407 := Ar355'_405.other Wr407 ne_ra_ja
      have Nf407 := Fr.snoc X407 Nf405 nw_ja
      have Z_407 : n0 ≤ hp407.size := by rw [Wr.size Wr407]; exact Z_405
      refine own_blk dec0 seq0 hby hx hZ hown hK hF 8 [false] [] X407 eh407 ?_
      show (¬ (((4 : Int32)).toInt ≤ ((1 : Int32)).toInt)) ∧ own_Aft X407 hp407 _ 151 [.val (.int g0), .val (.int g1), .val (.int g2), .val (.int g3), .val (.int sh), .val (.int ex), .val (.int (4 : Int32)), .val (.int (2 : Int32)), .val (.int ex), .val (.int x1), .val (.int x2), .val (.ref ra), .val (.ref ja), .unset, .unset, .unset, .unset, .unset, .unset, .unset, .unset] [.int g1, .int (3 : Int32), .ref ja]
      refine ⟨by decide, fun T408 X408 eh408 => ?_⟩
      refine own_sI X408 hx hZ eh408 Ar407' 3 rfl (by show 3 < 6; decide) (hb hby at_151) (fun T409 hp409 X409 eh409 Wr409 Ar409 => ?_)
      have Ar409' : own_A Z hp409 ja .int [.int ex, .int x1, .int g0, .int g1, .int (0 : Int32), .int (0 : Int32)] := Ar409
      have Ar355'_409 := Ar355'_407.other Wr409 ne_ra_ja
      have Nf409 := Fr.snoc X409 Nf407 nw_ja
      have Z_409 : n0 ≤ hp409.size := by rw [Wr.size Wr409]; exact Z_407
      refine own_blk dec0 seq0 hby hx hZ hown hK hF 8 [false] [] X409 eh409 ?_
      show (¬ (((4 : Int32)).toInt ≤ ((2 : Int32)).toInt)) ∧ own_Aft X409 hp409 _ 165 [.val (.int g0), .val (.int g1), .val (.int g2), .val (.int g3), .val (.int sh), .val (.int ex), .val (.int (4 : Int32)), .val (.int (2 : Int32)), .val (.int ex), .val (.int x1), .val (.int x2), .val (.ref ra), .val (.ref ja), .unset, .unset, .unset, .unset, .unset, .unset, .unset, .unset] [.int g2, .int (4 : Int32), .ref ja]
      refine ⟨by decide, fun T410 X410 eh410 => ?_⟩
      refine own_sI X410 hx hZ eh410 Ar409' 4 rfl (by show 4 < 6; decide) (hb hby at_165) (fun T411 hp411 X411 eh411 Wr411 Ar411 => ?_)
      have Ar411' : own_A Z hp411 ja .int [.int ex, .int x1, .int g0, .int g1, .int g2, .int (0 : Int32)] := Ar411
      have Ar355'_411 := Ar355'_409.other Wr411 ne_ra_ja
      have Nf411 := Fr.snoc X411 Nf409 nw_ja
      have Z_411 : n0 ≤ hp411.size := by rw [Wr.size Wr411]; exact Z_409
      refine own_blk dec0 seq0 hby hx hZ hown hK hF 8 [false] [] X411 eh411 ?_
      show (¬ (((4 : Int32)).toInt ≤ ((3 : Int32)).toInt)) ∧ own_Aft X411 hp411 _ 179 [.val (.int g0), .val (.int g1), .val (.int g2), .val (.int g3), .val (.int sh), .val (.int ex), .val (.int (4 : Int32)), .val (.int (2 : Int32)), .val (.int ex), .val (.int x1), .val (.int x2), .val (.ref ra), .val (.ref ja), .unset, .unset, .unset, .unset, .unset, .unset, .unset, .unset] [.int g3, .int (5 : Int32), .ref ja]
      refine ⟨by decide, fun T412 X412 eh412 => ?_⟩
      refine own_sI X412 hx hZ eh412 Ar411' 5 rfl (by show 5 < 6; decide) (hb hby at_179) (fun T413 hp413 X413 eh413 Wr413 Ar413 => ?_)
      have Ar413' : own_A Z hp413 ja .int [.int ex, .int x1, .int g0, .int g1, .int g2, .int g3] := Ar413
      have Ar355'_413 := Ar355'_411.other Wr413 ne_ra_ja
      have Nf413 := Fr.snoc X413 Nf411 nw_ja
      have Z_413 : n0 ≤ hp413.size := by rw [Wr.size Wr413]; exact Z_411
      refine own_new X413 hx hZ hown (hw _ (List.mem_of_getElem? (i := 2) rfl)) (hw _ (List.mem_of_getElem? (i := 3) rfl)) (hw _ (List.mem_of_getElem? (i := 4) rfl)) eh413 (hb hby at_180) (by decide) (by decide) (fun T414 hp414 ao ga414 X414 eh414 Ex414 Ea414 Dn414 => ?_)
      have ne_ra_ao : ra ≠ ao := fun q => absurd Ar355'_413.lt (by rw [q, ga414]; exact Nat.lt_irrefl _)
      have ne_ja_ao : ja ≠ ao := fun q => absurd Ar413'.lt (by rw [q, ga414]; exact Nat.lt_irrefl _)
      have nw_ao : n0 ≤ ao := by rw [ga414]; exact Z_413
      have Ar355'_414 := Ar355'_413.ext Ex414
      have Ar413'_414 := Ar413'.ext Ex414
      have Z_414 : n0 ≤ hp414.size := Nat.le_trans Z_413 Ex414.1
      show own_Go p.tables e below _ (T414.setTop (mkF m 183 (Array.mk [.val (.int g0), .val (.int g1), .val (.int g2), .val (.int g3), .val (.int sh), .val (.int ex), .val (.int (4 : Int32)), .val (.int (2 : Int32)), .val (.int ex), .val (.int x1), .val (.int x2), .val (.ref ra), .val (.ref ja), .unset, .unset, .unset, .unset, .unset, .unset, .unset, .unset]) [.ref ao]))
      refine own_blk dec0 seq0 hby hx hZ hown hK hF 1 [] [] X414 eh414 ?_
      show own_Aft X414 hp414 _ 184 [.val (.int g0), .val (.int g1), .val (.int g2), .val (.int g3), .val (.int sh), .val (.int ex), .val (.int (4 : Int32)), .val (.int (2 : Int32)), .val (.int ex), .val (.int x1), .val (.int x2), .val (.ref ra), .val (.ref ja), .unset, .unset, .unset, .unset, .unset, .unset, .unset, .unset] [.ref ao, .ref ao]
      refine fun T415 X415 eh415 => ?_
      refine own_callI X415 hx hZ hown rfl (hw _ (List.mem_of_getElem? (i := 5) rfl)) (hw _ (List.mem_of_getElem? (i := 6) rfl)) (hw _ (List.mem_of_getElem? (i := 4) rfl)) (hw _ (List.mem_of_getElem? (i := 7) rfl)) (by decide) eh415 ao [] pd1 rfl (rm := ({ frames := 1, cells := 0, slots := 0, locals := 12 } : Room)) (rm1 l Z a0 hw [] ao hp414 n0 Z_414) (by rw [hml]; rfl) 1 rfl (Nat.le_of_eq rfl) (hb hby at_184) (by decide) (by decide) (by decide) (by decide) (fun T416 rv416 Lc416 X416 qc416 => ?_)
      obtain ⟨rfl, M1, hh⟩ := qc416
      show own_Go p.tables e below _ (T416.setTop (mkF m 187 (Array.mk [.val (.int g0), .val (.int g1), .val (.int g2), .val (.int g3), .val (.int sh), .val (.int ex), .val (.int (4 : Int32)), .val (.int (2 : Int32)), .val (.int ex), .val (.int x1), .val (.int x2), .val (.ref ra), .val (.ref ja), .unset, .unset, .unset, .unset, .unset, .unset, .unset, .unset]) [.ref ao]))
      refine own_blk dec0 seq0 hby hx hZ hown hK hF 2 [] [] X416 hh ?_
      show own_Aft X416 hp414 _ 191 [.val (.int g0), .val (.int g1), .val (.int g2), .val (.int g3), .val (.int sh), .val (.int ex), .val (.int (4 : Int32)), .val (.int (2 : Int32)), .val (.int ex), .val (.int x1), .val (.int x2), .val (.ref ra), .val (.ref ja), .unset, .unset, .unset, .unset, .unset, .unset, .unset, .unset] [.ref ja, .ref ra, .ref ao]
      refine fun T417 X417 eh417 => ?_
      obtain ⟨b0, hb0⟩ : ∃ b : Bool, (0 < g0.toInt ↔ b = true) := ⟨decide (0 < g0.toInt), by simp⟩
      obtain ⟨b1, hb1⟩ : ∃ b : Bool, (0 < g1.toInt ↔ b = true) := ⟨decide (0 < g1.toInt), by simp⟩
      obtain ⟨b2, hb2⟩ : ∃ b : Bool, (0 < g2.toInt ↔ b = true) := ⟨decide (0 < g2.toInt), by simp⟩
      obtain ⟨b3, hb3⟩ : ∃ b : Bool, (0 < g3.toInt ↔ b = true) := ⟨decide (0 < g3.toInt), by simp⟩
      obtain ⟨c0, hc0⟩ : ∃ b : Bool, (0 < ex.toInt ↔ b = true) := ⟨decide (0 < ex.toInt), by simp⟩
      obtain ⟨c1, hc1⟩ : ∃ b : Bool, (0 < x1.toInt ↔ b = true) := ⟨decide (0 < x1.toInt), by simp⟩
      obtain ⟨hrok, hchk⟩ := Bool.and_eq_true_iff.mp (own_chk_4_2 b0 b1 b2 b3 c0 c1)
      refine own_callV X417 hx hZ hown (hw _ (List.mem_of_getElem? (i := 11) rfl)) (hw _ (List.mem_of_getElem? (i := 12) rfl)) (hw _ (List.mem_of_getElem? (i := 14) rfl)) (hw _ (List.mem_of_getElem? (i := 13) rfl)) (hw _ (List.mem_of_getElem? (i := 4) rfl)) (hw _ (List.mem_of_getElem? (i := 15) rfl)) (by decide) eh417 Ea414 [.ref ra, .ref ja] pd3 rfl (rm := ({ frames := 0, cells := 0, slots := 0, locals := 0 } : Room)) (rm3_4_6 l Z a0 hw [] ao ra ja g0 g1 g2 g3 ex x1 g0 g1 g2 g3 b0 b1 b2 b3 c0 c1 b0 b1 b2 b3 hp414 n0 Z_414 Ar355'_414 Ar413'_414 hb0 hb1 hb2 hb3 hc0 hc1 hb0 hb1 hb2 hb3 hrok) (by rw [hml]; rfl) 0 rfl (Nat.le_of_eq rfl) (hb hby at_191) (by decide) (by decide) (by decide) (by decide) (fun T418 rv418 Lc418 X418 qc418 => ?_)
      obtain ⟨rfl, M2, hh2⟩ := qc418
      have hres : own_res [b0, b1, b2, b3] ([c0, c1] ++ [b0, b1, b2, b3]) = own_res [b0, b1, b2, b3] [c0, c1, b0, b1, b2, b3] := rfl
      generalize own_res [b0, b1, b2, b3] [c0, c1, b0, b1, b2, b3] = sc at hres ⊢
      show own_Go p.tables e below _ (T418.setTop (mkF m 194 (Array.mk [.val (.int g0), .val (.int g1), .val (.int g2), .val (.int g3), .val (.int sh), .val (.int ex), .val (.int (4 : Int32)), .val (.int (2 : Int32)), .val (.int ex), .val (.int x1), .val (.int x2), .val (.ref ra), .val (.ref ja), .unset, .unset, .unset, .unset, .unset, .unset, .unset, .unset]) [.double sc]))
      refine own_blk dec0 seq0 hby hx hZ hown hK hF 5 [] [] X418 hh2 ?_
      show own_Aft X418 hp414 _ 202 [.val (.int g0), .val (.int g1), .val (.int g2), .val (.int g3), .val (.int sh), .val (.int ex), .val (.int (4 : Int32)), .val (.int (2 : Int32)), .val (.int ex), .val (.int x1), .val (.int x2), .val (.ref ra), .val (.ref ja), .val (.double sc), .second, .val (.int (0 : Int32)), .val (.long (0 : Int64)), .second, .unset, .unset, .unset] []
      refine fun T419 X419 eh419 => ?_
      refine ptC_4 X419 hx hby hml hown hZ hK hF eh419 _ _ _ _ _ _ _ _ _ _ _ _ _ g0 g1 g2 g3 b0 b1 b2 b3 hb0 hb1 hb2 hb3 (fun f0 y0 HF T420 X420 eh420 => ?_)
      show own_Go p.tables e below _ (T420.setTop (mkF m 315 (Array.mk [.val (.int g0), .val (.int g1), .val (.int g2), .val (.int g3), .val (.int sh), .val (.int ex), .val (.int (4 : Int32)), .val (.int (2 : Int32)), .val (.int ex), .val (.int x1), .val (.int x2), .val (.ref ra), .val (.ref ja), .val (.double sc), .second, .val (.int f0), .val (.long y0), .second, .unset, .unset, .unset]) []))
      refine own_blk dec0 seq0 hby hx hZ hown hK hF 2 [] [] X420 eh420 ?_
      show own_Aft X420 hp414 _ 319 [.val (.int g0), .val (.int g1), .val (.int g2), .val (.int g3), .val (.int sh), .val (.int ex), .val (.int (4 : Int32)), .val (.int (2 : Int32)), .val (.int ex), .val (.int x1), .val (.int x2), .val (.ref ra), .val (.ref ja), .val (.double sc), .second, .val (.int f0), .val (.long y0), .second, .val (.int f0), .unset, .unset] []
      refine fun T421 X421 eh421 => ?_
      refine ptD_2 X421 hx hby hml hown hZ hK hF eh421 _ _ _ _ _ _ _ _ _ _ _ _ _ _ _ _ ex x1 x2 f0 c0 c1 hc0 hc1 (fun rr CF T422 X422 eh422 => ?_)
      show own_Go p.tables e below _ (T422.setTop (mkF m 360 (Array.mk [.val (.int g0), .val (.int g1), .val (.int g2), .val (.int g3), .val (.int sh), .val (.int ex), .val (.int (4 : Int32)), .val (.int (2 : Int32)), .val (.int ex), .val (.int x1), .val (.int x2), .val (.ref ra), .val (.ref ja), .val (.double sc), .second, .val (.int f0), .val (.long y0), .second, .val (.int rr), .unset, .unset]) []))
      unfold own_dif at hchk
      rw [hres, HF] at hchk
      dsimp only at hchk
      rw [CF] at hchk
      by_cases hf : f0.toInt = 0
      · skip
        rw [if_pos hf] at hchk
        refine own_blk dec0 seq0 hby hx hZ hown hK hF 8 [false, false] [] X422 eh422 ?_
        show (¬ ((f0).toInt ≠ 0)) ∧ (¬ ((cmpValue (FP.dcmp sc 0) .l).toInt ≠ 0)) ∧ own_Aft X422 hp414 _ 377 [.val (.int g0), .val (.int g1), .val (.int g2), .val (.int g3), .val (.int sh), .val (.int ex), .val (.int (4 : Int32)), .val (.int (2 : Int32)), .val (.int ex), .val (.int x1), .val (.int x2), .val (.ref ra), .val (.ref ja), .val (.double sc), .second, .val (.int f0), .val (.long y0), .second, .val (.int rr), .unset, .unset] [.int (1 : Int32)]
        refine ⟨by omega, by have := of_decide_eq_true hchk; omega, fun T423 X423 eh423 => ?_⟩
        exact own_ret X423 hx hlk eh423 hret (by first | rfl | decide) (Or.inl ⟨rfl, by simp, _, rfl⟩) (hb hby at_377) (by decide) (by decide) (⟨rfl, Fr.app (Fr.app Nf413 M1) M2⟩)
      · skip
        rw [if_neg hf] at hchk
        obtain ⟨hchk, k5⟩ := Bool.and_eq_true_iff.mp hchk
        obtain ⟨hchk, k4⟩ := Bool.and_eq_true_iff.mp hchk
        obtain ⟨hchk, k3⟩ := Bool.and_eq_true_iff.mp hchk
        obtain ⟨k1, k2⟩ := Bool.and_eq_true_iff.mp hchk
        refine own_blk dec0 seq0 hby hx hZ hown hK hF 22 [true, false, false] [] X422 eh422 ?_
        show ((f0).toInt ≠ 0) ∧ (Jvm.Free.Fl.NoNaN64 (FP.dmul 4622945017495814144 (FP.i2d rr))) ∧ (Jvm.Free.Fl.NoNaN64 (FP.dmul sc (FP.dmul 4622945017495814144 (FP.i2d rr)))) ∧ (Jvm.Free.Fl.NoNaN64 (FP.dsub (FP.dmul sc (FP.dmul 4622945017495814144 (FP.i2d rr))) (FP.l2d y0))) ∧ (¬ (0 ≤ (cmpValue (FP.dcmp (FP.dsub (FP.dmul sc (FP.dmul 4622945017495814144 (FP.i2d rr))) (FP.l2d y0)) 4472406533629990549) .g).toInt)) ∧ (¬ ((cmpValue (FP.dcmp (FP.dsub (FP.dmul sc (FP.dmul 4622945017495814144 (FP.i2d rr))) (FP.l2d y0)) 13695778570484766357) .l).toInt ≤ 0)) ∧ own_Aft X422 hp414 _ 417 [.val (.int g0), .val (.int g1), .val (.int g2), .val (.int g3), .val (.int sh), .val (.int ex), .val (.int (4 : Int32)), .val (.int (2 : Int32)), .val (.int ex), .val (.int x1), .val (.int x2), .val (.ref ra), .val (.ref ja), .val (.double sc), .second, .val (.int f0), .val (.long y0), .second, .val (.int rr), .val (.double (FP.dsub (FP.dmul sc (FP.dmul 4622945017495814144 (FP.i2d rr))) (FP.l2d y0))), .second] [.int (1 : Int32)]
        refine ⟨by omega, own_nb_e k1, own_nb_e k2, own_nb_e k3, by have := of_decide_eq_true k4; omega, by have := of_decide_eq_true k5; omega, fun T424 X424 eh424 => ?_⟩
        exact own_ret X424 hx hlk eh424 hret (by first | rfl | decide) (Or.inl ⟨rfl, by simp, _, rfl⟩) (hb hby at_417) (by decide) (by decide) (⟨rfl, Fr.app (Fr.app Nf413 M1) M2⟩)
    · skip
      obtain rfl : ee = (3 : Int32) := Int32.toInt_inj.mp he
      show own_Go p.tables e below _ (T355.setTop (mkF m 83 (Array.mk [.val (.int g0), .val (.int g1), .val (.int g2), .val (.int g3), .val (.int sh), .val (.int ex), .val (.int (4 : Int32)), .val (.int (3 : Int32)), .val (.int ex), .val (.int x1), .val (.int x2), .val (.ref ra), .unset, .unset, .unset, .unset, .unset, .unset, .unset, .unset, .unset]) []))
      refine own_blk dec0 seq0 hby hx hZ hown hK hF 3 [] [] X355 eh355 ?_
      show own_Aft X355 hp355 _ 88 [.val (.int g0), .val (.int g1), .val (.int g2), .val (.int g3), .val (.int sh), .val (.int ex), .val (.int (4 : Int32)), .val (.int (3 : Int32)), .val (.int ex), .val (.int x1), .val (.int x2), .val (.ref ra), .unset, .unset, .unset, .unset, .unset, .unset, .unset, .unset, .unset] [.int (7 : Int32)]
      refine fun T425 X425 eh425 => ?_
      refine own_newP X425 hx hZ (hw _ (List.mem_of_getElem? (i := 1) rfl)) eh425 7 rfl (cap := 7) (by decide) (by decide) (hb hby at_88) (by decide) (by decide) (fun T426 hp426 ja ga426 X426 eh426 Ex426 Ar426 => ?_)
      have ne_ra_ja : ra ≠ ja := fun q => absurd Ar355'.lt (by rw [q, ga426]; exact Nat.lt_irrefl _)
      have nw_ja : n0 ≤ ja := by rw [ga426]; exact Z_355
      have Ar355'_426 := Ar355'.ext Ex426
      have Z_426 : n0 ≤ hp426.size := Nat.le_trans Z_355 Ex426.1
      have Ar426' : own_A Z hp426 ja .int [.int (0 : Int32), .int (0 : Int32), .int (0 : Int32), .int (0 : Int32), .int (0 : Int32), .int (0 : Int32), .int (0 : Int32)] := Ar426
      show own_Go p.tables e below _ (T426.setTop (mkF m 90 (Array.mk [.val (.int g0), .val (.int g1), .val (.int g2), .val (.int g3), .val (.int sh), .val (.int ex), .val (.int (4 : Int32)), .val (.int (3 : Int32)), .val (.int ex), .val (.int x1), .val (.int x2), .val (.ref ra), .unset, .unset, .unset, .unset, .unset, .unset, .unset, .unset, .unset]) [.ref ja]))
      refine own_blk dec0 seq0 hby hx hZ hown hK hF 6 [false] [] X426 eh426 ?_
      show (¬ (((3 : Int32)).toInt ≤ 0)) ∧ own_Aft X426 hp426 _ 102 [.val (.int g0), .val (.int g1), .val (.int g2), .val (.int g3), .val (.int sh), .val (.int ex), .val (.int (4 : Int32)), .val (.int (3 : Int32)), .val (.int ex), .val (.int x1), .val (.int x2), .val (.ref ra), .val (.ref ja), .unset, .unset, .unset, .unset, .unset, .unset, .unset, .unset] [.int ex, .int (0 : Int32), .ref ja]
      refine ⟨by decide, fun T427 X427 eh427 => ?_⟩
      refine own_sI X427 hx hZ eh427 Ar426' 0 rfl (by show 0 < 7; decide) (hb hby at_102) (fun T428 hp428 X428 eh428 Wr428 Ar428 => ?_)
      have Ar428' : own_A Z hp428 ja .int [.int ex, .int (0 : Int32), .int (0 : Int32), .int (0 : Int32), .int (0 : Int32), .int (0 : Int32), .int (0 : Int32)] := Ar428
      have Ar355'_428 := Ar355'_426.other Wr428 ne_ra_ja
      have Nf428 := Fr.snoc X428 Nf355 nw_ja
      have Z_428 : n0 ≤ hp428.size := by rw [Wr.size Wr428]; exact Z_426
      refine own_blk dec0 seq0 hby hx hZ hown hK hF 6 [false] [] X428 eh428 ?_
      show (¬ (((3 : Int32)).toInt ≤ ((1 : Int32)).toInt)) ∧ own_Aft X428 hp428 _ 114 [.val (.int g0), .val (.int g1), .val (.int g2), .val (.int g3), .val (.int sh), .val (.int ex), .val (.int (4 : Int32)), .val (.int (3 : Int32)), .val (.int ex), .val (.int x1), .val (.int x2), .val (.ref ra), .val (.ref ja), .unset, .unset, .unset, .unset, .unset, .unset, .unset, .unset] [.int x1, .int (1 : Int32), .ref ja]
      refine ⟨by decide, fun T429 X429 eh429 => ?_⟩
      refine own_sI X429 hx hZ eh429 Ar428' 1 rfl (by show 1 < 7; decide) (hb hby at_114) (fun T430 hp430 X430 eh430 Wr430 Ar430 => ?_)
      have Ar430' : own_A Z hp430 ja .int [.int ex, .int x1, .int (0 : Int32), .int (0 : Int32), .int (0 : Int32), .int (0 : Int32), .int (0 : Int32)] := Ar430
      have Ar355'_430 := Ar355'_428.other Wr430 ne_ra_ja
      have Nf430 := Fr.snoc X430 Nf428 nw_ja
      have Z_430 : n0 ≤ hp430.size := by rw [Wr.size Wr430]; exact Z_428
      refine own_blk dec0 seq0 hby hx hZ hown hK hF 6 [false] [] X430 eh430 ?_
      show (¬ (((3 : Int32)).toInt ≤ ((2 : Int32)).toInt)) ∧ own_Aft X430 hp430 _ 126 [.val (.int g0), .val (.int g1), .val (.int g2), .val (.int g3), .val (.int sh), .val (.int ex), .val (.int (4 : Int32)), .val (.int (3 : Int32)), .val (.int ex), .val (.int x1), .val (.int x2), .val (.ref ra), .val (.ref ja), .unset, .unset, .unset, .unset, .unset, .unset, .unset, .unset] [.int x2, .int (2 : Int32), .ref ja]
      refine ⟨by decide, fun T431 X431 eh431 => ?_⟩
      refine own_sI X431 hx hZ eh431 Ar430' 2 rfl (by show 2 < 7; decide) (hb hby at_126) (fun T432 hp432 X432 eh432 Wr432 Ar432 => ?_)
      have Ar432' : own_A Z hp432 ja .int [.int ex, .int x1, .int x2, .int (0 : Int32), .int (0 : Int32), .int (0 : Int32), .int (0 : Int32)] := Ar432
      have Ar355'_432 := Ar355'_430.other Wr432 ne_ra_ja
      have Nf432 := Fr.snoc X432 Nf430 nw_ja
      have Z_432 : n0 ≤ hp432.size := by rw [Wr.size Wr432]; exact Z_430
      refine own_blk dec0 seq0 hby hx hZ hown hK hF 5 [false] [] X432 eh432 ?_
      show (¬ (((4 : Int32)).toInt ≤ 0)) ∧ own_Aft X432 hp432 _ 137 [.val (.int g0), .val (.int g1), .val (.int g2), .val (.int g3), .val (.int sh), .val (.int ex), .val (.int (4 : Int32)), .val (.int (3 : Int32)), .val (.int ex), .val (.int x1), .val (.int x2), .val (.ref ra), .val (.ref ja), .unset, .unset, .unset, .unset, .unset, .unset, .unset, .unset] [.int g0, .int (3 : Int32), .ref ja]
      refine ⟨by decide, fun T433 X433 eh433 => ?_⟩
      refine own_sI X433 hx hZ eh433 Ar432' 3 rfl (by show 3 < 7; decide) (hb hby at_137) (fun T434 hp434 X434 eh434 Wr434 Ar434 => ?_)
      have Ar434' : own_A Z hp434 ja .int [.int ex, .int x1, .int x2, .int g0, .int (0 : Int32), .int (0 : Int32), .int (0 : Int32)] := Ar434
      have Ar355'_434 := Ar355'_432.other Wr434 ne_ra_ja
      have Nf434 := Fr.snoc X434 Nf432 nw_ja
      have Z_434 : n0 ≤ hp434.size := by rw [Wr.size Wr434]; exact Z_432
      refine own_blk dec0 seq0 hby hx hZ hown hK hF 8 [false] [] X434 eh434 ?_
      show (¬ (((4 : Int32)).toInt ≤ ((1 : Int32)).toInt)) ∧ own_Aft X434 hp434 _ 151 [.val (.int g0), .val (.int g1), .val (.int g2), .val (.int g3), .val (.int sh), .val (.int ex), .val (.int (4 : Int32)), .val (.int (3 : Int32)), .val (.int ex), .val (.int x1), .val (.int x2), .val (.ref ra), .val (.ref ja), .unset, .unset, .unset, .unset, .unset, .unset, .unset, .unset] [.int g1, .int (4 : Int32), .ref ja]
      refine ⟨by decide, fun T435 X435 eh435 => ?_⟩
      refine own_sI X435 hx hZ eh435 Ar434' 4 rfl (by show 4 < 7; decide) (hb hby at_151) (fun T436 hp436 X436 eh436 Wr436 Ar436 => ?_)
      have Ar436' : own_A Z hp436 ja .int [.int ex, .int x1, .int x2, .int g0, .int g1, .int (0 : Int32), .int (0 : Int32)] := Ar436
      have Ar355'_436 := Ar355'_434.other Wr436 ne_ra_ja
      have Nf436 := Fr.snoc X436 Nf434 nw_ja
      have Z_436 : n0 ≤ hp436.size := by rw [Wr.size Wr436]; exact Z_434
      refine own_blk dec0 seq0 hby hx hZ hown hK hF 8 [false] [] X436 eh436 ?_
      show (¬ (((4 : Int32)).toInt ≤ ((2 : Int32)).toInt)) ∧ own_Aft X436 hp436 _ 165 [.val (.int g0), .val (.int g1), .val (.int g2), .val (.int g3), .val (.int sh), .val (.int ex), .val (.int (4 : Int32)), .val (.int (3 : Int32)), .val (.int ex), .val (.int x1), .val (.int x2), .val (.ref ra), .val (.ref ja), .unset, .unset, .unset, .unset, .unset, .unset, .unset, .unset] [.int g2, .int (5 : Int32), .ref ja]
      refine ⟨by decide, fun T437 X437 eh437 => ?_⟩
      refine own_sI X437 hx hZ eh437 Ar436' 5 rfl (by show 5 < 7; decide) (hb hby at_165) (fun T438 hp438 X438 eh438 Wr438 Ar438 => ?_)
      have Ar438' : own_A Z hp438 ja .int [.int ex, .int x1, .int x2, .int g0, .int g1, .int g2, .int (0 : Int32)] := Ar438
      have Ar355'_438 := Ar355'_436.other Wr438 ne_ra_ja
      have Nf438 := Fr.snoc X438 Nf436 nw_ja
      have Z_438 : n0 ≤ hp438.size := by rw [Wr.size Wr438]; exact Z_436
      refine own_blk dec0 seq0 hby hx hZ hown hK hF 8 [false] [] X438 eh438 ?_
      show (¬ (((4 : Int32)).toInt ≤ ((3 : Int32)).toInt)) ∧ own_Aft X438 hp438 _ 179 [.val (.int g0), .val (.int g1), .val (.int g2), .val (.int g3), .val (.int sh), .val (.int ex), .val (.int (4 : Int32)), .val (.int (3 : Int32)), .val (.int ex), .val (.int x1), .val (.int x2), .val (.ref ra), .val (.ref ja), .unset, .unset, .unset, .unset, .unset, .unset, .unset, .unset] [.int g3, .int (6 : Int32), .ref ja]
      refine ⟨by decide, fun T439 X439 eh439 => ?_⟩
      refine own_sI X439 hx hZ eh439 Ar438' 6 rfl (by show 6 < 7; decide) (hb hby at_179) (fun T440 hp440 X440 eh440 Wr440 Ar440 => ?_)
      have Ar440' : own_A Z hp440 ja .int [.int ex, .int x1, .int x2, .int g0, .int g1, .int g2, .int g3] := Ar440
      have Ar355'_440 := Ar355'_438.other Wr440 ne_ra_ja
      have Nf440 := Fr.snoc X440 Nf438 nw_ja
      have Z_440 : n0 ≤ hp440.size := by rw [Wr.size Wr440]; exact Z_438
      refine own_new X440 hx hZ hown (hw _ (List.mem_of_getElem? (i := 2) rfl)) (hw _ (List.mem_of_getElem? (i := 3) rfl)) (hw _ (List.mem_of_getElem? (i := 4) rfl)) eh440 (hb hby at_180) (by decide) (by decide) (fun T441 hp441 ao ga441 X441 eh441 Ex441 Ea441 Dn441 => ?_)
      have ne_ra_ao : ra ≠ ao := fun q => absurd Ar355'_440.lt (by rw [q, ga441]; exact Nat.lt_irrefl _)
      have ne_ja_ao : ja ≠ ao := fun q => absurd Ar440'.lt (by rw [q, ga441]; exact Nat.lt_irrefl _)
      have nw_ao : n0 ≤ ao := by rw [ga441]; exact Z_440
      have Ar355'_441 := Ar355'_440.ext Ex441
      have Ar440'_441 := Ar440'.ext Ex441
      have Z_441 : n0 ≤ hp441.size := Nat.le_trans Z_440 Ex441.1
      show own_Go p.tables e below _ (T441.setTop (mkF m 183 (Array.mk [.val (.int g0), .val (.int g1), .val (.int g2), .val (.int g3), .val (.int sh), .val (.int ex), .val (.int (4 : Int32)), .val (.int (3 : Int32)), .val (.int ex), .val (.int x1), .val (.int x2), .val (.ref ra), .val (.ref ja), .unset, .unset, .unset, .unset, .unset, .unset, .unset, .unset]) [.ref ao]))
      refine own_blk dec0 seq0 hby hx hZ hown hK hF 1 [] [] X441 eh441 ?_
      show own_Aft X441 hp441 _ 184 [.val (.int g0), .val (.int g1), .val (.int g2), .val (.int g3), .val (.int sh), .val (.int ex), .val (.int (4 : Int32)), .val (.int (3 : Int32)), .val (.int ex), .val (.int x1), .val (.int x2), .val (.ref ra), .val (.ref ja), .unset, .unset, .unset, .unset, .unset, .unset, .unset, .unset] [.ref ao, .ref ao]
      refine fun T442 X442 eh442 => ?_
      refine own_callI X442 hx hZ hown rfl (hw _ (List.mem_of_getElem? (i := 5) rfl)) (hw _ (List.mem_of_getElem? (i := 6) rfl)) (hw _ (List.mem_of_getElem? (i := 4) rfl)) (hw _ (List.mem_of_getElem? (i := 7) rfl)) (by decide) eh442 ao [] pd1 rfl (rm := ({ frames := 1, cells := 0, slots := 0, locals := 12 } : Room)) (rm1 l Z a0 hw [] ao hp441 n0 Z_441) (by rw [hml]; rfl) 1 rfl (Nat.le_of_eq rfl) (hb hby at_184) (by decide) (by decide) (by decide) (by decide) (fun T443 rv443 Lc443 X443 qc443 => ?_)
      obtain ⟨rfl, M1, hh⟩ := qc443
      show own_Go p.tables e below _ (T443.setTop (mkF m 187 (Array.mk [.val (.int g0), .val (.int g1), .val (.int g2), .val (.int g3), .val (.int sh), .val (.int ex), .val (.int (4 : Int32)), .val (.int (3 : Int32)), .val (.int ex), .val (.int x1), .val (.int x2), .val (.ref ra), .val (.ref ja), .unset, .unset, .unset, .unset, .unset, .unset, .unset, .unset]) [.ref ao]))
      refine own_blk dec0 seq0 hby hx hZ hown hK hF 2 [] [] X443 hh ?_
      show own_Aft X443 hp441 _ 191 [.val (.int g0), .val (.int g1), .val (.int g2), .val (.int g3), .val (.int sh), .val (.int ex), .val (.int (4 : Int32)), .val (.int (3 : Int32)), .val (.int ex), .val (.int x1), .val (.int x2), .val (.ref ra), .val (.ref ja), .unset, .unset, .unset, .unset, .unset, .unset, .unset, .unset] [.ref ja, .ref ra, .ref ao]
      refine fun T444 X444 eh444 => ?_
      obtain ⟨b0, hb0⟩ : ∃ b : Bool, (0 < g0.toInt ↔ b = true) := ⟨decide (0 < g0.toInt), by simp⟩
      obtain ⟨b1, hb1⟩ : ∃ b : Bool, (0 < g1.toInt ↔ b = true) := ⟨decide (0 < g1.toInt), by simp⟩
      obtain ⟨b2, hb2⟩ : ∃ b : Bool, (0 < g2.toInt ↔ b = true) := ⟨decide (0 < g2.toInt), by simp⟩
      obtain ⟨b3, hb3⟩ : ∃ b : Bool, (0 < g3.toInt ↔ b = true) := ⟨decide (0 < g3.toInt), by simp⟩
      obtain ⟨c0, hc0⟩ : ∃ b : Bool, (0 < ex.toInt ↔ b = true) := ⟨decide (0 < ex.toInt), by simp⟩
      obtain ⟨c1, hc1⟩ : ∃ b : Bool, (0 < x1.toInt ↔ b = true) := ⟨decide (0 < x1.toInt), by simp⟩
      obtain ⟨c2, hc2⟩ : ∃ b : Bool, (0 < x2.toInt ↔ b = true) := ⟨decide (0 < x2.toInt), by simp⟩
      obtain ⟨hrok, hchk⟩ := Bool.and_eq_true_iff.mp (own_chk_4_3 b0 b1 b2 b3 c0 c1 c2)
      refine own_callV X444 hx hZ hown (hw _ (List.mem_of_getElem? (i := 11) rfl)) (hw _ (List.mem_of_getElem? (i := 12) rfl)) (hw _ (List.mem_of_getElem? (i := 14) rfl)) (hw _ (List.mem_of_getElem? (i := 13) rfl)) (hw _ (List.mem_of_getElem? (i := 4) rfl)) (hw _ (List.mem_of_getElem? (i := 15) rfl)) (by decide) eh444 Ea441 [.ref ra, .ref ja] pd3 rfl (rm := ({ frames := 0, cells := 0, slots := 0, locals := 0 } : Room)) (rm3_4_7 l Z a0 hw [] ao ra ja g0 g1 g2 g3 ex x1 x2 g0 g1 g2 g3 b0 b1 b2 b3 c0 c1 c2 b0 b1 b2 b3 hp441 n0 Z_441 Ar355'_441 Ar440'_441 hb0 hb1 hb2 hb3 hc0 hc1 hc2 hb0 hb1 hb2 hb3 hrok) (by rw [hml]; rfl) 0 rfl (Nat.le_of_eq rfl) (hb hby at_191) (by decide) (by decide) (by decide) (by decide) (fun T445 rv445 Lc445 X445 qc445 => ?_)
      obtain ⟨rfl, M2, hh2⟩ := qc445
      have hres : own_res [b0, b1, b2, b3] ([c0, c1, c2] ++ [b0, b1, b2, b3]) = own_res [b0, b1, b2, b3] [c0, c1, c2, b0, b1, b2, b3] := rfl
      generalize own_res [b0, b1, b2, b3] [c0, c1, c2, b0, b1, b2, b3] = sc at hres ⊢
      show own_Go p.tables e below _ (T445.setTop (mkF m 194 (Array.mk [.val (.int g0), .val (.int g1), .val (.int g2), .val (.int g3), .val (.int sh), .val (.int ex), .val (.int (4 : Int32)), .val (.int (3 : Int32)), .val (.int ex), .val (.int x1), .val (.int x2), .val (.ref ra), .val (.ref ja), .unset, .unset, .unset, .unset, .unset, .unset, .unset, .unset]) [.double sc]))
      refine own_blk dec0 seq0 hby hx hZ hown hK hF 5 [] [] X445 hh2 ?_
      show own_Aft X445 hp441 _ 202 [.val (.int g0), .val (.int g1), .val (.int g2), .val (.int g3), .val (.int sh), .val (.int ex), .val (.int (4 : Int32)), .val (.int (3 : Int32)), .val (.int ex), .val (.int x1), .val (.int x2), .val (.ref ra), .val (.ref ja), .val (.double sc), .second, .val (.int (0 : Int32)), .val (.long (0 : Int64)), .second, .unset, .unset, .unset] []
      refine fun T446 X446 eh446 => ?_
      refine ptC_4 X446 hx hby hml hown hZ hK hF eh446 _ _ _ _ _ _ _ _ _ _ _ _ _ g0 g1 g2 g3 b0 b1 b2 b3 hb0 hb1 hb2 hb3 (fun f0 y0 HF T447 X447 eh447 => ?_)
      show own_Go p.tables e below _ (T447.setTop (mkF m 315 (Array.mk [.val (.int g0), .val (.int g1), .val (.int g2), .val (.int g3), .val (.int sh), .val (.int ex), .val (.int (4 : Int32)), .val (.int (3 : Int32)), .val (.int ex), .val (.int x1), .val (.int x2), .val (.ref ra), .val (.ref ja), .val (.double sc), .second, .val (.int f0), .val (.long y0), .second, .unset, .unset, .unset]) []))
      refine own_blk dec0 seq0 hby hx hZ hown hK hF 2 [] [] X447 eh447 ?_
      show own_Aft X447 hp441 _ 319 [.val (.int g0), .val (.int g1), .val (.int g2), .val (.int g3), .val (.int sh), .val (.int ex), .val (.int (4 : Int32)), .val (.int (3 : Int32)), .val (.int ex), .val (.int x1), .val (.int x2), .val (.ref ra), .val (.ref ja), .val (.double sc), .second, .val (.int f0), .val (.long y0), .second, .val (.int f0), .unset, .unset] []
      refine fun T448 X448 eh448 => ?_
      refine ptD_3 X448 hx hby hml hown hZ hK hF eh448 _ _ _ _ _ _ _ _ _ _ _ _ _ _ _ _ ex x1 x2 f0 c0 c1 c2 hc0 hc1 hc2 (fun rr CF T449 X449 eh449 => ?_)
      show own_Go p.tables e below _ (T449.setTop (mkF m 360 (Array.mk [.val (.int g0), .val (.int g1), .val (.int g2), .val (.int g3), .val (.int sh), .val (.int ex), .val (.int (4 : Int32)), .val (.int (3 : Int32)), .val (.int ex), .val (.int x1), .val (.int x2), .val (.ref ra), .val (.ref ja), .val (.double sc), .second, .val (.int f0), .val (.long y0), .second, .val (.int rr), .unset, .unset]) []))
      unfold own_dif at hchk
      rw [hres, HF] at hchk
      dsimp only at hchk
      rw [CF] at hchk
      by_cases hf : f0.toInt = 0
      · skip
        rw [if_pos hf] at hchk
        refine own_blk dec0 seq0 hby hx hZ hown hK hF 8 [false, false] [] X449 eh449 ?_
        show (¬ ((f0).toInt ≠ 0)) ∧ (¬ ((cmpValue (FP.dcmp sc 0) .l).toInt ≠ 0)) ∧ own_Aft X449 hp441 _ 377 [.val (.int g0), .val (.int g1), .val (.int g2), .val (.int g3), .val (.int sh), .val (.int ex), .val (.int (4 : Int32)), .val (.int (3 : Int32)), .val (.int ex), .val (.int x1), .val (.int x2), .val (.ref ra), .val (.ref ja), .val (.double sc), .second, .val (.int f0), .val (.long y0), .second, .val (.int rr), .unset, .unset] [.int (1 : Int32)]
        refine ⟨by omega, by have := of_decide_eq_true hchk; omega, fun T450 X450 eh450 => ?_⟩
        exact own_ret X450 hx hlk eh450 hret (by first | rfl | decide) (Or.inl ⟨rfl, by simp, _, rfl⟩) (hb hby at_377) (by decide) (by decide) (⟨rfl, Fr.app (Fr.app Nf440 M1) M2⟩)
      · skip
        rw [if_neg hf] at hchk
        obtain ⟨hchk, k5⟩ := Bool.and_eq_true_iff.mp hchk
        obtain ⟨hchk, k4⟩ := Bool.and_eq_true_iff.mp hchk
        obtain ⟨hchk, k3⟩ := Bool.and_eq_true_iff.mp hchk
        obtain ⟨k1, k2⟩ := Bool.and_eq_true_iff.mp hchk
        refine own_blk dec0 seq0 hby hx hZ hown hK hF 22 [true, false, false] [] X449 eh449 ?_
        show ((f0).toInt ≠ 0) ∧ (Jvm.Free.Fl.NoNaN64 (FP.dmul 4622945017495814144 (FP.i2d rr))) ∧ (Jvm.Free.Fl.NoNaN64 (FP.dmul sc (FP.dmul 4622945017495814144 (FP.i2d rr)))) ∧ (Jvm.Free.Fl.NoNaN64 (FP.dsub (FP.dmul sc (FP.dmul 4622945017495814144 (FP.i2d rr))) (FP.l2d y0))) ∧ (¬ (0 ≤ (cmpValue (FP.dcmp (FP.dsub (FP.dmul sc (FP.dmul 4622945017495814144 (FP.i2d rr))) (FP.l2d y0)) 4472406533629990549) .g).toInt)) ∧ (¬ ((cmpValue (FP.dcmp (FP.dsub (FP.dmul sc (FP.dmul 4622945017495814144 (FP.i2d rr))) (FP.l2d y0)) 13695778570484766357) .l).toInt ≤ 0)) ∧ own_Aft X449 hp441 _ 417 [.val (.int g0), .val (.int g1), .val (.int g2), .val (.int g3), .val (.int sh), .val (.int ex), .val (.int (4 : Int32)), .val (.int (3 : Int32)), .val (.int ex), .val (.int x1), .val (.int x2), .val (.ref ra), .val (.ref ja), .val (.double sc), .second, .val (.int f0), .val (.long y0), .second, .val (.int rr), .val (.double (FP.dsub (FP.dmul sc (FP.dmul 4622945017495814144 (FP.i2d rr))) (FP.l2d y0))), .second] [.int (1 : Int32)]
        refine ⟨by omega, own_nb_e k1, own_nb_e k2, own_nb_e k3, by have := of_decide_eq_true k4; omega, by have := of_decide_eq_true k5; omega, fun T451 X451 eh451 => ?_⟩
        exact own_ret X451 hx hlk eh451 hret (by first | rfl | decide) (Or.inl ⟨rfl, by simp, _, rfl⟩) (hb hby at_417) (by decide) (by decide) (⟨rfl, Fr.app (Fr.app Nf440 M1) M2⟩)
set_option maxRecDepth 65536 in
set_option maxHeartbeats 40000000 in
theorem comes_1 {Post : Tables → Env → Array Value → State → Outcome → State → Prop} (hpost : ∀ tb e args s v u, (limb_1_1.after args s (.returned v) u = true ∧ limb_1_2.after args s (.returned v) u = true ∧ True) → FrameEnd s (.returned v) u (Jvm.fieldLocs frame_1_writes args s ++ Jvm.arrayLocs frame_1_arrays args s ++ Jvm.staticLocs frame_1_statics s) 16 128 → Post tb e args s (.returned v) u) :
    ArmFor flags0 classFile x code maxLocals ret World_1 tables_1 room_1 Calls_1 rest_1 Pre_1 Post := by
  intro l hfl _ _ p e ha hc hk s m args below hf hA hF happ hP
  obtain ⟨hcalls, hrest, hpre⟩ := hP
  obtain ⟨-, -, -, hnamed, -, -, -, hat⟩ := (Spec.applies_iff hf).mp happ
  obtain ⟨hg, hn⟩ := and_e (Cond.before_iff.mp (show (Jvm.Cond.and given_1 narrow_1).before args s = true from hpre))
  obtain ⟨h1, g0⟩ := and_e hg
  obtain ⟨t0, g1⟩ := and_e g0
  obtain ⟨t1, g2⟩ := and_e g1
  obtain ⟨t2, g3⟩ := and_e g2
  obtain ⟨t3, g4⟩ := and_e g3
  obtain ⟨t4, g5⟩ := and_e g4
  obtain ⟨w0, w1, w2, w3, w4, w5, rfl⟩ : ∃ w0 w1 w2 w3 w4 w5 : Value, args = #[w0, w1, w2, w3, w4, w5] := by
    have hs : args.size = 6 := by simpa [Cond.value, given_1] using h1
    obtain ⟨L⟩ := args
    match L, hs with
    | [w0, w1, w2, w3, w4, w5], _ => exact ⟨w0, w1, w2, w3, w4, w5, rfl⟩
  have hw := fun d (hd : d ∈ tables_1) => atoms_spec (ws := Jvm.Cond.code x code maxLocals ret :: tables_1) hat d (List.mem_cons_of_mem _ hd)
  obtain ⟨i0, e0⟩ := is_v t0
  obtain rfl : w0 = (.int i0) := Option.some.inj e0
  obtain ⟨i1, e1⟩ := is_v t1
  obtain rfl : w1 = (.int i1) := Option.some.inj e1
  obtain ⟨i2, e2⟩ := is_v t2
  obtain rfl : w2 = (.int i2) := Option.some.inj e2
  obtain ⟨i3, e3⟩ := is_v t3
  obtain rfl : w3 = (.int i3) := Option.some.inj e3
  obtain ⟨i4, e4⟩ := is_v t4
  obtain rfl : w4 = (.int i4) := Option.some.inj e4
  obtain ⟨i5, e5⟩ := is_v g5
  obtain rfl : w5 = (.int i5) := Option.some.inj e5
  obtain ⟨n, o, h1, h2, h3, hfin⟩ := rm0 l s _ hw tables_1 i0 i1 i2 i3 i4 i5 s.heap s.heap.size (Nat.le_refl _)  p e ha hc hk s m _ below hf ((Spec.applies_iff_loose hf).mp happ).1 ⟨rfl, State.Warmed39.refl s, rfl⟩ trivial
  obtain ⟨_, L, rfl, ⟨rfl, N⟩, hq⟩ := hfin
  refine ⟨n, _, h1, h2, h3, hpost _ _ _ _ _ _ ⟨Cond.after_iff.mpr rfl, Cond.after_iff.mpr (eq_i res_at (Term.int_eval (1)) rfl), trivial⟩ ⟨hq.1, hq.2.1, (hq.2.2.sift fun y hy => Or.inr (N y hy)).mono (by decide) (by decide)⟩⟩
theorem main_1_1 : Claimed_1_1 := comes_1 fun _ _ _ _ _ _ h hF => ⟨h.1, hF⟩
theorem main_1_2 : Claimed_1_2 := comes_1 fun _ _ _ _ _ _ h hF => ⟨h.2.1, hF⟩
end Jvm.Pilot.@@N@@
namespace Jvm.Pilot.@@N@@
open Jvm Jvm.ClassFile Sem Op Lib Jvm.Free Jvm.Stand Jvm.Pilot.@@N@@.Jvm.D
/-! MADE BY PROGRAM (witnessworld.py) out of the Statement's table words and the real class files: 10 classes; the members and pool entries that the words name. The judged class is class 1, her method 1. -/
namespace start1
open Jvm.ClassFile
def u (s : String) : CpInfo := .utf8 (stringToUtf16 s)
/-- a pool by its gaps: so many unusable entries, then the entry; so many at the end -/
def gap : Nat → List CpInfo → List CpInfo
  | 0, r => r
  | n + 1, r => .unusable :: gap n r
def poolList (es : List (Nat × CpInfo)) (last : Nat) : List CpInfo := es.foldr (fun e r => gap e.1 (e.2 :: r)) (gap last [])
def pool (es : List (Nat × CpInfo)) (last : Nat) : Array CpInfo := ⟨poolList es last⟩
def fileOf (pool : Array CpInfo) (this : Nat) (attrs : Array Attribute := #[]) (ms : Array MethodInfo := #[]) (fl : Nat := 33) (sup : Nat := 0) (ifs : Array Nat := #[]) (fds : Array FieldInfo := #[]) : ClassFile where
  minorVersion := 0
  majorVersion := 65
  constantPool := pool
  accessFlags := fl
  thisClass := this
  superClass := sup
  interfaces := ifs
  fields := fds
  methods := ms
  attributes := attrs
def plain (name : String) (sup : Option ClassId) : Class where
  name := name
  kind := .ordinary
  loader := none
  accessFlags := 33
  super := sup
  interfaces := #[]
  cf := none
  fields := #[]
  methods := #[]
  instanceTypes := #[]
  staticTypes := #[]
  resolved := #[]
  callSites := []
  init := .initialized
  statics := none
  mirror := none

def pool0 : Array CpInfo := pool [(5, u "<init>"), (0, u "()V"), (1, .class_ 10), (1, u "java/lang/Object")] 113

def k0c0 : Code := { maxStack := 0, maxLocals := 1, code := object_method_1_code, exceptionTable := #[], attributes := #[] }
def k0m0 : Method := { name := "<init>", desc := "()V", sig := { parameters := [], returnType := none }, accessFlags := 1, code := some k0c0 }
/-- java/lang/Object -/
def k0 : Class := { plain "java/lang/Object" none with
  accessFlags := 33
  interfaces := #[]
  cf := some (fileOf pool0 8 #[] #[{ accessFlags := 1, nameIndex := 5, descriptorIndex := 6, attributes := #[] }] 33 0 #[] #[])
  fields := #[]
  methods := #[k0m0]
  instanceTypes := #[]
  staticTypes := #[]
  resolved := Array.replicate 124 none
  statics := none }

def pool1 : Array CpInfo := pool [(2, .class_ 4), (0, .nameAndType 5 6), (0, u "java/lang/Object"), (0, u "<init>"), (0, u "()V"), (0, .integer 2147483647), (0, .class_ 9), (0, u "com/example/weigh/weigh/eval/AveragePrecision"), (0, .methodref 8 3), (0, .methodref 8 12), (0, .nameAndType 13 14), (0, u "score"), (0, u "([I[I)D"), (0, .long 12), (1, .long 2), (1, .long 3), (1, .long 4), (1, .double 4622945017495814144), (1, .double 4472406533629990549), (1, .double 13695778570484766357), (1, .class_ 30), (0, u "com/example/weigh/weigh/eval/AveragePrecisionScorePinLaw"), (2, u "law"), (0, u "(IIIIII)Z")] 5

def k1m0 : Method := { name := "<init>", desc := "()V", sig := { parameters := [], returnType := none }, accessFlags := 1, code := none }
def k1c1 : Code := { maxStack := 6, maxLocals := 21, code := code, exceptionTable := #[], attributes := #[] }
def k1m1 : Method := { name := "law", desc := "(IIIIII)Z", sig := { parameters := [.int, .int, .int, .int, .int, .int], returnType := some .boolean }, accessFlags := 9, code := some k1c1 }
/-- com/example/weigh/weigh/eval/AveragePrecisionScorePinLaw -/
def k1 : Class := { plain "com/example/weigh/weigh/eval/AveragePrecisionScorePinLaw" (some 0) with
  accessFlags := 49
  interfaces := #[]
  cf := some (fileOf pool1 29 #[] #[{ accessFlags := 1, nameIndex := 5, descriptorIndex := 6, attributes := #[] }, { accessFlags := 9, nameIndex := 33, descriptorIndex := 34, attributes := #[] }] 49 2 #[] #[])
  fields := #[]
  methods := #[k1m0, k1m1]
  instanceTypes := #[]
  staticTypes := #[]
  resolved := Array.replicate 40 none
  statics := none }

def pool2 : Array CpInfo := pool [(1, .class_ 2), (0, u "com/example/weigh/weigh/eval/Measure"), (0, .class_ 4), (0, u "java/lang/Object")] 6

/-- com/example/weigh/weigh/eval/Measure -/
def k2 : Class := { plain "com/example/weigh/weigh/eval/Measure" (some 0) with
  accessFlags := 1537
  interfaces := #[]
  cf := some (fileOf pool2 1 #[] #[] 1537 3 #[] #[])
  fields := #[]
  methods := #[]
  instanceTypes := #[]
  staticTypes := #[]
  resolved := Array.replicate 11 none
  statics := none }

def pool3 : Array CpInfo := pool [(1, .methodref 2 3), (0, .class_ 4), (0, .nameAndType 5 6), (0, u "java/lang/Object"), (0, u "<init>"), (0, u "()V"), (2, .class_ 10), (0, u "com/example/weigh/weigh/eval/AveragePrecision"), (0, .class_ 12), (0, u "com/example/weigh/weigh/eval/Measure"), (4, u "score"), (0, u "([I[I)D")] 5

def k3c0 : Code := { maxStack := 1, maxLocals := 1, code := prog_7_method_1_code, exceptionTable := #[], attributes := #[] }
def k3m0 : Method := { name := "<init>", desc := "()V", sig := { parameters := [], returnType := none }, accessFlags := 1, code := some k3c0 }
def k3c1 : Code := { maxStack := 6, maxLocals := 11, code := prog_7_method_3_code, exceptionTable := #[], attributes := #[] }
def k3m1 : Method := { name := "score", desc := "([I[I)D", sig := { parameters := [(.array .int), (.array .int)], returnType := some .double }, accessFlags := 1, code := some k3c1 }
/-- com/example/weigh/weigh/eval/AveragePrecision -/
def k3 : Class := { plain "com/example/weigh/weigh/eval/AveragePrecision" (some 0) with
  accessFlags := 49
  interfaces := #[2]
  cf := some (fileOf pool3 9 #[] #[{ accessFlags := 1, nameIndex := 5, descriptorIndex := 6, attributes := #[] }, { accessFlags := 1, nameIndex := 17, descriptorIndex := 18, attributes := #[] }] 49 2 #[11] #[])
  fields := #[]
  methods := #[k3m0, k3m1]
  instanceTypes := #[]
  staticTypes := #[]
  resolved := Array.replicate 24 none
  statics := none }

def pool4 : Array CpInfo := pool [(1, u "java/lang/Cloneable"), (0, .class_ 1), (0, u "java/lang/Object"), (0, .class_ 3)] 3

/-- java/lang/Cloneable -/
def k4 : Class := { plain "java/lang/Cloneable" (some 0) with
  accessFlags := 1537
  interfaces := #[]
  cf := some (fileOf pool4 2 #[] #[] 1537 4 #[] #[])
  fields := #[]
  methods := #[]
  instanceTypes := #[]
  staticTypes := #[]
  resolved := Array.replicate 8 none
  statics := none }

def pool5 : Array CpInfo := pool [(1, u "java/io/Serializable"), (0, .class_ 1), (0, u "java/lang/Object"), (0, .class_ 3)] 3

/-- java/io/Serializable -/
def k5 : Class := { plain "java/io/Serializable" (some 0) with
  accessFlags := 1537
  interfaces := #[]
  cf := some (fileOf pool5 2 #[] #[] 1537 4 #[] #[])
  fields := #[]
  methods := #[]
  instanceTypes := #[]
  staticTypes := #[]
  resolved := Array.replicate 8 none
  statics := none }

/-- the primitive byte -/
def k6 : Class := { plain "byte" none with kind := .primitive 'B', accessFlags := 0x411 }
/-- [B -/
def k7 : Class := { plain "[B" (some 0) with kind := .array 6 .byte, interfaces := #[4, 5], accessFlags := 1041 }

/-- the primitive int -/
def k8 : Class := { plain "int" none with kind := .primitive 'I', accessFlags := 0x411 }
/-- [I -/
def k9 : Class := { plain "[I" (some 0) with kind := .array 8 .int, interfaces := #[4, 5], accessFlags := 1041 }

def heap : Heap := #[]
def classes : Array Class := #[k0, k1, k2, k3, k4, k5, k6, k7, k8, k9]
def interned : List (Array UInt16 × Addr) := []
def slotsUsed : Nat := 0
def theMethod : MethodId := ⟨1, 1⟩
def args0 : Array Value := #[.int 5, .int 6, .int 7, .int 8, .int 9, .int 10]
def aboutOver (below : List Frame) : State where
  vm := { classes := classes, interned := interned.toArray }
  heap := heap
  slotsUsed := slotsUsed
  threads := #[{ frames := .invoking theMethod args0 :: below }]
def below0 : List Frame := [.native { method := ⟨0, 0⟩, args := #[] }]
def about1 : State := aboutOver below0
def p0 : Program := .bare "" "" ""
def e0 : Env := launch0.env 0 0 0
theorem w_frames : about1.frames = Frame.invoking theMethod args0 :: below0 := rfl
set_option maxRecDepth 65536 in
theorem w_args : argsFit about1.vm theMethod args0 = true := by decide +kernel
set_option maxRecDepth 65536 in
theorem w_heap : heapFits about1 = true := by decide +kernel
set_option maxRecDepth 65536 in
theorem w_runnable : about1.curStatus? = some .runnable := by decide +kernel
set_option maxRecDepth 65536 in
theorem w_alone : about1.alone = true := by decide +kernel
set_option maxRecDepth 65536 in
theorem w_named : about1.methodNamed? x = some theMethod := by decide +kernel
set_option maxRecDepth 65536 in
theorem w_hears : about1.hears theMethod below0 = true := by decide +kernel
set_option maxRecDepth 65536 in
theorem w_ripe : about1.ripe theMethod args0 below0 = true := by decide +kernel
theorem w_running : about1.status = .running := rfl
set_option maxRecDepth 65536 in
theorem w_room : about1.hasRoom e0.platform room_1 = true :=
  launch0.hasRoom_least _ room_1 (by decide +kernel) (by decide +kernel) (by decide +kernel) (by decide +kernel) (by decide +kernel) (by decide +kernel)
theorem allAtoms_all (ts : List Jvm.Cond) (a : Array Jvm.Value) (st : Jvm.State) : (allAtoms ts).before a st = ts.all (fun c => c.before a st) := by
  induction ts with
  | nil => rfl
  | cons c t ih =>
    show (Jvm.Cond.and c (allAtoms t)).before a st = _
    rw [Jvm.Cond.before_and, ih, List.all_cons]
def words1 : List Jvm.Cond := Jvm.Cond.code x code maxLocals ret :: tables_1
/-- a 'code' word, met by the world's own term for the bytes: nothing is compared byte by byte -/
theorem code_word {y : MethodName} {bytes : ByteArray} {mx : Nat} {rt : Option FieldType} {a : Array Value} {s : State} {m : MethodId} {meth : Method} {c : Code} (h1 : s.methodNamed? y = some m) (h2 : s.vm.method? m = some meth) (h3 : meth.code = some c) (h4 : c.code = bytes)
    (h5 : (c.maxLocals == mx && c.exceptionTable.isEmpty && decide (c.maxStack ≤ mostOperands) && decide (meth.sig.returnType = rt) && !meth.locks && decide (parseMethodDescriptor y.desc = some meth.sig)) = true) : (Jvm.Cond.code y bytes mx rt).before a s = true := by
  simp only [Bool.and_eq_true, beq_iff_eq, Bool.not_eq_true', decide_eq_true_eq] at h5
  obtain ⟨⟨⟨⟨⟨g1, g2⟩, g3⟩, g4⟩, g5⟩, g6⟩ := h5
  simp [Cond.before, Cond.holds, Cond.value, h1, h2, h3, h4, g1, g2, g3, g4, g5, g6]
def isCode : Jvm.Cond → Bool
  | .code _ _ _ _ => true
  | _ => false
theorem all_split {L : List Jvm.Cond} {P : Jvm.Cond → Bool} (h1 : L.all (fun c => isCode c || P c) = true) (h2 : ∀ c ∈ L.filter isCode, P c = true) : L.all P = true := by
  refine List.all_eq_true.mpr fun c hc => ?_
  have h := List.all_eq_true.mp h1 c hc
  rcases Bool.eq_false_or_eq_true (isCode c) with hi | hi
  · exact h2 c (List.mem_filter.mpr ⟨hc, hi⟩)
  · simpa [hi] using h
set_option maxRecDepth 65536 in
theorem w_c0 : (Jvm.Cond.code x code maxLocals ret).before args0 about1 = true := code_word (m := ⟨1, 1⟩) (meth := k1m1) (c := k1c1) (by decide +kernel) rfl rfl rfl (by decide +kernel)
set_option maxRecDepth 65536 in
theorem w_c1 : (Jvm.Cond.code ({ cls := "com/example/weigh/weigh/eval/AveragePrecision", name := "<init>", desc := "()V" } : Jvm.MethodName) prog_7_method_1_code (1 : Nat) (Option.none : Option Jvm.ClassFile.FieldType)).before args0 about1 = true := code_word (m := ⟨3, 0⟩) (meth := k3m0) (c := k3c0) (by decide +kernel) rfl rfl rfl (by decide +kernel)
set_option maxRecDepth 65536 in
theorem w_c2 : (Jvm.Cond.code ({ cls := "java/lang/Object", name := "<init>", desc := "()V" } : Jvm.MethodName) object_method_1_code (1 : Nat) (Option.none : Option Jvm.ClassFile.FieldType)).before args0 about1 = true := code_word (m := ⟨0, 0⟩) (meth := k0m0) (c := k0c0) (by decide +kernel) rfl rfl rfl (by decide +kernel)
set_option maxRecDepth 65536 in
theorem w_c3 : (Jvm.Cond.code ({ cls := "com/example/weigh/weigh/eval/AveragePrecision", name := "score", desc := "([I[I)D" } : Jvm.MethodName) prog_7_method_3_code (11 : Nat) (Option.some Jvm.ClassFile.FieldType.double)).before args0 about1 = true := code_word (m := ⟨3, 1⟩) (meth := k3m1) (c := k3c1) (by decide +kernel) rfl rfl rfl (by decide +kernel)
def codes1 : List Jvm.Cond := [Jvm.Cond.code x code maxLocals ret, Jvm.Cond.code ({ cls := "com/example/weigh/weigh/eval/AveragePrecision", name := "<init>", desc := "()V" } : Jvm.MethodName) prog_7_method_1_code (1 : Nat) (Option.none : Option Jvm.ClassFile.FieldType), Jvm.Cond.code ({ cls := "java/lang/Object", name := "<init>", desc := "()V" } : Jvm.MethodName) object_method_1_code (1 : Nat) (Option.none : Option Jvm.ClassFile.FieldType), Jvm.Cond.code ({ cls := "com/example/weigh/weigh/eval/AveragePrecision", name := "score", desc := "([I[I)D" } : Jvm.MethodName) prog_7_method_3_code (11 : Nat) (Option.some Jvm.ClassFile.FieldType.double)]
set_option maxRecDepth 65536 in
theorem codes_eq : words1.filter isCode = codes1 := rfl
theorem w_codes : ∀ c ∈ words1.filter isCode, c.before args0 about1 = true := by
  rw [codes_eq]
  intro c hc
  simp only [codes1, List.mem_cons, List.not_mem_nil, or_false] at hc
  rcases hc with rfl | rfl | rfl | rfl
  · exact w_c0
  · exact w_c1
  · exact w_c2
  · exact w_c3
set_option maxRecDepth 65536 in
theorem w_t1 : words1.all (fun c => isCode c || c.before args0 about1) = true := by decide +kernel
theorem w_tables : (allAtoms (Jvm.Cond.code x code maxLocals ret :: tables_1)).before args0 about1 = true := by
  rw [allAtoms_all]
  show words1.all (fun c => c.before args0 about1) = true
  refine all_split ?_ w_codes
  rw [w_t1]
set_option maxRecDepth 65536 in
theorem w_case : (Jvm.Cond.and given_1 narrow_1).before args0 about1 = true := by decide +kernel
theorem w_applies : (headSpec (Jvm.Cond.code x code maxLocals ret :: tables_1) room_1).applies x e0.platform about1 = true :=
  (Spec.applies_iff w_frames).mpr ⟨w_running, w_runnable, w_alone, w_named, w_hears, w_ripe, w_room, w_tables⟩
theorem atStart : AtStart classFile x code maxLocals ret World_1 tables_1 room_1 Calls_1 rest_1 Pre_1 launch0 p0 e0 about1 theMethod args0 below0 :=
  ⟨lists_1, trivial, launch0.admits_env _ _ _, launch0.least_env, fairChoices_fair.cas, fairChoices_fair.clock, w_frames, w_args, w_heap, w_applies, trivial, trivial, w_case⟩
end start1
theorem witness_1 : WitnessClaimed_1 := ⟨start1.p0, start1.e0, start1.about1, start1.theMethod, start1.args0, start1.below0, start1.atStart⟩
end Jvm.Pilot.@@N@@
