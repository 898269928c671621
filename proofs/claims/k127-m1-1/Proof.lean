import JvmDerived
import JvmDerived.Pilot.@@N@@Statement
import JvmDerived.Pilot.@@N@@Code
set_option linter.unusedVariables false
set_option linter.unusedSimpArgs false
namespace Jvm.Pilot.@@N@@
open Jvm Jvm.ClassFile Sem Op Lib Jvm.Free Jvm.Stand Jvm.LawKit Jvm.RoadKit Bundle Jvm.Pilot.@@N@@.Jvm.D
/-! OWN KIT 1: a goal 'the run goes on to a good end', and a block of plain instructions taken in one step (own_blk) -/
abbrev zI (x : Int32) : Slot := .val (.int x)
abbrev zL (x : Int64) : Slot := .val (.long x)
abbrev zD (x : UInt64) : Slot := .val (.double x)
abbrev zA (x : Addr) : Slot := .val (.ref x)
abbrev zN : Slot := .val .null
abbrev zU : Slot := .unset
abbrev zS : Slot := .second
def own_Go (tb : Tables) (e : Env) (below : List Frame) (Q : Outcome → State → Prop) (S : State) : Prop :=
  ∃ s₂ o, Steps tb e below S s₂ ∧ s₂.status = .running ∧ Ended s₂ below o ∧ Q o s₂
theorem own_go {tb : Tables} {e : Env} {below : List Frame} {Q : Outcome → State → Prop} {S S' : State} (h : ∀ t, Steps tb e below S' t → Steps tb e below S t) (k : own_Go tb e below Q S') : own_Go tb e below Q S := by
  obtain ⟨s2, o, a, b, c, d⟩ := k
  exact ⟨s2, o, h _ a, b, c, d⟩
/-- what a contract asks of the end -/
def own_Fin (s : State) (C S : Nat) (q : Option Value → Heap → List Loc → Prop) (o : Outcome) (U : State) : Prop :=
  ∃ v L, o = .returned v ∧ q v U.heap L ∧ FrameEnd s o U L C S
/-! local variables as lists -/
def own_nth : List Slot → Nat → Option Slot
  | [], _ => none
  | a :: _, 0 => some a
  | _ :: r, n + 1 => own_nth r n
def own_put : List Slot → Nat → Slot → List Slot
  | [], _, _ => []
  | _ :: r, 0, x => x :: r
  | a :: r, n + 1, x => a :: own_put r n x
theorem own_nth_eq : ∀ (ls : List Slot) (k : Nat), (Array.mk ls)[k]? = own_nth ls k := by
  intro ls k
  show (Array.mk ls)[k]? = _
  rw [List.getElem?_toArray]
  induction ls generalizing k with
  | nil => rfl
  | cons a r ih => cases k with
    | zero => rfl
    | succ n => exact ih n
theorem own_put_eq : ∀ (ls : List Slot) (k : Nat) (x : Slot), (Array.mk ls).setIfInBounds k x = Array.mk (own_put ls k x) := by
  intro ls k x
  have h : ls.set k x = own_put ls k x := by
    induction ls generalizing k with
    | nil => rfl
    | cons a r ih => cases k with
      | zero => rfl
      | succ n => show a :: r.set n x = a :: own_put r n x; rw [ih]
  rw [← h]
  exact List.setIfInBounds_toArray _ _ _
theorem own_nth_lt {ls : List Slot} {k : Nat} {x : Slot} (h : own_nth ls k = some x) : k < (Array.mk ls).size := by
  rw [← own_nth_eq] at h
  exact (Array.getElem?_eq_some_iff.mp h).1
theorem own_size (ls : List Slot) (k : Nat) (x : Slot) : (Array.mk (own_put ls k x)).size = (Array.mk ls).size := by
  rw [← own_put_eq]; exact Array.size_setIfInBounds
theorem own_setAt {ls : List Slot} {k : Nat} (x : Slot) (h : k < (Array.mk ls).size) : setAt (Array.mk ls) k x = some (Array.mk (own_put ls k x)) := by
  rw [← own_put_eq]
  exact if_pos h
def own_self (ls : List Slot) (k : Nat) (v : Value) : Option (List Slot) :=
  match v.category with
  | 2 => match own_nth ls (k + 1) with
    | none => none
    | some .unset => some (own_put (own_put ls k (.val v)) (k + 1) .second)
    | some .second => some (own_put (own_put ls k (.val v)) (k + 1) .second)
    | some (.val w) => match w.category with
      | 2 => match own_nth ls (k + 2) with
        | none => none
        | some _ => some (own_put (own_put (own_put ls k (.val v)) (k + 2) .unset) (k + 1) .second)
      | _ => some (own_put (own_put ls k (.val v)) (k + 1) .second)
  | _ => some (own_put ls k (.val v))
def own_sto (ls : List Slot) (k : Nat) (v : Value) : Option (List Slot) :=
  match own_nth ls k with
  | none => none
  | some .unset => own_self ls k v
  | some .second => own_self (own_put ls (k - 1) .unset) k v
  | some (.val w) => match w.category with
    | 2 => match own_nth ls (k + 1) with
      | none => none
      | some _ => own_self (own_put ls (k + 1) .unset) k v
    | _ => own_self ls k v
theorem own_storeSelf (l : Array Slot) (i : Nat) (v : Value) : storeSelf l i v = (setAt l i (.val v)).bind fun l => if v.category = 2 then l[i + 1]?.bind fun o => (match o with
    | .val old => if old.category = 2 then (setAt l (i + 2) .unset).bind fun l2 => setAt l2 (i + 1) .second else setAt l (i + 1) .second
    | _ => setAt l (i + 1) .second) else some l := rfl
theorem own_storeLocals (l : Array Slot) (i : Nat) (v : Value) : storeLocals l i v = l[i]?.bind fun o => (match o with
    | .second => (setAt l (i - 1) .unset).bind fun l2 => storeSelf l2 i v
    | .val old => if old.category = 2 then (setAt l (i + 1) .unset).bind fun l2 => storeSelf l2 i v else storeSelf l i v
    | .unset => storeSelf l i v) := rfl
theorem own_nth_ne {ls : List Slot} {k j : Nat} {x : Slot} (h : j ≠ k) : own_nth (own_put ls k x) j = own_nth ls j := by
  rw [← own_nth_eq, ← own_nth_eq, ← own_put_eq]
  exact Array.getElem?_setIfInBounds_ne (Ne.symm h)
theorem own_self_ok {ls ls' : List Slot} {k : Nat} {v : Value} (hk : k < (Array.mk ls).size) (h : own_self ls k v = some ls') : storeSelf (Array.mk ls) k v = some (Array.mk ls') := by
  rw [own_storeSelf, own_setAt _ hk]
  show (if v.category = 2 then _ else _) = _
  unfold own_self at h
  split at h
  · rename_i hc
    rw [if_pos hc, own_nth_eq, own_nth_ne (by omega)]
    split at h
    · cases h
    · rename_i hn
      cases h
      rw [hn]
      exact own_setAt _ (by rw [own_size]; exact own_nth_lt hn)
    · rename_i hn
      cases h
      rw [hn]
      exact own_setAt _ (by rw [own_size]; exact own_nth_lt hn)
    · rename_i w hn
      rw [hn]
      show (if w.category = 2 then _ else _) = _
      split at h
      · rename_i hw
        rw [if_pos hw]
        split at h
        · cases h
        · rename_i y hy
          cases h
          rw [own_setAt _ (by rw [own_size]; exact own_nth_lt hy)]
          exact own_setAt _ (by rw [own_size, own_size]; exact own_nth_lt hn)
      · rename_i hw
        cases h
        rw [if_neg (fun q => hw q)]
        exact own_setAt _ (by rw [own_size]; exact own_nth_lt hn)
  · rename_i hc
    cases h
    rw [if_neg (fun q => hc q)]
theorem own_sto_ok {ls ls' : List Slot} {k : Nat} {v : Value} (h : own_sto ls k v = some ls') : storeLocals (Array.mk ls) k v = some (Array.mk ls') := by
  rw [own_storeLocals, own_nth_eq]
  unfold own_sto at h
  split at h
  · cases h
  · rename_i hn
    rw [hn]
    exact own_self_ok (own_nth_lt hn) h
  · rename_i hn
    rw [hn]
    have := own_nth_lt hn
    show ((setAt _ (k - 1) .unset).bind _) = _
    rw [own_setAt _ (by omega)]
    exact own_self_ok (by rw [own_size]; exact this) h
  · rename_i w hn
    rw [hn]
    have := own_nth_lt hn
    show (if w.category = 2 then _ else _) = _
    split at h
    · rename_i hw
      rw [if_pos hw]
      split at h
      · cases h
      · rename_i y hy
        rw [own_setAt _ (own_nth_lt hy)]
        exact own_self_ok (by rw [own_size]; exact this) h
    · rename_i hw
      rw [if_neg (fun q => hw q)]
      exact own_self_ok this h
/-! the conditions of a branch, said of whole numbers -/
def own_c0 : ClassFile.Cond → Int32 → Prop
  | .eq, a => a.toInt = 0
  | .ne, a => a.toInt ≠ 0
  | .lt, a => a.toInt < 0
  | .ge, a => 0 ≤ a.toInt
  | .gt, a => 0 < a.toInt
  | .le, a => a.toInt ≤ 0
def own_ic : ClassFile.Cond → Int32 → Int32 → Prop
  | .eq, a, b => a.toInt = b.toInt
  | .ne, a, b => a.toInt ≠ b.toInt
  | .lt, a, b => a.toInt < b.toInt
  | .ge, a, b => b.toInt ≤ a.toInt
  | .gt, a, b => b.toInt < a.toInt
  | .le, a, b => a.toInt ≤ b.toInt
theorem own_ic_ok (cd : ClassFile.Cond) (a b : Int32) : if_icmp.holds cd a b = true ↔ own_ic cd a b := by
  cases cd
  · show ((a == b) = true) ↔ a.toInt = b.toInt
    rw [beq_iff_eq, Int32.toInt_inj]
  · show ((a != b) = true) ↔ a.toInt ≠ b.toInt
    rw [bne_iff_ne, ne_eq, ne_eq, Int32.toInt_inj]
  · show (decide (a < b) = true) ↔ a.toInt < b.toInt
    rw [decide_eq_true_eq, Int32.lt_iff_toInt_lt]
  · show (decide (a ≥ b) = true) ↔ b.toInt ≤ a.toInt
    rw [decide_eq_true_eq, ge_iff_le, Int32.le_iff_toInt_le]
  · show (decide (a > b) = true) ↔ b.toInt < a.toInt
    rw [decide_eq_true_eq, gt_iff_lt, Int32.lt_iff_toInt_lt]
  · show (decide (a ≤ b) = true) ↔ a.toInt ≤ b.toInt
    rw [decide_eq_true_eq, Int32.le_iff_toInt_le]
theorem own_c0_ok (cd : ClassFile.Cond) (a : Int32) : ifCond.holds cd a = true ↔ own_c0 cd a := by
  have h : ifCond.holds cd a = if_icmp.holds cd a 0 := by cases cd <;> rfl
  rw [h, own_ic_ok]
  cases cd <;> exact Iff.rfl
/-! what is read of an array -/
def own_at (Z : State) (h : Heap) (a : Addr) (ty : FieldType) (j : Int32) (v : Value) : Prop := ∃ cl, Arr Z h a cl ty ∧ ¬ (j < 0 ∨ cl.slots.size ≤ j.toNatClampNeg) ∧ cl.slots[j.toNatClampNeg]? = some v
def own_ln (Z : State) (h : Heap) (a : Addr) (N : Int32) : Prop := ∃ cl ty, Arr Z h a cl ty ∧ cl.slots.size.toInt32 = N
/-! one plain instruction: what it asks (obligations) and where it goes on. ds: the branches' decisions; vs: the values that are read of the heap -/
def own_len : Instr → Nat
  | .iload _ => 2 | .lload _ => 2 | .fload _ => 2 | .dload _ => 2 | .aload _ => 2
  | .istore _ => 2 | .lstore _ => 2 | .fstore _ => 2 | .dstore _ => 2 | .astore _ => 2
  | .bipush _ => 2 | .ldc _ => 2 | .newarray _ => 2
  | .sipush _ => 3 | .ldc_w _ => 3 | .ldc2_w _ => 3 | .iinc _ _ => 3 | .goto _ => 3 | .ifCond _ _ => 3 | .if_icmp _ _ => 3 | .if_acmp _ _ => 3 | .ifnull _ => 3 | .ifnonnull _ => 3
  | .getfield _ => 3 | .putfield _ => 3 | .getstatic _ => 3 | .putstatic _ => 3 | .invokevirtual _ => 3 | .invokespecial _ => 3 | .invokestatic _ => 3 | .new _ => 3 | .anewarray _ => 3 | .checkcast _ => 3 | .instanceof _ => 3
  | .invokeinterface _ _ => 5 | .invokedynamic _ => 5
  | _ => 1
def own_tgt (pc : Nat) : Int → Option Nat
  | .ofNat n => some (pc + n)
  | .negSucc n => bif Nat.ble (n + 1) pc then some (pc - (n + 1)) else none
theorem own_tgt_ok {pc t : Nat} {o : Int} (h : own_tgt pc o = some t) : 0 ≤ (pc : Int) + o ∧ ((pc : Int) + o).toNat = t := by
  cases o with
  | ofNat n =>
    have h1 : pc + n = t := Option.some.inj h
    rw [Int.ofNat_eq_natCast]
    omega
  | negSucc n =>
    have h1 : (bif Nat.ble (n + 1) pc then some (pc - (n + 1)) else none) = some t := h
    cases hb : Nat.ble (n + 1) pc with
    | false => rw [hb] at h1; cases h1
    | true =>
      rw [hb] at h1
      have h2 : pc - (n + 1) = t := Option.some.inj h1
      have h3 := Nat.le_of_ble_eq_true hb
      rw [Int.negSucc_eq]
      omega
def own_key : List (Nat × Value) → Nat → Option Value
  | [], _ => none
  | (q, v) :: r, k => bif Nat.beq q k then some v else own_key r k
def own_fld : List (Nat × String × String × String) → Nat → Option (String × String × String)
  | [], _ => none
  | (q, v) :: r, k => bif Nat.beq q k then some v else own_fld r k
def own_ldI (ls : List Slot) (j : Nat) (k : Value → Prop) : Prop := match own_nth ls j with | some (.val (.int v)) => k (.int v) | _ => False
def own_ldL (ls : List Slot) (j : Nat) (k : Value → Prop) : Prop := match own_nth ls j with | some (.val (.long v)) => k (.long v) | _ => False
def own_ldD (ls : List Slot) (j : Nat) (k : Value → Prop) : Prop := match own_nth ls j with | some (.val (.double v)) => k (.double v) | _ => False
def own_ldA (ls : List Slot) (j : Nat) (k : Value → Prop) : Prop := match own_nth ls j with | some (.val (.ref a)) => k (.ref a) | some (.val .null) => k .null | _ => False
def own_stI (ls : List Slot) (st : List Value) (j : Nat) (k : List Slot → List Value → Prop) : Prop := match st with | .int x :: r => (match own_sto ls j (.int x) with | some l => k l r | none => False) | _ => False
def own_stL (ls : List Slot) (st : List Value) (j : Nat) (k : List Slot → List Value → Prop) : Prop := match st with | .long x :: r => (match own_sto ls j (.long x) with | some l => k l r | none => False) | _ => False
def own_stD (ls : List Slot) (st : List Value) (j : Nat) (k : List Slot → List Value → Prop) : Prop := match st with | .double x :: r => (match own_sto ls j (.double x) with | some l => k l r | none => False) | _ => False
def own_stA (ls : List Slot) (st : List Value) (j : Nat) (k : List Slot → List Value → Prop) : Prop := match st with | .ref x :: r => (match own_sto ls j (.ref x) with | some l => k l r | none => False) | .null :: r => (match own_sto ls j .null with | some l => k l r | none => False) | _ => False
def own_i1 (st : List Value) (f : Int32 → Value) (k : List Value → Prop) : Prop := match st with | .int x :: r => k (f x :: r) | _ => False
def own_l1 (st : List Value) (f : Int64 → Value) (k : List Value → Prop) : Prop := match st with | .long x :: r => k (f x :: r) | _ => False
def own_i2 (st : List Value) (g : Int32 → Int32 → Prop) (f : Int32 → Int32 → Value) (k : List Value → Prop) : Prop := match st with | .int y :: .int x :: r => g x y ∧ k (f x y :: r) | _ => False
def own_p2 (st : List Value) (f : Int32 → Int32 → Value) (k : List Value → Prop) : Prop := match st with | .int y :: .int x :: r => k (f x y :: r) | _ => False
def own_q2 (st : List Value) (f : Int64 → Int64 → Value) (k : List Value → Prop) : Prop := match st with | .long y :: .long x :: r => k (f x y :: r) | _ => False
def own_l2 (st : List Value) (g : Int64 → Int64 → Prop) (f : Int64 → Int64 → Value) (k : List Value → Prop) : Prop := match st with | .long y :: .long x :: r => g x y ∧ k (f x y :: r) | _ => False
def own_li (st : List Value) (f : Int64 → Int32 → Value) (k : List Value → Prop) : Prop := match st with | .int y :: .long x :: r => k (f x y :: r) | _ => False
def own_d2 (st : List Value) (f : UInt64 → UInt64 → UInt64) (k : List Value → Prop) : Prop := match st with | .double y :: .double x :: r => Jvm.Free.Fl.NoNaN64 (f x y) ∧ k (.double (f x y) :: r) | _ => False
def own_ca (st : List Value) (k : List Value → Prop) : Prop := match st with | x :: r => (match x.category with | 1 => k (x :: r) | _ => False) | _ => False
def own_al (Z : State) (h : Heap) (ty : FieldType) (st : List Value) (vs : List Value) (k : List Value → List Value → Prop) : Prop :=
  match st with | .int j :: .ref a :: r => (match vs with | v :: vs' => own_at Z h a ty j v ∧ k vs' (v :: r) | [] => False) | _ => False
def own_br (ds : List Bool) (C : Prop) (kt kn : List Bool → Prop) : Prop :=
  match ds with | true :: d => C ∧ kt d | false :: d => (¬ C) ∧ kn d | [] => False
def own_jp (pc : Nat) (o : Int) (k : Nat → Prop) : Prop := match own_tgt pc o with | some t => k t | none => False
def own_st (Kt : List (Nat × Value)) (Ft : List (Nat × String × String × String)) (Z : State) (h : Heap) (i : Instr) (pc : Nat) (ds : List Bool) (vs : List Value) (ls : List Slot) (st : List Value)
    (kf : List Bool → List Value → List Slot → List Value → Prop) (kj : Nat → List Bool → List Value → List Slot → List Value → Prop) : Prop :=
  match i with
  | .iload j => own_ldI ls j fun v => kf ds vs ls (v :: st)
  | .iload_n j => own_ldI ls j.val fun v => kf ds vs ls (v :: st)
  | .lload j => own_ldL ls j fun v => kf ds vs ls (v :: st)
  | .lload_n j => own_ldL ls j.val fun v => kf ds vs ls (v :: st)
  | .dload j => own_ldD ls j fun v => kf ds vs ls (v :: st)
  | .dload_n j => own_ldD ls j.val fun v => kf ds vs ls (v :: st)
  | .aload j => own_ldA ls j fun v => kf ds vs ls (v :: st)
  | .aload_n j => own_ldA ls j.val fun v => kf ds vs ls (v :: st)
  | .istore j => own_stI ls st j fun l r => kf ds vs l r
  | .istore_n j => own_stI ls st j.val fun l r => kf ds vs l r
  | .lstore j => own_stL ls st j fun l r => kf ds vs l r
  | .lstore_n j => own_stL ls st j.val fun l r => kf ds vs l r
  | .dstore j => own_stD ls st j fun l r => kf ds vs l r
  | .dstore_n j => own_stD ls st j.val fun l r => kf ds vs l r
  | .astore j => own_stA ls st j fun l r => kf ds vs l r
  | .astore_n j => own_stA ls st j.val fun l r => kf ds vs l r
  | .iconst n => kf ds vs ls (.int (Int32.ofInt n) :: st)
  | .bipush n => (match vs with | .int v :: vs' => (Int8.ofInt n).toInt32 = v ∧ kf ds vs' ls (.int v :: st) | _ => False)
  | .sipush n => (match vs with | .int v :: vs' => (Int16.ofInt n).toInt32 = v ∧ kf ds vs' ls (.int v :: st) | _ => False)
  | .lconst n => kf ds vs ls (.long (Int64.ofNat n) :: st)
  | .dconst n => kf ds vs ls (.double (match n.val with | 0 => 0 | _ => 4607182418800017408) :: st)
  | .aconst_null => kf ds vs ls (.null :: st)
  | .ldc n => (match own_key Kt n with | some (.int v) => kf ds vs ls (.int v :: st) | _ => False)
  | .ldc_w n => (match own_key Kt n with | some (.int v) => kf ds vs ls (.int v :: st) | _ => False)
  | .ldc2_w n => (match own_key Kt n with | some (.long v) => kf ds vs ls (.long v :: st) | some (.double v) => kf ds vs ls (.double v :: st) | _ => False)
  | .iadd => own_p2 st (fun x y => .int (x + y)) fun r => kf ds vs ls r
  | .isub => own_p2 st (fun x y => .int (x - y)) fun r => kf ds vs ls r
  | .imul => own_p2 st (fun x y => .int (x * y)) fun r => kf ds vs ls r
  | .idiv => own_i2 st (fun _ y => y ≠ 0) (fun x y => .int (x / y)) fun r => kf ds vs ls r
  | .irem => own_i2 st (fun _ y => y ≠ 0) (fun x y => .int (x % y)) fun r => kf ds vs ls r
  | .iand => own_p2 st (fun x y => .int (x &&& y)) fun r => kf ds vs ls r
  | .ior => own_p2 st (fun x y => .int (x ||| y)) fun r => kf ds vs ls r
  | .ixor => own_p2 st (fun x y => .int (x ^^^ y)) fun r => kf ds vs ls r
  | .ishl => own_p2 st (fun x y => .int (x <<< (y &&& 31))) fun r => kf ds vs ls r
  | .ishr => own_p2 st (fun x y => .int (x >>> (y &&& 31))) fun r => kf ds vs ls r
  | .iushr => own_p2 st (fun x y => .int (Jvm.Free.XT.ushr x y)) fun r => kf ds vs ls r
  | .ineg => own_i1 st (fun x => .int (-x)) fun r => kf ds vs ls r
  | .i2l => own_i1 st (fun x => .long x.toInt64) fun r => kf ds vs ls r
  | .i2b => own_i1 st (fun x => .int x.toInt8.toInt32) fun r => kf ds vs ls r
  | .i2s => own_i1 st (fun x => .int x.toInt16.toInt32) fun r => kf ds vs ls r
  | .i2c => own_i1 st (fun x => .int x.toUInt32.toUInt16.toUInt32.toInt32) fun r => kf ds vs ls r
  | .i2d => own_i1 st (fun x => .double (FP.i2d x)) fun r => kf ds vs ls r
  | .l2i => own_l1 st (fun x => .int x.toInt32) fun r => kf ds vs ls r
  | .l2d => own_l1 st (fun x => .double (FP.l2d x)) fun r => kf ds vs ls r
  | .ladd => own_q2 st (fun x y => .long (x + y)) fun r => kf ds vs ls r
  | .lsub => own_q2 st (fun x y => .long (x - y)) fun r => kf ds vs ls r
  | .lmul => own_q2 st (fun x y => .long (x * y)) fun r => kf ds vs ls r
  | .ldiv => own_l2 st (fun _ y => y ≠ 0) (fun x y => .long (x / y)) fun r => kf ds vs ls r
  | .land => own_q2 st (fun x y => .long (x &&& y)) fun r => kf ds vs ls r
  | .lneg => own_l1 st (fun x => .long (-x)) fun r => kf ds vs ls r
  | .lshr => own_li st (fun x y => .long (x >>> (y.toInt64 &&& 63))) fun r => kf ds vs ls r
  | .lushr => own_li st (fun x y => .long (Jvm.Free.XT.ushrL x y)) fun r => kf ds vs ls r
  | .lcmp => own_q2 st (fun x y => .int (Jvm.Free.XT.cmpL x y)) fun r => kf ds vs ls r
  | .dadd => own_d2 st FP.dadd fun r => kf ds vs ls r
  | .dsub => own_d2 st FP.dsub fun r => kf ds vs ls r
  | .dmul => own_d2 st FP.dmul fun r => kf ds vs ls r
  | .ddiv => own_d2 st FP.ddiv fun r => kf ds vs ls r
  | .dneg => (match st with | .double x :: r => kf ds vs ls (.double (FP.dneg x) :: r) | _ => False)
  | .dcmp o => (match st with | .double y :: .double x :: r => kf ds vs ls (.int (cmpValue (FP.dcmp x y) o) :: r) | _ => False)
  | .iinc j n => (match own_nth ls j with | some (.val (.int x)) => (match own_sto ls j (.int (x + Int32.ofInt n)) with | some l => kf ds vs l st | none => False) | _ => False)
  | .dup => own_ca st fun st => (match st with | x :: r => kf ds vs ls (x :: x :: r) | _ => False)
  | .pop => own_ca st fun st => (match st with | _ :: r => kf ds vs ls r | _ => False)
  | .dup2 => own_ca st fun st => (match st with | x :: r => own_ca r fun r => (match r with | y :: q => kf ds vs ls (x :: y :: x :: y :: q) | _ => False) | _ => False)
  | .dup_x1 => own_ca st fun st => (match st with | x :: r => own_ca r fun r => (match r with | y :: q => kf ds vs ls (x :: y :: x :: q) | _ => False) | _ => False)
  | .goto o => own_jp pc o fun t => kj t ds vs ls st
  | .ifCond cd o => (match st with | .int x :: r => own_br ds (own_c0 cd x) (fun d => own_jp pc o fun t => kj t d vs ls r) (fun d => kf d vs ls r) | _ => False)
  | .if_icmp cd o => (match st with | .int y :: .int x :: r => own_br ds (own_ic cd x y) (fun d => own_jp pc o fun t => kj t d vs ls r) (fun d => kf d vs ls r) | _ => False)
  | .ifnull o => (match st with | .null :: r => own_jp pc o fun t => kj t ds vs ls r | .ref _ :: r => kf ds vs ls r | _ => False)
  | .ifnonnull o => (match st with | .ref _ :: r => own_jp pc o fun t => kj t ds vs ls r | .null :: r => kf ds vs ls r | _ => False)
  | .arraylength => (match st with | .ref a :: r => (match vs with | .int N :: vs' => own_ln Z h a N ∧ kf ds vs' ls (.int N :: r) | _ => False) | _ => False)
  | .iaload => own_al Z h .int st vs fun vs' r => kf ds vs' ls r
  | .daload => own_al Z h .double st vs fun vs' r => kf ds vs' ls r
  | .laload => own_al Z h .long st vs fun vs' r => kf ds vs' ls r
  | .getfield n => (match st with | .ref a :: r => (match vs with | v :: vs' => (match own_fld Ft n with | some (C, f, d) => Fld Z h a C f d v ∧ kf ds vs' ls (v :: r) | none => False) | [] => False) | _ => False)
  | _ => False
theorem own_ldI_e {ls : List Slot} {j : Nat} {k : Value → Prop} (H : own_ldI ls j k) : ∃ v, own_nth ls j = some (.val (.int v)) ∧ k (.int v) := by
  unfold own_ldI at H
  split at H
  · exact ⟨_, by assumption, H⟩
  · exact H.elim
theorem own_ldL_e {ls : List Slot} {j : Nat} {k : Value → Prop} (H : own_ldL ls j k) : ∃ v, own_nth ls j = some (.val (.long v)) ∧ k (.long v) := by
  unfold own_ldL at H
  split at H
  · exact ⟨_, by assumption, H⟩
  · exact H.elim
theorem own_ldD_e {ls : List Slot} {j : Nat} {k : Value → Prop} (H : own_ldD ls j k) : ∃ v, own_nth ls j = some (.val (.double v)) ∧ k (.double v) := by
  unfold own_ldD at H
  split at H
  · exact ⟨_, by assumption, H⟩
  · exact H.elim
theorem own_ldA_e {ls : List Slot} {j : Nat} {k : Value → Prop} (H : own_ldA ls j k) : ∃ v, own_nth ls j = some (.val v) ∧ v.isRef = true ∧ k v := by
  unfold own_ldA at H
  split at H
  · exact ⟨_, by assumption, rfl, H⟩
  · exact ⟨_, by assumption, rfl, H⟩
  · exact H.elim
theorem own_stI_e {ls : List Slot} {st : List Value} {j : Nat} {k : List Slot → List Value → Prop} (H : own_stI ls st j k) : ∃ x r l, st = .int x :: r ∧ storeLocals (Array.mk ls) j (.int x) = some (Array.mk l) ∧ k l r := by
  unfold own_stI at H
  split at H
  · split at H
    · exact ⟨_, _, _, rfl, own_sto_ok (by assumption), H⟩
    · exact H.elim
  · exact H.elim
theorem own_stL_e {ls : List Slot} {st : List Value} {j : Nat} {k : List Slot → List Value → Prop} (H : own_stL ls st j k) : ∃ x r l, st = .long x :: r ∧ storeLocals (Array.mk ls) j (.long x) = some (Array.mk l) ∧ k l r := by
  unfold own_stL at H
  split at H
  · split at H
    · exact ⟨_, _, _, rfl, own_sto_ok (by assumption), H⟩
    · exact H.elim
  · exact H.elim
theorem own_stD_e {ls : List Slot} {st : List Value} {j : Nat} {k : List Slot → List Value → Prop} (H : own_stD ls st j k) : ∃ x r l, st = .double x :: r ∧ storeLocals (Array.mk ls) j (.double x) = some (Array.mk l) ∧ k l r := by
  unfold own_stD at H
  split at H
  · split at H
    · exact ⟨_, _, _, rfl, own_sto_ok (by assumption), H⟩
    · exact H.elim
  · exact H.elim
theorem own_stA_e {ls : List Slot} {st : List Value} {j : Nat} {k : List Slot → List Value → Prop} (H : own_stA ls st j k) : ∃ x r l, st = x :: r ∧ x.isRef = true ∧ storeLocals (Array.mk ls) j x = some (Array.mk l) ∧ k l r := by
  unfold own_stA at H
  split at H
  · split at H
    · exact ⟨_, _, _, rfl, rfl, own_sto_ok (by assumption), H⟩
    · exact H.elim
  · split at H
    · exact ⟨_, _, _, rfl, rfl, own_sto_ok (by assumption), H⟩
    · exact H.elim
  · exact H.elim
theorem own_i1_e {st : List Value} {f : Int32 → Value} {k : List Value → Prop} (H : own_i1 st f k) : ∃ x r, st = .int x :: r ∧ k (f x :: r) := by
  unfold own_i1 at H
  split at H
  · exact ⟨_, _, rfl, H⟩
  · exact H.elim
theorem own_l1_e {st : List Value} {f : Int64 → Value} {k : List Value → Prop} (H : own_l1 st f k) : ∃ x r, st = .long x :: r ∧ k (f x :: r) := by
  unfold own_l1 at H
  split at H
  · exact ⟨_, _, rfl, H⟩
  · exact H.elim
theorem own_i2_e {st : List Value} {g : Int32 → Int32 → Prop} {f : Int32 → Int32 → Value} {k : List Value → Prop} (H : own_i2 st g f k) : ∃ x y r, st = .int y :: .int x :: r ∧ g x y ∧ k (f x y :: r) := by
  unfold own_i2 at H
  split at H
  · exact ⟨_, _, _, rfl, H⟩
  · exact H.elim
theorem own_p2_e {st : List Value} {f : Int32 → Int32 → Value} {k : List Value → Prop} (H : own_p2 st f k) : ∃ x y r, st = .int y :: .int x :: r ∧ k (f x y :: r) := by
  unfold own_p2 at H
  split at H
  · exact ⟨_, _, _, rfl, H⟩
  · exact H.elim
theorem own_l2_e {st : List Value} {g : Int64 → Int64 → Prop} {f : Int64 → Int64 → Value} {k : List Value → Prop} (H : own_l2 st g f k) : ∃ x y r, st = .long y :: .long x :: r ∧ g x y ∧ k (f x y :: r) := by
  unfold own_l2 at H
  split at H
  · exact ⟨_, _, _, rfl, H⟩
  · exact H.elim
theorem own_q2_e {st : List Value} {f : Int64 → Int64 → Value} {k : List Value → Prop} (H : own_q2 st f k) : ∃ x y r, st = .long y :: .long x :: r ∧ k (f x y :: r) := by
  unfold own_q2 at H
  split at H
  · exact ⟨_, _, _, rfl, H⟩
  · exact H.elim
theorem own_li_e {st : List Value} {f : Int64 → Int32 → Value} {k : List Value → Prop} (H : own_li st f k) : ∃ x y r, st = .int y :: .long x :: r ∧ k (f x y :: r) := by
  unfold own_li at H
  split at H
  · exact ⟨_, _, _, rfl, H⟩
  · exact H.elim
theorem own_d2_e {st : List Value} {f : UInt64 → UInt64 → UInt64} {k : List Value → Prop} (H : own_d2 st f k) : ∃ x y r, st = .double y :: .double x :: r ∧ Jvm.Free.Fl.NoNaN64 (f x y) ∧ k (.double (f x y) :: r) := by
  unfold own_d2 at H
  split at H
  · exact ⟨_, _, _, rfl, H⟩
  · exact H.elim
theorem own_ca_e {st : List Value} {k : List Value → Prop} (H : own_ca st k) : ∃ x r, st = x :: r ∧ x.category = 1 ∧ k (x :: r) := by
  unfold own_ca at H
  split at H
  · split at H
    · exact ⟨_, _, rfl, by assumption, H⟩
    · exact H.elim
  · exact H.elim
theorem own_al_e {Z : State} {h : Heap} {ty : FieldType} {st vs : List Value} {k : List Value → List Value → Prop} (H : own_al Z h ty st vs k) : ∃ j a r v vs', st = .int j :: .ref a :: r ∧ vs = v :: vs' ∧ own_at Z h a ty j v ∧ k vs' (v :: r) := by
  unfold own_al at H
  split at H
  · split at H
    · exact ⟨_, _, _, _, _, rfl, rfl, H⟩
    · exact H.elim
  · exact H.elim
theorem own_br_e {ds : List Bool} {C : Prop} {kt kn : List Bool → Prop} (H : own_br ds C kt kn) : (C ∧ ∃ d, kt d) ∨ ((¬ C) ∧ ∃ d, kn d) := by
  unfold own_br at H
  split at H
  · exact Or.inl ⟨H.1, _, H.2⟩
  · exact Or.inr ⟨H.1, _, H.2⟩
  · exact H.elim
theorem own_jp_e {pc : Nat} {o : Int} {k : Nat → Prop} (H : own_jp pc o k) : ∃ t, 0 ≤ (pc : Int) + o ∧ ((pc : Int) + o).toNat = t ∧ k t := by
  unfold own_jp at H
  split at H
  · rename_i t ht
    exact ⟨t, (own_tgt_ok ht).1, (own_tgt_ok ht).2, H⟩
  · exact H.elim
def own_kw (own : String) (a0 : Array Value) (Z : State) : Nat × Value → Prop
  | (n, .int v) => (Jvm.Cond.constant own n v).before a0 Z = true
  | (n, .long v) => (Jvm.Cond.constantLong own n v).before a0 Z = true
  | (n, .double v) => (Jvm.Cond.constantDouble own n v).before a0 Z = true
  | _ => False
def own_ks (own : String) (a0 : Array Value) (Z : State) : List (Nat × Value) → Prop
  | [] => True
  | x :: r => own_kw own a0 Z x ∧ own_ks own a0 Z r
def own_fs (own : String) (a0 : Array Value) (Z : State) : List (Nat × String × String × String) → Prop
  | [] => True
  | (n, C, f, d) :: r => (Jvm.Cond.fieldLink own n C f d).before a0 Z = true ∧ own_fs own a0 Z r
theorem own_key_e {own : String} {a0 : Array Value} {Z : State} {n : Nat} {v : Value} : ∀ {Kt : List (Nat × Value)}, own_ks own a0 Z Kt → own_key Kt n = some v → own_kw own a0 Z (n, v)
  | [], _, h => by cases h
  | (q, w) :: r, hk, h => by
    have h' : (bif Nat.beq q n then some w else own_key r n) = some v := h
    cases hb : Nat.beq q n with
    | true =>
      rw [hb] at h'
      have e1 : w = v := Option.some.inj h'
      have e2 := Nat.eq_of_beq_eq_true hb
      subst e1 e2
      exact hk.1
    | false =>
      rw [hb] at h'
      exact own_key_e hk.2 h'
theorem own_fld_e {own : String} {a0 : Array Value} {Z : State} {n : Nat} {C f d : String} : ∀ {Ft : List (Nat × String × String × String)}, own_fs own a0 Z Ft → own_fld Ft n = some (C, f, d) → (Jvm.Cond.fieldLink own n C f d).before a0 Z = true
  | [], _, h => by cases h
  | (q, C', f', d') :: r, hk, h => by
    have h' : (bif Nat.beq q n then some (C', f', d') else own_fld r n) = some (C, f, d) := h
    cases hb : Nat.beq q n with
    | true =>
      rw [hb] at h'
      have e1 : (C', f', d') = (C, f, d) := Option.some.inj h'
      have e2 := Nat.eq_of_beq_eq_true hb
      cases e1
      subst e2
      exact hk.1
    | false =>
      rw [hb] at h'
      exact own_fld_e hk.2 h'
section OwnRun
variable {p : Program} {l : Launch} {e : Env} {R : Room} {s : State} {m : MethodId} {args : Array Value} {below : List Frame} {meth : Method} {c : Code} {T : State} {locs : List Loc} {cells slots : Nat} {Z : State} {a0 : Array Value} {h : Heap} {Q : Outcome → State → Prop} {own : String}
/-- the run goes on well from pc with these locals and this stack, at whatever state of the same heap -/
def own_Aft (X : Stand p l e R s m args below meth c T locs cells slots) (h : Heap) (Q : Outcome → State → Prop) (pc : Nat) (ls : List Slot) (st : List Value) : Prop :=
  ∀ T', Stand p l e R s m args below meth c T' locs cells slots → T'.heap = h → own_Go p.tables e below Q (T'.setTop (mkF m pc (Array.mk ls) st))
set_option maxHeartbeats 4000000 in
theorem own_st_ok (X : Stand p l e R s m args below meth c T locs cells slots) (hx : p.tables.exec = Jvm.exec) (hZ : Z.Warmed39 s.vm) (hown : s.vm.findClass own = some m.cls) (eT : T.heap = h) {Kt : List (Nat × Value)} {Ft : List (Nat × String × String × String)} (hK : own_ks own a0 Z Kt) (hF : own_fs own a0 Z Ft)
    {i : Instr} {pc : Nat} (hd : decode c.code pc = .ok (i, own_len i)) {ds : List Bool} {vs : List Value} {ls : List Slot} {st : List Value} {kf : List Bool → List Value → List Slot → List Value → Prop} {kj : Nat → List Bool → List Value → List Slot → List Value → Prop}
    (H : own_st Kt Ft Z h i pc ds vs ls st kf kj) (Hf : ∀ ds vs ls st, kf ds vs ls st → own_Aft X h Q (pc + own_len i) ls st) (Hj : ∀ t ds vs ls st, kj t ds vs ls st → own_Aft X h Q t ls st) :
    own_Go p.tables e below Q (T.setTop (mkF m pc (Array.mk ls) st)) := by
  cases i with
  | iload j =>
    have H : (own_ldI ls j fun v => kf ds vs ls (v :: st)) := H
    obtain ⟨v, hn, hk⟩ := own_ldI_e H
    exact own_go (fun t k => XS.iload X.here hx rfl hd ((own_nth_eq _ _).trans hn) k) (Hf _ _ _ _ hk T X eT)
  | iload_n j =>
    have H : (own_ldI ls j.val fun v => kf ds vs ls (v :: st)) := H
    obtain ⟨v, hn, hk⟩ := own_ldI_e H
    exact own_go (fun t k => XS.iloadN X.here hx rfl hd ((own_nth_eq _ _).trans hn) k) (Hf _ _ _ _ hk T X eT)
  | lload j =>
    have H : (own_ldL ls j fun v => kf ds vs ls (v :: st)) := H
    obtain ⟨v, hn, hk⟩ := own_ldL_e H
    exact own_go (fun t k => XT.lload X.here hx rfl hd ((own_nth_eq _ _).trans hn) k) (Hf _ _ _ _ hk T X eT)
  | lload_n j =>
    have H : (own_ldL ls j.val fun v => kf ds vs ls (v :: st)) := H
    obtain ⟨v, hn, hk⟩ := own_ldL_e H
    exact own_go (fun t k => XT.lloadN X.here hx rfl hd ((own_nth_eq _ _).trans hn) k) (Hf _ _ _ _ hk T X eT)
  | dload j =>
    have H : (own_ldD ls j fun v => kf ds vs ls (v :: st)) := H
    obtain ⟨v, hn, hk⟩ := own_ldD_e H
    exact own_go (fun t k => XS.dload X.here hx rfl hd ((own_nth_eq _ _).trans hn) k) (Hf _ _ _ _ hk T X eT)
  | dload_n j =>
    have H : (own_ldD ls j.val fun v => kf ds vs ls (v :: st)) := H
    obtain ⟨v, hn, hk⟩ := own_ldD_e H
    exact own_go (fun t k => XS.dloadN X.here hx rfl hd ((own_nth_eq _ _).trans hn) k) (Hf _ _ _ _ hk T X eT)
  | aload j =>
    have H : (own_ldA ls j fun v => kf ds vs ls (v :: st)) := H
    obtain ⟨v, hn, hv, hk⟩ := own_ldA_e H
    exact own_go (fun t k => XS.aload X.here hx rfl hd ((own_nth_eq _ _).trans hn) hv k) (Hf _ _ _ _ hk T X eT)
  | aload_n j =>
    have H : (own_ldA ls j.val fun v => kf ds vs ls (v :: st)) := H
    obtain ⟨v, hn, hv, hk⟩ := own_ldA_e H
    exact own_go (fun t k => XS.aloadN X.here hx rfl hd ((own_nth_eq _ _).trans hn) hv k) (Hf _ _ _ _ hk T X eT)
  | istore j =>
    have H : (own_stI ls st j fun l r => kf ds vs l r) := H
    obtain ⟨x, r, l', rfl, hl, hk⟩ := own_stI_e H
    exact own_go (fun t k => XS.istore X.here hx rfl hd rfl hl k) (Hf _ _ _ _ hk T X eT)
  | istore_n j =>
    have H : (own_stI ls st j.val fun l r => kf ds vs l r) := H
    obtain ⟨x, r, l', rfl, hl, hk⟩ := own_stI_e H
    exact own_go (fun t k => XS.istoreN X.here hx rfl hd rfl hl k) (Hf _ _ _ _ hk T X eT)
  | lstore j =>
    have H : (own_stL ls st j fun l r => kf ds vs l r) := H
    obtain ⟨x, r, l', rfl, hl, hk⟩ := own_stL_e H
    exact own_go (fun t k => XT.lstore X.here hx rfl hd rfl hl k) (Hf _ _ _ _ hk T X eT)
  | lstore_n j =>
    have H : (own_stL ls st j.val fun l r => kf ds vs l r) := H
    obtain ⟨x, r, l', rfl, hl, hk⟩ := own_stL_e H
    exact own_go (fun t k => XT.lstoreN X.here hx rfl hd rfl hl k) (Hf _ _ _ _ hk T X eT)
  | dstore j =>
    have H : (own_stD ls st j fun l r => kf ds vs l r) := H
    obtain ⟨x, r, l', rfl, hl, hk⟩ := own_stD_e H
    exact own_go (fun t k => XS.dstore X.here hx rfl hd rfl hl k) (Hf _ _ _ _ hk T X eT)
  | dstore_n j =>
    have H : (own_stD ls st j.val fun l r => kf ds vs l r) := H
    obtain ⟨x, r, l', rfl, hl, hk⟩ := own_stD_e H
    exact own_go (fun t k => XS.dstoreN X.here hx rfl hd rfl hl k) (Hf _ _ _ _ hk T X eT)
  | astore j =>
    have H : (own_stA ls st j fun l r => kf ds vs l r) := H
    obtain ⟨x, r, l', rfl, hv, hl, hk⟩ := own_stA_e H
    exact own_go (fun t k => XS.astore X.here hx rfl hd rfl hv hl k) (Hf _ _ _ _ hk T X eT)
  | astore_n j =>
    have H : (own_stA ls st j.val fun l r => kf ds vs l r) := H
    obtain ⟨x, r, l', rfl, hv, hl, hk⟩ := own_stA_e H
    exact own_go (fun t k => XS.astoreN X.here hx rfl hd rfl hv hl k) (Hf _ _ _ _ hk T X eT)
  | iconst n => exact own_go (fun t k => XS.iconst X.here hx rfl hd k) (Hf _ _ _ _ H T X eT)
  | bipush n =>
    have H' : (match (generalizing := false) vs with | .int v :: vs' => (Int8.ofInt n).toInt32 = v ∧ kf ds vs' ls (.int v :: st) | _ => False) := H
    split at H'
    · obtain ⟨hv, hk⟩ := H'
      subst hv
      exact own_go (fun t k => XS.bipush X.here hx rfl hd k) (Hf _ _ _ _ hk T X eT)
    · exact H'.elim
  | sipush n =>
    have H' : (match (generalizing := false) vs with | .int v :: vs' => (Int16.ofInt n).toInt32 = v ∧ kf ds vs' ls (.int v :: st) | _ => False) := H
    split at H'
    · obtain ⟨hv, hk⟩ := H'
      subst hv
      exact own_go (fun t k => XS.sipush X.here hx rfl hd k) (Hf _ _ _ _ hk T X eT)
    · exact H'.elim
  | lconst n => exact own_go (fun t k => XT.lconst X.here hx rfl hd k) (Hf _ _ _ _ H T X eT)
  | dconst n =>
    match n, hd, H, Hf with
    | ⟨0, _⟩, hd, H, Hf => exact own_go (fun t k => XS.dconst0 X.here hx rfl hd rfl k) (Hf _ _ _ _ H T X eT)
    | ⟨1, _⟩, hd, H, Hf => exact own_go (fun t k => XS.dconst1 X.here hx rfl hd rfl k) (Hf _ _ _ _ H T X eT)
  | aconst_null => exact own_go (fun t k => XS.aconstNull X.here hx rfl hd k) (Hf _ _ _ _ H T X eT)
  | ldc n =>
    have H' : (match (generalizing := false) own_key Kt n with | some (.int v) => kf ds vs ls (.int v :: st) | _ => False) := H
    split at H'
    · rename_i v hv
      exact own_go (X.ldcInt hx hown (mv hZ (own_key_e hK hv)) (g := mkF m pc (Array.mk ls) st) rfl hd) (Hf _ _ _ _ H' T X eT)
    · exact H'.elim
  | ldc_w n =>
    have H' : (match (generalizing := false) own_key Kt n with | some (.int v) => kf ds vs ls (.int v :: st) | _ => False) := H
    split at H'
    · rename_i v hv
      exact own_go (X.ldcWInt hx hown (mv hZ (own_key_e hK hv)) (g := mkF m pc (Array.mk ls) st) rfl hd) (Hf _ _ _ _ H' T X eT)
    · exact H'.elim
  | ldc2_w n =>
    have H' : (match (generalizing := false) own_key Kt n with | some (.long v) => kf ds vs ls (.long v :: st) | some (.double v) => kf ds vs ls (.double v :: st) | _ => False) := H
    split at H'
    · rename_i v hv
      exact own_go (X.ldc2Long hx hown (mv hZ (own_key_e hK hv)) (g := mkF m pc (Array.mk ls) st) rfl hd) (Hf _ _ _ _ H' T X eT)
    · rename_i v hv
      exact own_go (X.ldc2DoubleC hx hown (mv hZ (own_key_e hK hv)) (g := mkF m pc (Array.mk ls) st) rfl hd) (Hf _ _ _ _ H' T X eT)
    · exact H'.elim
  | iadd =>
    have H : (own_p2 st (fun x y => .int (x + y)) fun r => kf ds vs ls r) := H
    obtain ⟨x, y, r, rfl, hk⟩ := own_p2_e H
    exact own_go (fun t k => XS.iadd X.here hx rfl hd rfl k) (Hf _ _ _ _ hk T X eT)
  | isub =>
    have H : (own_p2 st (fun x y => .int (x - y)) fun r => kf ds vs ls r) := H
    obtain ⟨x, y, r, rfl, hk⟩ := own_p2_e H
    exact own_go (fun t k => XS.isub X.here hx rfl hd rfl k) (Hf _ _ _ _ hk T X eT)
  | imul =>
    have H : (own_p2 st (fun x y => .int (x * y)) fun r => kf ds vs ls r) := H
    obtain ⟨x, y, r, rfl, hk⟩ := own_p2_e H
    exact own_go (fun t k => XS.imul X.here hx rfl hd rfl k) (Hf _ _ _ _ hk T X eT)
  | idiv =>
    have H : (own_i2 st (fun _ y => y ≠ 0) (fun x y => .int (x / y)) fun r => kf ds vs ls r) := H
    obtain ⟨x, y, r, rfl, hg, hk⟩ := own_i2_e H
    exact own_go (fun t k => XS.idiv X.here hx rfl hd rfl hg k) (Hf _ _ _ _ hk T X eT)
  | irem =>
    have H : (own_i2 st (fun _ y => y ≠ 0) (fun x y => .int (x % y)) fun r => kf ds vs ls r) := H
    obtain ⟨x, y, r, rfl, hg, hk⟩ := own_i2_e H
    exact own_go (fun t k => iremM X hx (g := mkF m pc (Array.mk ls) _) rfl hd rfl hg k) (Hf _ _ _ _ hk T X eT)
  | iand =>
    have H : (own_p2 st (fun x y => .int (x &&& y)) fun r => kf ds vs ls r) := H
    obtain ⟨x, y, r, rfl, hk⟩ := own_p2_e H
    exact own_go (fun t k => XS.iand X.here hx rfl hd rfl k) (Hf _ _ _ _ hk T X eT)
  | ior =>
    have H : (own_p2 st (fun x y => .int (x ||| y)) fun r => kf ds vs ls r) := H
    obtain ⟨x, y, r, rfl, hk⟩ := own_p2_e H
    exact own_go (fun t k => XT.ior X.here hx rfl hd rfl k) (Hf _ _ _ _ hk T X eT)
  | ixor =>
    have H : (own_p2 st (fun x y => .int (x ^^^ y)) fun r => kf ds vs ls r) := H
    obtain ⟨x, y, r, rfl, hk⟩ := own_p2_e H
    exact own_go (fun t k => XT.ixor X.here hx rfl hd rfl k) (Hf _ _ _ _ hk T X eT)
  | ishl =>
    have H : (own_p2 st (fun x y => .int (x <<< (y &&& 31))) fun r => kf ds vs ls r) := H
    obtain ⟨x, y, r, rfl, hk⟩ := own_p2_e H
    exact own_go (fun t k => XT.ishl X.here hx rfl hd rfl k) (Hf _ _ _ _ hk T X eT)
  | ishr =>
    have H : (own_p2 st (fun x y => .int (x >>> (y &&& 31))) fun r => kf ds vs ls r) := H
    obtain ⟨x, y, r, rfl, hk⟩ := own_p2_e H
    exact own_go (fun t k => XT.ishr X.here hx rfl hd rfl k) (Hf _ _ _ _ hk T X eT)
  | iushr =>
    have H : (own_p2 st (fun x y => .int (Jvm.Free.XT.ushr x y)) fun r => kf ds vs ls r) := H
    obtain ⟨x, y, r, rfl, hk⟩ := own_p2_e H
    exact own_go (fun t k => XT.iushr X.here hx rfl hd rfl k) (Hf _ _ _ _ hk T X eT)
  | ineg =>
    have H : (own_i1 st (fun x => .int (-x)) fun r => kf ds vs ls r) := H
    obtain ⟨x, r, rfl, hk⟩ := own_i1_e H
    exact own_go (fun t k => XS.ineg X.here hx rfl hd rfl k) (Hf _ _ _ _ hk T X eT)
  | i2l =>
    have H : (own_i1 st (fun x => .long x.toInt64) fun r => kf ds vs ls r) := H
    obtain ⟨x, r, rfl, hk⟩ := own_i1_e H
    exact own_go (fun t k => XT.i2l X.here hx rfl hd rfl k) (Hf _ _ _ _ hk T X eT)
  | i2b =>
    have H : (own_i1 st (fun x => .int x.toInt8.toInt32) fun r => kf ds vs ls r) := H
    obtain ⟨x, r, rfl, hk⟩ := own_i1_e H
    exact own_go (fun t k => XT.i2b X.here hx rfl hd rfl k) (Hf _ _ _ _ hk T X eT)
  | i2s =>
    have H : (own_i1 st (fun x => .int x.toInt16.toInt32) fun r => kf ds vs ls r) := H
    obtain ⟨x, r, rfl, hk⟩ := own_i1_e H
    exact own_go (fun t k => XT.i2s X.here hx rfl hd rfl k) (Hf _ _ _ _ hk T X eT)
  | i2c =>
    have H : (own_i1 st (fun x => .int x.toUInt32.toUInt16.toUInt32.toInt32) fun r => kf ds vs ls r) := H
    obtain ⟨x, r, rfl, hk⟩ := own_i1_e H
    exact own_go (fun t k => XT.i2c X.here hx rfl hd rfl k) (Hf _ _ _ _ hk T X eT)
  | i2d =>
    have H : (own_i1 st (fun x => .double (FP.i2d x)) fun r => kf ds vs ls r) := H
    obtain ⟨x, r, rfl, hk⟩ := own_i1_e H
    exact own_go (fun t k => XS.i2dS X.here hx rfl hd rfl rfl k) (Hf _ _ _ _ hk T X eT)
  | l2i =>
    have H : (own_l1 st (fun x => .int x.toInt32) fun r => kf ds vs ls r) := H
    obtain ⟨x, r, rfl, hk⟩ := own_l1_e H
    exact own_go (fun t k => XT.l2i X.here hx rfl hd rfl k) (Hf _ _ _ _ hk T X eT)
  | l2d =>
    have H : (own_l1 st (fun x => .double (FP.l2d x)) fun r => kf ds vs ls r) := H
    obtain ⟨x, r, rfl, hk⟩ := own_l1_e H
    exact own_go (fun t k => XS.l2dS X.here hx rfl hd rfl rfl k) (Hf _ _ _ _ hk T X eT)
  | ladd =>
    have H : (own_q2 st (fun x y => .long (x + y)) fun r => kf ds vs ls r) := H
    obtain ⟨x, y, r, rfl, hk⟩ := own_q2_e H
    exact own_go (fun t k => XT.ladd X.here hx rfl hd rfl k) (Hf _ _ _ _ hk T X eT)
  | lsub =>
    have H : (own_q2 st (fun x y => .long (x - y)) fun r => kf ds vs ls r) := H
    obtain ⟨x, y, r, rfl, hk⟩ := own_q2_e H
    exact own_go (fun t k => XT.lsub X.here hx rfl hd rfl k) (Hf _ _ _ _ hk T X eT)
  | lmul =>
    have H : (own_q2 st (fun x y => .long (x * y)) fun r => kf ds vs ls r) := H
    obtain ⟨x, y, r, rfl, hk⟩ := own_q2_e H
    exact own_go (fun t k => XT.lmul X.here hx rfl hd rfl k) (Hf _ _ _ _ hk T X eT)
  | ldiv =>
    have H : (own_l2 st (fun _ y => y ≠ 0) (fun x y => .long (x / y)) fun r => kf ds vs ls r) := H
    obtain ⟨x, y, r, rfl, hg, hk⟩ := own_l2_e H
    exact own_go (fun t k => XT.ldiv X.here hx rfl hd rfl hg k) (Hf _ _ _ _ hk T X eT)
  | land =>
    have H : (own_q2 st (fun x y => .long (x &&& y)) fun r => kf ds vs ls r) := H
    obtain ⟨x, y, r, rfl, hk⟩ := own_q2_e H
    exact own_go (fun t k => XT.land X.here hx rfl hd rfl k) (Hf _ _ _ _ hk T X eT)
  | lneg =>
    have H : (own_l1 st (fun x => .long (-x)) fun r => kf ds vs ls r) := H
    obtain ⟨x, r, rfl, hk⟩ := own_l1_e H
    exact own_go (fun t k => XT.lneg X.here hx rfl hd rfl k) (Hf _ _ _ _ hk T X eT)
  | lshr =>
    have H : (own_li st (fun x y => .long (x >>> (y.toInt64 &&& 63))) fun r => kf ds vs ls r) := H
    obtain ⟨x, y, r, rfl, hk⟩ := own_li_e H
    exact own_go (fun t k => XT.lshr X.here hx rfl hd rfl k) (Hf _ _ _ _ hk T X eT)
  | lushr =>
    have H : (own_li st (fun x y => .long (Jvm.Free.XT.ushrL x y)) fun r => kf ds vs ls r) := H
    obtain ⟨x, y, r, rfl, hk⟩ := own_li_e H
    exact own_go (fun t k => XT.lushr X.here hx rfl hd rfl k) (Hf _ _ _ _ hk T X eT)
  | lcmp =>
    have H : (own_q2 st (fun x y => .int (Jvm.Free.XT.cmpL x y)) fun r => kf ds vs ls r) := H
    obtain ⟨x, y, r, rfl, hk⟩ := own_q2_e H
    exact own_go (fun t k => XT.lcmp X.here hx rfl hd rfl k) (Hf _ _ _ _ hk T X eT)
  | dadd =>
    have H : (own_d2 st FP.dadd fun r => kf ds vs ls r) := H
    obtain ⟨x, y, r, rfl, hg, hk⟩ := own_d2_e H
    exact own_go (fun t k => XS.daddS X.here hx rfl hd rfl hg rfl k) (Hf _ _ _ _ hk T X eT)
  | dsub =>
    have H : (own_d2 st FP.dsub fun r => kf ds vs ls r) := H
    obtain ⟨x, y, r, rfl, hg, hk⟩ := own_d2_e H
    exact own_go (fun t k => XS.dsubS X.here hx rfl hd rfl hg rfl k) (Hf _ _ _ _ hk T X eT)
  | dmul =>
    have H : (own_d2 st FP.dmul fun r => kf ds vs ls r) := H
    obtain ⟨x, y, r, rfl, hg, hk⟩ := own_d2_e H
    exact own_go (fun t k => XS.dmulS X.here hx rfl hd rfl hg rfl k) (Hf _ _ _ _ hk T X eT)
  | ddiv =>
    have H : (own_d2 st FP.ddiv fun r => kf ds vs ls r) := H
    obtain ⟨x, y, r, rfl, hg, hk⟩ := own_d2_e H
    exact own_go (fun t k => XS.ddivS X.here hx rfl hd rfl hg rfl k) (Hf _ _ _ _ hk T X eT)
  | dneg =>
    have H' : (match (generalizing := false) st with | .double x :: r => kf ds vs ls (.double (FP.dneg x) :: r) | _ => False) := H
    split at H'
    · exact own_go (fun t k => XS.dnegS X.here hx rfl hd rfl rfl k) (Hf _ _ _ _ H' T X eT)
    · exact H'.elim
  | dcmp o =>
    have H' : (match (generalizing := false) st with | .double y :: .double x :: r => kf ds vs ls (.int (cmpValue (FP.dcmp x y) o) :: r) | _ => False) := H
    split at H'
    · exact own_go (fun t k => XS.dcmpS X.here hx rfl hd rfl rfl k) (Hf _ _ _ _ H' T X eT)
    · exact H'.elim
  | iinc j n =>
    have H' : (match (generalizing := false) own_nth ls j with | some (.val (.int x)) => (match (generalizing := false) own_sto ls j (.int (x + Int32.ofInt n)) with | some l => kf ds vs l st | none => False) | _ => False) := H
    split at H'
    · rename_i x hn
      split at H'
      · rename_i l' hl
        exact own_go (fun t k => XS.iinc X.here hx rfl hd ((own_nth_eq _ _).trans hn) (own_sto_ok hl) k) (Hf _ _ _ _ H' T X eT)
      · exact H'.elim
    · exact H'.elim
  | dup =>
    have H : (own_ca st fun st => (match st with | x :: r => kf ds vs ls (x :: x :: r) | _ => False)) := H
    obtain ⟨x, r, rfl, hc, hk⟩ := own_ca_e H
    exact own_go (fun t k => XS.dup X.here hx rfl hd rfl hc k) (Hf _ _ _ _ hk T X eT)
  | pop =>
    have H : (own_ca st fun st => (match st with | _ :: r => kf ds vs ls r | _ => False)) := H
    obtain ⟨x, r, rfl, hc, hk⟩ := own_ca_e H
    exact own_go (fun t k => XT.pop X.here hx rfl hd rfl hc k) (Hf _ _ _ _ hk T X eT)
  | dup2 =>
    have H : (own_ca st fun st => (match st with | x :: r => own_ca r fun r => (match r with | y :: q => kf ds vs ls (x :: y :: x :: y :: q) | _ => False) | _ => False)) := H
    obtain ⟨x, r, rfl, hc, hk⟩ := own_ca_e H
    obtain ⟨y, q, rfl, hc', hk'⟩ := own_ca_e hk
    exact own_go (fun t k => XT.dup2 X.here hx rfl hd rfl hc hc' k) (Hf _ _ _ _ hk' T X eT)
  | dup_x1 =>
    have H : (own_ca st fun st => (match st with | x :: r => own_ca r fun r => (match r with | y :: q => kf ds vs ls (x :: y :: x :: q) | _ => False) | _ => False)) := H
    obtain ⟨x, r, rfl, hc, hk⟩ := own_ca_e H
    obtain ⟨y, q, rfl, hc', hk'⟩ := own_ca_e hk
    exact own_go (fun t k => XT.dupX1 X.here hx rfl hd rfl hc hc' k) (Hf _ _ _ _ hk' T X eT)
  | goto o =>
    have H : (own_jp pc o fun t => kj t ds vs ls st) := H
    obtain ⟨t', h1, h2, hk⟩ := own_jp_e H
    exact own_go (fun t k => XS.goto X.here hx rfl rfl hd h1 h2 k) (Hj _ _ _ _ _ hk T X eT)
  | ifCond cd o =>
    have H' : (match (generalizing := false) st with | .int x :: r => own_br ds (own_c0 cd x) (fun d => own_jp pc o fun t => kj t d vs ls r) (fun d => kf d vs ls r) | _ => False) := H
    split at H'
    · rename_i x r
      rcases own_br_e H' with ⟨hC, d, hk⟩ | ⟨hC, d, hk⟩
      · obtain ⟨t', h1, h2, hk⟩ := own_jp_e hk
        exact own_go (fun t k => XS.ifYes X.here hx rfl rfl hd rfl ((own_c0_ok _ _).mpr hC) h1 h2 k) (Hj _ _ _ _ _ hk T X eT)
      · have hc : ifCond.holds cd x = false := by
          cases hb : ifCond.holds cd x with
          | false => rfl
          | true => exact absurd ((own_c0_ok _ _).mp hb) hC
        exact own_go (fun t k => XS.ifNo X.here hx rfl hd rfl hc k) (Hf _ _ _ _ hk T X eT)
    · exact H'.elim
  | if_icmp cd o =>
    have H' : (match (generalizing := false) st with | .int y :: .int x :: r => own_br ds (own_ic cd x y) (fun d => own_jp pc o fun t => kj t d vs ls r) (fun d => kf d vs ls r) | _ => False) := H
    split at H'
    · rename_i y x r
      rcases own_br_e H' with ⟨hC, d, hk⟩ | ⟨hC, d, hk⟩
      · obtain ⟨t', h1, h2, hk⟩ := own_jp_e hk
        exact own_go (fun t k => XS.icmpYes X.here hx rfl rfl hd rfl ((own_ic_ok _ _ _).mpr hC) h1 h2 k) (Hj _ _ _ _ _ hk T X eT)
      · have hc : if_icmp.holds cd x y = false := by
          cases hb : if_icmp.holds cd x y with
          | false => rfl
          | true => exact absurd ((own_ic_ok _ _ _).mp hb) hC
        exact own_go (fun t k => XS.icmpNo X.here hx rfl hd rfl hc k) (Hf _ _ _ _ hk T X eT)
    · exact H'.elim
  | ifnull o =>
    have H' : (match (generalizing := false) st with | .null :: r => own_jp pc o fun t => kj t ds vs ls r | .ref _ :: r => kf ds vs ls r | _ => False) := H
    split at H'
    · obtain ⟨t', h1, h2, hk⟩ := own_jp_e H'
      exact own_go (fun t k => XS.ifnullYes X.here hx rfl rfl hd rfl h1 h2 k) (Hj _ _ _ _ _ hk T X eT)
    · exact own_go (fun t k => XS.ifnullNo X.here hx rfl hd rfl k) (Hf _ _ _ _ H' T X eT)
    · exact H'.elim
  | ifnonnull o =>
    have H' : (match (generalizing := false) st with | .ref _ :: r => own_jp pc o fun t => kj t ds vs ls r | .null :: r => kf ds vs ls r | _ => False) := H
    split at H'
    · obtain ⟨t', h1, h2, hk⟩ := own_jp_e H'
      exact own_go (fun t k => XT.ifnonnullYes X.here hx rfl rfl hd rfl h1 h2 k) (Hj _ _ _ _ _ hk T X eT)
    · exact own_go (fun t k => XT.ifnonnullNo X.here hx rfl hd rfl k) (Hf _ _ _ _ H' T X eT)
    · exact H'.elim
  | arraylength =>
    have H' : (match (generalizing := false) st with | .ref a :: r => (match (generalizing := false) vs with | .int N :: vs' => own_ln Z h a N ∧ kf ds vs' ls (.int N :: r) | _ => False) | _ => False) := H
    split at H'
    · split at H'
      · rename_i a r N vs'
        obtain ⟨⟨cl, ty, A, hN⟩, hk⟩ := H'
        subst hN
        exact own_go (X.arraylength hx (by rw [eT]; exact A.1) (State.isArrayOf_alike hZ.alike A.2.1) (g := mkF m pc (Array.mk ls) _) rfl rfl hd) (Hf _ _ _ _ hk T X eT)
      · exact H'.elim
    · exact H'.elim
  | iaload =>
    have H : (own_al Z h .int st vs fun vs' r => kf ds vs' ls r) := H
    obtain ⟨j, a, r, v, vs', rfl, rfl, ⟨cl, A, hin, hv⟩, hk⟩ := own_al_e H
    exact own_go (X.iaload hx (by rw [eT]; exact A.1) (State.isArrayOf_alike hZ.alike A.2.1) A.2.2 hin hv (g := mkF m pc (Array.mk ls) _) rfl rfl hd) (Hf _ _ _ _ hk T X eT)
  | daload =>
    have H : (own_al Z h .double st vs fun vs' r => kf ds vs' ls r) := H
    obtain ⟨j, a, r, v, vs', rfl, rfl, ⟨cl, A, hin, hv⟩, hk⟩ := own_al_e H
    exact own_go (X.daload hx (by rw [eT]; exact A.1) (State.isArrayOf_alike hZ.alike A.2.1) A.2.2 hin hv (g := mkF m pc (Array.mk ls) _) rfl rfl hd) (Hf _ _ _ _ hk T X eT)
  | laload =>
    have H : (own_al Z h .long st vs fun vs' r => kf ds vs' ls r) := H
    obtain ⟨j, a, r, v, vs', rfl, rfl, ⟨cl, A, hin, hv⟩, hk⟩ := own_al_e H
    exact own_go (X.laload hx (by rw [eT]; exact A.1) (State.isArrayOf_alike hZ.alike A.2.1) A.2.2 hin hv (g := mkF m pc (Array.mk ls) _) rfl rfl hd) (Hf _ _ _ _ hk T X eT)
  | getfield n =>
    have H' : (match (generalizing := false) st with | .ref a :: r => (match (generalizing := false) vs with | v :: vs' => (match (generalizing := false) own_fld Ft n with | some (C, f, d) => Fld Z h a C f d v ∧ kf ds vs' ls (v :: r) | none => False) | [] => False) | _ => False) := H
    split at H'
    · split at H'
      · split at H'
        · rename_i a r v vs' o C f d hf
          obtain ⟨T', X', e', st'⟩ := getF X hx hZ hown (host := "") (Or.inl (own_fld_e hF hf)) Via.refl eT H'.1 (g := mkF m pc (Array.mk ls) _) rfl rfl hd
          exact own_go st' (Hf _ _ _ _ H'.2 T' X' e')
        · exact H'.elim
      · exact H'.elim
    · exact H'.elim
  | _ => exact H.elim
def own_from : List (Nat × Instr) → Nat → List (Nat × Instr)
  | [], _ => []
  | (q, i) :: r, pc => bif Nat.beq q pc then (q, i) :: r else own_from r pc
def own_dec (code : ByteArray) (tab : List (Nat × Instr)) : Prop := ∀ e ∈ tab, decode code e.1 = .ok (e.2, own_len e.2)
def own_seq : List (Nat × Instr) → Bool
  | (q, i) :: (q', i') :: r => Nat.beq q' (q + own_len i) && own_seq ((q', i') :: r)
  | _ => true
theorem own_from_sub : ∀ {full : List (Nat × Instr)} {t : Nat}, (∀ e ∈ own_from full t, e ∈ full) ∧ (own_seq full = true → own_seq (own_from full t) = true) ∧ (∀ q i r, own_from full t = (q, i) :: r → q = t)
  | [], t => ⟨fun e h => h, fun h => h, fun q i r h => by cases h⟩
  | (q, i) :: r, t => by
    have ih := own_from_sub (full := r) (t := t)
    cases hb : Nat.beq q t with
    | true =>
      have e : own_from ((q, i) :: r) t = (q, i) :: r := by show (bif Nat.beq q t then _ else _) = _; rw [hb]; rfl
      rw [e]
      refine ⟨fun e h => h, fun h => h, fun q' i' r' h => ?_⟩
      cases h
      exact Nat.eq_of_beq_eq_true hb
    | false =>
      have e : own_from ((q, i) :: r) t = own_from r t := by show (bif Nat.beq q t then _ else _) = _; rw [hb]; rfl
      rw [e]
      refine ⟨fun e h => List.mem_cons_of_mem _ (ih.1 e h), fun h => ih.2.1 ?_, ih.2.2⟩
      cases r with
      | nil => rfl
      | cons a r' =>
        obtain ⟨q', i'⟩ := a
        have h' : (Nat.beq q' (q + own_len i) && own_seq ((q', i') :: r')) = true := h
        exact (Bool.and_eq_true_iff.mp h').2
/-! a block: n plain instructions from the table's row at hand on -/
def own_wp (Kt : List (Nat × Value)) (Ft : List (Nat × String × String × String)) (Z : State) (h : Heap) (full : List (Nat × Instr)) (P : Nat → List Slot → List Value → Prop) : Nat → List (Nat × Instr) → List Bool → List Value → List Slot → List Value → Prop
  | _, [], _, _, _, _ => False
  | 0, (q, _) :: _, _, _, ls, st => P q ls st
  | n + 1, (q, i) :: r, ds, vs, ls, st => own_st Kt Ft Z h i q ds vs ls st (fun ds vs ls st => own_wp Kt Ft Z h full P n r ds vs ls st) (fun t ds vs ls st => own_wp Kt Ft Z h full P n (own_from full t) ds vs ls st)
theorem own_wp_ok {code : ByteArray} {full : List (Nat × Instr)} (hdec : own_dec code full) (hseq : own_seq full = true) (hby : c.code = code) (hx : p.tables.exec = Jvm.exec) (hZ : Z.Warmed39 s.vm) (hown : s.vm.findClass own = some m.cls) {Kt : List (Nat × Value)} {Ft : List (Nat × String × String × String)} (hK : own_ks own a0 Z Kt) (hF : own_fs own a0 Z Ft) (X : Stand p l e R s m args below meth c T locs cells slots) :
    ∀ (n : Nat) (tab : List (Nat × Instr)) (ds : List Bool) (vs : List Value) (ls : List Slot) (st : List Value), (∀ e ∈ tab, e ∈ full) → own_seq tab = true → own_wp Kt Ft Z h full (own_Aft X h Q) n tab ds vs ls st →
      ∃ q i r, tab = (q, i) :: r ∧ own_Aft X h Q q ls st
  | _, [], _, _, _, _, _, _, H => by cases ‹Nat› <;> exact H.elim
  | 0, (q, i) :: r, ds, vs, ls, st, _, _, H => ⟨q, i, r, rfl, H⟩
  | n + 1, (q, i) :: r, ds, vs, ls, st, hsub, hs, H => by
    refine ⟨q, i, r, rfl, fun T' X' e' => ?_⟩
    have hd : decode c.code q = .ok (i, own_len i) := by rw [hby]; exact hdec (q, i) (hsub (q, i) (List.mem_cons_self ..))
    have H1 : own_st Kt Ft Z h i q ds vs ls st (fun ds vs ls st => own_wp Kt Ft Z h full (own_Aft X h Q) n r ds vs ls st) (fun t ds vs ls st => own_wp Kt Ft Z h full (own_Aft X h Q) n (own_from full t) ds vs ls st) := H
    clear H
    refine own_st_ok X' hx hZ hown e' hK hF hd H1 (fun ds vs ls st hk => ?_) (fun t ds vs ls st hk => ?_)
    · cases r with
      | nil =>
        obtain ⟨q', i', r', e1, -⟩ := own_wp_ok hdec hseq hby hx hZ hown hK hF X n [] ds vs ls st (fun e he => absurd he (List.not_mem_nil)) rfl hk
        cases e1
      | cons a r' =>
        obtain ⟨q1, i1⟩ := a
        have h' : (Nat.beq q1 (q + own_len i) && own_seq ((q1, i1) :: r')) = true := hs
        obtain ⟨g1, g2⟩ := Bool.and_eq_true_iff.mp h'
        obtain ⟨q', i', r'', e1, e2⟩ := own_wp_ok hdec hseq hby hx hZ hown hK hF X n ((q1, i1) :: r') ds vs ls st (fun e he => hsub e (List.mem_cons_of_mem _ he)) g2 hk
        cases e1
        rw [← Nat.eq_of_beq_eq_true g1]
        exact e2
    · obtain ⟨q', i', r'', e1, e2⟩ := own_wp_ok hdec hseq hby hx hZ hown hK hF X n (own_from full t) ds vs ls st (own_from_sub.1) (own_from_sub.2.1 hseq) hk
      rw [← own_from_sub.2.2 _ _ _ e1]
      exact e2
/-- **A BLOCK**: n plain instructions from pc on, in one step -/
theorem own_blk {code : ByteArray} {full : List (Nat × Instr)} (hdec : own_dec code full) (hseq : own_seq full = true) (hby : c.code = code) (hx : p.tables.exec = Jvm.exec) (hZ : Z.Warmed39 s.vm) (hown : s.vm.findClass own = some m.cls) {Kt : List (Nat × Value)} {Ft : List (Nat × String × String × String)} (hK : own_ks own a0 Z Kt) (hF : own_fs own a0 Z Ft)
    (n : Nat) (ds : List Bool) (vs : List Value) (X : Stand p l e R s m args below meth c T locs cells slots) (eT : T.heap = h) {pc : Nat} {ls : List Slot} {st : List Value} (H : own_wp Kt Ft Z h full (own_Aft X h Q) n (own_from full pc) ds vs ls st) : own_Go p.tables e below Q (T.setTop (mkF m pc (Array.mk ls) st)) := by
  obtain ⟨q, i, r, e1, e2⟩ := own_wp_ok hdec hseq hby hx hZ hown hK hF X n (own_from full pc) ds vs ls st (own_from_sub.1) (own_from_sub.2.1 hseq) H
  rw [← own_from_sub.2.2 _ _ _ e1]
  exact e2 T X eT
/-- **A RETURN** of a value -/
theorem own_ret (X : Stand p l e R s m args below meth c T locs cells slots) (hx : p.tables.exec = Jvm.exec) (hlocks : meth.locks = false) (eT : T.heap = h) {C S : Nat} {q : Option Value → Heap → List Loc → Prop} {pc : Nat} {ls : List Slot} {w : Value} {rest : List Value} {t : FieldType} {i : Instr} (hret : meth.sig.returnType = some t) (hn : narrow t w = w)
    (hi : (i = .ireturn ∧ (t = .int ∨ t = .boolean ∨ t = .byte ∨ t = .char ∨ t = .short) ∧ ∃ z, w = .int z) ∨ (i = .lreturn ∧ t = .long ∧ ∃ z, w = .long z) ∨ (i = .dreturn ∧ t = .double ∧ ∃ z, w = .double z) ∨ (i = .freturn ∧ t = .float ∧ ∃ z, w = .float z) ∨ (i = .areturn ∧ t.isReference = true ∧ w.isRef = true))
    (hd : decode c.code pc = .ok (i, 1)) (hC : cells ≤ C) (hS : slots ≤ S) (hq : q (some w) h locs) : own_Go p.tables e below (own_Fin s C S q) (T.setTop (mkF m pc (Array.mk ls) (w :: rest))) := by
  obtain ⟨fs, hr, hrun, hended, hW, hsame⟩ := X.leave (v := some w) (fun h => by rw [hret] at h; cases h) hlocks
  refine ⟨_, _, retOut X hx hret hn hi hd hr, hrun, hended, some w, locs, rfl, ?_, ⟨_, rfl⟩, hW, hsame.mono hC hS⟩
  show q (some w) T.heap locs
  rw [eT]; exact hq
/-- **A RETURN** of nothing -/
theorem own_retV (X : Stand p l e R s m args below meth c T locs cells slots) (hx : p.tables.exec = Jvm.exec) (hlocks : meth.locks = false) (eT : T.heap = h) {C S : Nat} {q : Option Value → Heap → List Loc → Prop} {pc : Nat} {ls : List Slot} (hret : meth.sig.returnType = none)
    (hd : decode c.code pc = .ok (.return_, 1)) (hC : cells ≤ C) (hS : slots ≤ S) (hq : q none h locs) : own_Go p.tables e below (own_Fin s C S q) (T.setTop (mkF m pc (Array.mk ls) [])) := by
  obtain ⟨fs, hr, hrun, hended, hW, hsame⟩ := X.leave (v := none) (fun _ => rfl) hlocks
  refine ⟨_, _, X.returnOut hx hret hd hr, hrun, hended, none, locs, rfl, ?_, ⟨_, rfl⟩, hW, hsame.mono hC hS⟩
  show q none T.heap locs
  rw [eT]; exact hq
end OwnRun
/-! OWN KIT 2: steps that change the heap, and calls, as steps of own_Go -/
section OwnHeap
variable {p : Program} {l : Launch} {e : Env} {R : Room} {s : State} {m : MethodId} {args : Array Value} {below : List Frame} {meth : Method} {c : Code} {T : State} {locs : List Loc} {cells slots : Nat} {Z : State} {a0 : Array Value} {h h' : Heap} {Q : Outcome → State → Prop} {own : String} {pc : Nat} {ls : List Slot} {st : List Value}
/-- an array with just these values -/
def own_A (Z : State) (h : Heap) (a : Addr) (ty : FieldType) (vs : List Value) : Prop := ∃ cl : Cell, Arr Z h a cl ty ∧ cl.slots.toList = vs
theorem own_A.ext {a : Addr} {ty : FieldType} {vs : List Value} (A : own_A Z h a ty vs) (E : Ext h h') : own_A Z h' a ty vs := by
  obtain ⟨cl, A, q⟩ := A
  exact ⟨cl, A.ext E, q⟩
theorem own_A.keep {a : Addr} {ty : FieldType} {vs : List Value} {ws : List Addr} (A : own_A Z h a ty vs) (K : Keep h h' ws) (q : a ∉ ws) : own_A Z h' a ty vs := by
  obtain ⟨cl, A, r⟩ := A
  exact ⟨cl, ⟨K.2.1 a cl A.1 q, A.2⟩, r⟩
theorem own_A.other {a b : Addr} {ty : FieldType} {vs : List Value} {sl : Nat} {v : Value} (A : own_A Z h b ty vs) (W : Wr h h' a sl v) (hne : b ≠ a) : own_A Z h' b ty vs := by
  obtain ⟨cl, A, r⟩ := A
  exact ⟨cl, A.other W hne, r⟩
theorem own_A.same {a : Addr} {ty : FieldType} {vs : List Value} {sl : Nat} {v : Value} (A : own_A Z h a ty vs) (W : Wr h h' a sl v) : own_A Z h' a ty (vs.set sl v) := by
  obtain ⟨cl, A, r⟩ := A
  refine ⟨_, A.same W, ?_⟩
  subst r
  exact Array.toList_setIfInBounds
theorem own_A.lt {a : Addr} {ty : FieldType} {vs : List Value} (A : own_A Z h a ty vs) : a < h.size := by
  obtain ⟨cl, A, -⟩ := A
  exact A.lt
theorem own_A.at {a : Addr} {ty : FieldType} {vs : List Value} {v : Value} (A : own_A Z h a ty vs) (j : Int32) (k : Nat) (h0 : j.toInt = k) (hv : vs[k]? = some v) : own_at Z h a ty j v := by
  obtain ⟨cl, A, r⟩ := A
  have e1 : j.toNatClampNeg = k := by rw [Int32.toNatClampNeg, h0]; rfl
  have e2 : cl.slots[k]? = some v := by rw [← Array.getElem?_toList, r]; exact hv
  refine ⟨cl, A, ?_, by rw [e1]; exact e2⟩
  rintro (q | q)
  · rw [Int32.lt_iff_toInt_lt, h0] at q
    have : (0 : Int32).toInt = 0 := rfl
    omega
  · rw [e1] at q
    exact absurd (Array.getElem?_eq_some_iff.mp e2).1 (by omega)
theorem own_A.ln {a : Addr} {ty : FieldType} {vs : List Value} (A : own_A Z h a ty vs) (N : Int32) (hN : vs.length.toInt32 = N) : own_ln Z h a N := by
  obtain ⟨cl, A, r⟩ := A
  refine ⟨cl, ty, A, ?_⟩
  rw [← hN, ← r, Array.length_toList]
theorem own_A.inb {a : Addr} {ty : FieldType} {vs : List Value} (A : own_A Z h a ty vs) : ∃ cl : Cell, Arr Z h a cl ty ∧ cl.slots.size = vs.length := by
  obtain ⟨cl, A, r⟩ := A
  exact ⟨cl, A, by rw [← r, Array.length_toList]⟩
theorem own_idx {j : Int32} {k n : Nat} (h0 : j.toInt = k) (hk : k < n) : ¬ (j < 0 ∨ n ≤ j.toNatClampNeg) := by
  have e1 : j.toNatClampNeg = k := by rw [Int32.toNatClampNeg, h0]; rfl
  rintro (q | q)
  · rw [Int32.lt_iff_toInt_lt, h0] at q
    have : (0 : Int32).toInt = 0 := rfl
    omega
  · omega
/-- new C -/
theorem own_new (X : Stand p l e R s m args below meth c T locs cells slots) (hx : p.tables.exec = Jvm.exec) (hZ : Z.Warmed39 s.vm) {C : String} {index n : Nat} (hown : s.vm.findClass own = some m.cls) (w : (Cond.classLink own index C).before a0 Z = true) (wi : (Cond.instantiable C n).before a0 Z = true) (wz : (Cond.initialized C).before a0 Z = true) (eT : T.heap = h)
    (hd : decode c.code pc = .ok (.new index, 3)) (hc : cells + 1 ≤ R.cells) (hl : slots + n ≤ R.slots)
    (k : ∀ T' h' (a : Addr), a = h.size → Stand p l e R s m args below meth c T' locs (cells + 1) (slots + n) → T'.heap = h' → Ext h h' → Exa Z h' a C → (∀ {O nm d : String} {ty : FieldType}, Laid Z a0 C O nm d → parseFieldDescriptor d = some ty → Fld Z h' a O nm d (defaultValue ty)) →
      own_Go p.tables e below Q (T'.setTop (mkF m (pc + 3) (Array.mk ls) (.ref a :: st)))) : own_Go p.tables e below Q (T.setTop (mkF m pc (Array.mk ls) st)) := by
  obtain ⟨T', h', X', e', E, A, D, -, st'⟩ := newO X hx hZ hown w wi wz eT (g := mkF m pc (Array.mk ls) st) rfl hd hc hl
  exact own_go st' (k T' h' _ rfl X' e' E A D)
/-- newarray of a plain kind, of a length that is known -/
theorem own_newP (X : Stand p l e R s m args below meth c T locs cells slots) (hx : p.tables.exec = Jvm.exec) (hZ : Z.Warmed39 s.vm) {aty : ArrayType} (w : (Cond.arrayClass (newarray.typeOf aty)).before a0 Z = true) (eT : T.heap = h)
    {n : Int32} (N : Nat) (hN : n.toInt = N) {cap : Nat} (hcap : N ≤ cap) (hb : cap * 8 ≤ 536870912) (hd : decode c.code pc = .ok (.newarray aty, 2)) (hc : cells + 1 ≤ R.cells) (hl : slots + cap ≤ R.slots)
    (k : ∀ T' h' (a : Addr), a = h.size → Stand p l e R s m args below meth c T' locs (cells + 1) (slots + cap) → T'.heap = h' → Ext h h' → own_A Z h' a (newarray.typeOf aty) (List.replicate N (defaultValue (newarray.typeOf aty))) →
      own_Go p.tables e below Q (T'.setTop (mkF m (pc + 2) (Array.mk ls) (.ref a :: st)))) : own_Go p.tables e below Q (T.setTop (mkF m pc (Array.mk ls) (.int n :: st))) := by
  have e1 : n.toNatClampNeg = N := by rw [Int32.toNatClampNeg, hN]; rfl
  have hn : ¬ n < 0 := by
    rw [Int32.lt_iff_toInt_lt, hN]
    have : (0 : Int32).toInt = 0 := rfl
    omega
  obtain ⟨T', h', cA, X', e', E, A, st'⟩ := newP X hx hZ w eT (g := mkF m pc (Array.mk ls) (.int n :: st)) rfl hd rfl hn (cap := cap) (by rw [e1]; exact hcap) hb hc hl
  refine own_go st' (k T' h' _ rfl X' e' E ⟨_, A, ?_⟩)
  show (Array.replicate n.toNatClampNeg _).toList = _
  rw [e1]; exact Array.toList_replicate
/-- dastore -/
theorem own_sD (X : Stand p l e R s m args below meth c T locs cells slots) (hx : p.tables.exec = Jvm.exec) (hZ : Z.Warmed39 s.vm) (eT : T.heap = h) {a : Addr} {vs : List Value} (A : own_A Z h a .double vs) {j : Int32} (kk : Nat) (hj : j.toInt = kk) (hk : kk < vs.length) {x : UInt64} (hd : decode c.code pc = .ok (.dastore, 1))
    (k : ∀ T' h', Stand p l e R s m args below meth c T' (locs ++ [⟨a, kk⟩]) cells slots → T'.heap = h' → Wr h h' a kk (.double x) → own_A Z h' a .double (vs.set kk (.double x)) → own_Go p.tables e below Q (T'.setTop (mkF m (pc + 1) (Array.mk ls) st))) :
    own_Go p.tables e below Q (T.setTop (mkF m pc (Array.mk ls) (.double x :: .int j :: .ref a :: st))) := by
  have e1 : j.toNatClampNeg = kk := by rw [Int32.toNatClampNeg, hj]; rfl
  have A' := A
  obtain ⟨cl, Ar, hs⟩ := A.inb
  obtain ⟨T', h', X', e', W, st'⟩ := stD X hx hZ eT Ar (j := j) (x := x) (by rw [hs]; exact own_idx hj hk) (g := mkF m pc (Array.mk ls) (.double x :: .int j :: .ref a :: st)) rfl rfl hd
  rw [e1] at X' W
  exact own_go st' (k T' h' X' e' W (A'.same W))
/-- iastore -/
theorem own_sI (X : Stand p l e R s m args below meth c T locs cells slots) (hx : p.tables.exec = Jvm.exec) (hZ : Z.Warmed39 s.vm) (eT : T.heap = h) {a : Addr} {vs : List Value} (A : own_A Z h a .int vs) {j : Int32} (kk : Nat) (hj : j.toInt = kk) (hk : kk < vs.length) {x : Int32} (hd : decode c.code pc = .ok (.iastore, 1))
    (k : ∀ T' h', Stand p l e R s m args below meth c T' (locs ++ [⟨a, kk⟩]) cells slots → T'.heap = h' → Wr h h' a kk (.int x) → own_A Z h' a .int (vs.set kk (.int x)) → own_Go p.tables e below Q (T'.setTop (mkF m (pc + 1) (Array.mk ls) st))) :
    own_Go p.tables e below Q (T.setTop (mkF m pc (Array.mk ls) (.int x :: .int j :: .ref a :: st))) := by
  have e1 : j.toNatClampNeg = kk := by rw [Int32.toNatClampNeg, hj]; rfl
  have A' := A
  obtain ⟨cl, Ar, hs⟩ := A.inb
  obtain ⟨T', h', X', e', W, st'⟩ := stI X hx hZ eT Ar (j := j) (x := x) (by rw [hs]; exact own_idx hj hk) (g := mkF m pc (Array.mk ls) (.int x :: .int j :: .ref a :: st)) rfl rfl hd
  rw [e1] at X' W
  exact own_go st' (k T' h' X' e' W (A'.same W))
/-- putfield -/
theorem own_putF (X : Stand p l e R s m args below meth c T locs cells slots) (hx : p.tables.exec = Jvm.exec) (hZ : Z.Warmed39 s.vm) {O n d C : String} {index kk : Nat} {ty : FieldType} (hown : s.vm.findClass own = some m.cls) (w : (Cond.fieldLink own index O n d).before a0 Z = true)
    (eT : T.heap = h) {a : Addr} {v old : Value} (F : Fld Z h a O n d old) (E : Exa Z h a C) (L : (Cond.lays C O n d).before a0 Z = true ∨ ((Cond.laysFinal C O n d).before a0 Z = true ∧ own = O ∧ meth.name = "<init>")) (wi : (Cond.instantiable C kk).before a0 Z = true)
    (hty : parseFieldDescriptor d = some ty) (hn : narrow ty v = v) (hf : fits ty v = true) (hd : decode c.code pc = .ok (.putfield index, 3))
    (k : ∀ T' h', Stand p l e R s m args below meth c T' (locs ++ [⟨a, Jvm.RoadKit.slotOf Z O n d⟩]) cells slots → T'.heap = h' → Wr h h' a (Jvm.RoadKit.slotOf Z O n d) v → Fld Z h' a O n d v → Exa Z h' a C → own_Go p.tables e below Q (T'.setTop (mkF m (pc + 3) (Array.mk ls) st))) :
    own_Go p.tables e below Q (T.setTop (mkF m pc (Array.mk ls) (v :: .ref a :: st))) := by
  obtain ⟨T', h', X', e', W, st'⟩ := putF X hx hZ hown (host := "") (Or.inl w) Via.refl eT F E L wi hty hn hf (g := mkF m pc (Array.mk ls) (v :: .ref a :: st)) rfl rfl hd
  exact own_go st' (k T' h' X' e' W (F.same W) (E.wr W))
/-- Object.<init> -/
theorem own_initO (X : Stand p l e R s m args below meth c T locs cells slots) (hx : p.tables.exec = Jvm.exec) (hZ : Z.Warmed39 s.vm) {idx : Nat} (hown : s.vm.findClass own = some m.cls) (w1 : (Cond.methodLink own idx Lib.objectInit).before a0 Z = true) (w2 : (Cond.instanceMethod Lib.objectInit).before a0 Z = true)
    (w3 : (Cond.code Lib.objectInit ⟨#[0xb1]⟩ 1 none).before a0 Z = true) (eT : T.heap = h) (hsize : ls.length = c.maxLocals) {a : Addr} (hd : decode c.code pc = .ok (.invokespecial idx, 3))
    (hf : 1 ≤ R.frames) (W : Nat) (hW : (st.map fun v => v.category).sum ≤ W) (hl : W + 12 ≤ R.locals)
    (k : ∀ T', Stand p l e R s m args below meth c T' locs cells slots → T'.heap = h → own_Go p.tables e below Q (T'.setTop (mkF m (pc + 3) (Array.mk ls) st))) :
    own_Go p.tables e below Q (T.setTop (mkF m pc (Array.mk ls) (.ref a :: st))) := by
  obtain ⟨T', X', e', st'⟩ := initO X hx hZ hown w1 w2 w3 eT (g := mkF m pc (Array.mk ls) (.ref a :: st)) rfl hsize rfl hd hf (W := W) (by show 2 * 0 + _ ≤ _; omega) hl
  exact own_go st' (k T' X' e')
/-- a static call, by the callee's contract -/
theorem own_callS (X : Stand p l e R s m args below meth c T locs cells slots) (hx : p.tables.exec = Jvm.exec) (hZ : Z.Warmed39 s.vm) (hown : s.vm.findClass own = some m.cls) {index : Nat} {y : MethodName} {bytes : ByteArray} {maxL : Nat} {ret : Option FieldType} {rm : Room}
    (w1 : (Cond.methodLink own index y).before a0 Z = true) (w2 : (Cond.static y).before a0 Z = true) (w3 : (Cond.initialized y.cls).before a0 Z = true) (w4 : (Cond.code y bytes maxL ret).before a0 Z = true) (hy : y.cls ≠ "java/lang/invoke/MethodHandle" ∧ y.cls ≠ "java/lang/invoke/VarHandle")
    (eT : T.heap = h) (argsL : List Value) {ps : List FieldType} {r : Option FieldType} (hpd : parseMethodDescriptor y.desc = some ⟨ps, r⟩) (hlen : argsL.length = ps.length) {q : Option Value → Heap → List Loc → Prop}
    (hM : MetFree l y (head1 [Cond.code y bytes maxL ret] rm) (fun a U => a = argsL.toArray ∧ Z.Warmed39 U.vm ∧ U.heap = h) (fun _ _ _ _ _ => True) (fun _ U o U' => own_Fin U rm.cells rm.slots q o U'))
    (hsize : ls.length = c.maxLocals) (W : Nat) {full : List Value} (hst : full = argsL.reverse ++ st) (hW : (st.map fun v => v.category).sum ≤ W) (hd : decode c.code pc = .ok (.invokestatic index, 3)) (hf : rm.frames + 1 ≤ R.frames) (hl : W + (maxL + 11) + rm.locals ≤ R.locals) (hcc : cells + rm.cells ≤ R.cells) (hss : slots + rm.slots ≤ R.slots)
    (k : ∀ T' v L, Stand p l e R s m args below meth c T' (locs ++ L) (cells + rm.cells) (slots + rm.slots) → q v T'.heap L → own_Go p.tables e below Q (T'.setTop (mkF m (pc + 3) (Array.mk ls) (v.toList ++ st)))) :
    own_Go p.tables e below Q (T.setTop (mkF m pc (Array.mk ls) full)) := by
  subst hst
  obtain ⟨v, vm1, ⟨T', L', k', n'⟩, -, X', ⟨Lc, hq, l1, y1, z1⟩, st'⟩ := Jvm.LawKit.callS X hx hown (mvT hZ w1) (mvT hZ w2) (mvT hZ w3) (mvT hZ w4) hy (backOf (W := W) (Q := q) hM hZ w4 w3 hf hl) (g := mkF m pc (Array.mk ls) (argsL.reverse ++ st)) rfl hsize (argsL := argsL) (rest := st) (lenOf hpd hlen) rfl (by show 2 * 0 + _ ≤ _; omega) hd (fun _ _ => ⟨rfl, eT, hcc, hss⟩)
  dsimp only [Pt.U, Pt.locs, Pt.cells, Pt.slots] at X' l1 y1 z1 st' hq
  subst l1 y1 z1
  exact own_go st' (k T' v Lc X' hq)
/-- a static call that leaves all as it was -/
theorem own_callSP (X : Stand p l e R s m args below meth c T locs cells slots) (hx : p.tables.exec = Jvm.exec) (hZ : Z.Warmed39 s.vm) (hown : s.vm.findClass own = some m.cls) {index : Nat} {y : MethodName} {bytes : ByteArray} {maxL : Nat} {ret : Option FieldType} {fr lo : Nat}
    (w1 : (Cond.methodLink own index y).before a0 Z = true) (w2 : (Cond.static y).before a0 Z = true) (w3 : (Cond.initialized y.cls).before a0 Z = true) (w4 : (Cond.code y bytes maxL ret).before a0 Z = true) (hy : y.cls ≠ "java/lang/invoke/MethodHandle" ∧ y.cls ≠ "java/lang/invoke/VarHandle")
    (eT : T.heap = h) (argsL : List Value) {ps : List FieldType} {r : Option FieldType} (hpd : parseMethodDescriptor y.desc = some ⟨ps, r⟩) (hlen : argsL.length = ps.length) {q : Option Value → Prop}
    (hM : MetFree l y (head1 [Cond.code y bytes maxL ret] { frames := fr, cells := 0, slots := 0, locals := lo }) (fun a U => a = argsL.toArray ∧ Z.Warmed39 U.vm ∧ U.heap = h) (fun _ _ _ _ _ => True) (fun _ U o U' => own_Fin U 0 0 (fun v h' L => q v ∧ L = [] ∧ h' = h) o U'))
    (hsize : ls.length = c.maxLocals) (W : Nat) {full : List Value} (hst : full = argsL.reverse ++ st) (hW : (st.map fun v => v.category).sum ≤ W) (hd : decode c.code pc = .ok (.invokestatic index, 3)) (hf : fr + 1 ≤ R.frames) (hl : W + (maxL + 11) + lo ≤ R.locals)
    (hcc : cells ≤ R.cells) (hss : slots ≤ R.slots)
    (k : ∀ T' v, Stand p l e R s m args below meth c T' locs cells slots → T'.heap = h → q v → own_Go p.tables e below Q (T'.setTop (mkF m (pc + 3) (Array.mk ls) (v.toList ++ st)))) :
    own_Go p.tables e below Q (T.setTop (mkF m pc (Array.mk ls) full)) := by
  refine own_callS X hx hZ hown w1 w2 w3 w4 hy eT argsL hpd hlen (rm := { frames := fr, cells := 0, slots := 0, locals := lo }) hM hsize W hst hW hd hf hl hcc hss (fun T' v L X' hq => ?_)
  obtain ⟨h1, rfl, h3⟩ := hq
  rw [List.append_nil] at X'
  exact k T' v X' h3 h1
/-- an instance call that leaves all as it was -/
theorem own_callVP (X : Stand p l e R s m args below meth c T locs cells slots) (hx : p.tables.exec = Jvm.exec) (hZ : Z.Warmed39 s.vm) (hown : s.vm.findClass own = some m.cls) {index : Nat} {C : String} {y : MethodName} {bytes : ByteArray} {maxL : Nat} {ret : Option FieldType} {fr lo : Nat}
    (w1 : (Cond.methodLink own index y).before a0 Z = true) (w2 : (Cond.declares y).before a0 Z = true) (w5 : (Cond.selects C y y).before a0 Z = true) (w6 : (Cond.instanceMethod y).before a0 Z = true) (w3 : (Cond.initialized y.cls).before a0 Z = true) (w4 : (Cond.code y bytes maxL ret).before a0 Z = true) (hy : y.cls ≠ "java/lang/invoke/MethodHandle" ∧ y.cls ≠ "java/lang/invoke/VarHandle")
    (eT : T.heap = h) {a : Addr} (E : Exa Z h a C) (argsL : List Value) {ps : List FieldType} {r : Option FieldType} (hpd : parseMethodDescriptor y.desc = some ⟨ps, r⟩) (hlen : argsL.length = ps.length) {q : Option Value → Prop}
    (hM : MetFree l y (head1 [Cond.code y bytes maxL ret] { frames := fr, cells := 0, slots := 0, locals := lo }) (fun b U => b = (.ref a :: argsL).toArray ∧ Z.Warmed39 U.vm ∧ U.heap = h) (fun _ _ _ _ _ => True) (fun _ U o U' => own_Fin U 0 0 (fun v h' L => q v ∧ L = [] ∧ h' = h) o U'))
    (hsize : ls.length = c.maxLocals) (W : Nat) {full : List Value} (hst : full = argsL.reverse ++ .ref a :: st) (hW : (st.map fun v => v.category).sum ≤ W) (hd : decode c.code pc = .ok (.invokevirtual index, 3)) (hf : fr + 1 ≤ R.frames) (hl : W + (maxL + 11) + lo ≤ R.locals)
    (hcc : cells ≤ R.cells) (hss : slots ≤ R.slots)
    (k : ∀ T' v, Stand p l e R s m args below meth c T' locs cells slots → T'.heap = h → q v → own_Go p.tables e below Q (T'.setTop (mkF m (pc + 3) (Array.mk ls) (v.toList ++ st)))) :
    own_Go p.tables e below Q (T.setTop (mkF m pc (Array.mk ls) full)) := by
  obtain ⟨cB, kB, i1, i2, i3⟩ := isOf (T := T) hZ eT E
  subst hst
  obtain ⟨v, vm1, ⟨T', L', k', n'⟩, -, X', ⟨Lc, hq, l1, y1, z1⟩, st'⟩ := X.virtualBack hx (y := y) (z := y) hown (mvT hZ w1) (mvT hZ w2) (notFace_of_selects (args := #[]) (mvT hZ w5)) (mvT hZ w5) (mvT hZ w6) hy (backOf (W := W) (Q := fun v h' L => q v ∧ L = [] ∧ h' = h) hM hZ w4 w3 hf hl) i1 i3 (g := mkF m pc (Array.mk ls) (argsL.reverse ++ .ref a :: st)) rfl hsize (Steps.refl _) (argsL := argsL) (rest := st) (lenOf hpd hlen) rfl (by show 2 * 0 + _ ≤ _; omega) hd (fun _ _ => ⟨rfl, eT, hcc, hss⟩)
  dsimp only [Pt.U, Pt.locs, Pt.cells, Pt.slots] at X' l1 y1 z1 st' hq
  subst l1 y1 z1
  obtain ⟨h1, rfl, h3⟩ := hq
  rw [List.append_nil] at X'
  exact own_go (fun t k => st'.trans k) (k T' v X' h3 h1)
/-- a constructor, by its contract -/
theorem own_callI (X : Stand p l e R s m args below meth c T locs cells slots) (hx : p.tables.exec = Jvm.exec) (hZ : Z.Warmed39 s.vm) (hown : s.vm.findClass own = some m.cls) {index : Nat} {y : MethodName} (hy1 : y.name = "<init>") {bytes : ByteArray} {maxL : Nat} {rm : Room}
    (w1 : (Cond.methodLink own index y).before a0 Z = true) (w2 : (Cond.instanceMethod y).before a0 Z = true) (w3 : (Cond.initialized y.cls).before a0 Z = true) (w4 : (Cond.code y bytes maxL none).before a0 Z = true) (hy : y.cls ≠ "java/lang/invoke/MethodHandle" ∧ y.cls ≠ "java/lang/invoke/VarHandle")
    (eT : T.heap = h) (a : Addr) (argsL : List Value) {ps : List FieldType} {r : Option FieldType} (hpd : parseMethodDescriptor y.desc = some ⟨ps, r⟩) (hlen : argsL.length = ps.length) {q : Option Value → Heap → List Loc → Prop}
    (hM : MetFree l y (head1 [Cond.code y bytes maxL none] rm) (fun b U => b = (.ref a :: argsL).toArray ∧ Z.Warmed39 U.vm ∧ U.heap = h) (fun _ _ _ _ _ => True) (fun _ U o U' => own_Fin U rm.cells rm.slots q o U'))
    (hsize : ls.length = c.maxLocals) (W : Nat) {full : List Value} (hst : full = argsL.reverse ++ .ref a :: st) (hW : (st.map fun v => v.category).sum ≤ W) (hd : decode c.code pc = .ok (.invokespecial index, 3)) (hf : rm.frames + 1 ≤ R.frames) (hl : W + (maxL + 11) + rm.locals ≤ R.locals) (hcc : cells + rm.cells ≤ R.cells) (hss : slots + rm.slots ≤ R.slots)
    (k : ∀ T' v L, Stand p l e R s m args below meth c T' (locs ++ L) (cells + rm.cells) (slots + rm.slots) → q v T'.heap L → own_Go p.tables e below Q (T'.setTop (mkF m (pc + 3) (Array.mk ls) (v.toList ++ st)))) :
    own_Go p.tables e below Q (T.setTop (mkF m pc (Array.mk ls) full)) := by
  subst hst
  obtain ⟨v, vm1, ⟨T', L', k', n'⟩, -, X', ⟨Lc, hq, l1, y1, z1⟩, st'⟩ := X.specialBack hx hy1 hown (mvT hZ w1) (mvT hZ w2) (mvT hZ w4) hy (backOf (W := W) (Q := q) hM hZ w4 w3 hf hl) (g := mkF m pc (Array.mk ls) (argsL.reverse ++ .ref a :: st)) rfl hsize (Steps.refl _) (a := a) (argsL := argsL) (rest := st) (lenOf hpd hlen) rfl (by show 2 * 0 + _ ≤ _; omega) hd (fun _ _ => ⟨rfl, eT, hcc, hss⟩)
  dsimp only [Pt.U, Pt.locs, Pt.cells, Pt.slots] at X' l1 y1 z1 st' hq
  subst l1 y1 z1
  exact own_go (fun t k => st'.trans k) (k T' v Lc X' hq)
/-- an instance method, by its contract -/
theorem own_callV (X : Stand p l e R s m args below meth c T locs cells slots) (hx : p.tables.exec = Jvm.exec) (hZ : Z.Warmed39 s.vm) (hown : s.vm.findClass own = some m.cls) {index : Nat} {C : String} {y : MethodName} {bytes : ByteArray} {maxL : Nat} {ret : Option FieldType} {rm : Room}
    (w1 : (Cond.methodLink own index y).before a0 Z = true) (w2 : (Cond.declares y).before a0 Z = true) (w5 : (Cond.selects C y y).before a0 Z = true) (w6 : (Cond.instanceMethod y).before a0 Z = true) (w3 : (Cond.initialized y.cls).before a0 Z = true) (w4 : (Cond.code y bytes maxL ret).before a0 Z = true) (hy : y.cls ≠ "java/lang/invoke/MethodHandle" ∧ y.cls ≠ "java/lang/invoke/VarHandle")
    (eT : T.heap = h) {a : Addr} (E : Exa Z h a C) (argsL : List Value) {ps : List FieldType} {r : Option FieldType} (hpd : parseMethodDescriptor y.desc = some ⟨ps, r⟩) (hlen : argsL.length = ps.length) {q : Option Value → Heap → List Loc → Prop}
    (hM : MetFree l y (head1 [Cond.code y bytes maxL ret] rm) (fun b U => b = (.ref a :: argsL).toArray ∧ Z.Warmed39 U.vm ∧ U.heap = h) (fun _ _ _ _ _ => True) (fun _ U o U' => own_Fin U rm.cells rm.slots q o U'))
    (hsize : ls.length = c.maxLocals) (W : Nat) {full : List Value} (hst : full = argsL.reverse ++ .ref a :: st) (hW : (st.map fun v => v.category).sum ≤ W) (hd : decode c.code pc = .ok (.invokevirtual index, 3)) (hf : rm.frames + 1 ≤ R.frames) (hl : W + (maxL + 11) + rm.locals ≤ R.locals) (hcc : cells + rm.cells ≤ R.cells) (hss : slots + rm.slots ≤ R.slots)
    (k : ∀ T' v L, Stand p l e R s m args below meth c T' (locs ++ L) (cells + rm.cells) (slots + rm.slots) → q v T'.heap L → own_Go p.tables e below Q (T'.setTop (mkF m (pc + 3) (Array.mk ls) (v.toList ++ st)))) :
    own_Go p.tables e below Q (T.setTop (mkF m pc (Array.mk ls) full)) := by
  subst hst
  obtain ⟨cB, kB, i1, i2, i3⟩ := isOf (T := T) hZ eT E
  obtain ⟨v, vm1, ⟨T', L', k', n'⟩, -, X', ⟨Lc, hq, l1, y1, z1⟩, st'⟩ := X.virtualBack hx (y := y) (z := y) hown (mvT hZ w1) (mvT hZ w2) (notFace_of_selects (args := #[]) (mvT hZ w5)) (mvT hZ w5) (mvT hZ w6) hy (backOf (W := W) (Q := q) hM hZ w4 w3 hf hl) i1 i3 (g := mkF m pc (Array.mk ls) (argsL.reverse ++ .ref a :: st)) rfl hsize (Steps.refl _) (argsL := argsL) (rest := st) (lenOf hpd hlen) rfl (by show 2 * 0 + _ ≤ _; omega) hd (fun _ _ => ⟨rfl, eT, hcc, hss⟩)
  dsimp only [Pt.U, Pt.locs, Pt.cells, Pt.slots] at X' l1 y1 z1 st' hq
  subst l1 y1 z1
  exact own_go (fun t k => st'.trans k) (k T' v Lc X' hq)
end OwnHeap
theorem own_ne {a b : Addr} (h : @LT.lt Nat _ a b ∨ @LT.lt Nat _ b a) : a ≠ b := fun q => by
  subst q
  rcases h with h | h <;> exact absurd h (Nat.lt_irrefl _)
def own_out (x : Nat) : List Nat → Prop
  | [] => True
  | y :: r => x ≠ y ∧ own_out x r
theorem own_nin {x : Addr} : ∀ {L : List Addr}, own_out x L → x ∉ L
  | [], _ => fun q => nomatch q
  | _ :: _, h => fun q => (List.mem_cons.mp q).elim h.1 (own_nin h.2)
/-- a body's contract -/
abbrev own_MF (l : Launch) (y : MethodName) (bytes : ByteArray) (maxL : Nat) (ret : Option FieldType) (ws : List Jvm.Cond) (rm : Room) (as' : Array Value) (Z : State) (h0 : Heap) (q : Option Value → Heap → List Loc → Prop) : Prop :=
  MetFree l y (head1 (Jvm.Cond.code y bytes maxL ret :: ws) rm) (fun a U => a = as' ∧ Z.Warmed39 U.vm ∧ U.heap = h0) (fun _ _ _ _ _ => True) (fun _ U o U' => own_Fin U rm.cells rm.slots q o U')
/-- another field of the object that is written -/
theorem own_so {Z : State} {a0 : Array Value} {h h' : Heap} {a : Addr} {C O n d O' n' d' : String} {v w : Value} (W : Wr h h' a (Jvm.RoadKit.slotOf Z O' n' d') v) (F : Fld Z h a O n d w) (L : Laid Z a0 C O n d) (L' : Laid Z a0 C O' n' d') (hn : n ≠ n' := by decide) (h1 : (parseFieldDescriptor d).isSome = true := by decide) (h2 : (parseFieldDescriptor d').isSome = true := by decide) : Fld Z h' a O n d w := by
  obtain ⟨t, ht⟩ := Option.isSome_iff_exists.mp h1
  obtain ⟨t', ht'⟩ := Option.isSome_iff_exists.mp h2
  exact Fld.other W F (Or.inr (slot_ne L L' hn ht ht'))
/-- a body's contract, entered: the walk begins at pc 0 -/
theorem own_body {l : Launch} {x : MethodName} {bytes : ByteArray} {maxL : Nat} {ret : Option FieldType} {ws : List Jvm.Cond} {rm : Room} {C S : Nat} {Z : State} {as' : Array Value} {h0 : Heap} {q : Option Value → Heap → List Loc → Prop} (hx : plainFor x = true)
    {ls0 : List Slot} (hent : ∀ m : MethodId, entryFrame m as' maxL = mkF m 0 (Array.mk ls0) [])
    (body : ∀ (p : Program) (e : Env) (s : State) (m : MethodId) (below : List Frame) (meth : Method) (c : Code) (T : State), p.tables.exec = Jvm.exec → c.code = bytes → c.maxLocals = maxL → s.vm.findClass x.cls = some m.cls → meth.name = x.name → meth.locks = false → meth.sig.returnType = ret → Z.Warmed39 s.vm → Stand p l e rm s m as' below meth c T [] 0 0 → T.heap = h0 →
      own_Go p.tables e below (own_Fin s C S q) (T.setTop (mkF m 0 (Array.mk ls0) []))) :
    MetFree l x (head1 (Jvm.Cond.code x bytes maxL ret :: ws) rm) (fun a U => a = as' ∧ Z.Warmed39 U.vm ∧ U.heap = h0) (fun _ _ _ _ _ => True) (fun _ U o U' => own_Fin U C S q o U') := by
  refine MetFree.of_bodySF hx hisR ?_
  intro p e s m args below meth c s₁ Bd hml0 hP hK
  obtain ⟨rfl, hZ, hh⟩ := hP
  have e0 : s₁.heap = h0 := by rw [← hh, Bd.state]; rfl
  rw [hent m]
  exact body p e s m below meth c s₁ Bd.exec Bd.bytes hml0 (findClass_of_methodNamed Bd.named) (name_of_methodNamed Bd.named Bd.method).1 Bd.notSynchronized Bd.returns hZ (Stand.of_body Bd) e0
/-! OWN KIT 3: private instance calls; Math.min / max of doubles -/
section OwnHeap3
variable {p : Program} {l : Launch} {e : Env} {R : Room} {s : State} {m : MethodId} {args : Array Value} {below : List Frame} {meth : Method} {c : Code} {T : State} {locs : List Loc} {cells slots : Nat} {Z : State} {a0 : Array Value} {h h' : Heap} {Q : Outcome → State → Prop} {own : String} {pc : Nat} {ls : List Slot} {st : List Value}
/-- an invokevirtual of a private method, by a Back -/
theorem own_privB (X : Stand p l e R s m args below meth c T locs cells slots) (hexec : p.tables.exec = Jvm.exec) {own : String} {index : Nat} {y : MethodName} {bytes : ByteArray} {maxL : Nat} {ret : Option FieldType}
    (hown : s.vm.findClass own = some m.cls) (hlink : (Cond.methodLink own index y).before args s = true) (hinst : (Cond.instanceMethod y).before args s = true) {ns : Nat} (hsel : (Cond.instantiable y.cls ns).before args s = true)
    (hpriv : s.PrivateAt y) (hcode : (Cond.code y bytes maxL ret).before args s = true) (hy : y.cls ≠ "java/lang/invoke/MethodHandle" ∧ y.cls ≠ "java/lang/invoke/VarHandle")
    {W : Nat} {Pre : Free.Pt → Array Value → Prop} {Post : Free.Pt → Array Value → Option Value → Free.Pt → Prop} (hK : Free.Back l R p e below s args y 3 W Pre Post)
    {g : JFrame} (hg : g.method = m) (hsize : g.locals.size = c.maxLocals) {a : Addr} {cell : Cell} (hcell : T.heap[a]? = some cell) (hobj : ∀ q, cell.vm ≠ .statics q)
    {argsL rest : List Value} (hlen : ∀ sig, parseMethodDescriptor y.desc = some sig → argsL.length = sig.parameters.length)
    (hstack : g.stack = argsL.reverse ++ .ref a :: rest) (hW : 2 * g.monitorRoom + (rest.map fun v => v.category).sum ≤ W) (hdg : decode c.code g.pc = .ok (.invokevirtual index, 3))
    (hpre : ∀ vm₁, s.WarmedH vm₁ → Pre ⟨T.setVm vm₁, locs, cells, slots⟩ (.ref a :: argsL).toArray) :
    ∃ (v : Option Value) (vm₁ : Vm) (B : Free.Pt), Stand p l e R s m args below meth c B.U B.locs B.cells B.slots ∧ Post ⟨T.setVm vm₁, locs, cells, slots⟩ (.ref a :: argsL).toArray v B ∧
      Steps p.tables e below (T.setTop g) (B.U.setTop { g with pc := g.pc + 3, stack := v.toList ++ rest }) := by
  obtain ⟨mk, methM, hnamed, hmethM, hstM, habM⟩ := Cond.instanceMethod_spec hinst
  obtain ⟨methM', cM, hmethM', -, -, -, -, -, -, hsigM⟩ := Cond.code_spec hnamed hcode
  cases hmethM.symm.trans hmethM'
  obtain ⟨c2, kP, q1, hkP, -, q4, -⟩ := Cond.instantiable_spec hsel
  cases (findClass_of_methodNamed hnamed).symm.trans q1
  have hkPi : kP.isInterface = false := (Bool.or_eq_false_iff.mp q4).1
  have hselP : selectMethod e.platform s.vm cell.cls mk = .method mk := selectMethod_private hmethM (hpriv mk methM hnamed hmethM)
  obtain ⟨vm₁, X₁, hstep₁⟩ := X.invokevirtual hexec hown hlink hnamed hmethM hstM hkP hkPi hy (a := a) (cell := cell) hcell hobj hselP hmethM habM hkP hkPi (g := g) hg (argsL := argsL) (rest := rest) (hlen _ hsigM) hstack hdg
  obtain ⟨v, B, X', hpost, hsteps⟩ := hK m meth c ⟨T.setVm vm₁, locs, cells, slots⟩ { g with stack := rest } (.invokevirtual index) mk (.ref a :: argsL).toArray X₁ hg hsize hdg hW (X₁.named hnamed) (hpre vm₁ X₁.warmed)
  exact ⟨v, vm₁, B, X', hpost, (hstep₁ _ fun acts => by rw [doInvoke_state]; exact Steps.refl _).trans hsteps⟩
/-- a private instance call that leaves all as it was -/
theorem own_callPP (X : Stand p l e R s m args below meth c T locs cells slots) (hx : p.tables.exec = Jvm.exec) (hZ : Z.Warmed39 s.vm) (hown : s.vm.findClass own = some m.cls) {index : Nat} {C : String} {y : MethodName} {bytes : ByteArray} {maxL : Nat} {ret : Option FieldType} {fr lo ns : Nat}
    (w1 : (Cond.methodLink own index y).before a0 Z = true) (w2 : (Cond.privateMethod y).before a0 Z = true) (w5 : (Cond.instantiable y.cls ns).before a0 Z = true) (w6 : (Cond.instanceMethod y).before a0 Z = true) (w3 : (Cond.initialized y.cls).before a0 Z = true) (w4 : (Cond.code y bytes maxL ret).before a0 Z = true) (hy : y.cls ≠ "java/lang/invoke/MethodHandle" ∧ y.cls ≠ "java/lang/invoke/VarHandle")
    (eT : T.heap = h) {a : Addr} (E : Exa Z h a C) (argsL : List Value) {ps : List FieldType} {r : Option FieldType} (hpd : parseMethodDescriptor y.desc = some ⟨ps, r⟩) (hlen : argsL.length = ps.length) {q : Option Value → Prop}
    (hM : MetFree l y (head1 [Cond.code y bytes maxL ret] { frames := fr, cells := 0, slots := 0, locals := lo }) (fun b U => b = (.ref a :: argsL).toArray ∧ Z.Warmed39 U.vm ∧ U.heap = h) (fun _ _ _ _ _ => True) (fun _ U o U' => own_Fin U 0 0 (fun v h' L => q v ∧ L = [] ∧ h' = h) o U'))
    (hsize : ls.length = c.maxLocals) (W : Nat) {full : List Value} (hst : full = argsL.reverse ++ .ref a :: st) (hW : (st.map fun v => v.category).sum ≤ W) (hd : decode c.code pc = .ok (.invokevirtual index, 3)) (hf : fr + 1 ≤ R.frames) (hl : W + (maxL + 11) + lo ≤ R.locals)
    (hcc : cells ≤ R.cells) (hss : slots ≤ R.slots)
    (k : ∀ T' v, Stand p l e R s m args below meth c T' locs cells slots → T'.heap = h → q v → own_Go p.tables e below Q (T'.setTop (mkF m (pc + 3) (Array.mk ls) (v.toList ++ st)))) :
    own_Go p.tables e below Q (T.setTop (mkF m pc (Array.mk ls) full)) := by
  subst hst
  obtain ⟨cell, k0, e1, e2, e3, e4, -⟩ := E
  obtain ⟨v, vm1, ⟨T', L', k', n'⟩, X', ⟨Lc, hq, l1, y1, z1⟩, st'⟩ := own_privB X hx (y := y) hown (mvT hZ w1) (mvT hZ w6) (mvT hZ w5) (Cond.privateMethod_at (args := #[]) (mvT hZ w2)) (mvT hZ w4) hy (backOf (W := W) (Q := fun v h' L => q v ∧ L = [] ∧ h' = h) hM hZ w4 w3 hf hl) (g := mkF m pc (Array.mk ls) (argsL.reverse ++ .ref a :: st)) rfl hsize (a := a) (cell := cell) (by rw [eT]; exact e1) (fun q hq => by rw [hq] at e4; cases e4) (argsL := argsL) (rest := st) (lenOf hpd hlen) rfl (by show 2 * 0 + _ ≤ _; omega) hd (fun _ _ => ⟨rfl, eT, hcc, hss⟩)
  dsimp only [Pt.U, Pt.locs, Pt.cells, Pt.slots] at X' l1 y1 z1 st' hq
  subst l1 y1 z1
  obtain ⟨h1, rfl, h3⟩ := hq
  rw [List.append_nil] at X'
  exact own_go (fun t k => st'.trans k) (k T' v X' h3 h1)
/-- Math.min of doubles that are no NaNs -/
theorem own_minDD (X : Stand p l e R s m args below meth c T locs cells slots) (hx : p.tables.exec = Jvm.exec) (hZ : Z.Warmed39 s.vm) (hown : s.vm.findClass own = some m.cls) {index : Nat} {by0 : ByteArray} (hby0 : by0 = Jvm.Free.Fl.Abs.minDCode)
    (w1 : (Cond.methodLink own index ⟨"java/lang/Math", "min", "(DD)D"⟩).before a0 Z = true) (w2 : (Cond.static ⟨"java/lang/Math", "min", "(DD)D"⟩).before a0 Z = true) (w3 : (Cond.initialized "java/lang/Math").before a0 Z = true) (w4 : (Cond.code ⟨"java/lang/Math", "min", "(DD)D"⟩ by0 4 (some .double)).before a0 Z = true)
    (eT : T.heap = h) {x y : UInt64} (nx : Jvm.Free.Fl.NoNaN64 x) (ny : Jvm.Free.Fl.NoNaN64 y) (hsize : ls.length = c.maxLocals) (W : Nat) (hW : (st.map fun v => v.category).sum ≤ W) (hd : decode c.code pc = .ok (.invokestatic index, 3)) (hf : 1 ≤ R.frames) (hl : W + 15 ≤ R.locals) (hcc : cells ≤ R.cells) (hss : slots ≤ R.slots)
    (k : ∀ T', Stand p l e R s m args below meth c T' locs cells slots → T'.heap = h → own_Go p.tables e below Q (T'.setTop (mkF m (pc + 3) (Array.mk ls) (.double (Native.java_lang_Math.nans.pick64 false x y) :: st)))) :
    own_Go p.tables e below Q (T.setTop (mkF m pc (Array.mk ls) (.double y :: .double x :: st))) := by
  subst hby0
  obtain ⟨T', X', e', st'⟩ := natS X hx hZ hown w1 w2 w3 w4 (by decide) eT (W := W) (fun hc => Jvm.Free.Fl.Abs.minD_pays x y hc hf hl) (g := mkF m pc (Array.mk ls) (.double y :: .double x :: st)) rfl hsize (argsL := [.double x, .double y]) (rest := st) (lenOf (ps := [.double, .double]) (r := some .double) (by decide +kernel) rfl) rfl (by show 2 * 0 + _ ≤ _; omega) hd hcc hss ⟨rfl, nx, ny⟩ rfl
  exact own_go st' (k T' X' e')
end OwnHeap3
/-! OWN KIT 3: doubles by their value in units of 2^-1074; rounding is monotone; what is a whole number of 2^-g and small is exact -/
def own_z (a : UInt64) : Int := FP.Core.zval FP.Core.b64 (FP.Core.val64 a)
def own_num (a : UInt64) : Prop := FP.Core.val64 a ≠ .nan
theorem own_fin_num {a : UInt64} (h : FP.Core.DFin a) : own_num a := FP.Core.DFin.ne_nan h
theorem own_nn {a : UInt64} (h : own_num a) : Jvm.Free.Fl.NoNaN64 a := Jvm.Free.Fl.val64_no.mpr h
theorem own_cmp {a b : UInt64} (ha : own_num a) (hb : own_num b) : FP.dcmp a b = some (compare (own_z a) (own_z b)) := FP.Core.dcmp_zval ha hb
theorem own_lt {a b : UInt64} (ha : own_num a) (hb : own_num b) (h : own_z a < own_z b) : FP.dcmp a b = some .lt := FP.Core.dcmp_lt.mpr ⟨ha, hb, h⟩
theorem own_gt {a b : UInt64} (ha : own_num a) (hb : own_num b) (h : own_z b < own_z a) : FP.dcmp a b = some .gt := FP.Core.dcmp_gt.mpr ⟨ha, hb, h⟩
theorem own_eq {a b : UInt64} (ha : own_num a) (hb : own_num b) (h : own_z a = own_z b) : FP.dcmp a b = some .eq := FP.Core.dcmp_eq.mpr ⟨ha, hb, h⟩
theorem own_num_add {a b : UInt64} (ha : FP.Core.DFin a) (hb : FP.Core.DFin b) : own_num (FP.dadd a b) :=
  Jvm.Free.Fl.val64_no.mp (Jvm.Free.Fl.dadd_out (own_nn (own_fin_num ha)) (Jvm.Free.Fl.fin64_core.mpr hb))
theorem own_num_sub {a b : UInt64} (ha : FP.Core.DFin a) (hb : FP.Core.DFin b) : own_num (FP.dsub a b) :=
  Jvm.Free.Fl.val64_no.mp (Jvm.Free.Fl.dsub_out (own_nn (own_fin_num ha)) (Jvm.Free.Fl.fin64_core.mpr hb))
theorem own_num_mul {a b : UInt64} (ha : FP.Core.DFin a) (hb : FP.Core.DFin b) : own_num (FP.dmul a b) :=
  Jvm.Free.Fl.val64_no.mp (Jvm.Free.Fl.dmul_out (Jvm.Free.Fl.fin64_core.mpr ha) (Jvm.Free.Fl.fin64_core.mpr hb))
theorem own_num_div {a b : UInt64} (ha : own_num a) (hb : FP.Core.DFin b) (hz : own_z b ≠ 0) : own_num (FP.ddiv a b) := by
  refine Jvm.Free.Fl.val64_no.mp (Jvm.Free.Fl.ddiv_out (own_nn ha) (Jvm.Free.Fl.fin64_core.mpr hb) ((Jvm.Free.Fl.nz64_iff b).mpr fun q => hz ?_))
  exact (FP.Core.zval_eq_zero (own_fin_num hb)).mpr q
theorem own_add_le {a b v : UInt64} (ha : FP.Core.DFin a) (hb : FP.Core.DFin b) (hv : own_num v) (h : own_z a + own_z b ≤ own_z v) : own_z (FP.dadd a b) ≤ own_z v := by
  show FP.Core.zval FP.Core.b64 (FP.Core.val64 (FP.Core.dadd a b)) ≤ _
  rw [FP.Core.val64_dadd]
  exact FP.Core.sum_le FP.Core.good_b64 ha hb (FP.Core.val64_fits _) (FP.Core.val64_fits _) (FP.Core.val64_fits _) hv h
theorem own_add_ge {a b v : UInt64} (ha : FP.Core.DFin a) (hb : FP.Core.DFin b) (hv : own_num v) (h : own_z v ≤ own_z a + own_z b) : own_z v ≤ own_z (FP.dadd a b) := by
  show _ ≤ FP.Core.zval FP.Core.b64 (FP.Core.val64 (FP.Core.dadd a b))
  rw [FP.Core.val64_dadd]
  exact FP.Core.sum_ge FP.Core.good_b64 ha hb (FP.Core.val64_fits _) (FP.Core.val64_fits _) (FP.Core.val64_fits _) hv h
theorem own_neg_fin {b : UInt64} (hb : FP.Core.DFin b) : ∃ s c q, FP.Core.negate (FP.Core.val64 b) = .fin s c q := by
  obtain ⟨s, c, q, e⟩ := hb
  exact ⟨!s, c, q, by rw [e]; rfl⟩
theorem own_sub_le {a b v : UInt64} (ha : FP.Core.DFin a) (hb : FP.Core.DFin b) (hv : own_num v) (h : own_z a - own_z b ≤ own_z v) : own_z (FP.dsub a b) ≤ own_z v := by
  show FP.Core.zval FP.Core.b64 (FP.Core.val64 (FP.Core.dsub a b)) ≤ _
  rw [FP.Core.val64_dsub]
  exact FP.Core.sum_le FP.Core.good_b64 ha (own_neg_fin hb) (FP.Core.val64_fits _) (FP.Core.negate_fits (FP.Core.val64_fits _)) (FP.Core.val64_fits _) hv (by rw [FP.Core.zval_negate]; exact h)
theorem own_sub_ge {a b v : UInt64} (ha : FP.Core.DFin a) (hb : FP.Core.DFin b) (hv : own_num v) (h : own_z v ≤ own_z a - own_z b) : own_z v ≤ own_z (FP.dsub a b) := by
  show _ ≤ FP.Core.zval FP.Core.b64 (FP.Core.val64 (FP.Core.dsub a b))
  rw [FP.Core.val64_dsub]
  exact FP.Core.sum_ge FP.Core.good_b64 ha (own_neg_fin hb) (FP.Core.val64_fits _) (FP.Core.negate_fits (FP.Core.val64_fits _)) (FP.Core.val64_fits _) hv (by rw [FP.Core.zval_negate]; exact h)
theorem own_pow1 : 2 ^ (FP.Core.b64.qmin - 2 * FP.Core.b64.qmin).toNat = FP.Core.one64 := by
  rw [← FP.Core.pow_qmin64, FP.Core.qmin_b64]; rfl
theorem own_mul_le {a b v : UInt64} (ha : FP.Core.DFin a) (hb : FP.Core.DFin b) (hv : own_num v) (h : own_z a * own_z b ≤ own_z v * (FP.Core.one64 : Int)) : own_z (FP.dmul a b) ≤ own_z v := by
  obtain ⟨s, c, q, e1⟩ := ha
  obtain ⟨t, d, r, e2⟩ := hb
  have f1 : FP.Core.fits FP.Core.b64 (.fin s c q) := e1 ▸ FP.Core.val64_fits a
  have f2 : FP.Core.fits FP.Core.b64 (.fin t d r) := e2 ▸ FP.Core.val64_fits b
  obtain ⟨g1, g2, g3⟩ := FP.Core.product_units f1 f2
  show FP.Core.zval FP.Core.b64 (FP.Core.val64 (FP.Core.dmul a b)) ≤ FP.Core.zval FP.Core.b64 (FP.Core.val64 v)
  unfold own_z at h
  rw [FP.Core.val64_dmul, e1, e2, g1]
  rw [e1, e2] at h
  have hq := FP.Core.qmin_neg FP.Core.good_b64
  refine FP.Core.zval_round_le FP.Core.good_b64 (e0 := 2 * FP.Core.b64.qmin) (FP.Core.val64_fits v) hv (by omega) g2 ?_
  rw [g3, own_pow1, FP.Core.signed_xor]
  exact h
theorem own_mul_ge {a b v : UInt64} (ha : FP.Core.DFin a) (hb : FP.Core.DFin b) (hv : own_num v) (h : own_z v * (FP.Core.one64 : Int) ≤ own_z a * own_z b) : own_z v ≤ own_z (FP.dmul a b) := by
  obtain ⟨s, c, q, e1⟩ := ha
  obtain ⟨t, d, r, e2⟩ := hb
  have f1 : FP.Core.fits FP.Core.b64 (.fin s c q) := e1 ▸ FP.Core.val64_fits a
  have f2 : FP.Core.fits FP.Core.b64 (.fin t d r) := e2 ▸ FP.Core.val64_fits b
  obtain ⟨g1, g2, g3⟩ := FP.Core.product_units f1 f2
  show FP.Core.zval FP.Core.b64 (FP.Core.val64 v) ≤ FP.Core.zval FP.Core.b64 (FP.Core.val64 (FP.Core.dmul a b))
  unfold own_z at h
  rw [FP.Core.val64_dmul, e1, e2, g1]
  rw [e1, e2] at h
  have hq := FP.Core.qmin_neg FP.Core.good_b64
  refine FP.Core.zval_round_ge FP.Core.good_b64 (e0 := 2 * FP.Core.b64.qmin) (FP.Core.val64_fits v) hv (by omega) g2 ?_
  rw [g3, own_pow1, FP.Core.signed_xor]
  exact h
/-- the quotient's magnitude against a double's -/
theorem own_div_mag {a b v : UInt64} {s t : Bool} {c d : Nat} {q r : Int} (e1 : FP.Core.val64 a = .fin s c q) (e2 : FP.Core.val64 b = .fin t d r) (hd : 0 < d) (hv : own_num v) :
    FP.Core.val64 (FP.ddiv a b) = FP.Core.roundRatio FP.Core.b64 (s != t) c d (q - r) ∧
    (FP.Core.zmag FP.Core.b64 (FP.Core.val64 a) * FP.Core.one64 ≤ FP.Core.zmag FP.Core.b64 (FP.Core.val64 v) * FP.Core.zmag FP.Core.b64 (FP.Core.val64 b) → FP.Core.zmag FP.Core.b64 (FP.Core.val64 (FP.ddiv a b)) ≤ FP.Core.zmag FP.Core.b64 (FP.Core.val64 v)) ∧
    (FP.Core.zmag FP.Core.b64 (FP.Core.val64 v) * FP.Core.zmag FP.Core.b64 (FP.Core.val64 b) ≤ FP.Core.zmag FP.Core.b64 (FP.Core.val64 a) * FP.Core.one64 → FP.Core.zmag FP.Core.b64 (FP.Core.val64 v) ≤ FP.Core.zmag FP.Core.b64 (FP.Core.val64 (FP.ddiv a b))) := by
  have f1 : FP.Core.fits FP.Core.b64 (.fin s c q) := e1 ▸ FP.Core.val64_fits a
  have f2 : FP.Core.fits FP.Core.b64 (.fin t d r) := e2 ▸ FP.Core.val64_fits b
  have hq := FP.Core.qmin_b64
  have k1 := f1.2.1
  have k2 := f2.2.1
  have E : FP.Core.val64 (FP.ddiv a b) = FP.Core.roundRatio FP.Core.b64 (s != t) c d (q - r) := by
    show FP.Core.val64 (FP.Core.ddiv a b) = _
    rw [FP.Core.val64_ddiv, e1, e2]
    show (if d = 0 then _ else _) = _
    rw [if_neg (by omega)]
  have A1 : FP.Core.inUnits c (q - r) (FP.Core.b64.qmin - (r - FP.Core.b64.qmin)) = FP.Core.zmag FP.Core.b64 (FP.Core.val64 a) * FP.Core.one64 := by
    rw [e1]
    show c * 2 ^ _ = c * 2 ^ _ * 2 ^ 1074
    rw [Nat.mul_assoc, ← Nat.pow_add]
    congr 2
    omega
  have A2 : 2 ^ (FP.Core.b64.qmin - (FP.Core.b64.qmin - (r - FP.Core.b64.qmin))).toNat * d = FP.Core.zmag FP.Core.b64 (FP.Core.val64 b) := by
    rw [e2]
    show _ = d * 2 ^ _
    rw [Nat.mul_comm]
    congr 2
    omega
  refine ⟨E, fun h => ?_, fun h => ?_⟩
  · rw [E]
    refine FP.Core.zmag_roundRatio_le FP.Core.good_b64 (e0 := FP.Core.b64.qmin - (r - FP.Core.b64.qmin)) hd (FP.Core.val64_fits v) hv (by omega) (by omega) ?_
    rw [A1, Nat.mul_assoc, A2]; exact h
  · rw [E]
    refine FP.Core.zmag_roundRatio_ge FP.Core.good_b64 (e0 := FP.Core.b64.qmin - (r - FP.Core.b64.qmin)) hd (FP.Core.val64_fits v) (by omega) (by omega) ?_
    rw [A1, Nat.mul_assoc, A2]; exact h
theorem own_signed_cases (s : Bool) (m : Nat) : (s = false ∧ FP.Core.signed s m = (m : Int)) ∨ (s = true ∧ FP.Core.signed s m = -(m : Int)) := by
  cases s
  · exact Or.inl ⟨rfl, rfl⟩
  · exact Or.inr ⟨rfl, rfl⟩
theorem own_div_le {a b v : UInt64} (ha : FP.Core.DFin a) (hb : FP.Core.DFin b) (hv : own_num v) (hp : 0 < own_z b) (h : own_z a * (FP.Core.one64 : Int) ≤ own_z v * own_z b) : own_z (FP.ddiv a b) ≤ own_z v := by
  obtain ⟨s, c, q, e1⟩ := ha
  obtain ⟨t, d, r, e2⟩ := hb
  have hz : own_z b = FP.Core.signed t (FP.Core.zmag FP.Core.b64 (FP.Core.val64 b)) := by unfold own_z FP.Core.zval; rw [e2]; rfl
  have ht : t = false := by
    rcases own_signed_cases t (FP.Core.zmag FP.Core.b64 (FP.Core.val64 b)) with q | q
    · exact q.1
    · rw [hz, q.2] at hp; omega
  subst ht
  have hz' : own_z b = (FP.Core.zmag FP.Core.b64 (FP.Core.val64 b) : Int) := hz
  have hd : 0 < d := by
    rcases Nat.eq_zero_or_pos d with q0 | q0
    · subst q0
      rw [hz', e2] at hp
      have : FP.Core.zmag FP.Core.b64 (.fin false 0 r) = 0 := Nat.zero_mul _
      rw [this] at hp; omega
    · exact q0
  obtain ⟨E, L, G⟩ := own_div_mag (v := v) e1 e2 hd hv
  have hsr : FP.Core.sgn (FP.Core.val64 (FP.ddiv a b)) = s := by rw [E, FP.Core.sgn_roundRatio]; cases s <;> rfl
  have za : own_z a = FP.Core.signed s (FP.Core.zmag FP.Core.b64 (FP.Core.val64 a)) := by unfold own_z FP.Core.zval; rw [e1]; rfl
  have zr : own_z (FP.ddiv a b) = FP.Core.signed s (FP.Core.zmag FP.Core.b64 (FP.Core.val64 (FP.ddiv a b))) := by unfold own_z FP.Core.zval; rw [hsr]
  have zv : own_z v = FP.Core.signed (FP.Core.sgn (FP.Core.val64 v)) (FP.Core.zmag FP.Core.b64 (FP.Core.val64 v)) := rfl
  rw [za, hz'] at h
  rw [hz'] at hp
  rw [zr]
  generalize FP.Core.zmag FP.Core.b64 (FP.Core.val64 (FP.ddiv a b)) = R at *
  generalize FP.Core.zmag FP.Core.b64 (FP.Core.val64 a) = A at *
  generalize FP.Core.zmag FP.Core.b64 (FP.Core.val64 b) = B at *
  generalize FP.Core.zmag FP.Core.b64 (FP.Core.val64 v) = V at *
  have hU := FP.Core.one64_pos
  generalize FP.Core.one64 = U at *
  rcases own_signed_cases s A with ⟨rfl, h1⟩ | ⟨rfl, h1⟩
  · rw [h1] at h
    have hn : 0 ≤ own_z v := by
      rcases Int.lt_or_le (own_z v) 0 with q | q
      · have := Int.mul_neg_of_neg_of_pos q hp
        have := Int.mul_nonneg (Int.natCast_nonneg A) (Int.natCast_nonneg U)
        omega
      · exact q
    have hvV : own_z v = (V : Int) := by
      rcases own_signed_cases (FP.Core.sgn (FP.Core.val64 v)) V with q | q
      · rw [zv]; exact q.2
      · rw [zv, q.2] at hn; rw [zv, q.2]; omega
    rw [hvV] at h ⊢
    have := L (by exact_mod_cast h)
    show (R : Int) ≤ V
    omega
  · rw [h1] at h
    show -(R : Int) ≤ own_z v
    rcases Int.lt_or_le (own_z v) 0 with q | q
    · have hvV : own_z v = -(V : Int) := by
        rcases own_signed_cases (FP.Core.sgn (FP.Core.val64 v)) V with q' | q'
        · rw [zv, q'.2] at q; omega
        · rw [zv]; exact q'.2
      rw [hvV] at h ⊢
      rw [Int.neg_mul, Int.neg_mul] at h
      have := G (by exact_mod_cast (by omega : (V : Int) * B ≤ A * U))
      omega
    · omega
theorem own_div_ge {a b v : UInt64} (ha : FP.Core.DFin a) (hb : FP.Core.DFin b) (hv : own_num v) (hp : 0 < own_z b) (h : own_z v * own_z b ≤ own_z a * (FP.Core.one64 : Int)) : own_z v ≤ own_z (FP.ddiv a b) := by
  have nz : ∀ x : UInt64, own_z (FP.Core.dneg x) = -own_z x := fun x => by
    unfold own_z
    rw [FP.Core.val64_dneg, FP.Core.zval_negate]
  have nf : FP.Core.DFin (FP.Core.dneg a) := by
    obtain ⟨s, c, q, e⟩ := ha
    exact ⟨!s, c, q, by rw [FP.Core.val64_dneg, e]; rfl⟩
  have nn : own_num (FP.Core.dneg v) := by
    unfold own_num
    rw [FP.Core.val64_dneg]
    exact FP.Core.negate_ne_nan hv
  have q := own_div_le (a := FP.Core.dneg a) (v := FP.Core.dneg v) nf hb nn hp (by rw [nz, nz, Int.neg_mul, Int.neg_mul]; omega)
  have e : FP.ddiv (FP.Core.dneg a) b = FP.Core.dneg (FP.ddiv a b) := FP.Core.ddiv_dneg a b
  rw [e, nz, nz] at q
  omega
/-- a is the number N / 2^g -/
def own_D (g : Nat) (N : Int) (a : UInt64) : Prop := FP.Core.DFin a ∧ own_z a = N * ((2 ^ (1074 - g) : Nat) : Int)
theorem own_rep (g : Nat) (hg : g ≤ 1074) (N : Int) (hN : N.natAbs < 9007199254740992) : ∃ v, own_D g N v := by
  have hq := FP.Core.qmin_b64
  obtain ⟨c', q', e1, e2⟩ := FP.Core.round_exact FP.Core.good_b64 (decide (N < 0)) (c := N.natAbs) (q := -(g : Int)) (by rw [show (2 : Nat) ^ FP.Core.b64.p = 9007199254740992 from by decide]; exact hN) (by omega) (by rw [show FP.Core.b64.qmax = 971 from by decide]; omega)
  have e3 : FP.Core.val64 (FP.Core.of64 (FP.Core.round FP.Core.b64 (.fin (decide (N < 0)) N.natAbs (-(g : Int))))) = .fin (decide (N < 0)) c' q' := by
    rw [FP.Core.val64_of64 (FP.Core.round_fits FP.Core.good_b64 _), e1]
  refine ⟨_, ⟨_, _, _, e3⟩, ?_⟩
  unfold own_z
  rw [e3]
  show FP.Core.signed (decide (N < 0)) (FP.Core.inUnits c' q' FP.Core.b64.qmin) = _
  rw [e2]
  have e4 : FP.Core.inUnits N.natAbs (-(g : Int)) FP.Core.b64.qmin = N.natAbs * 2 ^ (1074 - g) := by
    show _ * 2 ^ _ = _
    rw [hq, show (-(g : Int) - -1074).toNat = 1074 - g by omega]
  rw [e4, FP.Core.signed_mul]
  congr 1
  rcases own_signed_cases (decide (N < 0)) N.natAbs with ⟨h1, h2⟩ | ⟨h1, h2⟩
  · rw [h2]
    have := of_decide_eq_false h1
    omega
  · rw [h2]
    have := of_decide_eq_true h1
    omega
theorem own_D.num {g : Nat} {N : Int} {a : UInt64} (h : own_D g N a) : own_num a := own_fin_num h.1
theorem own_u_pos (g : Nat) : (0 : Int) < ((2 ^ (1074 - g) : Nat) : Int) := by
  have := Nat.two_pow_pos (1074 - g)
  omega
theorem own_one (g : Nat) (hg : g ≤ 1074) : (FP.Core.one64 : Int) = ((2 ^ g : Nat) : Int) * ((2 ^ (1074 - g) : Nat) : Int) := by
  rw [← Int.natCast_mul, ← Nat.pow_add, show g + (1074 - g) = 1074 by omega]
  rfl
theorem own_fin_of {r c : UInt64} (hr : own_num r) (hc : FP.Core.DFin c) (h : own_z r = own_z c) : FP.Core.DFin r := by
  have h1 := FP.Core.DFin.zval_lt hc
  cases hv : FP.Core.val64 r with
  | nan => exact absurd hv hr
  | fin s c q => exact ⟨s, c, q, hv⟩
  | inf s =>
    exfalso
    unfold own_z FP.Core.zval at h
    rw [hv] at h
    have h2 := congrArg Int.natAbs h
    rw [FP.Core.natAbs_signed, FP.Core.natAbs_signed] at h2
    rw [← h2] at h1
    exact Nat.lt_irrefl _ h1
theorem own_D.of_le_ge {g : Nat} {N : Int} {r v : UInt64} (hr : own_num r) (hv : own_D g N v) (h1 : own_z r ≤ own_z v) (h2 : own_z v ≤ own_z r) : own_D g N r := by
  have e : own_z r = own_z v := by omega
  exact ⟨own_fin_of hr hv.1 e, e.trans hv.2⟩
theorem own_D.add {g : Nat} (hg : g ≤ 1074) {N M : Int} {a b : UInt64} (ha : own_D g N a) (hb : own_D g M b) (h : (N + M).natAbs < 9007199254740992) : own_D g (N + M) (FP.dadd a b) := by
  obtain ⟨v, hv⟩ := own_rep g hg _ h
  have e : own_z a + own_z b = own_z v := by rw [ha.2, hb.2, hv.2, Int.add_mul]
  exact own_D.of_le_ge (own_num_add ha.1 hb.1) hv (own_add_le ha.1 hb.1 hv.num (by omega)) (own_add_ge ha.1 hb.1 hv.num (by omega))
theorem own_D.sub {g : Nat} (hg : g ≤ 1074) {N M : Int} {a b : UInt64} (ha : own_D g N a) (hb : own_D g M b) (h : (N - M).natAbs < 9007199254740992) : own_D g (N - M) (FP.dsub a b) := by
  obtain ⟨v, hv⟩ := own_rep g hg _ h
  have e : own_z a - own_z b = own_z v := by rw [ha.2, hb.2, hv.2, Int.sub_mul]
  exact own_D.of_le_ge (own_num_sub ha.1 hb.1) hv (own_sub_le ha.1 hb.1 hv.num (by omega)) (own_sub_ge ha.1 hb.1 hv.num (by omega))
/-- the value of a product against K / 2^g -/
theorem own_mul_z {g : Nat} (hg : g ≤ 1074) {N M K : Int} {a b v : UInt64} (ha : own_D g N a) (hb : own_D g M b) (hv : own_D g K v) :
    (N * M ≤ K * ((2 ^ g : Nat) : Int) → own_z a * own_z b ≤ own_z v * (FP.Core.one64 : Int)) ∧ (K * ((2 ^ g : Nat) : Int) ≤ N * M → own_z v * (FP.Core.one64 : Int) ≤ own_z a * own_z b) := by
  rw [ha.2, hb.2, hv.2, own_one g hg]
  have hu := own_u_pos g
  generalize ((2 ^ (1074 - g) : Nat) : Int) = u at *
  generalize ((2 ^ g : Nat) : Int) = G at *
  have e1 : N * u * (M * u) = (N * M) * (u * u) := by rw [Int.mul_assoc, Int.mul_left_comm u M u, ← Int.mul_assoc N M]
  have e2 : K * u * (G * u) = (K * G) * (u * u) := by rw [Int.mul_assoc, Int.mul_left_comm u G u, ← Int.mul_assoc K G]
  rw [e1, e2]
  have hp : 0 ≤ u * u := Int.mul_nonneg (by omega) (by omega)
  exact ⟨fun h => Int.mul_le_mul_of_nonneg_right h hp, fun h => Int.mul_le_mul_of_nonneg_right h hp⟩
theorem own_D.mul {g : Nat} (hg : g ≤ 1074) {N M K : Int} {a b : UInt64} (ha : own_D g N a) (hb : own_D g M b) (e : N * M = K * ((2 ^ g : Nat) : Int)) (h : K.natAbs < 9007199254740992) : own_D g K (FP.dmul a b) := by
  obtain ⟨v, hv⟩ := own_rep g hg _ h
  have q := own_mul_z hg ha hb hv
  exact own_D.of_le_ge (own_num_mul ha.1 hb.1) hv (own_mul_le ha.1 hb.1 hv.num (q.1 (by omega))) (own_mul_ge ha.1 hb.1 hv.num (q.2 (by omega)))
theorem own_div_z {g : Nat} (hg : g ≤ 1074) {N M K : Int} {a b v : UInt64} (ha : own_D g N a) (hb : own_D g M b) (hv : own_D g K v) :
    (N * ((2 ^ g : Nat) : Int) ≤ K * M → own_z a * (FP.Core.one64 : Int) ≤ own_z v * own_z b) ∧ (K * M ≤ N * ((2 ^ g : Nat) : Int) → own_z v * own_z b ≤ own_z a * (FP.Core.one64 : Int)) := by
  rw [ha.2, hb.2, hv.2, own_one g hg]
  have hu := own_u_pos g
  generalize ((2 ^ (1074 - g) : Nat) : Int) = u at *
  generalize ((2 ^ g : Nat) : Int) = G at *
  have e1 : N * u * (G * u) = (N * G) * (u * u) := by rw [Int.mul_assoc, Int.mul_left_comm u G u, ← Int.mul_assoc N G]
  have e2 : K * u * (M * u) = (K * M) * (u * u) := by rw [Int.mul_assoc, Int.mul_left_comm u M u, ← Int.mul_assoc K M]
  rw [e1, e2]
  have hp : 0 ≤ u * u := Int.mul_nonneg (by omega) (by omega)
  exact ⟨fun h => Int.mul_le_mul_of_nonneg_right h hp, fun h => Int.mul_le_mul_of_nonneg_right h hp⟩
theorem own_D.pos {g : Nat} {M : Int} {b : UInt64} (hb : own_D g M b) (h : 0 < M) : 0 < own_z b := by
  rw [hb.2]
  exact Int.mul_pos h (own_u_pos g)
theorem own_D.ne {g : Nat} {M : Int} {b : UInt64} (hb : own_D g M b) (h : M ≠ 0) : own_z b ≠ 0 := by
  rw [hb.2]
  exact Int.mul_ne_zero h (by have := own_u_pos g; omega)
theorem own_D.div {g : Nat} (hg : g ≤ 1074) {N M K : Int} {a b : UInt64} (ha : own_D g N a) (hb : own_D g M b) (hM : 0 < M) (e : N * ((2 ^ g : Nat) : Int) = K * M) (h : K.natAbs < 9007199254740992) : own_D g K (FP.ddiv a b) := by
  obtain ⟨v, hv⟩ := own_rep g hg _ h
  have q := own_div_z hg ha hb hv
  exact own_D.of_le_ge (own_num_div ha.num hb.1 (hb.ne (by omega))) hv (own_div_le ha.1 hb.1 hv.num (hb.pos hM) (q.1 (by omega))) (own_div_ge ha.1 hb.1 hv.num (hb.pos hM) (q.2 (by omega)))
/-- bounds on a rounded quotient, by numbers K / 2^g -/
theorem own_div_hi {g : Nat} (hg : g ≤ 1074) {N M K : Int} {a b : UInt64} (ha : own_D g N a) (hb : own_D g M b) (hM : 0 < M) (h : N * ((2 ^ g : Nat) : Int) ≤ K * M) (hK : K.natAbs < 9007199254740992) : own_z (FP.ddiv a b) ≤ K * ((2 ^ (1074 - g) : Nat) : Int) := by
  obtain ⟨v, hv⟩ := own_rep g hg _ hK
  rw [← hv.2]
  exact own_div_le ha.1 hb.1 hv.num (hb.pos hM) ((own_div_z hg ha hb hv).1 h)
theorem own_div_lo {g : Nat} (hg : g ≤ 1074) {N M K : Int} {a b : UInt64} (ha : own_D g N a) (hb : own_D g M b) (hM : 0 < M) (h : K * M ≤ N * ((2 ^ g : Nat) : Int)) (hK : K.natAbs < 9007199254740992) : K * ((2 ^ (1074 - g) : Nat) : Int) ≤ own_z (FP.ddiv a b) := by
  obtain ⟨v, hv⟩ := own_rep g hg _ hK
  rw [← hv.2]
  exact own_div_ge ha.1 hb.1 hv.num (hb.pos hM) ((own_div_z hg ha hb hv).2 h)
/-- a number between two doubles' values is finite -/
theorem own_fin_btw {g : Nat} (hg : g ≤ 1074) {A B : Int} {r : UInt64} (hr : own_num r) (h1 : A * ((2 ^ (1074 - g) : Nat) : Int) ≤ own_z r) (h2 : own_z r ≤ B * ((2 ^ (1074 - g) : Nat) : Int)) (hA : A.natAbs < 9007199254740992) (hB : B.natAbs < 9007199254740992) : FP.Core.DFin r := by
  obtain ⟨va, ha⟩ := own_rep g hg _ hA
  obtain ⟨vb, hb⟩ := own_rep g hg _ hB
  rw [← ha.2] at h1
  rw [← hb.2] at h2
  cases hv : FP.Core.val64 r with
  | nan => exact absurd hv hr
  | fin s c q => exact ⟨s, c, q, hv⟩
  | inf s =>
    exfalso
    have la := FP.Core.DFin.zval_lt ha.1
    have lb := FP.Core.DFin.zval_lt hb.1
    have e : own_z r = FP.Core.signed s (FP.Core.b64.tails * 2 ^ (FP.Core.b64.exps - 2)) := by unfold own_z FP.Core.zval; rw [hv]; rfl
    have na : (own_z va).natAbs = FP.Core.zmag FP.Core.b64 (FP.Core.val64 va) := FP.Core.natAbs_signed _ _
    have nb : (own_z vb).natAbs = FP.Core.zmag FP.Core.b64 (FP.Core.val64 vb) := FP.Core.natAbs_signed _ _
    rw [← na] at la
    rw [← nb] at lb
    generalize FP.Core.b64.tails * 2 ^ (FP.Core.b64.exps - 2) = top at *
    rcases own_signed_cases s top with ⟨-, q⟩ | ⟨-, q⟩ <;> rw [q] at e <;> omega
theorem own_D.up {g : Nat} {N : Int} {a : UInt64} (h : own_D g N a) (j : Nat) (hj : g + j ≤ 1074) : own_D (g + j) (N * ((2 ^ j : Nat) : Int)) a := by
  refine ⟨h.1, ?_⟩
  rw [h.2, Int.mul_assoc, ← Int.natCast_mul, ← Nat.pow_add, show j + (1074 - (g + j)) = 1074 - g by omega]
theorem own_D.int {i : Int} {a : UInt64} (h : FP.Core.DInt i a) : own_D 0 i a := by
  refine ⟨?_, ?_⟩
  · have h' : FP.Core.Whole i (FP.Core.val64 a) := h
    cases hv : FP.Core.val64 a with
    | nan => rw [hv] at h'; exact h'.elim
    | inf s => rw [hv] at h'; exact h'.elim
    | fin s c q => exact ⟨s, c, q, hv⟩
  · exact FP.Core.DInt_zval h
theorem own_D.i2d (x : Int32) : own_D 0 x.toInt (FP.i2d x) := own_D.int (FP.Core.i2d_int x)
theorem own_D.l2d {x : Int64} (h : x.toInt.natAbs ≤ 9007199254740992) : own_D 0 x.toInt (FP.l2d x) := own_D.int (FP.Core.l2d_int h)
/-- an int at the granularity g -/
theorem own_D.i2dg (g : Nat) (hg : g ≤ 1074) (x : Int32) : own_D g (x.toInt * ((2 ^ g : Nat) : Int)) (FP.i2d x) := by
  have := (own_D.i2d x).up g (by omega)
  rw [Nat.zero_add] at this
  exact this
theorem own_D.l2dg (g : Nat) (hg : g ≤ 1074) {x : Int64} (h : x.toInt.natAbs ≤ 9007199254740992) : own_D g (x.toInt * ((2 ^ g : Nat) : Int)) (FP.l2d x) := by
  have := (own_D.l2d h).up g (by omega)
  rw [Nat.zero_add] at this
  exact this
theorem own_D.lt {g : Nat} {N M : Int} {a b : UInt64} (ha : own_D g N a) (hb : own_D g M b) (h : N < M) : FP.dcmp a b = some .lt := own_lt ha.num hb.num (by rw [ha.2, hb.2]; exact Int.mul_lt_mul_of_pos_right h (own_u_pos g))
theorem own_D.gt {g : Nat} {N M : Int} {a b : UInt64} (ha : own_D g N a) (hb : own_D g M b) (h : M < N) : FP.dcmp a b = some .gt := own_gt ha.num hb.num (by rw [ha.2, hb.2]; exact Int.mul_lt_mul_of_pos_right h (own_u_pos g))
theorem own_D.eq {g : Nat} {N M : Int} {a b : UInt64} (ha : own_D g N a) (hb : own_D g M b) (h : N = M) : FP.dcmp a b = some .eq := own_eq ha.num hb.num (by rw [ha.2, hb.2, h])
theorem own_z_neg (a : UInt64) : own_z (FP.dneg a) = -own_z a := by
  unfold own_z
  rw [FP.val64_dneg, FP.Core.zval_negate]
theorem own_D.neg {g : Nat} {N : Int} {a : UInt64} (h : own_D g N a) : own_D g (-N) (FP.dneg a) := by
  refine ⟨?_, by rw [own_z_neg, h.2, Int.neg_mul]⟩
  obtain ⟨s, c, q, e⟩ := h.1
  exact ⟨!s, c, q, by rw [FP.val64_dneg, e]; rfl⟩
/-- (k t + r) / t, rounded, against k + c / 2^g -/
theorem own_quot {g : Nat} (hg : g ≤ 1074) {k r : Int} {T : Int64} {t : Int32} (hT : T.toInt = k * t.toInt + r) (hb : T.toInt.natAbs ≤ 9007199254740992) (ht : 0 < t.toInt) :
    own_num (FP.ddiv (FP.l2d T) (FP.i2d t)) ∧
    (r = 0 → (k * ((2 ^ g : Nat) : Int)).natAbs < 9007199254740992 → own_D g (k * ((2 ^ g : Nat) : Int)) (FP.ddiv (FP.l2d T) (FP.i2d t))) ∧
    (∀ c : Int, c * t.toInt ≤ r * ((2 ^ g : Nat) : Int) → (k * ((2 ^ g : Nat) : Int) + c).natAbs < 9007199254740992 → (k * ((2 ^ g : Nat) : Int) + c) * ((2 ^ (1074 - g) : Nat) : Int) ≤ own_z (FP.ddiv (FP.l2d T) (FP.i2d t))) ∧
    (∀ c : Int, r * ((2 ^ g : Nat) : Int) ≤ c * t.toInt → (k * ((2 ^ g : Nat) : Int) + c).natAbs < 9007199254740992 → own_z (FP.ddiv (FP.l2d T) (FP.i2d t)) ≤ (k * ((2 ^ g : Nat) : Int) + c) * ((2 ^ (1074 - g) : Nat) : Int)) ∧
    (∀ c : Int, r * ((2 ^ g : Nat) : Int) = c * t.toInt → (k * ((2 ^ g : Nat) : Int) + c).natAbs < 9007199254740992 → own_D g (k * ((2 ^ g : Nat) : Int) + c) (FP.ddiv (FP.l2d T) (FP.i2d t))) := by
  have d1 := own_D.l2dg g hg hb
  have d2 := own_D.i2dg g hg t
  have hG : (0 : Int) < ((2 ^ g : Nat) : Int) := by have := Nat.two_pow_pos g; omega
  have hM : 0 < t.toInt * ((2 ^ g : Nat) : Int) := Int.mul_pos ht hG
  have key : ∀ c : Int, (k * ((2 ^ g : Nat) : Int) + c) * (t.toInt * ((2 ^ g : Nat) : Int)) = (k * t.toInt * ((2 ^ g : Nat) : Int) + c * t.toInt) * ((2 ^ g : Nat) : Int) := by
    intro c
    rw [← Int.mul_assoc, Int.add_mul, Int.mul_right_comm]
  have key2 : T.toInt * ((2 ^ g : Nat) : Int) * ((2 ^ g : Nat) : Int) = (k * t.toInt * ((2 ^ g : Nat) : Int) + r * ((2 ^ g : Nat) : Int)) * ((2 ^ g : Nat) : Int) := by
    rw [hT, Int.add_mul (k * t.toInt)]
  have hn : own_num (FP.ddiv (FP.l2d T) (FP.i2d t)) := own_num_div d1.num d2.1 (d2.ne (by omega))
  have ex : ∀ c : Int, r * ((2 ^ g : Nat) : Int) = c * t.toInt → (k * ((2 ^ g : Nat) : Int) + c).natAbs < 9007199254740992 → own_D g (k * ((2 ^ g : Nat) : Int) + c) (FP.ddiv (FP.l2d T) (FP.i2d t)) :=
    fun c h hc => d1.div hg d2 hM (by rw [key, key2, h]) hc
  refine ⟨hn, fun h0 hc => ?_, fun c h hc => ?_, fun c h hc => ?_, ex⟩
  · have := ex 0 (by rw [h0]; omega) (by rw [Int.add_zero]; exact hc)
    rwa [Int.add_zero] at this
  · refine own_div_lo hg d1 d2 hM ?_ hc
    rw [key, key2]
    exact Int.mul_le_mul_of_nonneg_right (by omega) (by omega)
  · refine own_div_hi hg d1 d2 hM ?_ hc
    rw [key, key2]
    exact Int.mul_le_mul_of_nonneg_right (by omega) (by omega)
theorem own_D.uniq {g : Nat} {N M : Int} {a b : UInt64} (ha : own_D g N a) (hb : own_D g M b) (e : N = M) (h : M ≠ 0) : a = b :=
  FP.Core.eq_bits (fun z => hb.ne h (FP.Core.DZero.zval z)) (ha.eq hb e)
/-! OWN KIT 4: ints and longs by their whole numbers -/
theorem own_and32 (x m : Int32) (h : 0 ≤ m.toInt) : 0 ≤ (x &&& m).toInt ∧ (x &&& m).toInt ≤ m.toInt := by
  have e : (x &&& m).toBitVec.toNat = x.toBitVec.toNat &&& m.toBitVec.toNat := by
    show (x.toBitVec &&& m.toBitVec).toNat = _
    rw [BitVec.toNat_and]
  have h1 : x.toBitVec.toNat &&& m.toBitVec.toNat ≤ m.toBitVec.toNat := Nat.and_le_right
  have h2 := m.toBitVec.isLt
  have h3 : 0 ≤ m.toBitVec.toInt := h
  show 0 ≤ (x &&& m).toBitVec.toInt ∧ (x &&& m).toBitVec.toInt ≤ m.toBitVec.toInt
  rw [BitVec.toInt_eq_toNat_cond] at h3 ⊢
  rw [BitVec.toInt_eq_toNat_cond, e]
  split at h3
  · rw [if_pos (by omega), if_pos (by omega)]; omega
  · omega
theorem own_and64 (x m : Int64) (h : 0 ≤ m.toInt) : 0 ≤ (x &&& m).toInt ∧ (x &&& m).toInt ≤ m.toInt := by
  have e : (x &&& m).toBitVec.toNat = x.toBitVec.toNat &&& m.toBitVec.toNat := by
    show (x.toBitVec &&& m.toBitVec).toNat = _
    rw [BitVec.toNat_and]
  have h1 : x.toBitVec.toNat &&& m.toBitVec.toNat ≤ m.toBitVec.toNat := Nat.and_le_right
  have h2 := m.toBitVec.isLt
  have h3 : 0 ≤ m.toBitVec.toInt := h
  show 0 ≤ (x &&& m).toBitVec.toInt ∧ (x &&& m).toBitVec.toInt ≤ m.toBitVec.toInt
  rw [BitVec.toInt_eq_toNat_cond] at h3 ⊢
  rw [BitVec.toInt_eq_toNat_cond, e]
  split at h3
  · rw [if_pos (by omega), if_pos (by omega)]; omega
  · omega
theorem own_rng32 (x : Int32) : -2147483648 ≤ x.toInt ∧ x.toInt < 2147483648 := ⟨Int32.le_toInt x, Int32.toInt_lt x⟩
theorem own_rng64 (x : Int64) : -9223372036854775808 ≤ x.toInt ∧ x.toInt < 9223372036854775808 := ⟨Int64.le_toInt x, Int64.toInt_lt x⟩
theorem own_i2l (x : Int32) : x.toInt64.toInt = x.toInt := Int32.toInt_toInt64 x
theorem own_add64 {a b : Int64} (h : -9223372036854775808 ≤ a.toInt + b.toInt) (h' : a.toInt + b.toInt < 9223372036854775808) : (a + b).toInt = a.toInt + b.toInt := FP.Core.int64_add h h'
theorem own_sub64 {a b : Int64} (h : -9223372036854775808 ≤ a.toInt - b.toInt) (h' : a.toInt - b.toInt < 9223372036854775808) : (a - b).toInt = a.toInt - b.toInt := FP.Core.int64_sub h h'
theorem own_mul64 {a b : Int64} (h : -9223372036854775808 ≤ a.toInt * b.toInt) (h' : a.toInt * b.toInt < 9223372036854775808) : (a * b).toInt = a.toInt * b.toInt := FP.Core.int64_mul h h'
theorem own_add32 {a b : Int32} (h : -2147483648 ≤ a.toInt + b.toInt) (h' : a.toInt + b.toInt < 2147483648) : (a + b).toInt = a.toInt + b.toInt := by
  rw [Int32.toInt_add, Int.bmod_eq_of_le (by omega) (by omega)]
theorem own_sub32 {a b : Int32} (h : -2147483648 ≤ a.toInt - b.toInt) (h' : a.toInt - b.toInt < 2147483648) : (a - b).toInt = a.toInt - b.toInt := by
  rw [Int32.toInt_sub, Int.bmod_eq_of_le (by omega) (by omega)]
theorem own_mul32 {a b : Int32} (h : -2147483648 ≤ a.toInt * b.toInt) (h' : a.toInt * b.toInt < 2147483648) : (a * b).toInt = a.toInt * b.toInt := by
  rw [Int32.toInt_mul, Int.bmod_eq_of_le (by omega) (by omega)]
theorem own_rem32 (a b : Int32) : (a % b).toInt = a.toInt.tmod b.toInt := Int32.toInt_mod a b
theorem own_rem_pos {a b : Int32} (ha : 0 ≤ a.toInt) (hb : 0 < b.toInt) : 0 ≤ (a % b).toInt ∧ (a % b).toInt < b.toInt := by
  rw [own_rem32, Int.tmod_eq_emod_of_nonneg ha]
  exact ⟨Int.emod_nonneg _ (by omega), Int.emod_lt_of_pos _ hb⟩
/-- what a comparison of doubles pushes -/
theorem own_cv_lt {a b : UInt64} (h : FP.dcmp a b = some .lt) (o : CmpOp) : (cmpValue (FP.dcmp a b) o).toInt = -1 := by rw [h]; rfl
theorem own_cv_eq {a b : UInt64} (h : FP.dcmp a b = some .eq) (o : CmpOp) : (cmpValue (FP.dcmp a b) o).toInt = 0 := by rw [h]; rfl
theorem own_cv_gt {a b : UInt64} (h : FP.dcmp a b = some .gt) (o : CmpOp) : (cmpValue (FP.dcmp a b) o).toInt = 1 := by rw [h]; rfl
/-! OWN KIT 4 (behind MathD, MathI): the lesser of two doubles, comparisons by own_z -/
def own_mn (r x y : UInt64) : Prop := own_num r ∧ own_z r ≤ own_z x ∧ own_z r ≤ own_z y ∧ (own_z r = own_z x ∨ own_z r = own_z y)
theorem own_pick {x y : UInt64} (nx : own_num x) (ny : own_num y) : own_mn (Native.java_lang_Math.nans.pick64 false x y) x y := by
  rcases Int.lt_trichotomy (own_z x) (own_z y) with q | q | q
  · have e : Native.java_lang_Math.nans.pick64 false x y = x := by unfold Native.java_lang_Math.nans.pick64; rw [own_lt nx ny q]; rfl
    rw [e]; exact ⟨nx, by omega, by omega, Or.inl rfl⟩
  · rcases Jvm.Free.Fl.pick64_or false x y with e | e <;> rw [e]
    · exact ⟨nx, by omega, by omega, Or.inl rfl⟩
    · exact ⟨ny, by omega, by omega, Or.inr rfl⟩
  · have e : Native.java_lang_Math.nans.pick64 false x y = y := by unfold Native.java_lang_Math.nans.pick64; rw [own_gt nx ny q]; rfl
    rw [e]; exact ⟨ny, by omega, by omega, Or.inr rfl⟩
theorem own_gle {x y : UInt64} {k : CmpOp} (nx : own_num x) (ny : own_num y) (h : own_z x ≤ own_z y) : (cmpValue (FP.dcmp x y) k).toInt ≤ 0 := by
  rcases Int.lt_or_eq_of_le h with q | q
  · rw [own_cv_lt (own_lt nx ny q)]; omega
  · rw [own_cv_eq (own_eq nx ny q)]; omega
theorem own_ggt {x y : UInt64} {k : CmpOp} (nx : own_num x) (ny : own_num y) (h : own_z y < own_z x) : 0 < (cmpValue (FP.dcmp x y) k).toInt := by
  rw [own_cv_gt (own_gt nx ny h)]; omega
theorem own_infn : own_num 9218868437227405312 := by unfold own_num; decide +kernel
theorem own_i2d_inf (x : Int32) : own_z (FP.i2d x) < own_z 9218868437227405312 := by
  have h := (own_D.i2d x).2
  rw [h]
  have h1 := Int32.toInt_lt x
  have h2 : x.toInt * ((2 ^ (1074 - 0) : Nat) : Int) ≤ 2147483648 * ((2 ^ (1074 - 0) : Nat) : Int) := Int.mul_le_mul_of_nonneg_right (by omega) (by decide +kernel)
  have h3 : 2147483648 * ((2 ^ (1074 - 0) : Nat) : Int) < own_z 9218868437227405312 := by decide +kernel
  exact Int.lt_of_le_of_lt h2 h3
/-! OWN KIT 5 (behind Kit2): bytes, booleans, chars, statics; a constructor by a Back -/
section OwnMore
variable {p : Program} {l : Launch} {e : Env} {R : Room} {s : State} {m : MethodId} {args : Array Value} {below : List Frame} {meth : Method} {c : Code} {T : State} {locs : List Loc} {cells slots : Nat} {Z : State} {a0 : Array Value} {h h' : Heap} {Q : Outcome → State → Prop} {own : String} {pc : Nat} {ls : List Slot} {st : List Value}
/-- baload of a byte[] -/
theorem own_bB (X : Stand p l e R s m args below meth c T locs cells slots) (hx : p.tables.exec = Jvm.exec) (hZ : Z.Warmed39 s.vm) (eT : T.heap = h) {a : Addr} {j : Int32} {v : Value} (A : own_at Z h a .byte j v) (hd : decode c.code pc = .ok (.baload, 1))
    (k : own_Go p.tables e below Q (T.setTop (mkF m (pc + 1) (Array.mk ls) (v :: st)))) : own_Go p.tables e below Q (T.setTop (mkF m pc (Array.mk ls) (.int j :: .ref a :: st))) := by
  obtain ⟨cl, A, hin, hv⟩ := A
  exact own_go (X.baloadBytes hx (by rw [eT]; exact A.1) (State.isArrayOf_alike hZ.alike A.2.1) A.2.2 hin hv (g := mkF m pc (Array.mk ls) (.int j :: .ref a :: st)) rfl rfl hd) k
/-- baload of a boolean[] -/
theorem own_bZ (X : Stand p l e R s m args below meth c T locs cells slots) (hx : p.tables.exec = Jvm.exec) (hZ : Z.Warmed39 s.vm) (eT : T.heap = h) {a : Addr} {j : Int32} {v : Value} (A : own_at Z h a .boolean j v) (hd : decode c.code pc = .ok (.baload, 1))
    (k : own_Go p.tables e below Q (T.setTop (mkF m (pc + 1) (Array.mk ls) (v :: st)))) : own_Go p.tables e below Q (T.setTop (mkF m pc (Array.mk ls) (.int j :: .ref a :: st))) := by
  obtain ⟨cl, A, hin, hv⟩ := A
  exact own_go (X.baloadBooleans hx (by rw [eT]; exact A.1) (State.isArrayOf_alike hZ.alike A.2.1) A.2.2 hin hv (g := mkF m pc (Array.mk ls) (.int j :: .ref a :: st)) rfl rfl hd) k
/-- castore -/
theorem own_sC (X : Stand p l e R s m args below meth c T locs cells slots) (hx : p.tables.exec = Jvm.exec) (hZ : Z.Warmed39 s.vm) (eT : T.heap = h) {a : Addr} {vs : List Value} (A : own_A Z h a .char vs) {j : Int32} (kk : Nat) (hj : j.toInt = kk) (hk : kk < vs.length) {x : Int32} (hn : nar .char x = x) (hd : decode c.code pc = .ok (.castore, 1))
    (k : ∀ T' h', Stand p l e R s m args below meth c T' (locs ++ [⟨a, kk⟩]) cells slots → T'.heap = h' → Wr h h' a kk (.int x) → own_A Z h' a .char (vs.set kk (.int x)) → own_Go p.tables e below Q (T'.setTop (mkF m (pc + 1) (Array.mk ls) st))) :
    own_Go p.tables e below Q (T.setTop (mkF m pc (Array.mk ls) (.int x :: .int j :: .ref a :: st))) := by
  have e1 : j.toNatClampNeg = kk := by rw [Int32.toNatClampNeg, hj]; rfl
  have A' := A
  obtain ⟨cl, Ar, hs⟩ := A.inb
  obtain ⟨T', h', X', e', W, st'⟩ := stC X hx hZ eT Ar (j := j) (x := x) (by rw [hs]; exact own_idx hj hk) (g := mkF m pc (Array.mk ls) (.int x :: .int j :: .ref a :: st)) rfl rfl hd
  rw [e1] at X' W
  rw [hn] at W
  exact own_go st' (k T' h' X' e' W (A'.same W))
/-- bastore of a boolean[] -/
theorem own_sZ (X : Stand p l e R s m args below meth c T locs cells slots) (hx : p.tables.exec = Jvm.exec) (hZ : Z.Warmed39 s.vm) (eT : T.heap = h) {a : Addr} {vs : List Value} (A : own_A Z h a .boolean vs) {j : Int32} (kk : Nat) (hj : j.toInt = kk) (hk : kk < vs.length) {x : Int32} (hn : nar .boolean x = x) (hd : decode c.code pc = .ok (.bastore, 1))
    (k : ∀ T' h', Stand p l e R s m args below meth c T' (locs ++ [⟨a, kk⟩]) cells slots → T'.heap = h' → Wr h h' a kk (.int x) → own_A Z h' a .boolean (vs.set kk (.int x)) → own_Go p.tables e below Q (T'.setTop (mkF m (pc + 1) (Array.mk ls) st))) :
    own_Go p.tables e below Q (T.setTop (mkF m pc (Array.mk ls) (.int x :: .int j :: .ref a :: st))) := by
  have e1 : j.toNatClampNeg = kk := by rw [Int32.toNatClampNeg, hj]; rfl
  have A' := A
  obtain ⟨cl, Ar, hs⟩ := A.inb
  obtain ⟨T', h', X', e', W, st'⟩ := stZ X hx hZ eT Ar (j := j) (x := x) (by rw [hs]; exact own_idx hj hk) (g := mkF m pc (Array.mk ls) (.int x :: .int j :: .ref a :: st)) rfl rfl hd
  rw [e1] at X' W
  rw [hn] at W
  exact own_go st' (k T' h' X' e' W (A'.same W))
/-- getstatic -/
theorem own_gS (X : Stand p l e R s m args below meth c T locs cells slots) (hx : p.tables.exec = Jvm.exec) (hZ : Z.Warmed39 s.vm) (hown : s.vm.findClass own = some m.cls) {index : Nat} {O n d : String} (w : (Cond.fieldLink own index O n d).before a0 Z = true) (eT : T.heap = h) {v : Value} (F : Sta Z h O n d v) (hd : decode c.code pc = .ok (.getstatic index, 3))
    (k : ∀ T', Stand p l e R s m args below meth c T' locs cells slots → T'.heap = h → own_Go p.tables e below Q (T'.setTop (mkF m (pc + 3) (Array.mk ls) (v :: st)))) : own_Go p.tables e below Q (T.setTop (mkF m pc (Array.mk ls) st)) := by
  obtain ⟨T', X', e', st'⟩ := getS X hx hZ (host := "") hown w Via.refl eT F (g := mkF m pc (Array.mk ls) st) rfl hd
  exact own_go st' (k T' X' e')
/-- a constructor, by a Back -/
theorem own_callIB (X : Stand p l e R s m args below meth c T locs cells slots) (hx : p.tables.exec = Jvm.exec) (hZ : Z.Warmed39 s.vm) (hown : s.vm.findClass own = some m.cls) {index : Nat} {y : MethodName} (hy1 : y.name = "<init>") {bytes : ByteArray} {maxL : Nat}
    (w1 : (Cond.methodLink own index y).before a0 Z = true) (w2 : (Cond.instanceMethod y).before a0 Z = true) (w4 : (Cond.code y bytes maxL none).before a0 Z = true) (hy : y.cls ≠ "java/lang/invoke/MethodHandle" ∧ y.cls ≠ "java/lang/invoke/VarHandle")
    (eT : T.heap = h) (a : Addr) (argsL : List Value) {ps : List FieldType} {r : Option FieldType} (hpd : parseMethodDescriptor y.desc = some ⟨ps, r⟩) (hlen : argsL.length = ps.length) {q : Option Value → Heap → List Loc → Prop} {kc ks : Nat} (W : Nat)
    (hB : Back l R p e below s args y 3 W (fun P b => b = (.ref a :: argsL).toArray ∧ P.U.heap = h ∧ P.cells + kc ≤ R.cells ∧ P.slots + ks ≤ R.slots) (fun P _ v B => ∃ L, q v B.U.heap L ∧ B.locs = P.locs ++ L ∧ B.cells = P.cells + kc ∧ B.slots = P.slots + ks))
    (hsize : ls.length = c.maxLocals) {full : List Value} (hst : full = argsL.reverse ++ .ref a :: st) (hW : (st.map fun v => v.category).sum ≤ W) (hd : decode c.code pc = .ok (.invokespecial index, 3)) (hcc : cells + kc ≤ R.cells) (hss : slots + ks ≤ R.slots)
    (k : ∀ T' v L, Stand p l e R s m args below meth c T' (locs ++ L) (cells + kc) (slots + ks) → q v T'.heap L → own_Go p.tables e below Q (T'.setTop (mkF m (pc + 3) (Array.mk ls) (v.toList ++ st)))) :
    own_Go p.tables e below Q (T.setTop (mkF m pc (Array.mk ls) full)) := by
  subst hst
  obtain ⟨v, vm1, ⟨T', L', k', n'⟩, -, X', ⟨Lc, hq, l1, y1, z1⟩, st'⟩ := X.specialBack hx hy1 hown (mvT hZ w1) (mvT hZ w2) (mvT hZ w4) hy hB (g := mkF m pc (Array.mk ls) (argsL.reverse ++ .ref a :: st)) rfl hsize (Steps.refl _) (a := a) (argsL := argsL) (rest := st) (lenOf hpd hlen) rfl (by show 2 * 0 + _ ≤ _; omega) hd (fun _ _ => ⟨rfl, eT, hcc, hss⟩)
  dsimp only [Pt.U, Pt.locs, Pt.cells, Pt.slots] at X' l1 y1 z1 st' hq
  subst l1 y1 z1
  exact own_go (fun t k => st'.trans k) (k T' v Lc X' hq)
theorem own_getD {vs : List Value} {d : Value} {k : Nat} (hk : k < vs.length) : vs[k]? = some (vs.getD k d) := by
  rw [List.getD_eq_getElem?_getD, List.getElem?_eq_getElem hk]; rfl
/-- an array with just these values, as the library's Arv -/
theorem own_A.arv {a : Addr} {ty : FieldType} {vs : List Value} (A : own_A Z h a ty vs) {N : Int32} (hN : N.toInt = vs.length) (d : Value) (hf : ∀ v ∈ vs, fits ty v = true) : ∃ k, Arv Z h a k ty N vs d := by
  obtain ⟨cl, A, r⟩ := A
  have hs : cl.slots.size = vs.length := by rw [← r, Array.length_toList]
  refine ⟨cl.cls, cl, A, rfl, ?_, ?_, fun i hi => ?_, fun i hi => ?_⟩
  · rw [hs, Int32.toNatClampNeg, hN]; rfl
  · rw [Int32.lt_iff_toInt_lt, hN]
    have : (0 : Int32).toInt = 0 := rfl
    omega
  · rw [← Array.getElem?_toList, r]; exact own_getD (by omega)
  · have q := own_getD (d := d) (show i < vs.length by omega)
    exact hf _ (List.mem_of_getElem? q)
/-- and back -/
theorem own_A.of {a : Addr} {k : ClassId} {ty : FieldType} {N : Int32} {vs : List Value} {d : Value} (A : Arv Z h a k ty N vs d) (hN : N.toInt = vs.length) : own_A Z h a ty vs := by
  obtain ⟨cl, A, -, hs, -, H, -⟩ := A
  have hs' : cl.slots.size = vs.length := by rw [hs, Int32.toNatClampNeg, hN]; rfl
  refine ⟨cl, A, List.ext_getElem? fun i => ?_⟩
  rw [Array.getElem?_toList]
  rcases Nat.lt_or_ge i vs.length with q | q
  · rw [H i (by omega)]; exact (own_getD q).symm
  · rw [List.getElem?_eq_none q, Array.getElem?_eq_none (by omega)]
end OwnMore
theorem own_small {x : Int32} (h0 : 0 ≤ x.toInt) (h1 : x.toInt < 256) : ∃ k : Fin 256, x = Int32.ofNat k.val := by
  have t : ∀ k : Fin 256, (Int32.ofNat k.val).toInt = (k.val : Int) := by decide +kernel
  have hk : x.toInt.toNat < 256 := by omega
  have q := t ⟨x.toInt.toNat, hk⟩
  refine ⟨⟨x.toInt.toNat, hk⟩, Int32.toInt_inj.mp ?_⟩
  rw [q]
  show x.toInt = ((x.toInt.toNat : Nat) : Int)
  omega
theorem own_narC {x : Int32} (h0 : 0 ≤ x.toInt) (h1 : x.toInt < 256) : nar .char x = x := by
  obtain ⟨k, rfl⟩ := own_small h0 h1
  exact (by decide +kernel : ∀ k : Fin 256, nar .char (Int32.ofNat k.val) = Int32.ofNat k.val) k
theorem own_fitC {x : Int32} (h0 : 0 ≤ x.toInt) (h1 : x.toInt < 256) : fits .char (.int x) = true := by
  have := fits_nar_char x
  rwa [own_narC h0 h1] at this
/-! OWN KIT 6 (behind Kit2): Math.max and Math.abs of doubles, System.arraycopy from the start to the start -/
section OwnHeap6
variable {p : Program} {l : Launch} {e : Env} {R : Room} {s : State} {m : MethodId} {args : Array Value} {below : List Frame} {meth : Method} {c : Code} {T : State} {locs : List Loc} {cells slots : Nat} {Z : State} {a0 : Array Value} {h h' : Heap} {Q : Outcome → State → Prop} {own : String} {pc : Nat} {ls : List Slot} {st : List Value}
/-- Math.max of doubles that are no NaNs -/
theorem own_maxDD (X : Stand p l e R s m args below meth c T locs cells slots) (hx : p.tables.exec = Jvm.exec) (hZ : Z.Warmed39 s.vm) (hown : s.vm.findClass own = some m.cls) {index : Nat} {by0 : ByteArray} (hby0 : by0 = Jvm.Free.Fl.Abs.maxDCode)
    (w1 : (Cond.methodLink own index ⟨"java/lang/Math", "max", "(DD)D"⟩).before a0 Z = true) (w2 : (Cond.static ⟨"java/lang/Math", "max", "(DD)D"⟩).before a0 Z = true) (w3 : (Cond.initialized "java/lang/Math").before a0 Z = true) (w4 : (Cond.code ⟨"java/lang/Math", "max", "(DD)D"⟩ by0 4 (some .double)).before a0 Z = true)
    (eT : T.heap = h) {x y : UInt64} (nx : Jvm.Free.Fl.NoNaN64 x) (ny : Jvm.Free.Fl.NoNaN64 y) (hsize : ls.length = c.maxLocals) (W : Nat) (hW : (st.map fun v => v.category).sum ≤ W) (hd : decode c.code pc = .ok (.invokestatic index, 3)) (hf : 1 ≤ R.frames) (hl : W + 15 ≤ R.locals) (hcc : cells ≤ R.cells) (hss : slots ≤ R.slots)
    (k : ∀ T', Stand p l e R s m args below meth c T' locs cells slots → T'.heap = h → own_Go p.tables e below Q (T'.setTop (mkF m (pc + 3) (Array.mk ls) (.double (Native.java_lang_Math.nans.pick64 true x y) :: st)))) :
    own_Go p.tables e below Q (T.setTop (mkF m pc (Array.mk ls) (.double y :: .double x :: st))) := by
  subst hby0
  obtain ⟨T', X', e', st'⟩ := natS X hx hZ hown w1 w2 w3 w4 (by decide) eT (W := W) (fun hc => Jvm.Free.Fl.Abs.maxD_pays x y hc hf hl) (g := mkF m pc (Array.mk ls) (.double y :: .double x :: st)) rfl hsize (argsL := [.double x, .double y]) (rest := st) (lenOf (ps := [.double, .double]) (r := some .double) (by decide +kernel) rfl) rfl (by show 2 * 0 + _ ≤ _; omega) hd hcc hss ⟨rfl, nx, ny⟩ rfl
  exact own_go st' (k T' X' e')
/-- Math.abs of a double that is no NaN -/
theorem own_absD (X : Stand p l e R s m args below meth c T locs cells slots) (hx : p.tables.exec = Jvm.exec) (hZ : Z.Warmed39 s.vm) (hown : s.vm.findClass own = some m.cls) {index : Nat} {by0 : ByteArray} (hby0 : by0 = Jvm.Free.Fl.Abs.absDCode)
    (w1 : (Cond.methodLink own index ⟨"java/lang/Math", "abs", "(D)D"⟩).before a0 Z = true) (w2 : (Cond.static ⟨"java/lang/Math", "abs", "(D)D"⟩).before a0 Z = true) (w3 : (Cond.initialized "java/lang/Math").before a0 Z = true) (w4 : (Cond.code ⟨"java/lang/Math", "abs", "(D)D"⟩ by0 2 (some .double)).before a0 Z = true)
    (eT : T.heap = h) {x : UInt64} (nx : Jvm.Free.Fl.NoNaN64 x) (hsize : ls.length = c.maxLocals) (W : Nat) (hW : (st.map fun v => v.category).sum ≤ W) (hd : decode c.code pc = .ok (.invokestatic index, 3)) (hf : 1 ≤ R.frames) (hl : W + 13 ≤ R.locals) (hcc : cells ≤ R.cells) (hss : slots ≤ R.slots)
    (k : ∀ T', Stand p l e R s m args below meth c T' locs cells slots → T'.heap = h → own_Go p.tables e below Q (T'.setTop (mkF m (pc + 3) (Array.mk ls) (.double (x &&& 0x7fffffffffffffff) :: st)))) :
    own_Go p.tables e below Q (T.setTop (mkF m pc (Array.mk ls) (.double x :: st))) := by
  subst hby0
  obtain ⟨T', X', e', st'⟩ := natS X hx hZ hown w1 w2 w3 w4 (by decide) eT (W := W) (fun hc => Jvm.Free.Fl.Abs.absD_pays x hc hf hl) (g := mkF m pc (Array.mk ls) (.double x :: st)) rfl hsize (argsL := [.double x]) (rest := st) (lenOf (ps := [.double]) (r := some .double) (by decide +kernel) rfl) rfl (by show 2 * 0 + _ ≤ _; omega) hd hcc hss ⟨rfl, nx⟩ rfl
  exact own_go st' (k T' X' e')
theorem own_stretch {cs : Cell} {vs : List Value} (r : cs.slots.toList = vs) {N i : Nat} (hi : i < N) (hN : N ≤ vs.length) : (cs.stretch 0 N)[i]? = vs[i]? := by
  have e1 : cs.slots[i]? = vs[i]? := by rw [← r, Array.getElem?_toList]
  have e2 : cs.slots.getD (0 + i) .null = vs.getD i .null := by rw [Nat.zero_add, Array.getD_eq_getD_getElem?, e1, List.getD_eq_getElem?_getD]
  simp only [Cell.stretch, List.getElem?_map, List.getElem?_range hi, Option.map_some]
  rw [e2, List.getD_eq_getElem?_getD, List.getElem?_eq_getElem (show i < vs.length by omega)]
  rfl
theorem own_copied {cs cd : Cell} {vs us : List Value} (ra : cs.slots.toList = vs) (rb : cd.slots.toList = us) {n : Int32} {N : Nat} (hn : n.toNatClampNeg = N) (h1 : N ≤ vs.length) (h2 : N ≤ us.length) : (copied cs cd 0 0 n).slots.toList = vs.take N ++ us.drop N := by
  have hs : cd.slots.size = us.length := by rw [← rb, Array.length_toList]
  have z0 : (0 : Int32).toNatClampNeg = 0 := rfl
  refine List.ext_getElem? fun i => ?_
  rw [Array.getElem?_toList]
  show (cd.storePairs (0 : Int32).toNatClampNeg ((cs.stretch (0 : Int32).toNatClampNeg n.toNatClampNeg).zipIdx 0)).slots[i]? = _
  rw [z0, hn, Cell.storePairs_get cd 0 _ 0 i (by rw [Cell.stretch_length]; omega), Cell.stretch_length]
  rcases Nat.lt_or_ge i N with q | q
  · rw [if_pos (by omega), List.getElem?_append_left (by rw [List.length_take]; omega), List.getElem?_take_of_lt q]
    exact own_stretch ra (by omega) h1
  · rw [if_neg (by omega), List.getElem?_append_right (by rw [List.length_take]; omega), List.length_take, List.getElem?_drop, ← rb, Array.getElem?_toList]
    congr 1
    omega
/-- System.arraycopy(src, 0, dst, 0, n) of int arrays -/
theorem own_cpI (X : Stand p l e R s m args below meth c T locs cells slots) (hx : p.tables.exec = Jvm.exec) (hZ : Z.Warmed39 s.vm) (hown : s.vm.findClass own = some m.cls) {index : Nat}
    (w1 : (Cond.methodLink own index acN).before a0 Z = true) (wn : (Cond.native acN).before a0 Z = true) (wst : (Cond.static acN).before a0 Z = true) (wi : (Cond.initialized "java/lang/System").before a0 Z = true)
    (eT : T.heap = h) {src dst : Addr} {vs us : List Value} (A : own_A Z h src .int vs) (B : own_A Z h dst .int us) (hv : ∀ v ∈ vs, fits .int v = true) (N : Nat) {n : Int32} (hn : n.toInt = N) (h1 : N ≤ vs.length) (h2 : N ≤ us.length)
    (hsize : ls.length = c.maxLocals) (W : Nat) (hW : (st.map fun v => v.category).sum ≤ W) (hd : decode c.code pc = .ok (.invokestatic index, 3)) (hf : 1 ≤ R.frames) (hl : W + 18 ≤ R.locals)
    (k : ∀ T' h', Stand p l e R s m args below meth c T' (locs ++ copyLocs dst 0 N) cells slots → T'.heap = h' → Keep h h' [dst] → own_A Z h' dst .int (vs.take N ++ us.drop N) → own_Go p.tables e below Q (T'.setTop (mkF m (pc + 3) (Array.mk ls) st))) :
    own_Go p.tables e below Q (T.setTop (mkF m pc (Array.mk ls) (.int n :: .int 0 :: .ref dst :: .int 0 :: .ref src :: st))) := by
  obtain ⟨cs, A, ra⟩ := A
  obtain ⟨cd, B, rb⟩ := B
  have hN : n.toNatClampNeg = N := by rw [Int32.toNatClampNeg, hn]; rfl
  have z0 : (0 : Int32).toInt = 0 := rfl
  have sa : cs.slots.size = vs.length := by rw [← ra, Array.length_toList]
  have sb : cd.slots.size = us.length := by rw [← rb, Array.length_toList]
  obtain ⟨oa, ka, hka, ca, hkA⟩ := State.isArrayOf_alike hZ.alike A.2.1
  obtain ⟨ob, kb, hkb, cb, hkB⟩ := State.isArrayOf_alike hZ.alike B.2.1
  obtain ⟨vm1, hW1, X', st'⟩ := X.arraycopyK hx hown (mvT hZ w1) (mvT hZ wn) (mvT hZ wst) (mvT hZ wi) (src := src) (dst := dst) (srcPos := 0) (destPos := 0) (n := n) (cs := cs) (cd := cd) (by rw [eT]; exact A.1) (by rw [eT]; exact B.1) oa ob A.2.2 B.2.2 hka hkb hkA hkB rfl (by decide) (by decide) (by rw [Int32.lt_iff_toInt_lt, hn, z0]; omega) (by rw [hn, z0, sa]; omega) (by rw [hn, z0, sb]; omega)
    (fun vm₁ _ i hi => by
      rw [hN] at hi
      have e1 : cs.slots[i]? = vs[i]? := by rw [← ra, Array.getElem?_toList]
      have e2 : cs.slots.getD ((0 : Int32).toNatClampNeg + i) .null = vs[i]'(by omega) := by
        rw [show (0 : Int32).toNatClampNeg + i = i from Nat.zero_add i, Array.getD_eq_getD_getElem?, e1, List.getElem?_eq_getElem (show i < vs.length by omega)]; rfl
      have q := hv _ (List.getElem_mem (show i < vs.length by omega))
      rw [e2]
      refine ⟨q, ?_⟩
      revert q
      generalize vs[i]'(by omega) = v
      intro q
      cases v <;> first | exact trivial | (exfalso; revert q; decide) | (cases q))
    (g := mkF m pc (Array.mk ls) (.int n :: .int 0 :: .ref dst :: .int 0 :: .ref src :: st)) rfl hsize rfl hd hf (by rw [nativeFrameWords_plain 5 (by decide)]; show 2 * 0 + _ + _ ≤ _; omega)
  rw [hN] at X'
  obtain ⟨f1, f2, f3, f4, f5⟩ := Cell.storeRun_facts cd (0 : Int32).toNatClampNeg (cs.stretch (0 : Int32).toNatClampNeg n.toNatClampNeg)
  have eh : ((T.setVm vm1).setCell dst (copied cs cd 0 0 n)).heap = h.setIfInBounds dst (copied cs cd 0 0 n) := by rw [← eT]; rfl
  have hlt : dst < h.size := (Array.getElem?_eq_some_iff.mp B.1).1
  have hnew : (h.setIfInBounds dst (copied cs cd 0 0 n))[dst]? = some (copied cs cd 0 0 n) := Array.getElem?_setIfInBounds_self_of_lt hlt
  have hold : ∀ x, x ≠ dst → (h.setIfInBounds dst (copied cs cd 0 0 n))[x]? = h[x]? := fun x hx => Array.getElem?_setIfInBounds_ne (Ne.symm hx)
  refine own_go st' (k _ _ X' rfl ?_ ?_)
  · rw [eh]
    refine ⟨by rw [Array.size_setIfInBounds]; exact Nat.le_refl _, fun x cx hc hn => by rw [hold x (fun q => hn (List.mem_singleton.mpr q))]; exact hc, fun x cx hc => ?_⟩
    by_cases q : x = dst
    · subst q
      cases B.1.symm.trans hc
      exact ⟨_, hnew, f1, f2, f3⟩
    · exact ⟨cx, by rw [hold x q]; exact hc, rfl, rfl, rfl⟩
  · rw [eh]
    obtain ⟨q1, kk, q2, comp, q3⟩ := B.2.1
    exact ⟨_, ⟨hnew, ⟨by rw [f2]; exact q1, kk, by rw [f1]; exact q2, comp, q3⟩, by rw [f2]; exact B.2.2⟩, own_copied ra rb hN h1 h2⟩
/-- a private instance method, by its contract -/
theorem own_callPV (X : Stand p l e R s m args below meth c T locs cells slots) (hx : p.tables.exec = Jvm.exec) (hZ : Z.Warmed39 s.vm) (hown : s.vm.findClass own = some m.cls) {index : Nat} {C : String} {y : MethodName} {bytes : ByteArray} {maxL : Nat} {ret : Option FieldType} {rm : Room} {ns : Nat}
    (w1 : (Cond.methodLink own index y).before a0 Z = true) (w2 : (Cond.privateMethod y).before a0 Z = true) (w5 : (Cond.instantiable y.cls ns).before a0 Z = true) (w6 : (Cond.instanceMethod y).before a0 Z = true) (w3 : (Cond.initialized y.cls).before a0 Z = true) (w4 : (Cond.code y bytes maxL ret).before a0 Z = true) (hy : y.cls ≠ "java/lang/invoke/MethodHandle" ∧ y.cls ≠ "java/lang/invoke/VarHandle")
    (eT : T.heap = h) {a : Addr} (E : Exa Z h a C) (argsL : List Value) {ps : List FieldType} {r : Option FieldType} (hpd : parseMethodDescriptor y.desc = some ⟨ps, r⟩) (hlen : argsL.length = ps.length) {q : Option Value → Heap → List Loc → Prop}
    (hM : MetFree l y (head1 [Cond.code y bytes maxL ret] rm) (fun b U => b = (.ref a :: argsL).toArray ∧ Z.Warmed39 U.vm ∧ U.heap = h) (fun _ _ _ _ _ => True) (fun _ U o U' => own_Fin U rm.cells rm.slots q o U'))
    (hsize : ls.length = c.maxLocals) (W : Nat) {full : List Value} (hst : full = argsL.reverse ++ .ref a :: st) (hW : (st.map fun v => v.category).sum ≤ W) (hd : decode c.code pc = .ok (.invokevirtual index, 3)) (hf : rm.frames + 1 ≤ R.frames) (hl : W + (maxL + 11) + rm.locals ≤ R.locals) (hcc : cells + rm.cells ≤ R.cells) (hss : slots + rm.slots ≤ R.slots)
    (k : ∀ T' v L, Stand p l e R s m args below meth c T' (locs ++ L) (cells + rm.cells) (slots + rm.slots) → q v T'.heap L → own_Go p.tables e below Q (T'.setTop (mkF m (pc + 3) (Array.mk ls) (v.toList ++ st)))) :
    own_Go p.tables e below Q (T.setTop (mkF m pc (Array.mk ls) full)) := by
  subst hst
  obtain ⟨cell, k0, e1, e2, e3, e4, -⟩ := E
  obtain ⟨v, vm1, ⟨T', L', k', n'⟩, X', ⟨Lc, hq, l1, y1, z1⟩, st'⟩ := own_privB X hx (y := y) hown (mvT hZ w1) (mvT hZ w6) (mvT hZ w5) (Cond.privateMethod_at (args := #[]) (mvT hZ w2)) (mvT hZ w4) hy (backOf (W := W) (Q := q) hM hZ w4 w3 hf hl) (g := mkF m pc (Array.mk ls) (argsL.reverse ++ .ref a :: st)) rfl hsize (a := a) (cell := cell) (by rw [eT]; exact e1) (fun q hq => by rw [hq] at e4; cases e4) (argsL := argsL) (rest := st) (lenOf hpd hlen) rfl (by show 2 * 0 + _ ≤ _; omega) hd (fun _ _ => ⟨rfl, eT, hcc, hss⟩)
  dsimp only [Pt.U, Pt.locs, Pt.cells, Pt.slots] at X' l1 y1 z1 st' hq
  subst l1 y1 z1
  exact own_go (fun t k => st'.trans k) (k T' v Lc X' hq)
end OwnHeap6
/-! OWN: whole numbers as doubles: lesser, greater, magnitude; the tolerance 1e-10 -/
theorem own_z00 : own_D 0 0 0 := ⟨(FP.Core.fin_bits _).mpr (by decide +kernel), by decide +kernel⟩
def own_mx (r x y : UInt64) : Prop := own_num r ∧ own_z x ≤ own_z r ∧ own_z y ≤ own_z r ∧ (own_z r = own_z x ∨ own_z r = own_z y)
theorem own_pickM {x y : UInt64} (nx : own_num x) (ny : own_num y) : own_mx (Native.java_lang_Math.nans.pick64 true x y) x y := by
  rcases Int.lt_trichotomy (own_z x) (own_z y) with q | q | q
  · have e : Native.java_lang_Math.nans.pick64 true x y = y := by unfold Native.java_lang_Math.nans.pick64; rw [own_lt nx ny q]; rfl
    rw [e]; exact ⟨ny, by omega, by omega, Or.inr rfl⟩
  · rcases Jvm.Free.Fl.pick64_or true x y with e | e <;> rw [e]
    · exact ⟨nx, by omega, by omega, Or.inl rfl⟩
    · exact ⟨ny, by omega, by omega, Or.inr rfl⟩
  · have e : Native.java_lang_Math.nans.pick64 true x y = x := by unfold Native.java_lang_Math.nans.pick64; rw [own_gt nx ny q]; rfl
    rw [e]; exact ⟨nx, by omega, by omega, Or.inl rfl⟩
theorem own_Dle {N M : Int} {a b : UInt64} (ha : own_D 0 N a) (hb : own_D 0 M b) : own_z a ≤ own_z b ↔ N ≤ M := by
  have u := own_u_pos 0
  rw [ha.2, hb.2]
  constructor
  · intro h
    rcases Int.lt_or_le M N with q | q
    · have := Int.mul_lt_mul_of_pos_right q u
      omega
    · exact q
  · intro h; exact Int.mul_le_mul_of_nonneg_right h (Int.le_of_lt u)
theorem own_Dlt {N M : Int} {a b : UInt64} (ha : own_D 0 N a) (hb : own_D 0 M b) : own_z a < own_z b ↔ N < M := by
  have := own_Dle hb ha
  omega
theorem own_Dmn {N M : Int} {r a b : UInt64} (ha : own_D 0 N a) (hb : own_D 0 M b) (h : own_mn r a b) : ∃ K, own_D 0 K r ∧ K ≤ N ∧ K ≤ M ∧ (K = N ∨ K = M) := by
  obtain ⟨n, h1, h2, h3⟩ := h
  rcases h3 with q | q
  · refine ⟨N, ⟨own_fin_of n ha.1 q, by rw [q]; exact ha.2⟩, Int.le_refl _, ?_, Or.inl rfl⟩
    rw [q] at h2; exact (own_Dle ha hb).mp h2
  · refine ⟨M, ⟨own_fin_of n hb.1 q, by rw [q]; exact hb.2⟩, ?_, Int.le_refl _, Or.inr rfl⟩
    rw [q] at h1; exact (own_Dle hb ha).mp h1
theorem own_Dmx {N M : Int} {r a b : UInt64} (ha : own_D 0 N a) (hb : own_D 0 M b) (h : own_mx r a b) : ∃ K, own_D 0 K r ∧ N ≤ K ∧ M ≤ K ∧ (K = N ∨ K = M) := by
  obtain ⟨n, h1, h2, h3⟩ := h
  rcases h3 with q | q
  · refine ⟨N, ⟨own_fin_of n ha.1 q, by rw [q]; exact ha.2⟩, Int.le_refl _, ?_, Or.inl rfl⟩
    rw [q] at h2; exact (own_Dle hb ha).mp h2
  · refine ⟨M, ⟨own_fin_of n hb.1 q, by rw [q]; exact hb.2⟩, ?_, Int.le_refl _, Or.inr rfl⟩
    rw [q] at h1; exact (own_Dle ha hb).mp h1
theorem own_Dcneg {N : Int} {a : UInt64} (h : own_D 0 N a) : own_D 0 (-N) (FP.Core.dneg a) := by
  have e0 : own_z (FP.Core.dneg a) = -own_z a := by unfold own_z; rw [FP.Core.val64_dneg, FP.Core.zval_negate]
  refine ⟨?_, by rw [e0, h.2, Int.neg_mul]⟩
  obtain ⟨s, c, q, e⟩ := h.1
  exact ⟨!s, c, q, by rw [FP.Core.val64_dneg, e]; rfl⟩
theorem own_Dabs {N : Int} {a : UInt64} (ha : own_D 0 N a) : ∃ K, own_D 0 K (a &&& 0x7fffffffffffffff) ∧ 0 ≤ K ∧ (K = N ∨ K = -N) := by
  rcases Int.lt_trichotomy N 0 with q | q | q
  · rw [FP.Core.abs_neg (ha.lt own_z00 q)]; exact ⟨-N, own_Dcneg ha, by omega, Or.inr rfl⟩
  · rw [FP.Core.abs_zero (ha.eq own_z00 q)]; exact ⟨0, own_z00, by omega, Or.inl q.symm⟩
  · rw [FP.Core.abs_pos (ha.gt own_z00 q)]; exact ⟨N, ha, by omega, Or.inl rfl⟩
theorem own_tolfin : FP.Core.DFin 4457293557087583675 := (FP.Core.fin_bits _).mpr (by decide +kernel)
theorem own_tolpos : 0 ≤ own_z 4457293557087583675 := by decide +kernel
theorem own_tolsmall : own_z 4457293557087583675 * 4000 ≤ own_z 4602678819172646912 := by decide +kernel
theorem own_halffin : FP.Core.DFin 4602678819172646912 := (FP.Core.fin_bits _).mpr (by decide +kernel)
theorem own_tol {D Y : Int} {d y : UInt64} (hd : own_D 0 D d) (hy : own_D 0 Y y) (d0 : 0 ≤ D) (y0 : 0 ≤ Y) (y1 : Y ≤ 4000) :
    own_num (FP.dmul 4457293557087583675 y) ∧ (D = 0 → own_z d ≤ own_z (FP.dmul 4457293557087583675 y)) ∧ (1 ≤ D → own_z (FP.dmul 4457293557087583675 y) < own_z d) := by
  have u := own_u_pos 0
  have e1 : (FP.Core.one64 : Int) = ((2 ^ (1074 - 0) : Nat) : Int) := by decide +kernel
  refine ⟨own_num_mul own_tolfin hy.1, fun q => ?_, fun q => ?_⟩
  · have e : own_z d = own_z 0 := by rw [hd.2, own_z00.2, q]
    rw [e]
    refine own_mul_ge own_tolfin hy.1 own_z00.num ?_
    rw [own_z00.2, hy.2, Int.zero_mul, Int.zero_mul]
    exact Int.mul_nonneg own_tolpos (Int.mul_nonneg y0 (Int.le_of_lt u))
  · have s1 : own_z (FP.dmul 4457293557087583675 y) ≤ own_z 4602678819172646912 := by
      refine own_mul_le own_tolfin hy.1 (own_fin_num own_halffin) ?_
      rw [hy.2, e1, ← Int.mul_assoc]
      refine Int.mul_le_mul_of_nonneg_right ?_ (Int.le_of_lt u)
      exact Int.le_trans (Int.mul_le_mul_of_nonneg_left y1 own_tolpos) own_tolsmall
    have s2 : own_z 4602678819172646912 < 1 * ((2 ^ (1074 - 0) : Nat) : Int) := by decide +kernel
    have s3 : 1 * ((2 ^ (1074 - 0) : Nat) : Int) ≤ own_z d := by rw [hd.2]; exact Int.mul_le_mul_of_nonneg_right q (Int.le_of_lt u)
    omega
abbrev cP : String := "com/example/lumper/lumper/analysis/Partition"
theorem wm (i : Nat) {d : Jvm.Cond} (h : tables_1[i]? = some d) : d ∈ tables_1 := List.mem_of_getElem? h
def tab0 : List (Nat × Instr) := [(0, .iload_n 0), (1, .ldc 7), (3, .iand), (4, .iconst 3), (5, .irem), (6, .istore 6), (8, .iload_n 2), (9, .ldc 7), (11, .iand), (12, .iconst 3), (13, .irem), (14, .istore 7), (16, .iload 4), (18, .ldc 7), (20, .iand), (21, .iconst 3), (22, .irem), (23, .istore 8), (25, .iload_n 1), (26, .sipush 1000), (29, .irem), (30, .istore 9), (32, .iload_n 3), (33, .sipush 1000), (36, .irem), (37, .istore 10), (39, .iload 5), (41, .sipush 1000), (44, .irem), (45, .istore 11), (47, .new 8), (50, .dup), (51, .iconst 3), (52, .invokespecial 10), (55, .astore 12), (57, .iconst 3), (58, .newarray .int), (60, .astore 13), (62, .aload 12), (64, .iload 6), (66, .iload 9), (68, .i2d), (69, .invokevirtual 13), (72, .aload 12), (74, .iload 7), (76, .iload 10), (78, .i2d), (79, .invokevirtual 13), (82, .aload 12), (84, .iload 8), (86, .iload 11), (88, .i2d), (89, .invokevirtual 13), (92, .aload 12), (94, .iconst 0), (95, .aload 13), (97, .invokevirtual 17), (100, .istore 14), (102, .aload 12), (104, .invokevirtual 21), (107, .aload 12), (109, .invokevirtual 24), (112, .istore 15), (114, .aload 12), (116, .iconst 0), (117, .invokevirtual 28), (120, .istore 16), (122, .aload 12), (124, .iconst 1), (125, .invokevirtual 28), (128, .istore 17), (130, .aload 12), (132, .iconst 2), (133, .invokevirtual 28), (136, .istore 18), (138, .iload 6), (140, .ifCond .eq 13), (143, .iload 7), (145, .ifCond .eq 8), (148, .iload 8), (150, .ifCond .ne 7), (153, .iconst 1), (154, .goto 4), (157, .iconst 0), (158, .istore 19), (160, .iload 6), (162, .iconst 1), (163, .if_icmp .eq 15), (166, .iload 7), (168, .iconst 1), (169, .if_icmp .eq 9), (172, .iload 8), (174, .iconst 1), (175, .if_icmp .ne 7), (178, .iconst 1), (179, .goto 4), (182, .iconst 0), (183, .istore 20), (185, .iload 6), (187, .iconst 2), (188, .if_icmp .eq 15), (191, .iload 7), (193, .iconst 2), (194, .if_icmp .eq 9), (197, .iload 8), (199, .iconst 2), (200, .if_icmp .ne 7), (203, .iconst 1), (204, .goto 4), (207, .iconst 0), (208, .istore 21), (210, .iload 6), (212, .iload 9), (214, .iconst 0), (215, .invokestatic 32), (218, .iload 7), (220, .iload 10), (222, .iconst 0), (223, .invokestatic 32), (226, .iadd), (227, .iload 8), (229, .iload 11), (231, .iconst 0), (232, .invokestatic 32), (235, .iadd), (236, .istore 22), (238, .iload 6), (240, .iload 9), (242, .iconst 1), (243, .invokestatic 32), (246, .iload 7), (248, .iload 10), (250, .iconst 1), (251, .invokestatic 32), (254, .iadd), (255, .iload 8), (257, .iload 11), (259, .iconst 1), (260, .invokestatic 32), (263, .iadd), (264, .istore 23), (266, .iload 6), (268, .iload 9), (270, .iconst 2), (271, .invokestatic 32), (274, .iload 7), (276, .iload 10), (278, .iconst 2), (279, .invokestatic 32), (282, .iadd), (283, .iload 8), (285, .iload 11), (287, .iconst 2), (288, .invokestatic 32), (291, .iadd), (292, .istore 24), (294, .iload 19), (296, .ifCond .eq 7), (299, .iconst 1), (300, .goto 4), (303, .iconst 0), (304, .iload 20), (306, .ifCond .eq 7), (309, .iconst 1), (310, .goto 4), (313, .iconst 0), (314, .iadd), (315, .iload 21), (317, .ifCond .eq 7), (320, .iconst 1), (321, .goto 4), (324, .iconst 0), (325, .iadd), (326, .istore 25), (328, .iconst 3), (329, .newarray .boolean), (331, .astore 26), (333, .aload 26), (335, .iconst 0), (336, .iload 19), (338, .bastore), (339, .aload 26), (341, .iconst 1), (342, .iload 20), (344, .bastore), (345, .aload 26), (347, .iconst 2), (348, .iload 21), (350, .bastore), (351, .iload 14), (353, .iconst 3), (354, .if_icmp .ne 33), (357, .aload 13), (359, .iconst 0), (360, .iaload), (361, .invokestatic 38), (364, .ifCond .eq 23), (367, .aload 13), (369, .iconst 1), (370, .iaload), (371, .invokestatic 38), (374, .ifCond .eq 13), (377, .aload 13), (379, .iconst 2), (380, .iaload), (381, .invokestatic 38), (384, .ifCond .ne 5), (387, .iconst 0), (388, .ireturn), (389, .aload 13), (391, .iconst 0), (392, .iaload), (393, .aload 13), (395, .iconst 1), (396, .iaload), (397, .if_icmp .eq 25), (400, .aload 13), (402, .iconst 0), (403, .iaload), (404, .aload 13), (406, .iconst 2), (407, .iaload), (408, .if_icmp .eq 14), (411, .aload 13), (413, .iconst 1), (414, .iaload), (415, .aload 13), (417, .iconst 2), (418, .iaload), (419, .if_icmp .ne 5), (422, .iconst 0), (423, .ireturn), (424, .aload 26), (426, .aload 13), (428, .iconst 0), (429, .iaload), (430, .baload), (431, .iconst 0), (432, .iload 25), (434, .if_icmp .ge 7), (437, .iconst 1), (438, .goto 4), (441, .iconst 0), (442, .if_icmp .ne 49), (445, .aload 26), (447, .aload 13), (449, .iconst 1), (450, .iaload), (451, .baload), (452, .iconst 1), (453, .iload 25), (455, .if_icmp .ge 7), (458, .iconst 1), (459, .goto 4), (462, .iconst 0), (463, .if_icmp .ne 28), (466, .aload 26), (468, .aload 13), (470, .iconst 2), (471, .iaload), (472, .baload), (473, .iconst 2), (474, .iload 25), (476, .if_icmp .ge 7), (479, .iconst 1), (480, .goto 4), (483, .iconst 0), (484, .if_icmp .ne 7), (487, .iconst 1), (488, .goto 4), (491, .iconst 0), (492, .istore 27), (494, .iload 19), (496, .iload 22), (498, .iload 20), (500, .iload 23), (502, .iload 21), (504, .iload 24), (506, .invokestatic 42), (509, .istore 28), (511, .iload 20), (513, .iload 23), (515, .iload 19), (517, .iload 22), (519, .iload 21), (521, .iload 24), (523, .invokestatic 42), (526, .istore 29), (528, .iload 21), (530, .iload 24), (532, .iload 19), (534, .iload 22), (536, .iload 20), (538, .iload 23), (540, .invokestatic 42), (543, .istore 30), (545, .iconst 1), (546, .iload 19), (548, .iload 22), (550, .iload 20), (552, .iload 23), (554, .invokestatic 46), (557, .ifCond .eq 7), (560, .iconst 1), (561, .goto 4), (564, .iconst 0), (565, .iadd), (566, .iload 19), (568, .iload 22), (570, .iload 21), (572, .iload 24), (574, .invokestatic 46), (577, .ifCond .eq 7), (580, .iconst 1), (581, .goto 4), (584, .iconst 0), (585, .iadd), (586, .istore 31), (588, .iconst 1), (589, .iload 20), (591, .iload 23), (593, .iload 19), (595, .iload 22), (597, .invokestatic 46), (600, .ifCond .eq 7), (603, .iconst 1), (604, .goto 4), (607, .iconst 0), (608, .iadd), (609, .iload 20), (611, .iload 23), (613, .iload 21), (615, .iload 24), (617, .invokestatic 46), (620, .ifCond .eq 7), (623, .iconst 1), (624, .goto 4), (627, .iconst 0), (628, .iadd), (629, .istore 32), (631, .iconst 1), (632, .iload 21), (634, .iload 24), (636, .iload 19), (638, .iload 22), (640, .invokestatic 46), (643, .ifCond .eq 7), (646, .iconst 1), (647, .goto 4), (650, .iconst 0), (651, .iadd), (652, .iload 21), (654, .iload 24), (656, .iload 20), (658, .iload 23), (660, .invokestatic 46), (663, .ifCond .eq 7), (666, .iconst 1), (667, .goto 4), (670, .iconst 0), (671, .iadd), (672, .istore 33), (674, .iload 28), (676, .istore 34), (678, .iload 31), (680, .istore 35), (682, .iload 32), (684, .iload 35), (686, .if_icmp .gt 17), (689, .iload 32), (691, .iload 35), (693, .if_icmp .ne 18), (696, .iload 29), (698, .iload 34), (700, .if_icmp .ge 11), (703, .iload 29), (705, .istore 34), (707, .iload 32), (709, .istore 35), (711, .iload 33), (713, .iload 35), (715, .if_icmp .gt 17), (718, .iload 33), (720, .iload 35), (722, .if_icmp .ne 18), (725, .iload 30), (727, .iload 34), (729, .if_icmp .ge 11), (732, .iload 30), (734, .istore 34), (736, .iload 33), (738, .istore 35), (740, .iload 28), (742, .iload 29), (744, .iload 30), (746, .invokestatic 50), (749, .invokestatic 50), (752, .iconst 1), (753, .iadd), (754, .istore 36), (756, .iload 27), (758, .ifCond .eq 50), (761, .iload 15), (763, .iload 36), (765, .if_icmp .ne 43), (768, .iload 16), (770, .iload 28), (772, .iload 34), (774, .invokestatic 56), (777, .if_icmp .ne 31), (780, .iload 17), (782, .iload 29), (784, .iload 34), (786, .invokestatic 56), (789, .if_icmp .ne 19), (792, .iload 18), (794, .iload 30), (796, .iload 34), (798, .invokestatic 56), (801, .if_icmp .ne 7), (804, .iconst 1), (805, .goto 4), (808, .iconst 0), (809, .ireturn)]
set_option maxRecDepth 65536 in
theorem dec0 : own_dec code tab0 := by
  show ∀ e ∈ tab0, decode code e.1 = .ok (e.2, own_len e.2)
  decide +kernel
theorem seq0 : own_seq tab0 = true := by decide +kernel
def kt0 : List (Nat × Value) := [(7, .int 2147483647)]
def ft0 : List (Nat × String × String × String) := []
theorem hKt0 {a0 : Array Value} {Z : State} (hw : ∀ d ∈ tables_1, d.before a0 Z = true) : own_ks "com/example/lumper/lumper/analysis/PartitionAddPinLaw" a0 Z kt0 := ⟨hw _ (wm 0 rfl), trivial⟩
theorem hFt0 {a0 : Array Value} {Z : State} (hw : ∀ d ∈ tables_1, d.before a0 Z = true) : own_fs "com/example/lumper/lumper/analysis/PartitionAddPinLaw" a0 Z ft0 := trivial
theorem pn0 : plainName "com/example/lumper/lumper/analysis/PartitionAddPinLaw" = true := by first | (simp [plainName, overriddenIn]; done) | decide +kernel
theorem pf0 : plainFor x = true := plainFor_of_name pn0
theorem pd0 : parseMethodDescriptor "(IIIIII)Z" = some ⟨[.int, .int, .int, .int, .int, .int], some .boolean⟩ := by decide +kernel
def tab1 : List (Nat × Instr) := [(0, .aload_n 0), (1, .invokespecial 1), (4, .aload_n 0), (5, .iload_n 1), (6, .newarray .int), (8, .putfield 7), (11, .aload_n 0), (12, .iload_n 1), (13, .newarray .int), (15, .putfield 13), (18, .iconst 0), (19, .istore_n 2), (20, .iload_n 2), (21, .iload_n 1), (22, .if_icmp .ge 23), (25, .aload_n 0), (26, .getfield 7), (29, .iload_n 2), (30, .iload_n 2), (31, .iastore), (32, .aload_n 0), (33, .getfield 13), (36, .iload_n 2), (37, .iload_n 2), (38, .iastore), (39, .iinc 2 1), (42, .goto (-22)), (45, .aload_n 0), (46, .iload_n 1), (47, .newarray .int), (49, .putfield 16), (52, .aload_n 0), (53, .iload_n 1), (54, .newarray .int), (56, .putfield 19), (59, .aload_n 0), (60, .iload_n 1), (61, .newarray .int), (63, .putfield 22), (66, .aload_n 0), (67, .getfield 22), (70, .iconst 0), (71, .iload_n 1), (72, .iastore), (73, .aload_n 0), (74, .iload_n 1), (75, .newarray .int), (77, .putfield 25), (80, .aload_n 0), (81, .iload_n 1), (82, .newarray .double), (84, .putfield 28), (87, .aload_n 0), (88, .iload_n 1), (89, .newarray .int), (91, .putfield 32), (94, .aload_n 0), (95, .iconst 1), (96, .putfield 35), (99, .aload_n 0), (100, .iload_n 1), (101, .newarray .double), (103, .putfield 39), (106, .aload_n 0), (107, .iload_n 1), (108, .newarray .int), (110, .putfield 42), (113, .aload_n 0), (114, .iload_n 1), (115, .newarray .double), (117, .putfield 45), (120, .aload_n 0), (121, .iload_n 1), (122, .newarray .int), (124, .putfield 48), (127, .return_)]
set_option maxRecDepth 65536 in
theorem dec1 : own_dec prog_12_method_1_code tab1 := by
  show ∀ e ∈ tab1, decode prog_12_method_1_code e.1 = .ok (e.2, own_len e.2)
  decide +kernel
theorem seq1 : own_seq tab1 = true := by decide +kernel
theorem d1_1 : decode prog_12_method_1_code 1 = .ok (.invokespecial 1, 3) := by decide +kernel
theorem d1_6 : decode prog_12_method_1_code 6 = .ok (.newarray .int, 2) := by decide +kernel
theorem d1_8 : decode prog_12_method_1_code 8 = .ok (.putfield 7, 3) := by decide +kernel
theorem d1_13 : decode prog_12_method_1_code 13 = .ok (.newarray .int, 2) := by decide +kernel
theorem d1_15 : decode prog_12_method_1_code 15 = .ok (.putfield 13, 3) := by decide +kernel
theorem d1_31 : decode prog_12_method_1_code 31 = .ok (.iastore, 1) := by decide +kernel
theorem d1_38 : decode prog_12_method_1_code 38 = .ok (.iastore, 1) := by decide +kernel
theorem d1_47 : decode prog_12_method_1_code 47 = .ok (.newarray .int, 2) := by decide +kernel
theorem d1_49 : decode prog_12_method_1_code 49 = .ok (.putfield 16, 3) := by decide +kernel
theorem d1_54 : decode prog_12_method_1_code 54 = .ok (.newarray .int, 2) := by decide +kernel
theorem d1_56 : decode prog_12_method_1_code 56 = .ok (.putfield 19, 3) := by decide +kernel
theorem d1_61 : decode prog_12_method_1_code 61 = .ok (.newarray .int, 2) := by decide +kernel
theorem d1_63 : decode prog_12_method_1_code 63 = .ok (.putfield 22, 3) := by decide +kernel
theorem d1_72 : decode prog_12_method_1_code 72 = .ok (.iastore, 1) := by decide +kernel
theorem d1_75 : decode prog_12_method_1_code 75 = .ok (.newarray .int, 2) := by decide +kernel
theorem d1_77 : decode prog_12_method_1_code 77 = .ok (.putfield 25, 3) := by decide +kernel
theorem d1_82 : decode prog_12_method_1_code 82 = .ok (.newarray .double, 2) := by decide +kernel
theorem d1_84 : decode prog_12_method_1_code 84 = .ok (.putfield 28, 3) := by decide +kernel
theorem d1_89 : decode prog_12_method_1_code 89 = .ok (.newarray .int, 2) := by decide +kernel
theorem d1_91 : decode prog_12_method_1_code 91 = .ok (.putfield 32, 3) := by decide +kernel
theorem d1_96 : decode prog_12_method_1_code 96 = .ok (.putfield 35, 3) := by decide +kernel
theorem d1_101 : decode prog_12_method_1_code 101 = .ok (.newarray .double, 2) := by decide +kernel
theorem d1_103 : decode prog_12_method_1_code 103 = .ok (.putfield 39, 3) := by decide +kernel
theorem d1_108 : decode prog_12_method_1_code 108 = .ok (.newarray .int, 2) := by decide +kernel
theorem d1_110 : decode prog_12_method_1_code 110 = .ok (.putfield 42, 3) := by decide +kernel
theorem d1_115 : decode prog_12_method_1_code 115 = .ok (.newarray .double, 2) := by decide +kernel
theorem d1_117 : decode prog_12_method_1_code 117 = .ok (.putfield 45, 3) := by decide +kernel
theorem d1_122 : decode prog_12_method_1_code 122 = .ok (.newarray .int, 2) := by decide +kernel
theorem d1_124 : decode prog_12_method_1_code 124 = .ok (.putfield 48, 3) := by decide +kernel
theorem d1_127 : decode prog_12_method_1_code 127 = .ok (.return_, 1) := by decide +kernel
def kt1 : List (Nat × Value) := [(57, .double 4457293557087583675), (110, .long 2)]
def ft1 : List (Nat × String × String × String) := [(7, cP, "elements", "[I"), (13, cP, "position", "[I"), (16, cP, "blockOf", "[I"), (19, cP, "first", "[I"), (22, cP, "end", "[I"), (25, cP, "marked", "[I"), (28, cP, "weight", "[D"), (32, cP, "touched", "[I"), (35, cP, "blocks", "I"), (39, cP, "sortKeys", "[D"), (42, cP, "sortStates", "[I"), (45, cP, "mergedKeys", "[D"), (48, cP, "mergedStates", "[I"), (79, cP, "touchedCount", "I")]
theorem hKt1 {a0 : Array Value} {Z : State} (hw : ∀ d ∈ tables_1, d.before a0 Z = true) : own_ks cP a0 Z kt1 := ⟨hw _ (wm 74 rfl), hw _ (wm 85 rfl), trivial⟩
theorem hFt1 {a0 : Array Value} {Z : State} (hw : ∀ d ∈ tables_1, d.before a0 Z = true) : own_fs cP a0 Z ft1 := ⟨hw _ (wm 11 rfl), hw _ (wm 13 rfl), hw _ (wm 15 rfl), hw _ (wm 17 rfl), hw _ (wm 19 rfl), hw _ (wm 21 rfl), hw _ (wm 24 rfl), hw _ (wm 26 rfl), hw _ (wm 28 rfl), hw _ (wm 30 rfl), hw _ (wm 32 rfl), hw _ (wm 34 rfl), hw _ (wm 36 rfl), hw _ (wm 43 rfl), trivial⟩
theorem pn1 : plainName "com/example/lumper/lumper/analysis/Partition" = true := by first | (simp [plainName, overriddenIn]; done) | decide +kernel
theorem pf1 : plainFor (⟨"com/example/lumper/lumper/analysis/Partition", "<init>", "(I)V"⟩ : MethodName) = true := plainFor_of_name pn1
theorem pd1 : parseMethodDescriptor "(I)V" = some ⟨[.int], none⟩ := by decide +kernel
def tab3 : List (Nat × Instr) := [(0, .aload_n 0), (1, .getfield 16), (4, .iload_n 1), (5, .iaload), (6, .istore 4), (8, .aload_n 0), (9, .getfield 13), (12, .iload_n 1), (13, .iaload), (14, .istore 5), (16, .aload_n 0), (17, .getfield 19), (20, .iload 4), (22, .iaload), (23, .aload_n 0), (24, .getfield 25), (27, .iload 4), (29, .iaload), (30, .iadd), (31, .istore 6), (33, .iload 5), (35, .iload 6), (37, .if_icmp .lt 92), (40, .aload_n 0), (41, .getfield 25), (44, .iload 4), (46, .iaload), (47, .ifCond .ne 21), (50, .aload_n 0), (51, .getfield 32), (54, .aload_n 0), (55, .dup), (56, .getfield 79), (59, .dup_x1), (60, .iconst 1), (61, .iadd), (62, .putfield 79), (65, .iload 4), (67, .iastore), (68, .aload_n 0), (69, .getfield 7), (72, .iload 6), (74, .iaload), (75, .istore 7), (77, .aload_n 0), (78, .getfield 7), (81, .iload 6), (83, .iload_n 1), (84, .iastore), (85, .aload_n 0), (86, .getfield 13), (89, .iload_n 1), (90, .iload 6), (92, .iastore), (93, .aload_n 0), (94, .getfield 7), (97, .iload 5), (99, .iload 7), (101, .iastore), (102, .aload_n 0), (103, .getfield 13), (106, .iload 7), (108, .iload 5), (110, .iastore), (111, .aload_n 0), (112, .getfield 25), (115, .iload 4), (117, .dup2), (118, .iaload), (119, .iconst 1), (120, .iadd), (121, .iastore), (122, .aload_n 0), (123, .getfield 28), (126, .iload_n 1), (127, .dconst 0), (128, .dastore), (129, .aload_n 0), (130, .getfield 28), (133, .iload_n 1), (134, .dup2), (135, .daload), (136, .dload_n 2), (137, .dadd), (138, .dastore), (139, .return_)]
set_option maxRecDepth 65536 in
theorem dec3 : own_dec prog_12_method_7_code tab3 := by
  show ∀ e ∈ tab3, decode prog_12_method_7_code e.1 = .ok (e.2, own_len e.2)
  decide +kernel
theorem seq3 : own_seq tab3 = true := by decide +kernel
theorem d3_62 : decode prog_12_method_7_code 62 = .ok (.putfield 79, 3) := by decide +kernel
theorem d3_67 : decode prog_12_method_7_code 67 = .ok (.iastore, 1) := by decide +kernel
theorem d3_84 : decode prog_12_method_7_code 84 = .ok (.iastore, 1) := by decide +kernel
theorem d3_92 : decode prog_12_method_7_code 92 = .ok (.iastore, 1) := by decide +kernel
theorem d3_101 : decode prog_12_method_7_code 101 = .ok (.iastore, 1) := by decide +kernel
theorem d3_110 : decode prog_12_method_7_code 110 = .ok (.iastore, 1) := by decide +kernel
theorem d3_121 : decode prog_12_method_7_code 121 = .ok (.iastore, 1) := by decide +kernel
theorem d3_128 : decode prog_12_method_7_code 128 = .ok (.dastore, 1) := by decide +kernel
theorem d3_138 : decode prog_12_method_7_code 138 = .ok (.dastore, 1) := by decide +kernel
theorem d3_139 : decode prog_12_method_7_code 139 = .ok (.return_, 1) := by decide +kernel
theorem pn3 : plainName "com/example/lumper/lumper/analysis/Partition" = true := by first | (simp [plainName, overriddenIn]; done) | decide +kernel
theorem pf3 : plainFor (⟨"com/example/lumper/lumper/analysis/Partition", "add", "(ID)V"⟩ : MethodName) = true := plainFor_of_name pn3
theorem pd3 : parseMethodDescriptor "(ID)V" = some ⟨[.int, .double], none⟩ := by decide +kernel
def tab4 : List (Nat × Instr) := [(0, .aload_n 0), (1, .getfield 22), (4, .iload_n 1), (5, .iaload), (6, .aload_n 0), (7, .getfield 19), (10, .iload_n 1), (11, .iaload), (12, .isub), (13, .istore_n 3), (14, .aload_n 0), (15, .getfield 7), (18, .aload_n 0), (19, .getfield 19), (22, .iload_n 1), (23, .iaload), (24, .aload_n 2), (25, .iconst 0), (26, .iload_n 3), (27, .invokestatic 73), (30, .iload_n 3), (31, .ireturn)]
set_option maxRecDepth 65536 in
theorem dec4 : own_dec prog_12_method_6_code tab4 := by
  show ∀ e ∈ tab4, decode prog_12_method_6_code e.1 = .ok (e.2, own_len e.2)
  decide +kernel
theorem seq4 : own_seq tab4 = true := by decide +kernel
theorem d4_27 : decode prog_12_method_6_code 27 = .ok (.invokestatic 73, 3) := by decide +kernel
theorem d4_31 : decode prog_12_method_6_code 31 = .ok (.ireturn, 1) := by decide +kernel
theorem pn4 : plainName "com/example/lumper/lumper/analysis/Partition" = true := by first | (simp [plainName, overriddenIn]; done) | decide +kernel
theorem pf4 : plainFor (⟨"com/example/lumper/lumper/analysis/Partition", "copyMembers", "(I[I)I"⟩ : MethodName) = true := plainFor_of_name pn4
theorem pd4 : parseMethodDescriptor "(I[I)I" = some ⟨[.int, (.array .int)], some .int⟩ := by decide +kernel
def tab5 : List (Nat × Instr) := [(0, .iconst 0), (1, .istore_n 1), (2, .iload_n 1), (3, .aload_n 0), (4, .getfield 79), (7, .if_icmp .ge 43), (10, .aload_n 0), (11, .getfield 32), (14, .iload_n 1), (15, .iaload), (16, .istore_n 2), (17, .aload_n 0), (18, .getfield 25), (21, .iload_n 2), (22, .iaload), (23, .istore_n 3), (24, .aload_n 0), (25, .getfield 25), (28, .iload_n 2), (29, .iconst 0), (30, .iastore), (31, .aload_n 0), (32, .iload_n 2), (33, .aload_n 0), (34, .getfield 19), (37, .iload_n 2), (38, .iaload), (39, .iload_n 3), (40, .iadd), (41, .invokevirtual 82), (44, .iinc 1 1), (47, .goto (-45)), (50, .aload_n 0), (51, .iconst 0), (52, .putfield 79), (55, .return_)]
set_option maxRecDepth 65536 in
theorem dec5 : own_dec prog_12_method_8_code tab5 := by
  show ∀ e ∈ tab5, decode prog_12_method_8_code e.1 = .ok (e.2, own_len e.2)
  decide +kernel
theorem seq5 : own_seq tab5 = true := by decide +kernel
theorem d5_30 : decode prog_12_method_8_code 30 = .ok (.iastore, 1) := by decide +kernel
theorem d5_41 : decode prog_12_method_8_code 41 = .ok (.invokevirtual 82, 3) := by decide +kernel
theorem d5_52 : decode prog_12_method_8_code 52 = .ok (.putfield 79, 3) := by decide +kernel
theorem d5_55 : decode prog_12_method_8_code 55 = .ok (.return_, 1) := by decide +kernel
theorem pn5 : plainName "com/example/lumper/lumper/analysis/Partition" = true := by first | (simp [plainName, overriddenIn]; done) | decide +kernel
theorem pf5 : plainFor (⟨"com/example/lumper/lumper/analysis/Partition", "split", "()V"⟩ : MethodName) = true := plainFor_of_name pn5
theorem pd5 : parseMethodDescriptor "()V" = some ⟨[], none⟩ := by decide +kernel
def tab6 : List (Nat × Instr) := [(0, .aload_n 0), (1, .getfield 19), (4, .iload_n 1), (5, .iaload), (6, .istore_n 3), (7, .aload_n 0), (8, .getfield 22), (11, .iload_n 1), (12, .iaload), (13, .istore 4), (15, .aload_n 0), (16, .iload_n 3), (17, .iload_n 2), (18, .invokevirtual 86), (21, .istore 5), (23, .iload 5), (25, .ifCond .ne 9), (28, .aload_n 0), (29, .iload_n 3), (30, .iload_n 2), (31, .invokevirtual 90), (34, .iload_n 3), (35, .istore 6), (37, .iload_n 3), (38, .istore 7), (40, .iload_n 3), (41, .istore 8), (43, .iload 8), (45, .iload 4), (47, .if_icmp .ge 44), (50, .aload_n 0), (51, .iload 8), (53, .iload_n 2), (54, .iload 4), (56, .iload 5), (58, .invokevirtual 93), (61, .istore 9), (63, .iload 9), (65, .iload 8), (67, .isub), (68, .iload 7), (70, .iload 6), (72, .isub), (73, .if_icmp .le 11), (76, .iload 8), (78, .istore 6), (80, .iload 9), (82, .istore 7), (84, .iload 9), (86, .istore 8), (88, .goto (-45)), (91, .iload 7), (93, .iload 6), (95, .isub), (96, .iload 4), (98, .iload_n 3), (99, .isub), (100, .if_icmp .ge 64), (103, .iload_n 3), (104, .istore 8), (106, .iload 8), (108, .iload 4), (110, .if_icmp .ge 38), (113, .aload_n 0), (114, .iload 8), (116, .iload_n 2), (117, .iload 4), (119, .iload 5), (121, .invokevirtual 93), (124, .istore 9), (126, .iload 8), (128, .iload 6), (130, .if_icmp .eq 11), (133, .aload_n 0), (134, .iload 8), (136, .iload 9), (138, .invokevirtual 97), (141, .iload 9), (143, .istore 8), (145, .goto (-39)), (148, .aload_n 0), (149, .getfield 19), (152, .iload_n 1), (153, .iload 6), (155, .iastore), (156, .aload_n 0), (157, .getfield 22), (160, .iload_n 1), (161, .iload 7), (163, .iastore), (164, .return_)]
set_option maxRecDepth 65536 in
theorem dec6 : own_dec prog_12_method_9_code tab6 := by
  show ∀ e ∈ tab6, decode prog_12_method_9_code e.1 = .ok (e.2, own_len e.2)
  decide +kernel
theorem seq6 : own_seq tab6 = true := by decide +kernel
theorem d6_18 : decode prog_12_method_9_code 18 = .ok (.invokevirtual 86, 3) := by decide +kernel
theorem d6_31 : decode prog_12_method_9_code 31 = .ok (.invokevirtual 90, 3) := by decide +kernel
theorem d6_58 : decode prog_12_method_9_code 58 = .ok (.invokevirtual 93, 3) := by decide +kernel
theorem d6_121 : decode prog_12_method_9_code 121 = .ok (.invokevirtual 93, 3) := by decide +kernel
theorem d6_138 : decode prog_12_method_9_code 138 = .ok (.invokevirtual 97, 3) := by decide +kernel
theorem d6_155 : decode prog_12_method_9_code 155 = .ok (.iastore, 1) := by decide +kernel
theorem d6_163 : decode prog_12_method_9_code 163 = .ok (.iastore, 1) := by decide +kernel
theorem d6_164 : decode prog_12_method_9_code 164 = .ok (.return_, 1) := by decide +kernel
theorem pn6 : plainName "com/example/lumper/lumper/analysis/Partition" = true := by first | (simp [plainName, overriddenIn]; done) | decide +kernel
theorem pf6 : plainFor (⟨"com/example/lumper/lumper/analysis/Partition", "splitBlock", "(II)V"⟩ : MethodName) = true := plainFor_of_name pn6
theorem pd6 : parseMethodDescriptor "(II)V" = some ⟨[.int, .int], none⟩ := by decide +kernel
def tab7 : List (Nat × Instr) := [(0, .aload_n 0), (1, .getfield 28), (4, .aload_n 0), (5, .getfield 7), (8, .iload_n 1), (9, .iaload), (10, .daload), (11, .dstore_n 3), (12, .dload_n 3), (13, .dstore 5), (15, .iload_n 1), (16, .iconst 1), (17, .iadd), (18, .istore 7), (20, .iload 7), (22, .iload_n 2), (23, .if_icmp .ge 45), (26, .dload_n 3), (27, .aload_n 0), (28, .getfield 28), (31, .aload_n 0), (32, .getfield 7), (35, .iload 7), (37, .iaload), (38, .daload), (39, .invokestatic 100), (42, .dstore_n 3), (43, .dload 5), (45, .aload_n 0), (46, .getfield 28), (49, .aload_n 0), (50, .getfield 7), (53, .iload 7), (55, .iaload), (56, .daload), (57, .invokestatic 59), (60, .dstore 5), (62, .iinc 7 1), (65, .goto (-45)), (68, .dload 5), (70, .dload_n 3), (71, .dsub), (72, .ldc2_w 57), (75, .dload_n 3), (76, .invokestatic 51), (79, .dload 5), (81, .invokestatic 51), (84, .invokestatic 100), (87, .dmul), (88, .dcmp .g), (89, .ifCond .gt 7), (92, .iconst 1), (93, .goto 4), (96, .iconst 0), (97, .ireturn)]
set_option maxRecDepth 65536 in
theorem dec7 : own_dec prog_12_method_10_code tab7 := by
  show ∀ e ∈ tab7, decode prog_12_method_10_code e.1 = .ok (e.2, own_len e.2)
  decide +kernel
theorem seq7 : own_seq tab7 = true := by decide +kernel
theorem d7_39 : decode prog_12_method_10_code 39 = .ok (.invokestatic 100, 3) := by decide +kernel
theorem d7_57 : decode prog_12_method_10_code 57 = .ok (.invokestatic 59, 3) := by decide +kernel
theorem d7_76 : decode prog_12_method_10_code 76 = .ok (.invokestatic 51, 3) := by decide +kernel
theorem d7_81 : decode prog_12_method_10_code 81 = .ok (.invokestatic 51, 3) := by decide +kernel
theorem d7_84 : decode prog_12_method_10_code 84 = .ok (.invokestatic 100, 3) := by decide +kernel
theorem d7_97 : decode prog_12_method_10_code 97 = .ok (.ireturn, 1) := by decide +kernel
theorem pn7 : plainName "com/example/lumper/lumper/analysis/Partition" = true := by first | (simp [plainName, overriddenIn]; done) | decide +kernel
theorem pf7 : plainFor (⟨"com/example/lumper/lumper/analysis/Partition", "alike", "(II)Z"⟩ : MethodName) = true := plainFor_of_name pn7
theorem pd7 : parseMethodDescriptor "(II)Z" = some ⟨[.int, .int], some .boolean⟩ := by decide +kernel
def tab11 : List (Nat × Instr) := [(0, .iload_n 2), (1, .iload_n 1), (2, .isub), (3, .istore_n 3), (4, .aload_n 0), (5, .getfield 39), (8, .astore 4), (10, .aload_n 0), (11, .getfield 42), (14, .astore 5), (16, .aload_n 0), (17, .getfield 45), (20, .astore 6), (22, .aload_n 0), (23, .getfield 48), (26, .astore 7), (28, .iconst 0), (29, .istore 8), (31, .iload 8), (33, .iload_n 3), (34, .if_icmp .ge 38), (37, .aload 5), (39, .iload 8), (41, .aload_n 0), (42, .getfield 7), (45, .iload_n 1), (46, .iload 8), (48, .iadd), (49, .iaload), (50, .iastore), (51, .aload 4), (53, .iload 8), (55, .aload_n 0), (56, .getfield 28), (59, .aload 5), (61, .iload 8), (63, .iaload), (64, .daload), (65, .dastore), (66, .iinc 8 1), (69, .goto (-38)), (72, .lconst 1), (73, .lstore 8), (75, .lload 8), (77, .iload_n 3), (78, .i2l), (79, .lcmp), (80, .ifCond .ge 111), (83, .lconst 0), (84, .lstore 10), (86, .lload 10), (88, .iload_n 3), (89, .i2l), (90, .lcmp), (91, .ifCond .ge 65), (94, .lload 10), (96, .lload 8), (98, .ladd), (99, .iload_n 3), (100, .i2l), (101, .invokestatic 107), (104, .l2i), (105, .istore 12), (107, .lload 10), (109, .ldc2_w 110), (112, .lload 8), (114, .lmul), (115, .ladd), (116, .iload_n 3), (117, .i2l), (118, .invokestatic 107), (121, .l2i), (122, .istore 13), (124, .aload 4), (126, .aload 5), (128, .lload 10), (130, .l2i), (131, .iload 12), (133, .iload 13), (135, .aload 6), (137, .aload 7), (139, .invokestatic 112), (142, .lload 10), (144, .ldc2_w 110), (147, .lload 8), (149, .lmul), (150, .ladd), (151, .lstore 10), (153, .goto (-67)), (156, .aload 6), (158, .astore 10), (160, .aload 4), (162, .astore 6), (164, .aload 10), (166, .astore 4), (168, .aload 7), (170, .astore 11), (172, .aload 5), (174, .astore 7), (176, .aload 11), (178, .astore 5), (180, .lload 8), (182, .ldc2_w 110), (185, .lmul), (186, .lstore 8), (188, .goto (-113)), (191, .iconst 0), (192, .istore 8), (194, .iload 8), (196, .iload_n 3), (197, .if_icmp .ge 37), (200, .aload_n 0), (201, .getfield 7), (204, .iload_n 1), (205, .iload 8), (207, .iadd), (208, .aload 5), (210, .iload 8), (212, .iaload), (213, .iastore), (214, .aload_n 0), (215, .getfield 13), (218, .aload 5), (220, .iload 8), (222, .iaload), (223, .iload_n 1), (224, .iload 8), (226, .iadd), (227, .iastore), (228, .iinc 8 1), (231, .goto (-37)), (234, .return_)]
set_option maxRecDepth 65536 in
theorem dec11 : own_dec prog_12_method_13_code tab11 := by
  show ∀ e ∈ tab11, decode prog_12_method_13_code e.1 = .ok (e.2, own_len e.2)
  decide +kernel
theorem seq11 : own_seq tab11 = true := by decide +kernel
theorem d11_50 : decode prog_12_method_13_code 50 = .ok (.iastore, 1) := by decide +kernel
theorem d11_65 : decode prog_12_method_13_code 65 = .ok (.dastore, 1) := by decide +kernel
theorem d11_101 : decode prog_12_method_13_code 101 = .ok (.invokestatic 107, 3) := by decide +kernel
theorem d11_118 : decode prog_12_method_13_code 118 = .ok (.invokestatic 107, 3) := by decide +kernel
theorem d11_139 : decode prog_12_method_13_code 139 = .ok (.invokestatic 112, 3) := by decide +kernel
theorem d11_213 : decode prog_12_method_13_code 213 = .ok (.iastore, 1) := by decide +kernel
theorem d11_227 : decode prog_12_method_13_code 227 = .ok (.iastore, 1) := by decide +kernel
theorem d11_234 : decode prog_12_method_13_code 234 = .ok (.return_, 1) := by decide +kernel
theorem pn11 : plainName "com/example/lumper/lumper/analysis/Partition" = true := by first | (simp [plainName, overriddenIn]; done) | decide +kernel
theorem pf11 : plainFor (⟨"com/example/lumper/lumper/analysis/Partition", "sortByWeight", "(II)V"⟩ : MethodName) = true := plainFor_of_name pn11
theorem pd11 : parseMethodDescriptor "(II)V" = some ⟨[.int, .int], none⟩ := by decide +kernel
def tab12 : List (Nat × Instr) := [(0, .lload_n 0), (1, .lload_n 2), (2, .lcmp), (3, .ifCond .gt 7), (6, .lload_n 0), (7, .goto 4), (10, .lload_n 2), (11, .lreturn)]
set_option maxRecDepth 65536 in
theorem dec12 : own_dec jdk_29_method_70_code tab12 := by
  show ∀ e ∈ tab12, decode jdk_29_method_70_code e.1 = .ok (e.2, own_len e.2)
  decide +kernel
theorem seq12 : own_seq tab12 = true := by decide +kernel
theorem d12_11 : decode jdk_29_method_70_code 11 = .ok (.lreturn, 1) := by decide +kernel
def kt12 : List (Nat × Value) := []
def ft12 : List (Nat × String × String × String) := []
theorem hKt12 {a0 : Array Value} {Z : State} (hw : ∀ d ∈ tables_1, d.before a0 Z = true) : own_ks "java/lang/Math" a0 Z kt12 := trivial
theorem hFt12 {a0 : Array Value} {Z : State} (hw : ∀ d ∈ tables_1, d.before a0 Z = true) : own_fs "java/lang/Math" a0 Z ft12 := trivial
theorem pf12 : plainFor (⟨"java/lang/Math", "min", "(JJ)J"⟩ : MethodName) = true := by decide +kernel
theorem pd12 : parseMethodDescriptor "(JJ)J" = some ⟨[.long, .long], some .long⟩ := by decide +kernel
def tab13 : List (Nat × Instr) := [(0, .iload_n 2), (1, .istore 7), (3, .iload_n 3), (4, .istore 8), (6, .iload_n 2), (7, .istore 9), (9, .iload 9), (11, .iload 4), (13, .if_icmp .ge 79), (16, .iload 8), (18, .iload 4), (20, .if_icmp .eq 21), (23, .iload 7), (25, .iload_n 3), (26, .if_icmp .ge 19), (29, .aload_n 0), (30, .iload 7), (32, .daload), (33, .aload_n 0), (34, .iload 8), (36, .daload), (37, .dcmp .g), (38, .ifCond .gt 7), (41, .iconst 1), (42, .goto 4), (45, .iconst 0), (46, .istore 10), (48, .iload 10), (50, .ifCond .eq 11), (53, .iload 7), (55, .iinc 7 1), (58, .goto 8), (61, .iload 8), (63, .iinc 8 1), (66, .istore 11), (68, .aload 5), (70, .iload 9), (72, .aload_n 0), (73, .iload 11), (75, .daload), (76, .dastore), (77, .aload 6), (79, .iload 9), (81, .aload_n 1), (82, .iload 11), (84, .iaload), (85, .iastore), (86, .iinc 9 1), (89, .goto (-80)), (92, .return_)]
set_option maxRecDepth 65536 in
theorem dec13 : own_dec prog_12_method_14_code tab13 := by
  show ∀ e ∈ tab13, decode prog_12_method_14_code e.1 = .ok (e.2, own_len e.2)
  decide +kernel
theorem seq13 : own_seq tab13 = true := by decide +kernel
theorem d13_76 : decode prog_12_method_14_code 76 = .ok (.dastore, 1) := by decide +kernel
theorem d13_85 : decode prog_12_method_14_code 85 = .ok (.iastore, 1) := by decide +kernel
theorem d13_92 : decode prog_12_method_14_code 92 = .ok (.return_, 1) := by decide +kernel
theorem pn13 : plainName "com/example/lumper/lumper/analysis/Partition" = true := by first | (simp [plainName, overriddenIn]; done) | decide +kernel
theorem pf13 : plainFor (⟨"com/example/lumper/lumper/analysis/Partition", "merge", "([D[IIII[D[I)V"⟩ : MethodName) = true := plainFor_of_name pn13
theorem pd13 : parseMethodDescriptor "([D[IIII[D[I)V" = some ⟨[(.array .double), (.array .int), .int, .int, .int, (.array .double), (.array .int)], none⟩ := by decide +kernel
def tab14 : List (Nat × Instr) := [(0, .iload_n 1), (1, .iload_n 2), (2, .if_icmp .lt 9), (5, .iload_n 3), (6, .istore 5), (8, .goto 63), (11, .iload 4), (13, .ifCond .eq 9), (16, .iload_n 2), (17, .istore 5), (19, .goto 52), (22, .iload_n 1), (23, .iconst 1), (24, .iadd), (25, .istore 5), (27, .iload 5), (29, .iload_n 2), (30, .if_icmp .ge 41), (33, .aload_n 0), (34, .getfield 28), (37, .aload_n 0), (38, .getfield 7), (41, .iload 5), (43, .iconst 1), (44, .isub), (45, .iaload), (46, .daload), (47, .aload_n 0), (48, .getfield 28), (51, .aload_n 0), (52, .getfield 7), (55, .iload 5), (57, .iaload), (58, .daload), (59, .invokestatic 103), (62, .ifCond .eq 9), (65, .iinc 5 1), (68, .goto (-41)), (71, .iload 5), (73, .ireturn)]
set_option maxRecDepth 65536 in
theorem dec14 : own_dec prog_12_method_11_code tab14 := by
  show ∀ e ∈ tab14, decode prog_12_method_11_code e.1 = .ok (e.2, own_len e.2)
  decide +kernel
theorem seq14 : own_seq tab14 = true := by decide +kernel
theorem d14_59 : decode prog_12_method_11_code 59 = .ok (.invokestatic 103, 3) := by decide +kernel
theorem d14_73 : decode prog_12_method_11_code 73 = .ok (.ireturn, 1) := by decide +kernel
theorem pn14 : plainName "com/example/lumper/lumper/analysis/Partition" = true := by first | (simp [plainName, overriddenIn]; done) | decide +kernel
theorem pf14 : plainFor (⟨"com/example/lumper/lumper/analysis/Partition", "groupEnd", "(IIIZ)I"⟩ : MethodName) = true := plainFor_of_name pn14
theorem pd14 : parseMethodDescriptor "(IIIZ)I" = some ⟨[.int, .int, .int, .boolean], some .int⟩ := by decide +kernel
def tab15 : List (Nat × Instr) := [(0, .dload_n 0), (1, .dload_n 2), (2, .dsub), (3, .invokestatic 51), (6, .ldc2_w 57), (9, .dload_n 0), (10, .invokestatic 51), (13, .dload_n 2), (14, .invokestatic 51), (17, .invokestatic 59), (20, .dmul), (21, .dcmp .g), (22, .ifCond .gt 7), (25, .iconst 1), (26, .goto 4), (29, .iconst 0), (30, .ireturn)]
set_option maxRecDepth 65536 in
theorem dec15 : own_dec prog_12_method_2_code tab15 := by
  show ∀ e ∈ tab15, decode prog_12_method_2_code e.1 = .ok (e.2, own_len e.2)
  decide +kernel
theorem seq15 : own_seq tab15 = true := by decide +kernel
theorem d15_3 : decode prog_12_method_2_code 3 = .ok (.invokestatic 51, 3) := by decide +kernel
theorem d15_10 : decode prog_12_method_2_code 10 = .ok (.invokestatic 51, 3) := by decide +kernel
theorem d15_14 : decode prog_12_method_2_code 14 = .ok (.invokestatic 51, 3) := by decide +kernel
theorem d15_17 : decode prog_12_method_2_code 17 = .ok (.invokestatic 59, 3) := by decide +kernel
theorem d15_30 : decode prog_12_method_2_code 30 = .ok (.ireturn, 1) := by decide +kernel
theorem pn15 : plainName "com/example/lumper/lumper/analysis/Partition" = true := by first | (simp [plainName, overriddenIn]; done) | decide +kernel
theorem pf15 : plainFor (⟨"com/example/lumper/lumper/analysis/Partition", "equal", "(DD)Z"⟩ : MethodName) = true := plainFor_of_name pn15
theorem pd15 : parseMethodDescriptor "(DD)Z" = some ⟨[.double, .double], some .boolean⟩ := by decide +kernel
def tab16 : List (Nat × Instr) := [(0, .aload_n 0), (1, .dup), (2, .getfield 35), (5, .dup_x1), (6, .iconst 1), (7, .iadd), (8, .putfield 35), (11, .istore_n 3), (12, .aload_n 0), (13, .getfield 19), (16, .iload_n 3), (17, .iload_n 1), (18, .iastore), (19, .aload_n 0), (20, .getfield 22), (23, .iload_n 3), (24, .iload_n 2), (25, .iastore), (26, .iload_n 1), (27, .istore 4), (29, .iload 4), (31, .iload_n 2), (32, .if_icmp .ge 22), (35, .aload_n 0), (36, .getfield 16), (39, .aload_n 0), (40, .getfield 7), (43, .iload 4), (45, .iaload), (46, .iload_n 3), (47, .iastore), (48, .iinc 4 1), (51, .goto (-22)), (54, .return_)]
set_option maxRecDepth 65536 in
theorem dec16 : own_dec prog_12_method_12_code tab16 := by
  show ∀ e ∈ tab16, decode prog_12_method_12_code e.1 = .ok (e.2, own_len e.2)
  decide +kernel
theorem seq16 : own_seq tab16 = true := by decide +kernel
theorem d16_8 : decode prog_12_method_12_code 8 = .ok (.putfield 35, 3) := by decide +kernel
theorem d16_18 : decode prog_12_method_12_code 18 = .ok (.iastore, 1) := by decide +kernel
theorem d16_25 : decode prog_12_method_12_code 25 = .ok (.iastore, 1) := by decide +kernel
theorem d16_47 : decode prog_12_method_12_code 47 = .ok (.iastore, 1) := by decide +kernel
theorem d16_54 : decode prog_12_method_12_code 54 = .ok (.return_, 1) := by decide +kernel
theorem pn16 : plainName "com/example/lumper/lumper/analysis/Partition" = true := by first | (simp [plainName, overriddenIn]; done) | decide +kernel
theorem pf16 : plainFor (⟨"com/example/lumper/lumper/analysis/Partition", "newBlock", "(II)V"⟩ : MethodName) = true := plainFor_of_name pn16
theorem pd16 : parseMethodDescriptor "(II)V" = some ⟨[.int, .int], none⟩ := by decide +kernel
def tab17 : List (Nat × Instr) := [(0, .aload_n 0), (1, .getfield 35), (4, .ireturn)]
set_option maxRecDepth 65536 in
theorem dec17 : own_dec prog_12_method_4_code tab17 := by
  show ∀ e ∈ tab17, decode prog_12_method_4_code e.1 = .ok (e.2, own_len e.2)
  decide +kernel
theorem seq17 : own_seq tab17 = true := by decide +kernel
theorem d17_4 : decode prog_12_method_4_code 4 = .ok (.ireturn, 1) := by decide +kernel
theorem pn17 : plainName "com/example/lumper/lumper/analysis/Partition" = true := by first | (simp [plainName, overriddenIn]; done) | decide +kernel
theorem pf17 : plainFor (⟨"com/example/lumper/lumper/analysis/Partition", "blockCount", "()I"⟩ : MethodName) = true := plainFor_of_name pn17
theorem pd17 : parseMethodDescriptor "()I" = some ⟨[], some .int⟩ := by decide +kernel
def tab18 : List (Nat × Instr) := [(0, .aload_n 0), (1, .getfield 16), (4, .iload_n 1), (5, .iaload), (6, .ireturn)]
set_option maxRecDepth 65536 in
theorem dec18 : own_dec prog_12_method_5_code tab18 := by
  show ∀ e ∈ tab18, decode prog_12_method_5_code e.1 = .ok (e.2, own_len e.2)
  decide +kernel
theorem seq18 : own_seq tab18 = true := by decide +kernel
theorem d18_6 : decode prog_12_method_5_code 6 = .ok (.ireturn, 1) := by decide +kernel
theorem pn18 : plainName "com/example/lumper/lumper/analysis/Partition" = true := by first | (simp [plainName, overriddenIn]; done) | decide +kernel
theorem pf18 : plainFor (⟨"com/example/lumper/lumper/analysis/Partition", "blockOf", "(I)I"⟩ : MethodName) = true := plainFor_of_name pn18
theorem pd18 : parseMethodDescriptor "(I)I" = some ⟨[.int], some .int⟩ := by decide +kernel
def tab19 : List (Nat × Instr) := [(0, .iload_n 0), (1, .iload_n 2), (2, .if_icmp .ne 7), (5, .iload_n 1), (6, .goto 4), (9, .iconst 0), (10, .ireturn)]
set_option maxRecDepth 65536 in
theorem dec19 : own_dec method_3_code tab19 := by
  show ∀ e ∈ tab19, decode method_3_code e.1 = .ok (e.2, own_len e.2)
  decide +kernel
theorem seq19 : own_seq tab19 = true := by decide +kernel
theorem d19_10 : decode method_3_code 10 = .ok (.ireturn, 1) := by decide +kernel
theorem pn19 : plainName "com/example/lumper/lumper/analysis/PartitionAddPinLaw" = true := by first | (simp [plainName, overriddenIn]; done) | decide +kernel
theorem pf19 : plainFor (⟨"com/example/lumper/lumper/analysis/PartitionAddPinLaw", "part", "(III)I"⟩ : MethodName) = true := plainFor_of_name pn19
theorem pd19 : parseMethodDescriptor "(III)I" = some ⟨[.int, .int, .int], some .int⟩ := by decide +kernel
def tab20 : List (Nat × Instr) := [(0, .iload_n 0), (1, .ifCond .lt 12), (4, .iload_n 0), (5, .iconst 3), (6, .if_icmp .ge 7), (9, .iconst 1), (10, .goto 4), (13, .iconst 0), (14, .ireturn)]
set_option maxRecDepth 65536 in
theorem dec20 : own_dec method_4_code tab20 := by
  show ∀ e ∈ tab20, decode method_4_code e.1 = .ok (e.2, own_len e.2)
  decide +kernel
theorem seq20 : own_seq tab20 = true := by decide +kernel
theorem d20_14 : decode method_4_code 14 = .ok (.ireturn, 1) := by decide +kernel
theorem pn20 : plainName "com/example/lumper/lumper/analysis/PartitionAddPinLaw" = true := by first | (simp [plainName, overriddenIn]; done) | decide +kernel
theorem pf20 : plainFor (⟨"com/example/lumper/lumper/analysis/PartitionAddPinLaw", "in", "(I)Z"⟩ : MethodName) = true := plainFor_of_name pn20
theorem pd20 : parseMethodDescriptor "(I)Z" = some ⟨[.int], some .boolean⟩ := by decide +kernel
def tab21 : List (Nat × Instr) := [(0, .iload_n 2), (1, .iload_n 3), (2, .iload_n 0), (3, .iload_n 1), (4, .invokestatic 59), (7, .istore 6), (9, .iload 4), (11, .iload 5), (13, .iload_n 0), (14, .iload_n 1), (15, .invokestatic 59), (18, .istore 7), (20, .iload 6), (22, .ifCond .eq 7), (25, .iconst 1), (26, .goto 4), (29, .iconst 0), (30, .iload 7), (32, .ifCond .eq 7), (35, .iconst 1), (36, .goto 4), (39, .iconst 0), (40, .iadd), (41, .iload 6), (43, .ifCond .eq 24), (46, .iload 7), (48, .ifCond .eq 19), (51, .iload_n 2), (52, .iload_n 3), (53, .iload 4), (55, .iload 5), (57, .invokestatic 46), (60, .ifCond .eq 7), (63, .iconst 1), (64, .goto 4), (67, .iconst 0), (68, .isub), (69, .ireturn)]
set_option maxRecDepth 65536 in
theorem dec21 : own_dec method_7_code tab21 := by
  show ∀ e ∈ tab21, decode method_7_code e.1 = .ok (e.2, own_len e.2)
  decide +kernel
theorem seq21 : own_seq tab21 = true := by decide +kernel
theorem d21_4 : decode method_7_code 4 = .ok (.invokestatic 59, 3) := by decide +kernel
theorem d21_15 : decode method_7_code 15 = .ok (.invokestatic 59, 3) := by decide +kernel
theorem d21_57 : decode method_7_code 57 = .ok (.invokestatic 46, 3) := by decide +kernel
theorem d21_69 : decode method_7_code 69 = .ok (.ireturn, 1) := by decide +kernel
theorem pn21 : plainName "com/example/lumper/lumper/analysis/PartitionAddPinLaw" = true := by first | (simp [plainName, overriddenIn]; done) | decide +kernel
theorem pf21 : plainFor (⟨"com/example/lumper/lumper/analysis/PartitionAddPinLaw", "rank", "(ZIZIZI)I"⟩ : MethodName) = true := plainFor_of_name pn21
theorem pd21 : parseMethodDescriptor "(ZIZIZI)I" = some ⟨[.boolean, .int, .boolean, .int, .boolean, .int], some .int⟩ := by decide +kernel
def tab22 : List (Nat × Instr) := [(0, .iload_n 0), (1, .ifCond .eq 16), (4, .iload_n 2), (5, .ifCond .eq 8), (8, .iload_n 1), (9, .iload_n 3), (10, .if_icmp .ge 7), (13, .iconst 1), (14, .goto 4), (17, .iconst 0), (18, .ireturn)]
set_option maxRecDepth 65536 in
theorem dec22 : own_dec method_5_code tab22 := by
  show ∀ e ∈ tab22, decode method_5_code e.1 = .ok (e.2, own_len e.2)
  decide +kernel
theorem seq22 : own_seq tab22 = true := by decide +kernel
theorem d22_18 : decode method_5_code 18 = .ok (.ireturn, 1) := by decide +kernel
theorem pn22 : plainName "com/example/lumper/lumper/analysis/PartitionAddPinLaw" = true := by first | (simp [plainName, overriddenIn]; done) | decide +kernel
theorem pf22 : plainFor (⟨"com/example/lumper/lumper/analysis/PartitionAddPinLaw", "before", "(ZIZI)Z"⟩ : MethodName) = true := plainFor_of_name pn22
theorem pd22 : parseMethodDescriptor "(ZIZI)Z" = some ⟨[.boolean, .int, .boolean, .int], some .boolean⟩ := by decide +kernel
def tab23 : List (Nat × Instr) := [(0, .iload_n 0), (1, .iload_n 2), (2, .if_icmp .ne 16), (5, .iload_n 0), (6, .ifCond .eq 8), (9, .iload_n 1), (10, .iload_n 3), (11, .if_icmp .ne 7), (14, .iconst 1), (15, .goto 4), (18, .iconst 0), (19, .ireturn)]
set_option maxRecDepth 65536 in
theorem dec23 : own_dec method_6_code tab23 := by
  show ∀ e ∈ tab23, decode method_6_code e.1 = .ok (e.2, own_len e.2)
  decide +kernel
theorem seq23 : own_seq tab23 = true := by decide +kernel
theorem d23_19 : decode method_6_code 19 = .ok (.ireturn, 1) := by decide +kernel
theorem pn23 : plainName "com/example/lumper/lumper/analysis/PartitionAddPinLaw" = true := by first | (simp [plainName, overriddenIn]; done) | decide +kernel
theorem pf23 : plainFor (⟨"com/example/lumper/lumper/analysis/PartitionAddPinLaw", "same", "(ZIZI)Z"⟩ : MethodName) = true := plainFor_of_name pn23
theorem pd23 : parseMethodDescriptor "(ZIZI)Z" = some ⟨[.boolean, .int, .boolean, .int], some .boolean⟩ := by decide +kernel
def tab24 : List (Nat × Instr) := [(0, .iload_n 0), (1, .iload_n 1), (2, .if_icmp .lt 7), (5, .iload_n 0), (6, .goto 4), (9, .iload_n 1), (10, .ireturn)]
set_option maxRecDepth 65536 in
theorem dec24 : own_dec jdk_29_method_65_code tab24 := by
  show ∀ e ∈ tab24, decode jdk_29_method_65_code e.1 = .ok (e.2, own_len e.2)
  decide +kernel
theorem seq24 : own_seq tab24 = true := by decide +kernel
theorem d24_10 : decode jdk_29_method_65_code 10 = .ok (.ireturn, 1) := by decide +kernel
theorem pf24 : plainFor (⟨"java/lang/Math", "max", "(II)I"⟩ : MethodName) = true := by decide +kernel
theorem pd24 : parseMethodDescriptor "(II)I" = some ⟨[.int, .int], some .int⟩ := by decide +kernel
def tab25 : List (Nat × Instr) := [(0, .iload_n 0), (1, .iload_n 1), (2, .if_icmp .ne 5), (5, .iconst 0), (6, .ireturn), (7, .iload_n 0), (8, .iload_n 1), (9, .if_icmp .ge 9), (12, .iload_n 0), (13, .iconst 1), (14, .iadd), (15, .goto 4), (18, .iload_n 0), (19, .ireturn)]
set_option maxRecDepth 65536 in
theorem dec25 : own_dec method_8_code tab25 := by
  show ∀ e ∈ tab25, decode method_8_code e.1 = .ok (e.2, own_len e.2)
  decide +kernel
theorem seq25 : own_seq tab25 = true := by decide +kernel
theorem d25_6 : decode method_8_code 6 = .ok (.ireturn, 1) := by decide +kernel
theorem d25_19 : decode method_8_code 19 = .ok (.ireturn, 1) := by decide +kernel
theorem pn25 : plainName "com/example/lumper/lumper/analysis/PartitionAddPinLaw" = true := by first | (simp [plainName, overriddenIn]; done) | decide +kernel
theorem pf25 : plainFor (⟨"com/example/lumper/lumper/analysis/PartitionAddPinLaw", "block", "(II)I"⟩ : MethodName) = true := plainFor_of_name pn25
theorem pd25 : parseMethodDescriptor "(II)I" = some ⟨[.int, .int], some .int⟩ := by decide +kernel
def own_PF (Z : State) (h : Heap) (a el po bo fi en ma we tu sk ss mk ms : Addr) (nb tc : Int32) : Prop := Fld Z h a cP "elements" "[I" (.ref el) ∧ Fld Z h a cP "position" "[I" (.ref po) ∧ Fld Z h a cP "blockOf" "[I" (.ref bo) ∧ Fld Z h a cP "first" "[I" (.ref fi) ∧ Fld Z h a cP "end" "[I" (.ref en) ∧ Fld Z h a cP "marked" "[I" (.ref ma) ∧ Fld Z h a cP "weight" "[D" (.ref we) ∧ Fld Z h a cP "touched" "[I" (.ref tu) ∧ Fld Z h a cP "sortKeys" "[D" (.ref sk) ∧ Fld Z h a cP "sortStates" "[I" (.ref ss) ∧ Fld Z h a cP "mergedKeys" "[D" (.ref mk) ∧ Fld Z h a cP "mergedStates" "[I" (.ref ms) ∧ Fld Z h a cP "blocks" "I" (.int nb) ∧ Fld Z h a cP "touchedCount" "I" (.int tc)
theorem own_PF.keep {Z : State} {h h' : Heap} {a : Addr} {el : Addr} {po : Addr} {bo : Addr} {fi : Addr} {en : Addr} {ma : Addr} {we : Addr} {tu : Addr} {sk : Addr} {ss : Addr} {mk : Addr} {ms : Addr} {nb tc : Int32} {ws : List Addr} (F : own_PF Z h a el po bo fi en ma we tu sk ss mk ms nb tc) (K : Keep h h' ws) (q : a ∉ ws) : own_PF Z h' a el po bo fi en ma we tu sk ss mk ms nb tc := by
  obtain ⟨f0, f1, f2, f3, f4, f5, f6, f7, f8, f9, f10, f11, f12, f13⟩ := F
  exact ⟨f0.keep K q, f1.keep K q, f2.keep K q, f3.keep K q, f4.keep K q, f5.keep K q, f6.keep K q, f7.keep K q, f8.keep K q, f9.keep K q, f10.keep K q, f11.keep K q, f12.keep K q, f13.keep K q⟩
theorem own_PF.ext {Z : State} {h h' : Heap} {a : Addr} {el : Addr} {po : Addr} {bo : Addr} {fi : Addr} {en : Addr} {ma : Addr} {we : Addr} {tu : Addr} {sk : Addr} {ss : Addr} {mk : Addr} {ms : Addr} {nb tc : Int32} (F : own_PF Z h a el po bo fi en ma we tu sk ss mk ms nb tc) (E : Ext h h') : own_PF Z h' a el po bo fi en ma we tu sk ss mk ms nb tc := by
  obtain ⟨f0, f1, f2, f3, f4, f5, f6, f7, f8, f9, f10, f11, f12, f13⟩ := F
  exact ⟨Fld.ext E f0, Fld.ext E f1, Fld.ext E f2, Fld.ext E f3, Fld.ext E f4, Fld.ext E f5, Fld.ext E f6, Fld.ext E f7, Fld.ext E f8, Fld.ext E f9, Fld.ext E f10, Fld.ext E f11, Fld.ext E f12, Fld.ext E f13⟩
theorem own_PF.wr {Z : State} {h h' : Heap} {a : Addr} {el : Addr} {po : Addr} {bo : Addr} {fi : Addr} {en : Addr} {ma : Addr} {we : Addr} {tu : Addr} {sk : Addr} {ss : Addr} {mk : Addr} {ms : Addr} {nb tc : Int32} {b : Addr} {sl : Nat} {v : Value} (F : own_PF Z h a el po bo fi en ma we tu sk ss mk ms nb tc) (W : Wr h h' b sl v) (q : a ≠ b) : own_PF Z h' a el po bo fi en ma we tu sk ss mk ms nb tc := by
  obtain ⟨f0, f1, f2, f3, f4, f5, f6, f7, f8, f9, f10, f11, f12, f13⟩ := F
  exact ⟨Fld.other W f0 (Or.inl q), Fld.other W f1 (Or.inl q), Fld.other W f2 (Or.inl q), Fld.other W f3 (Or.inl q), Fld.other W f4 (Or.inl q), Fld.other W f5 (Or.inl q), Fld.other W f6 (Or.inl q), Fld.other W f7 (Or.inl q), Fld.other W f8 (Or.inl q), Fld.other W f9 (Or.inl q), Fld.other W f10 (Or.inl q), Fld.other W f11 (Or.inl q), Fld.other W f12 (Or.inl q), Fld.other W f13 (Or.inl q)⟩
def own_CH (n0 a el po bo fi en ma we tu sk ss mk ms : Nat) : Prop := n0 ≤ a ∧ a < el ∧ el < po ∧ po < bo ∧ bo < fi ∧ fi < en ∧ en < ma ∧ ma < we ∧ we < tu ∧ tu < sk ∧ sk < ss ∧ ss < mk ∧ mk < ms
theorem own_A.at3 {Z : State} {h : Heap} {b : Addr} {v : Int32} (A : own_A Z h b .int [.int v, .int v, .int v]) (t : Int32) (t0 : 0 ≤ t.toInt) (t1 : t.toInt < 3) : own_at Z h b .int t (.int v) := by
  refine A.at t t.toInt.toNat (by omega) ?_
  obtain e | e | e : t.toInt.toNat = 0 ∨ t.toInt.toNat = 1 ∨ t.toInt.toNat = 2 := by omega
  · rw [e]; rfl
  · rw [e]; rfl
  · rw [e]; rfl
set_option maxRecDepth 65536 in
set_option maxHeartbeats 40000000 in
theorem rm1 (l : Launch) (Z : State) (a0 : Array Value) (hw : ∀ d ∈ tables_1, d.before a0 Z = true) (ws : List Jvm.Cond) (a : Addr) (h0 : Heap) (n0 : Nat) (Z0 : n0 ≤ h0.size) (E0 : Exa Z h0 a cP) (na : n0 ≤ a) (F0_elements : Fld Z h0 a cP "elements" "[I" (.null)) (F0_position : Fld Z h0 a cP "position" "[I" (.null)) (F0_blockOf : Fld Z h0 a cP "blockOf" "[I" (.null)) (F0_first : Fld Z h0 a cP "first" "[I" (.null)) (F0_end : Fld Z h0 a cP "end" "[I" (.null)) (F0_marked : Fld Z h0 a cP "marked" "[I" (.null)) (F0_weight : Fld Z h0 a cP "weight" "[D" (.null)) (F0_touched : Fld Z h0 a cP "touched" "[I" (.null)) (F0_sortKeys : Fld Z h0 a cP "sortKeys" "[D" (.null)) (F0_sortStates : Fld Z h0 a cP "sortStates" "[I" (.null)) (F0_mergedKeys : Fld Z h0 a cP "mergedKeys" "[D" (.null)) (F0_mergedStates : Fld Z h0 a cP "mergedStates" "[I" (.null)) (F0_blocks : Fld Z h0 a cP "blocks" "I" (.int 0)) (F0_touchedCount : Fld Z h0 a cP "touchedCount" "I" (.int 0)) :
    own_MF l (⟨cP, "<init>", "(I)V"⟩ : MethodName) prog_12_method_1_code 3 none ws ({ frames := 1, cells := 12, slots := 36, locals := 24 } : Room) #[.ref a, .int 3] Z h0 (fun v h L => v = none ∧ Fr n0 L ∧ Exa Z h a cP ∧ ∃ el po bo fi en ma we tu sk ss mk ms : Addr, own_CH n0 a el po bo fi en ma we tu sk ss mk ms ∧ own_PF Z h a el po bo fi en ma we tu sk ss mk ms 1 0 ∧ own_A Z h el .int [.int 0, .int 1, .int 2] ∧ own_A Z h po .int [.int 0, .int 1, .int 2] ∧ own_A Z h bo .int [.int 0, .int 0, .int 0] ∧ own_A Z h fi .int [.int 0, .int 0, .int 0] ∧ own_A Z h en .int [.int 3, .int 0, .int 0] ∧ own_A Z h ma .int [.int 0, .int 0, .int 0] ∧ own_A Z h we .double [.double 0, .double 0, .double 0] ∧ own_A Z h tu .int [.int 0, .int 0, .int 0] ∧ own_A Z h sk .double [.double 0, .double 0, .double 0] ∧ own_A Z h ss .int [.int 0, .int 0, .int 0] ∧ own_A Z h mk .double [.double 0, .double 0, .double 0] ∧ own_A Z h ms .int [.int 0, .int 0, .int 0]) := by
  refine own_body pf1 (ls0 := [.val (.ref a), .val (.int 3), .unset]) (fun m => by first | (simp [entryFrame, mkF, argsToLocals, Value.category, maxLocals]; done) | rfl) ?_
  intro p e s m below meth c T0 hx hby hml hown hnm hlk hret hZ X0 eh0
  have hK := hKt1 hw; have hF := hFt1 hw
  have N0 := Fr.nil n0
  refine own_blk dec1 seq1 hby hx hZ hown hK hF 1 [] [] X0 eh0 ?_
  show own_Aft X0 h0 _ 1 [zA a, zI 3, zU] [.ref a]
  refine fun T1 X1 eh1 => ?_
  refine own_initO X1 hx hZ hown (hw _ (wm 7 rfl)) (hw _ (wm 8 rfl)) (hw _ (wm 9 rfl)) eh1 (by rw [hml]; rfl) (hb hby d1_1) (by decide) 0 (Nat.le_of_eq rfl) (by decide) (fun T2 X2 eh2 => ?_)
  refine own_blk dec1 seq1 hby hx hZ hown hK hF 2 [] [] X2 eh2 ?_
  show own_Aft X2 h0 _ 6 [zA a, zI 3, zU] [.int 3, .ref a]
  refine fun T3 X3 eh3 => ?_
  refine own_newP X3 hx hZ (hw _ (wm 10 rfl)) eh3 3 rfl (cap := 3) (by decide) (by decide) (hb hby d1_6) (by decide) (by decide) (fun T4 hp4 el ga4 X4 eh4 Ex4 Ar4 => ?_)
  have ch_el : @LT.lt Nat _ a el := by rw [ga4]; exact E0.lt
  have E0_4 := Exa.ext Ex4 E0
  have F0_elements_4 := Fld.ext Ex4 F0_elements
  have F0_position_4 := Fld.ext Ex4 F0_position
  have F0_blockOf_4 := Fld.ext Ex4 F0_blockOf
  have F0_first_4 := Fld.ext Ex4 F0_first
  have F0_end_4 := Fld.ext Ex4 F0_end
  have F0_marked_4 := Fld.ext Ex4 F0_marked
  have F0_weight_4 := Fld.ext Ex4 F0_weight
  have F0_touched_4 := Fld.ext Ex4 F0_touched
  have F0_sortKeys_4 := Fld.ext Ex4 F0_sortKeys
  have F0_sortStates_4 := Fld.ext Ex4 F0_sortStates
  have F0_mergedKeys_4 := Fld.ext Ex4 F0_mergedKeys
  have F0_mergedStates_4 := Fld.ext Ex4 F0_mergedStates
  have F0_blocks_4 := Fld.ext Ex4 F0_blocks
  have F0_touchedCount_4 := Fld.ext Ex4 F0_touchedCount
  have Z_4 : n0 ≤ hp4.size := Nat.le_trans Z0 Ex4.1
  have Ar4' : own_A Z hp4 el .int [.int 0, .int 0, .int 0] := Ar4
  refine own_putF X4 hx hZ hown (hw _ (wm 11 rfl)) eh4 F0_elements_4 E0_4 (Or.inr ⟨(hw _ (wm 12 rfl)), rfl, hnm⟩) (hw _ (wm 2 rfl)) (ty := (.array .int)) (by decide) rfl rfl (hb hby d1_8) (fun T5 hp5 X5 eh5 Wr5 Fd5 Ea5 => ?_)
  have Ar4'_5 := Ar4'.other Wr5 (own_ne (by omega))
  have F0_position_5 := own_so Wr5 F0_position_4 (Or.inr (hw _ (wm 14 rfl))) (Or.inr (hw _ (wm 12 rfl)))
  have F0_blockOf_5 := own_so Wr5 F0_blockOf_4 (Or.inr (hw _ (wm 16 rfl))) (Or.inr (hw _ (wm 12 rfl)))
  have F0_first_5 := own_so Wr5 F0_first_4 (Or.inr (hw _ (wm 18 rfl))) (Or.inr (hw _ (wm 12 rfl)))
  have F0_end_5 := own_so Wr5 F0_end_4 (Or.inr (hw _ (wm 20 rfl))) (Or.inr (hw _ (wm 12 rfl)))
  have F0_marked_5 := own_so Wr5 F0_marked_4 (Or.inr (hw _ (wm 22 rfl))) (Or.inr (hw _ (wm 12 rfl)))
  have F0_weight_5 := own_so Wr5 F0_weight_4 (Or.inr (hw _ (wm 25 rfl))) (Or.inr (hw _ (wm 12 rfl)))
  have F0_touched_5 := own_so Wr5 F0_touched_4 (Or.inr (hw _ (wm 27 rfl))) (Or.inr (hw _ (wm 12 rfl)))
  have F0_sortKeys_5 := own_so Wr5 F0_sortKeys_4 (Or.inr (hw _ (wm 31 rfl))) (Or.inr (hw _ (wm 12 rfl)))
  have F0_sortStates_5 := own_so Wr5 F0_sortStates_4 (Or.inr (hw _ (wm 33 rfl))) (Or.inr (hw _ (wm 12 rfl)))
  have F0_mergedKeys_5 := own_so Wr5 F0_mergedKeys_4 (Or.inr (hw _ (wm 35 rfl))) (Or.inr (hw _ (wm 12 rfl)))
  have F0_mergedStates_5 := own_so Wr5 F0_mergedStates_4 (Or.inr (hw _ (wm 37 rfl))) (Or.inr (hw _ (wm 12 rfl)))
  have F0_blocks_5 := own_so Wr5 F0_blocks_4 (Or.inl (hw _ (wm 29 rfl))) (Or.inr (hw _ (wm 12 rfl)))
  have F0_touchedCount_5 := own_so Wr5 F0_touchedCount_4 (Or.inl (hw _ (wm 44 rfl))) (Or.inr (hw _ (wm 12 rfl)))
  have Nf5 := Fr.snoc X5 N0 (by omega)
  have Z_5 : n0 ≤ hp5.size := by rw [Wr.size Wr5]; exact Z_4
  refine own_blk dec1 seq1 hby hx hZ hown hK hF 2 [] [] X5 eh5 ?_
  show own_Aft X5 hp5 _ 13 [zA a, zI 3, zU] [.int 3, .ref a]
  refine fun T6 X6 eh6 => ?_
  refine own_newP X6 hx hZ (hw _ (wm 10 rfl)) eh6 3 rfl (cap := 3) (by decide) (by decide) (hb hby d1_13) (by decide) (by decide) (fun T7 hp7 po ga7 X7 eh7 Ex7 Ar7 => ?_)
  have ch_po : @LT.lt Nat _ el po := by rw [ga7]; exact Ar4'_5.lt
  have Ar4'_7 := Ar4'_5.ext Ex7
  have Ea5_7 := Exa.ext Ex7 Ea5
  have Fd5_7 := Fld.ext Ex7 Fd5
  have F0_position_7 := Fld.ext Ex7 F0_position_5
  have F0_blockOf_7 := Fld.ext Ex7 F0_blockOf_5
  have F0_first_7 := Fld.ext Ex7 F0_first_5
  have F0_end_7 := Fld.ext Ex7 F0_end_5
  have F0_marked_7 := Fld.ext Ex7 F0_marked_5
  have F0_weight_7 := Fld.ext Ex7 F0_weight_5
  have F0_touched_7 := Fld.ext Ex7 F0_touched_5
  have F0_sortKeys_7 := Fld.ext Ex7 F0_sortKeys_5
  have F0_sortStates_7 := Fld.ext Ex7 F0_sortStates_5
  have F0_mergedKeys_7 := Fld.ext Ex7 F0_mergedKeys_5
  have F0_mergedStates_7 := Fld.ext Ex7 F0_mergedStates_5
  have F0_blocks_7 := Fld.ext Ex7 F0_blocks_5
  have F0_touchedCount_7 := Fld.ext Ex7 F0_touchedCount_5
  have Z_7 : n0 ≤ hp7.size := Nat.le_trans Z_5 Ex7.1
  have Ar7' : own_A Z hp7 po .int [.int 0, .int 0, .int 0] := Ar7
  refine own_putF X7 hx hZ hown (hw _ (wm 13 rfl)) eh7 F0_position_7 Ea5_7 (Or.inr ⟨(hw _ (wm 14 rfl)), rfl, hnm⟩) (hw _ (wm 2 rfl)) (ty := (.array .int)) (by decide) rfl rfl (hb hby d1_15) (fun T8 hp8 X8 eh8 Wr8 Fd8 Ea8 => ?_)
  have Ar4'_8 := Ar4'_7.other Wr8 (own_ne (by omega))
  have Ar7'_8 := Ar7'.other Wr8 (own_ne (by omega))
  have Fd5_8 := own_so Wr8 Fd5_7 (Or.inr (hw _ (wm 12 rfl))) (Or.inr (hw _ (wm 14 rfl)))
  have F0_blockOf_8 := own_so Wr8 F0_blockOf_7 (Or.inr (hw _ (wm 16 rfl))) (Or.inr (hw _ (wm 14 rfl)))
  have F0_first_8 := own_so Wr8 F0_first_7 (Or.inr (hw _ (wm 18 rfl))) (Or.inr (hw _ (wm 14 rfl)))
  have F0_end_8 := own_so Wr8 F0_end_7 (Or.inr (hw _ (wm 20 rfl))) (Or.inr (hw _ (wm 14 rfl)))
  have F0_marked_8 := own_so Wr8 F0_marked_7 (Or.inr (hw _ (wm 22 rfl))) (Or.inr (hw _ (wm 14 rfl)))
  have F0_weight_8 := own_so Wr8 F0_weight_7 (Or.inr (hw _ (wm 25 rfl))) (Or.inr (hw _ (wm 14 rfl)))
  have F0_touched_8 := own_so Wr8 F0_touched_7 (Or.inr (hw _ (wm 27 rfl))) (Or.inr (hw _ (wm 14 rfl)))
  have F0_sortKeys_8 := own_so Wr8 F0_sortKeys_7 (Or.inr (hw _ (wm 31 rfl))) (Or.inr (hw _ (wm 14 rfl)))
  have F0_sortStates_8 := own_so Wr8 F0_sortStates_7 (Or.inr (hw _ (wm 33 rfl))) (Or.inr (hw _ (wm 14 rfl)))
  have F0_mergedKeys_8 := own_so Wr8 F0_mergedKeys_7 (Or.inr (hw _ (wm 35 rfl))) (Or.inr (hw _ (wm 14 rfl)))
  have F0_mergedStates_8 := own_so Wr8 F0_mergedStates_7 (Or.inr (hw _ (wm 37 rfl))) (Or.inr (hw _ (wm 14 rfl)))
  have F0_blocks_8 := own_so Wr8 F0_blocks_7 (Or.inl (hw _ (wm 29 rfl))) (Or.inr (hw _ (wm 14 rfl)))
  have F0_touchedCount_8 := own_so Wr8 F0_touchedCount_7 (Or.inl (hw _ (wm 44 rfl))) (Or.inr (hw _ (wm 14 rfl)))
  have Nf8 := Fr.snoc X8 Nf5 (by omega)
  have Z_8 : n0 ≤ hp8.size := by rw [Wr.size Wr8]; exact Z_7
  refine own_blk dec1 seq1 hby hx hZ hown hK hF 9 [false] [.ref el] X8 eh8 ?_
  show (¬ (((3 : Int32)).toInt ≤ ((0 : Int32)).toInt)) ∧ (Fld Z hp8 a cP "elements" "[I" (.ref el)) ∧ own_Aft X8 hp8 _ 31 [zA a, zI 3, zI 0] [.int 0, .int 0, .ref el]
  refine ⟨by decide, Fd5_8, fun T9 X9 eh9 => ?_⟩
  refine own_sI X9 hx hZ eh9 Ar4'_8 0 rfl (by show 0 < 3; decide) (hb hby d1_31) (fun T10 hp10 X10 eh10 Wr10 Ar10 => ?_)
  have Ar10' : own_A Z hp10 el .int [.int 0, .int 0, .int 0] := Ar10
  have Ar7'_10 := Ar7'_8.other Wr10 (own_ne (by omega))
  have Ea8_10 := Exa.wr Wr10 Ea8
  have Fd5_10 := Fld.other Wr10 Fd5_8 (Or.inl (own_ne (by omega)))
  have Fd8_10 := Fld.other Wr10 Fd8 (Or.inl (own_ne (by omega)))
  have F0_blockOf_10 := Fld.other Wr10 F0_blockOf_8 (Or.inl (own_ne (by omega)))
  have F0_first_10 := Fld.other Wr10 F0_first_8 (Or.inl (own_ne (by omega)))
  have F0_end_10 := Fld.other Wr10 F0_end_8 (Or.inl (own_ne (by omega)))
  have F0_marked_10 := Fld.other Wr10 F0_marked_8 (Or.inl (own_ne (by omega)))
  have F0_weight_10 := Fld.other Wr10 F0_weight_8 (Or.inl (own_ne (by omega)))
  have F0_touched_10 := Fld.other Wr10 F0_touched_8 (Or.inl (own_ne (by omega)))
  have F0_sortKeys_10 := Fld.other Wr10 F0_sortKeys_8 (Or.inl (own_ne (by omega)))
  have F0_sortStates_10 := Fld.other Wr10 F0_sortStates_8 (Or.inl (own_ne (by omega)))
  have F0_mergedKeys_10 := Fld.other Wr10 F0_mergedKeys_8 (Or.inl (own_ne (by omega)))
  have F0_mergedStates_10 := Fld.other Wr10 F0_mergedStates_8 (Or.inl (own_ne (by omega)))
  have F0_blocks_10 := Fld.other Wr10 F0_blocks_8 (Or.inl (own_ne (by omega)))
  have F0_touchedCount_10 := Fld.other Wr10 F0_touchedCount_8 (Or.inl (own_ne (by omega)))
  have Nf10 := Fr.snoc X10 Nf8 (by omega)
  have Z_10 : n0 ≤ hp10.size := by rw [Wr.size Wr10]; exact Z_8
  refine own_blk dec1 seq1 hby hx hZ hown hK hF 4 [] [.ref po] X10 eh10 ?_
  show (Fld Z hp10 a cP "position" "[I" (.ref po)) ∧ own_Aft X10 hp10 _ 38 [zA a, zI 3, zI 0] [.int 0, .int 0, .ref po]
  refine ⟨Fd8_10, fun T11 X11 eh11 => ?_⟩
  refine own_sI X11 hx hZ eh11 Ar7'_10 0 rfl (by show 0 < 3; decide) (hb hby d1_38) (fun T12 hp12 X12 eh12 Wr12 Ar12 => ?_)
  have Ar12' : own_A Z hp12 po .int [.int 0, .int 0, .int 0] := Ar12
  have Ar10'_12 := Ar10'.other Wr12 (own_ne (by omega))
  have Ea8_12 := Exa.wr Wr12 Ea8_10
  have Fd5_12 := Fld.other Wr12 Fd5_10 (Or.inl (own_ne (by omega)))
  have Fd8_12 := Fld.other Wr12 Fd8_10 (Or.inl (own_ne (by omega)))
  have F0_blockOf_12 := Fld.other Wr12 F0_blockOf_10 (Or.inl (own_ne (by omega)))
  have F0_first_12 := Fld.other Wr12 F0_first_10 (Or.inl (own_ne (by omega)))
  have F0_end_12 := Fld.other Wr12 F0_end_10 (Or.inl (own_ne (by omega)))
  have F0_marked_12 := Fld.other Wr12 F0_marked_10 (Or.inl (own_ne (by omega)))
  have F0_weight_12 := Fld.other Wr12 F0_weight_10 (Or.inl (own_ne (by omega)))
  have F0_touched_12 := Fld.other Wr12 F0_touched_10 (Or.inl (own_ne (by omega)))
  have F0_sortKeys_12 := Fld.other Wr12 F0_sortKeys_10 (Or.inl (own_ne (by omega)))
  have F0_sortStates_12 := Fld.other Wr12 F0_sortStates_10 (Or.inl (own_ne (by omega)))
  have F0_mergedKeys_12 := Fld.other Wr12 F0_mergedKeys_10 (Or.inl (own_ne (by omega)))
  have F0_mergedStates_12 := Fld.other Wr12 F0_mergedStates_10 (Or.inl (own_ne (by omega)))
  have F0_blocks_12 := Fld.other Wr12 F0_blocks_10 (Or.inl (own_ne (by omega)))
  have F0_touchedCount_12 := Fld.other Wr12 F0_touchedCount_10 (Or.inl (own_ne (by omega)))
  have Nf12 := Fr.snoc X12 Nf10 (by omega)
  have Z_12 : n0 ≤ hp12.size := by rw [Wr.size Wr12]; exact Z_10
  refine own_blk dec1 seq1 hby hx hZ hown hK hF 9 [false] [.ref el] X12 eh12 ?_
  show (¬ (((3 : Int32)).toInt ≤ ((1 : Int32)).toInt)) ∧ (Fld Z hp12 a cP "elements" "[I" (.ref el)) ∧ own_Aft X12 hp12 _ 31 [zA a, zI 3, zI 1] [.int 1, .int 1, .ref el]
  refine ⟨by decide, Fd5_12, fun T13 X13 eh13 => ?_⟩
  refine own_sI X13 hx hZ eh13 Ar10'_12 1 rfl (by show 1 < 3; decide) (hb hby d1_31) (fun T14 hp14 X14 eh14 Wr14 Ar14 => ?_)
  have Ar14' : own_A Z hp14 el .int [.int 0, .int 1, .int 0] := Ar14
  have Ar12'_14 := Ar12'.other Wr14 (own_ne (by omega))
  have Ea8_14 := Exa.wr Wr14 Ea8_12
  have Fd5_14 := Fld.other Wr14 Fd5_12 (Or.inl (own_ne (by omega)))
  have Fd8_14 := Fld.other Wr14 Fd8_12 (Or.inl (own_ne (by omega)))
  have F0_blockOf_14 := Fld.other Wr14 F0_blockOf_12 (Or.inl (own_ne (by omega)))
  have F0_first_14 := Fld.other Wr14 F0_first_12 (Or.inl (own_ne (by omega)))
  have F0_end_14 := Fld.other Wr14 F0_end_12 (Or.inl (own_ne (by omega)))
  have F0_marked_14 := Fld.other Wr14 F0_marked_12 (Or.inl (own_ne (by omega)))
  have F0_weight_14 := Fld.other Wr14 F0_weight_12 (Or.inl (own_ne (by omega)))
  have F0_touched_14 := Fld.other Wr14 F0_touched_12 (Or.inl (own_ne (by omega)))
  have F0_sortKeys_14 := Fld.other Wr14 F0_sortKeys_12 (Or.inl (own_ne (by omega)))
  have F0_sortStates_14 := Fld.other Wr14 F0_sortStates_12 (Or.inl (own_ne (by omega)))
  have F0_mergedKeys_14 := Fld.other Wr14 F0_mergedKeys_12 (Or.inl (own_ne (by omega)))
  have F0_mergedStates_14 := Fld.other Wr14 F0_mergedStates_12 (Or.inl (own_ne (by omega)))
  have F0_blocks_14 := Fld.other Wr14 F0_blocks_12 (Or.inl (own_ne (by omega)))
  have F0_touchedCount_14 := Fld.other Wr14 F0_touchedCount_12 (Or.inl (own_ne (by omega)))
  have Nf14 := Fr.snoc X14 Nf12 (by omega)
  have Z_14 : n0 ≤ hp14.size := by rw [Wr.size Wr14]; exact Z_12
  refine own_blk dec1 seq1 hby hx hZ hown hK hF 4 [] [.ref po] X14 eh14 ?_
  show (Fld Z hp14 a cP "position" "[I" (.ref po)) ∧ own_Aft X14 hp14 _ 38 [zA a, zI 3, zI 1] [.int 1, .int 1, .ref po]
  refine ⟨Fd8_14, fun T15 X15 eh15 => ?_⟩
  refine own_sI X15 hx hZ eh15 Ar12'_14 1 rfl (by show 1 < 3; decide) (hb hby d1_38) (fun T16 hp16 X16 eh16 Wr16 Ar16 => ?_)
  have Ar16' : own_A Z hp16 po .int [.int 0, .int 1, .int 0] := Ar16
  have Ar14'_16 := Ar14'.other Wr16 (own_ne (by omega))
  have Ea8_16 := Exa.wr Wr16 Ea8_14
  have Fd5_16 := Fld.other Wr16 Fd5_14 (Or.inl (own_ne (by omega)))
  have Fd8_16 := Fld.other Wr16 Fd8_14 (Or.inl (own_ne (by omega)))
  have F0_blockOf_16 := Fld.other Wr16 F0_blockOf_14 (Or.inl (own_ne (by omega)))
  have F0_first_16 := Fld.other Wr16 F0_first_14 (Or.inl (own_ne (by omega)))
  have F0_end_16 := Fld.other Wr16 F0_end_14 (Or.inl (own_ne (by omega)))
  have F0_marked_16 := Fld.other Wr16 F0_marked_14 (Or.inl (own_ne (by omega)))
  have F0_weight_16 := Fld.other Wr16 F0_weight_14 (Or.inl (own_ne (by omega)))
  have F0_touched_16 := Fld.other Wr16 F0_touched_14 (Or.inl (own_ne (by omega)))
  have F0_sortKeys_16 := Fld.other Wr16 F0_sortKeys_14 (Or.inl (own_ne (by omega)))
  have F0_sortStates_16 := Fld.other Wr16 F0_sortStates_14 (Or.inl (own_ne (by omega)))
  have F0_mergedKeys_16 := Fld.other Wr16 F0_mergedKeys_14 (Or.inl (own_ne (by omega)))
  have F0_mergedStates_16 := Fld.other Wr16 F0_mergedStates_14 (Or.inl (own_ne (by omega)))
  have F0_blocks_16 := Fld.other Wr16 F0_blocks_14 (Or.inl (own_ne (by omega)))
  have F0_touchedCount_16 := Fld.other Wr16 F0_touchedCount_14 (Or.inl (own_ne (by omega)))
  have Nf16 := Fr.snoc X16 Nf14 (by omega)
  have Z_16 : n0 ≤ hp16.size := by rw [Wr.size Wr16]; exact Z_14
  refine own_blk dec1 seq1 hby hx hZ hown hK hF 9 [false] [.ref el] X16 eh16 ?_
  show (¬ (((3 : Int32)).toInt ≤ ((2 : Int32)).toInt)) ∧ (Fld Z hp16 a cP "elements" "[I" (.ref el)) ∧ own_Aft X16 hp16 _ 31 [zA a, zI 3, zI 2] [.int 2, .int 2, .ref el]
  refine ⟨by decide, Fd5_16, fun T17 X17 eh17 => ?_⟩
  refine own_sI X17 hx hZ eh17 Ar14'_16 2 rfl (by show 2 < 3; decide) (hb hby d1_31) (fun T18 hp18 X18 eh18 Wr18 Ar18 => ?_)
  have Ar18' : own_A Z hp18 el .int [.int 0, .int 1, .int 2] := Ar18
  have Ar16'_18 := Ar16'.other Wr18 (own_ne (by omega))
  have Ea8_18 := Exa.wr Wr18 Ea8_16
  have Fd5_18 := Fld.other Wr18 Fd5_16 (Or.inl (own_ne (by omega)))
  have Fd8_18 := Fld.other Wr18 Fd8_16 (Or.inl (own_ne (by omega)))
  have F0_blockOf_18 := Fld.other Wr18 F0_blockOf_16 (Or.inl (own_ne (by omega)))
  have F0_first_18 := Fld.other Wr18 F0_first_16 (Or.inl (own_ne (by omega)))
  have F0_end_18 := Fld.other Wr18 F0_end_16 (Or.inl (own_ne (by omega)))
  have F0_marked_18 := Fld.other Wr18 F0_marked_16 (Or.inl (own_ne (by omega)))
  have F0_weight_18 := Fld.other Wr18 F0_weight_16 (Or.inl (own_ne (by omega)))
  have F0_touched_18 := Fld.other Wr18 F0_touched_16 (Or.inl (own_ne (by omega)))
  have F0_sortKeys_18 := Fld.other Wr18 F0_sortKeys_16 (Or.inl (own_ne (by omega)))
  have F0_sortStates_18 := Fld.other Wr18 F0_sortStates_16 (Or.inl (own_ne (by omega)))
  have F0_mergedKeys_18 := Fld.other Wr18 F0_mergedKeys_16 (Or.inl (own_ne (by omega)))
  have F0_mergedStates_18 := Fld.other Wr18 F0_mergedStates_16 (Or.inl (own_ne (by omega)))
  have F0_blocks_18 := Fld.other Wr18 F0_blocks_16 (Or.inl (own_ne (by omega)))
  have F0_touchedCount_18 := Fld.other Wr18 F0_touchedCount_16 (Or.inl (own_ne (by omega)))
  have Nf18 := Fr.snoc X18 Nf16 (by omega)
  have Z_18 : n0 ≤ hp18.size := by rw [Wr.size Wr18]; exact Z_16
  refine own_blk dec1 seq1 hby hx hZ hown hK hF 4 [] [.ref po] X18 eh18 ?_
  show (Fld Z hp18 a cP "position" "[I" (.ref po)) ∧ own_Aft X18 hp18 _ 38 [zA a, zI 3, zI 2] [.int 2, .int 2, .ref po]
  refine ⟨Fd8_18, fun T19 X19 eh19 => ?_⟩
  refine own_sI X19 hx hZ eh19 Ar16'_18 2 rfl (by show 2 < 3; decide) (hb hby d1_38) (fun T20 hp20 X20 eh20 Wr20 Ar20 => ?_)
  have Ar20' : own_A Z hp20 po .int [.int 0, .int 1, .int 2] := Ar20
  have Ar18'_20 := Ar18'.other Wr20 (own_ne (by omega))
  have Ea8_20 := Exa.wr Wr20 Ea8_18
  have Fd5_20 := Fld.other Wr20 Fd5_18 (Or.inl (own_ne (by omega)))
  have Fd8_20 := Fld.other Wr20 Fd8_18 (Or.inl (own_ne (by omega)))
  have F0_blockOf_20 := Fld.other Wr20 F0_blockOf_18 (Or.inl (own_ne (by omega)))
  have F0_first_20 := Fld.other Wr20 F0_first_18 (Or.inl (own_ne (by omega)))
  have F0_end_20 := Fld.other Wr20 F0_end_18 (Or.inl (own_ne (by omega)))
  have F0_marked_20 := Fld.other Wr20 F0_marked_18 (Or.inl (own_ne (by omega)))
  have F0_weight_20 := Fld.other Wr20 F0_weight_18 (Or.inl (own_ne (by omega)))
  have F0_touched_20 := Fld.other Wr20 F0_touched_18 (Or.inl (own_ne (by omega)))
  have F0_sortKeys_20 := Fld.other Wr20 F0_sortKeys_18 (Or.inl (own_ne (by omega)))
  have F0_sortStates_20 := Fld.other Wr20 F0_sortStates_18 (Or.inl (own_ne (by omega)))
  have F0_mergedKeys_20 := Fld.other Wr20 F0_mergedKeys_18 (Or.inl (own_ne (by omega)))
  have F0_mergedStates_20 := Fld.other Wr20 F0_mergedStates_18 (Or.inl (own_ne (by omega)))
  have F0_blocks_20 := Fld.other Wr20 F0_blocks_18 (Or.inl (own_ne (by omega)))
  have F0_touchedCount_20 := Fld.other Wr20 F0_touchedCount_18 (Or.inl (own_ne (by omega)))
  have Nf20 := Fr.snoc X20 Nf18 (by omega)
  have Z_20 : n0 ≤ hp20.size := by rw [Wr.size Wr20]; exact Z_18
  refine own_blk dec1 seq1 hby hx hZ hown hK hF 7 [true] [] X20 eh20 ?_
  show (((3 : Int32)).toInt ≤ ((3 : Int32)).toInt) ∧ own_Aft X20 hp20 _ 47 [zA a, zI 3, zI 3] [.int 3, .ref a]
  refine ⟨by decide, fun T21 X21 eh21 => ?_⟩
  refine own_newP X21 hx hZ (hw _ (wm 10 rfl)) eh21 3 rfl (cap := 3) (by decide) (by decide) (hb hby d1_47) (by decide) (by decide) (fun T22 hp22 bo ga22 X22 eh22 Ex22 Ar22 => ?_)
  have ch_bo : @LT.lt Nat _ po bo := by rw [ga22]; exact Ar20'.lt
  have Ar18'_22 := Ar18'_20.ext Ex22
  have Ar20'_22 := Ar20'.ext Ex22
  have Ea8_22 := Exa.ext Ex22 Ea8_20
  have Fd5_22 := Fld.ext Ex22 Fd5_20
  have Fd8_22 := Fld.ext Ex22 Fd8_20
  have F0_blockOf_22 := Fld.ext Ex22 F0_blockOf_20
  have F0_first_22 := Fld.ext Ex22 F0_first_20
  have F0_end_22 := Fld.ext Ex22 F0_end_20
  have F0_marked_22 := Fld.ext Ex22 F0_marked_20
  have F0_weight_22 := Fld.ext Ex22 F0_weight_20
  have F0_touched_22 := Fld.ext Ex22 F0_touched_20
  have F0_sortKeys_22 := Fld.ext Ex22 F0_sortKeys_20
  have F0_sortStates_22 := Fld.ext Ex22 F0_sortStates_20
  have F0_mergedKeys_22 := Fld.ext Ex22 F0_mergedKeys_20
  have F0_mergedStates_22 := Fld.ext Ex22 F0_mergedStates_20
  have F0_blocks_22 := Fld.ext Ex22 F0_blocks_20
  have F0_touchedCount_22 := Fld.ext Ex22 F0_touchedCount_20
  have Z_22 : n0 ≤ hp22.size := Nat.le_trans Z_20 Ex22.1
  have Ar22' : own_A Z hp22 bo .int [.int 0, .int 0, .int 0] := Ar22
  refine own_putF X22 hx hZ hown (hw _ (wm 15 rfl)) eh22 F0_blockOf_22 Ea8_22 (Or.inr ⟨(hw _ (wm 16 rfl)), rfl, hnm⟩) (hw _ (wm 2 rfl)) (ty := (.array .int)) (by decide) rfl rfl (hb hby d1_49) (fun T23 hp23 X23 eh23 Wr23 Fd23 Ea23 => ?_)
  have Ar18'_23 := Ar18'_22.other Wr23 (own_ne (by omega))
  have Ar20'_23 := Ar20'_22.other Wr23 (own_ne (by omega))
  have Ar22'_23 := Ar22'.other Wr23 (own_ne (by omega))
  have Fd5_23 := own_so Wr23 Fd5_22 (Or.inr (hw _ (wm 12 rfl))) (Or.inr (hw _ (wm 16 rfl)))
  have Fd8_23 := own_so Wr23 Fd8_22 (Or.inr (hw _ (wm 14 rfl))) (Or.inr (hw _ (wm 16 rfl)))
  have F0_first_23 := own_so Wr23 F0_first_22 (Or.inr (hw _ (wm 18 rfl))) (Or.inr (hw _ (wm 16 rfl)))
  have F0_end_23 := own_so Wr23 F0_end_22 (Or.inr (hw _ (wm 20 rfl))) (Or.inr (hw _ (wm 16 rfl)))
  have F0_marked_23 := own_so Wr23 F0_marked_22 (Or.inr (hw _ (wm 22 rfl))) (Or.inr (hw _ (wm 16 rfl)))
  have F0_weight_23 := own_so Wr23 F0_weight_22 (Or.inr (hw _ (wm 25 rfl))) (Or.inr (hw _ (wm 16 rfl)))
  have F0_touched_23 := own_so Wr23 F0_touched_22 (Or.inr (hw _ (wm 27 rfl))) (Or.inr (hw _ (wm 16 rfl)))
  have F0_sortKeys_23 := own_so Wr23 F0_sortKeys_22 (Or.inr (hw _ (wm 31 rfl))) (Or.inr (hw _ (wm 16 rfl)))
  have F0_sortStates_23 := own_so Wr23 F0_sortStates_22 (Or.inr (hw _ (wm 33 rfl))) (Or.inr (hw _ (wm 16 rfl)))
  have F0_mergedKeys_23 := own_so Wr23 F0_mergedKeys_22 (Or.inr (hw _ (wm 35 rfl))) (Or.inr (hw _ (wm 16 rfl)))
  have F0_mergedStates_23 := own_so Wr23 F0_mergedStates_22 (Or.inr (hw _ (wm 37 rfl))) (Or.inr (hw _ (wm 16 rfl)))
  have F0_blocks_23 := own_so Wr23 F0_blocks_22 (Or.inl (hw _ (wm 29 rfl))) (Or.inr (hw _ (wm 16 rfl)))
  have F0_touchedCount_23 := own_so Wr23 F0_touchedCount_22 (Or.inl (hw _ (wm 44 rfl))) (Or.inr (hw _ (wm 16 rfl)))
  have Nf23 := Fr.snoc X23 Nf20 (by omega)
  have Z_23 : n0 ≤ hp23.size := by rw [Wr.size Wr23]; exact Z_22
  refine own_blk dec1 seq1 hby hx hZ hown hK hF 2 [] [] X23 eh23 ?_
  show own_Aft X23 hp23 _ 54 [zA a, zI 3, zI 3] [.int 3, .ref a]
  refine fun T24 X24 eh24 => ?_
  refine own_newP X24 hx hZ (hw _ (wm 10 rfl)) eh24 3 rfl (cap := 3) (by decide) (by decide) (hb hby d1_54) (by decide) (by decide) (fun T25 hp25 fi ga25 X25 eh25 Ex25 Ar25 => ?_)
  have ch_fi : @LT.lt Nat _ bo fi := by rw [ga25]; exact Ar22'_23.lt
  have Ar18'_25 := Ar18'_23.ext Ex25
  have Ar20'_25 := Ar20'_23.ext Ex25
  have Ar22'_25 := Ar22'_23.ext Ex25
  have Ea23_25 := Exa.ext Ex25 Ea23
  have Fd5_25 := Fld.ext Ex25 Fd5_23
  have Fd8_25 := Fld.ext Ex25 Fd8_23
  have Fd23_25 := Fld.ext Ex25 Fd23
  have F0_first_25 := Fld.ext Ex25 F0_first_23
  have F0_end_25 := Fld.ext Ex25 F0_end_23
  have F0_marked_25 := Fld.ext Ex25 F0_marked_23
  have F0_weight_25 := Fld.ext Ex25 F0_weight_23
  have F0_touched_25 := Fld.ext Ex25 F0_touched_23
  have F0_sortKeys_25 := Fld.ext Ex25 F0_sortKeys_23
  have F0_sortStates_25 := Fld.ext Ex25 F0_sortStates_23
  have F0_mergedKeys_25 := Fld.ext Ex25 F0_mergedKeys_23
  have F0_mergedStates_25 := Fld.ext Ex25 F0_mergedStates_23
  have F0_blocks_25 := Fld.ext Ex25 F0_blocks_23
  have F0_touchedCount_25 := Fld.ext Ex25 F0_touchedCount_23
  have Z_25 : n0 ≤ hp25.size := Nat.le_trans Z_23 Ex25.1
  have Ar25' : own_A Z hp25 fi .int [.int 0, .int 0, .int 0] := Ar25
  refine own_putF X25 hx hZ hown (hw _ (wm 17 rfl)) eh25 F0_first_25 Ea23_25 (Or.inr ⟨(hw _ (wm 18 rfl)), rfl, hnm⟩) (hw _ (wm 2 rfl)) (ty := (.array .int)) (by decide) rfl rfl (hb hby d1_56) (fun T26 hp26 X26 eh26 Wr26 Fd26 Ea26 => ?_)
  have Ar18'_26 := Ar18'_25.other Wr26 (own_ne (by omega))
  have Ar20'_26 := Ar20'_25.other Wr26 (own_ne (by omega))
  have Ar22'_26 := Ar22'_25.other Wr26 (own_ne (by omega))
  have Ar25'_26 := Ar25'.other Wr26 (own_ne (by omega))
  have Fd5_26 := own_so Wr26 Fd5_25 (Or.inr (hw _ (wm 12 rfl))) (Or.inr (hw _ (wm 18 rfl)))
  have Fd8_26 := own_so Wr26 Fd8_25 (Or.inr (hw _ (wm 14 rfl))) (Or.inr (hw _ (wm 18 rfl)))
  have Fd23_26 := own_so Wr26 Fd23_25 (Or.inr (hw _ (wm 16 rfl))) (Or.inr (hw _ (wm 18 rfl)))
  have F0_end_26 := own_so Wr26 F0_end_25 (Or.inr (hw _ (wm 20 rfl))) (Or.inr (hw _ (wm 18 rfl)))
  have F0_marked_26 := own_so Wr26 F0_marked_25 (Or.inr (hw _ (wm 22 rfl))) (Or.inr (hw _ (wm 18 rfl)))
  have F0_weight_26 := own_so Wr26 F0_weight_25 (Or.inr (hw _ (wm 25 rfl))) (Or.inr (hw _ (wm 18 rfl)))
  have F0_touched_26 := own_so Wr26 F0_touched_25 (Or.inr (hw _ (wm 27 rfl))) (Or.inr (hw _ (wm 18 rfl)))
  have F0_sortKeys_26 := own_so Wr26 F0_sortKeys_25 (Or.inr (hw _ (wm 31 rfl))) (Or.inr (hw _ (wm 18 rfl)))
  have F0_sortStates_26 := own_so Wr26 F0_sortStates_25 (Or.inr (hw _ (wm 33 rfl))) (Or.inr (hw _ (wm 18 rfl)))
  have F0_mergedKeys_26 := own_so Wr26 F0_mergedKeys_25 (Or.inr (hw _ (wm 35 rfl))) (Or.inr (hw _ (wm 18 rfl)))
  have F0_mergedStates_26 := own_so Wr26 F0_mergedStates_25 (Or.inr (hw _ (wm 37 rfl))) (Or.inr (hw _ (wm 18 rfl)))
  have F0_blocks_26 := own_so Wr26 F0_blocks_25 (Or.inl (hw _ (wm 29 rfl))) (Or.inr (hw _ (wm 18 rfl)))
  have F0_touchedCount_26 := own_so Wr26 F0_touchedCount_25 (Or.inl (hw _ (wm 44 rfl))) (Or.inr (hw _ (wm 18 rfl)))
  have Nf26 := Fr.snoc X26 Nf23 (by omega)
  have Z_26 : n0 ≤ hp26.size := by rw [Wr.size Wr26]; exact Z_25
  refine own_blk dec1 seq1 hby hx hZ hown hK hF 2 [] [] X26 eh26 ?_
  show own_Aft X26 hp26 _ 61 [zA a, zI 3, zI 3] [.int 3, .ref a]
  refine fun T27 X27 eh27 => ?_
  refine own_newP X27 hx hZ (hw _ (wm 10 rfl)) eh27 3 rfl (cap := 3) (by decide) (by decide) (hb hby d1_61) (by decide) (by decide) (fun T28 hp28 en ga28 X28 eh28 Ex28 Ar28 => ?_)
  have ch_en : @LT.lt Nat _ fi en := by rw [ga28]; exact Ar25'_26.lt
  have Ar18'_28 := Ar18'_26.ext Ex28
  have Ar20'_28 := Ar20'_26.ext Ex28
  have Ar22'_28 := Ar22'_26.ext Ex28
  have Ar25'_28 := Ar25'_26.ext Ex28
  have Ea26_28 := Exa.ext Ex28 Ea26
  have Fd5_28 := Fld.ext Ex28 Fd5_26
  have Fd8_28 := Fld.ext Ex28 Fd8_26
  have Fd23_28 := Fld.ext Ex28 Fd23_26
  have Fd26_28 := Fld.ext Ex28 Fd26
  have F0_end_28 := Fld.ext Ex28 F0_end_26
  have F0_marked_28 := Fld.ext Ex28 F0_marked_26
  have F0_weight_28 := Fld.ext Ex28 F0_weight_26
  have F0_touched_28 := Fld.ext Ex28 F0_touched_26
  have F0_sortKeys_28 := Fld.ext Ex28 F0_sortKeys_26
  have F0_sortStates_28 := Fld.ext Ex28 F0_sortStates_26
  have F0_mergedKeys_28 := Fld.ext Ex28 F0_mergedKeys_26
  have F0_mergedStates_28 := Fld.ext Ex28 F0_mergedStates_26
  have F0_blocks_28 := Fld.ext Ex28 F0_blocks_26
  have F0_touchedCount_28 := Fld.ext Ex28 F0_touchedCount_26
  have Z_28 : n0 ≤ hp28.size := Nat.le_trans Z_26 Ex28.1
  have Ar28' : own_A Z hp28 en .int [.int 0, .int 0, .int 0] := Ar28
  refine own_putF X28 hx hZ hown (hw _ (wm 19 rfl)) eh28 F0_end_28 Ea26_28 (Or.inr ⟨(hw _ (wm 20 rfl)), rfl, hnm⟩) (hw _ (wm 2 rfl)) (ty := (.array .int)) (by decide) rfl rfl (hb hby d1_63) (fun T29 hp29 X29 eh29 Wr29 Fd29 Ea29 => ?_)
  have Ar18'_29 := Ar18'_28.other Wr29 (own_ne (by omega))
  have Ar20'_29 := Ar20'_28.other Wr29 (own_ne (by omega))
  have Ar22'_29 := Ar22'_28.other Wr29 (own_ne (by omega))
  have Ar25'_29 := Ar25'_28.other Wr29 (own_ne (by omega))
  have Ar28'_29 := Ar28'.other Wr29 (own_ne (by omega))
  have Fd5_29 := own_so Wr29 Fd5_28 (Or.inr (hw _ (wm 12 rfl))) (Or.inr (hw _ (wm 20 rfl)))
  have Fd8_29 := own_so Wr29 Fd8_28 (Or.inr (hw _ (wm 14 rfl))) (Or.inr (hw _ (wm 20 rfl)))
  have Fd23_29 := own_so Wr29 Fd23_28 (Or.inr (hw _ (wm 16 rfl))) (Or.inr (hw _ (wm 20 rfl)))
  have Fd26_29 := own_so Wr29 Fd26_28 (Or.inr (hw _ (wm 18 rfl))) (Or.inr (hw _ (wm 20 rfl)))
  have F0_marked_29 := own_so Wr29 F0_marked_28 (Or.inr (hw _ (wm 22 rfl))) (Or.inr (hw _ (wm 20 rfl)))
  have F0_weight_29 := own_so Wr29 F0_weight_28 (Or.inr (hw _ (wm 25 rfl))) (Or.inr (hw _ (wm 20 rfl)))
  have F0_touched_29 := own_so Wr29 F0_touched_28 (Or.inr (hw _ (wm 27 rfl))) (Or.inr (hw _ (wm 20 rfl)))
  have F0_sortKeys_29 := own_so Wr29 F0_sortKeys_28 (Or.inr (hw _ (wm 31 rfl))) (Or.inr (hw _ (wm 20 rfl)))
  have F0_sortStates_29 := own_so Wr29 F0_sortStates_28 (Or.inr (hw _ (wm 33 rfl))) (Or.inr (hw _ (wm 20 rfl)))
  have F0_mergedKeys_29 := own_so Wr29 F0_mergedKeys_28 (Or.inr (hw _ (wm 35 rfl))) (Or.inr (hw _ (wm 20 rfl)))
  have F0_mergedStates_29 := own_so Wr29 F0_mergedStates_28 (Or.inr (hw _ (wm 37 rfl))) (Or.inr (hw _ (wm 20 rfl)))
  have F0_blocks_29 := own_so Wr29 F0_blocks_28 (Or.inl (hw _ (wm 29 rfl))) (Or.inr (hw _ (wm 20 rfl)))
  have F0_touchedCount_29 := own_so Wr29 F0_touchedCount_28 (Or.inl (hw _ (wm 44 rfl))) (Or.inr (hw _ (wm 20 rfl)))
  have Nf29 := Fr.snoc X29 Nf26 (by omega)
  have Z_29 : n0 ≤ hp29.size := by rw [Wr.size Wr29]; exact Z_28
  refine own_blk dec1 seq1 hby hx hZ hown hK hF 4 [] [.ref en] X29 eh29 ?_
  show (Fld Z hp29 a cP "end" "[I" (.ref en)) ∧ own_Aft X29 hp29 _ 72 [zA a, zI 3, zI 3] [.int 3, .int 0, .ref en]
  refine ⟨Fd29, fun T30 X30 eh30 => ?_⟩
  refine own_sI X30 hx hZ eh30 Ar28'_29 0 rfl (by show 0 < 3; decide) (hb hby d1_72) (fun T31 hp31 X31 eh31 Wr31 Ar31 => ?_)
  have Ar31' : own_A Z hp31 en .int [.int 3, .int 0, .int 0] := Ar31
  have Ar18'_31 := Ar18'_29.other Wr31 (own_ne (by omega))
  have Ar20'_31 := Ar20'_29.other Wr31 (own_ne (by omega))
  have Ar22'_31 := Ar22'_29.other Wr31 (own_ne (by omega))
  have Ar25'_31 := Ar25'_29.other Wr31 (own_ne (by omega))
  have Ea29_31 := Exa.wr Wr31 Ea29
  have Fd5_31 := Fld.other Wr31 Fd5_29 (Or.inl (own_ne (by omega)))
  have Fd8_31 := Fld.other Wr31 Fd8_29 (Or.inl (own_ne (by omega)))
  have Fd23_31 := Fld.other Wr31 Fd23_29 (Or.inl (own_ne (by omega)))
  have Fd26_31 := Fld.other Wr31 Fd26_29 (Or.inl (own_ne (by omega)))
  have Fd29_31 := Fld.other Wr31 Fd29 (Or.inl (own_ne (by omega)))
  have F0_marked_31 := Fld.other Wr31 F0_marked_29 (Or.inl (own_ne (by omega)))
  have F0_weight_31 := Fld.other Wr31 F0_weight_29 (Or.inl (own_ne (by omega)))
  have F0_touched_31 := Fld.other Wr31 F0_touched_29 (Or.inl (own_ne (by omega)))
  have F0_sortKeys_31 := Fld.other Wr31 F0_sortKeys_29 (Or.inl (own_ne (by omega)))
  have F0_sortStates_31 := Fld.other Wr31 F0_sortStates_29 (Or.inl (own_ne (by omega)))
  have F0_mergedKeys_31 := Fld.other Wr31 F0_mergedKeys_29 (Or.inl (own_ne (by omega)))
  have F0_mergedStates_31 := Fld.other Wr31 F0_mergedStates_29 (Or.inl (own_ne (by omega)))
  have F0_blocks_31 := Fld.other Wr31 F0_blocks_29 (Or.inl (own_ne (by omega)))
  have F0_touchedCount_31 := Fld.other Wr31 F0_touchedCount_29 (Or.inl (own_ne (by omega)))
  have Nf31 := Fr.snoc X31 Nf29 (by omega)
  have Z_31 : n0 ≤ hp31.size := by rw [Wr.size Wr31]; exact Z_29
  refine own_blk dec1 seq1 hby hx hZ hown hK hF 2 [] [] X31 eh31 ?_
  show own_Aft X31 hp31 _ 75 [zA a, zI 3, zI 3] [.int 3, .ref a]
  refine fun T32 X32 eh32 => ?_
  refine own_newP X32 hx hZ (hw _ (wm 10 rfl)) eh32 3 rfl (cap := 3) (by decide) (by decide) (hb hby d1_75) (by decide) (by decide) (fun T33 hp33 ma ga33 X33 eh33 Ex33 Ar33 => ?_)
  have ch_ma : @LT.lt Nat _ en ma := by rw [ga33]; exact Ar31'.lt
  have Ar18'_33 := Ar18'_31.ext Ex33
  have Ar20'_33 := Ar20'_31.ext Ex33
  have Ar22'_33 := Ar22'_31.ext Ex33
  have Ar25'_33 := Ar25'_31.ext Ex33
  have Ar31'_33 := Ar31'.ext Ex33
  have Ea29_33 := Exa.ext Ex33 Ea29_31
  have Fd5_33 := Fld.ext Ex33 Fd5_31
  have Fd8_33 := Fld.ext Ex33 Fd8_31
  have Fd23_33 := Fld.ext Ex33 Fd23_31
  have Fd26_33 := Fld.ext Ex33 Fd26_31
  have Fd29_33 := Fld.ext Ex33 Fd29_31
  have F0_marked_33 := Fld.ext Ex33 F0_marked_31
  have F0_weight_33 := Fld.ext Ex33 F0_weight_31
  have F0_touched_33 := Fld.ext Ex33 F0_touched_31
  have F0_sortKeys_33 := Fld.ext Ex33 F0_sortKeys_31
  have F0_sortStates_33 := Fld.ext Ex33 F0_sortStates_31
  have F0_mergedKeys_33 := Fld.ext Ex33 F0_mergedKeys_31
  have F0_mergedStates_33 := Fld.ext Ex33 F0_mergedStates_31
  have F0_blocks_33 := Fld.ext Ex33 F0_blocks_31
  have F0_touchedCount_33 := Fld.ext Ex33 F0_touchedCount_31
  have Z_33 : n0 ≤ hp33.size := Nat.le_trans Z_31 Ex33.1
  have Ar33' : own_A Z hp33 ma .int [.int 0, .int 0, .int 0] := Ar33
  refine own_putF X33 hx hZ hown (hw _ (wm 21 rfl)) eh33 F0_marked_33 Ea29_33 (Or.inr ⟨(hw _ (wm 22 rfl)), rfl, hnm⟩) (hw _ (wm 2 rfl)) (ty := (.array .int)) (by decide) rfl rfl (hb hby d1_77) (fun T34 hp34 X34 eh34 Wr34 Fd34 Ea34 => ?_)
  have Ar18'_34 := Ar18'_33.other Wr34 (own_ne (by omega))
  have Ar20'_34 := Ar20'_33.other Wr34 (own_ne (by omega))
  have Ar22'_34 := Ar22'_33.other Wr34 (own_ne (by omega))
  have Ar25'_34 := Ar25'_33.other Wr34 (own_ne (by omega))
  have Ar31'_34 := Ar31'_33.other Wr34 (own_ne (by omega))
  have Ar33'_34 := Ar33'.other Wr34 (own_ne (by omega))
  have Fd5_34 := own_so Wr34 Fd5_33 (Or.inr (hw _ (wm 12 rfl))) (Or.inr (hw _ (wm 22 rfl)))
  have Fd8_34 := own_so Wr34 Fd8_33 (Or.inr (hw _ (wm 14 rfl))) (Or.inr (hw _ (wm 22 rfl)))
  have Fd23_34 := own_so Wr34 Fd23_33 (Or.inr (hw _ (wm 16 rfl))) (Or.inr (hw _ (wm 22 rfl)))
  have Fd26_34 := own_so Wr34 Fd26_33 (Or.inr (hw _ (wm 18 rfl))) (Or.inr (hw _ (wm 22 rfl)))
  have Fd29_34 := own_so Wr34 Fd29_33 (Or.inr (hw _ (wm 20 rfl))) (Or.inr (hw _ (wm 22 rfl)))
  have F0_weight_34 := own_so Wr34 F0_weight_33 (Or.inr (hw _ (wm 25 rfl))) (Or.inr (hw _ (wm 22 rfl)))
  have F0_touched_34 := own_so Wr34 F0_touched_33 (Or.inr (hw _ (wm 27 rfl))) (Or.inr (hw _ (wm 22 rfl)))
  have F0_sortKeys_34 := own_so Wr34 F0_sortKeys_33 (Or.inr (hw _ (wm 31 rfl))) (Or.inr (hw _ (wm 22 rfl)))
  have F0_sortStates_34 := own_so Wr34 F0_sortStates_33 (Or.inr (hw _ (wm 33 rfl))) (Or.inr (hw _ (wm 22 rfl)))
  have F0_mergedKeys_34 := own_so Wr34 F0_mergedKeys_33 (Or.inr (hw _ (wm 35 rfl))) (Or.inr (hw _ (wm 22 rfl)))
  have F0_mergedStates_34 := own_so Wr34 F0_mergedStates_33 (Or.inr (hw _ (wm 37 rfl))) (Or.inr (hw _ (wm 22 rfl)))
  have F0_blocks_34 := own_so Wr34 F0_blocks_33 (Or.inl (hw _ (wm 29 rfl))) (Or.inr (hw _ (wm 22 rfl)))
  have F0_touchedCount_34 := own_so Wr34 F0_touchedCount_33 (Or.inl (hw _ (wm 44 rfl))) (Or.inr (hw _ (wm 22 rfl)))
  have Nf34 := Fr.snoc X34 Nf31 (by omega)
  have Z_34 : n0 ≤ hp34.size := by rw [Wr.size Wr34]; exact Z_33
  refine own_blk dec1 seq1 hby hx hZ hown hK hF 2 [] [] X34 eh34 ?_
  show own_Aft X34 hp34 _ 82 [zA a, zI 3, zI 3] [.int 3, .ref a]
  refine fun T35 X35 eh35 => ?_
  refine own_newP X35 hx hZ (hw _ (wm 23 rfl)) eh35 3 rfl (cap := 3) (by decide) (by decide) (hb hby d1_82) (by decide) (by decide) (fun T36 hp36 we ga36 X36 eh36 Ex36 Ar36 => ?_)
  have ch_we : @LT.lt Nat _ ma we := by rw [ga36]; exact Ar33'_34.lt
  have Ar18'_36 := Ar18'_34.ext Ex36
  have Ar20'_36 := Ar20'_34.ext Ex36
  have Ar22'_36 := Ar22'_34.ext Ex36
  have Ar25'_36 := Ar25'_34.ext Ex36
  have Ar31'_36 := Ar31'_34.ext Ex36
  have Ar33'_36 := Ar33'_34.ext Ex36
  have Ea34_36 := Exa.ext Ex36 Ea34
  have Fd5_36 := Fld.ext Ex36 Fd5_34
  have Fd8_36 := Fld.ext Ex36 Fd8_34
  have Fd23_36 := Fld.ext Ex36 Fd23_34
  have Fd26_36 := Fld.ext Ex36 Fd26_34
  have Fd29_36 := Fld.ext Ex36 Fd29_34
  have Fd34_36 := Fld.ext Ex36 Fd34
  have F0_weight_36 := Fld.ext Ex36 F0_weight_34
  have F0_touched_36 := Fld.ext Ex36 F0_touched_34
  have F0_sortKeys_36 := Fld.ext Ex36 F0_sortKeys_34
  have F0_sortStates_36 := Fld.ext Ex36 F0_sortStates_34
  have F0_mergedKeys_36 := Fld.ext Ex36 F0_mergedKeys_34
  have F0_mergedStates_36 := Fld.ext Ex36 F0_mergedStates_34
  have F0_blocks_36 := Fld.ext Ex36 F0_blocks_34
  have F0_touchedCount_36 := Fld.ext Ex36 F0_touchedCount_34
  have Z_36 : n0 ≤ hp36.size := Nat.le_trans Z_34 Ex36.1
  have Ar36' : own_A Z hp36 we .double [.double 0, .double 0, .double 0] := Ar36
  refine own_putF X36 hx hZ hown (hw _ (wm 24 rfl)) eh36 F0_weight_36 Ea34_36 (Or.inr ⟨(hw _ (wm 25 rfl)), rfl, hnm⟩) (hw _ (wm 2 rfl)) (ty := (.array .double)) (by decide) rfl rfl (hb hby d1_84) (fun T37 hp37 X37 eh37 Wr37 Fd37 Ea37 => ?_)
  have Ar18'_37 := Ar18'_36.other Wr37 (own_ne (by omega))
  have Ar20'_37 := Ar20'_36.other Wr37 (own_ne (by omega))
  have Ar22'_37 := Ar22'_36.other Wr37 (own_ne (by omega))
  have Ar25'_37 := Ar25'_36.other Wr37 (own_ne (by omega))
  have Ar31'_37 := Ar31'_36.other Wr37 (own_ne (by omega))
  have Ar33'_37 := Ar33'_36.other Wr37 (own_ne (by omega))
  have Ar36'_37 := Ar36'.other Wr37 (own_ne (by omega))
  have Fd5_37 := own_so Wr37 Fd5_36 (Or.inr (hw _ (wm 12 rfl))) (Or.inr (hw _ (wm 25 rfl)))
  have Fd8_37 := own_so Wr37 Fd8_36 (Or.inr (hw _ (wm 14 rfl))) (Or.inr (hw _ (wm 25 rfl)))
  have Fd23_37 := own_so Wr37 Fd23_36 (Or.inr (hw _ (wm 16 rfl))) (Or.inr (hw _ (wm 25 rfl)))
  have Fd26_37 := own_so Wr37 Fd26_36 (Or.inr (hw _ (wm 18 rfl))) (Or.inr (hw _ (wm 25 rfl)))
  have Fd29_37 := own_so Wr37 Fd29_36 (Or.inr (hw _ (wm 20 rfl))) (Or.inr (hw _ (wm 25 rfl)))
  have Fd34_37 := own_so Wr37 Fd34_36 (Or.inr (hw _ (wm 22 rfl))) (Or.inr (hw _ (wm 25 rfl)))
  have F0_touched_37 := own_so Wr37 F0_touched_36 (Or.inr (hw _ (wm 27 rfl))) (Or.inr (hw _ (wm 25 rfl)))
  have F0_sortKeys_37 := own_so Wr37 F0_sortKeys_36 (Or.inr (hw _ (wm 31 rfl))) (Or.inr (hw _ (wm 25 rfl)))
  have F0_sortStates_37 := own_so Wr37 F0_sortStates_36 (Or.inr (hw _ (wm 33 rfl))) (Or.inr (hw _ (wm 25 rfl)))
  have F0_mergedKeys_37 := own_so Wr37 F0_mergedKeys_36 (Or.inr (hw _ (wm 35 rfl))) (Or.inr (hw _ (wm 25 rfl)))
  have F0_mergedStates_37 := own_so Wr37 F0_mergedStates_36 (Or.inr (hw _ (wm 37 rfl))) (Or.inr (hw _ (wm 25 rfl)))
  have F0_blocks_37 := own_so Wr37 F0_blocks_36 (Or.inl (hw _ (wm 29 rfl))) (Or.inr (hw _ (wm 25 rfl)))
  have F0_touchedCount_37 := own_so Wr37 F0_touchedCount_36 (Or.inl (hw _ (wm 44 rfl))) (Or.inr (hw _ (wm 25 rfl)))
  have Nf37 := Fr.snoc X37 Nf34 (by omega)
  have Z_37 : n0 ≤ hp37.size := by rw [Wr.size Wr37]; exact Z_36
  refine own_blk dec1 seq1 hby hx hZ hown hK hF 2 [] [] X37 eh37 ?_
  show own_Aft X37 hp37 _ 89 [zA a, zI 3, zI 3] [.int 3, .ref a]
  refine fun T38 X38 eh38 => ?_
  refine own_newP X38 hx hZ (hw _ (wm 10 rfl)) eh38 3 rfl (cap := 3) (by decide) (by decide) (hb hby d1_89) (by decide) (by decide) (fun T39 hp39 tu ga39 X39 eh39 Ex39 Ar39 => ?_)
  have ch_tu : @LT.lt Nat _ we tu := by rw [ga39]; exact Ar36'_37.lt
  have Ar18'_39 := Ar18'_37.ext Ex39
  have Ar20'_39 := Ar20'_37.ext Ex39
  have Ar22'_39 := Ar22'_37.ext Ex39
  have Ar25'_39 := Ar25'_37.ext Ex39
  have Ar31'_39 := Ar31'_37.ext Ex39
  have Ar33'_39 := Ar33'_37.ext Ex39
  have Ar36'_39 := Ar36'_37.ext Ex39
  have Ea37_39 := Exa.ext Ex39 Ea37
  have Fd5_39 := Fld.ext Ex39 Fd5_37
  have Fd8_39 := Fld.ext Ex39 Fd8_37
  have Fd23_39 := Fld.ext Ex39 Fd23_37
  have Fd26_39 := Fld.ext Ex39 Fd26_37
  have Fd29_39 := Fld.ext Ex39 Fd29_37
  have Fd34_39 := Fld.ext Ex39 Fd34_37
  have Fd37_39 := Fld.ext Ex39 Fd37
  have F0_touched_39 := Fld.ext Ex39 F0_touched_37
  have F0_sortKeys_39 := Fld.ext Ex39 F0_sortKeys_37
  have F0_sortStates_39 := Fld.ext Ex39 F0_sortStates_37
  have F0_mergedKeys_39 := Fld.ext Ex39 F0_mergedKeys_37
  have F0_mergedStates_39 := Fld.ext Ex39 F0_mergedStates_37
  have F0_blocks_39 := Fld.ext Ex39 F0_blocks_37
  have F0_touchedCount_39 := Fld.ext Ex39 F0_touchedCount_37
  have Z_39 : n0 ≤ hp39.size := Nat.le_trans Z_37 Ex39.1
  have Ar39' : own_A Z hp39 tu .int [.int 0, .int 0, .int 0] := Ar39
  refine own_putF X39 hx hZ hown (hw _ (wm 26 rfl)) eh39 F0_touched_39 Ea37_39 (Or.inr ⟨(hw _ (wm 27 rfl)), rfl, hnm⟩) (hw _ (wm 2 rfl)) (ty := (.array .int)) (by decide) rfl rfl (hb hby d1_91) (fun T40 hp40 X40 eh40 Wr40 Fd40 Ea40 => ?_)
  have Ar18'_40 := Ar18'_39.other Wr40 (own_ne (by omega))
  have Ar20'_40 := Ar20'_39.other Wr40 (own_ne (by omega))
  have Ar22'_40 := Ar22'_39.other Wr40 (own_ne (by omega))
  have Ar25'_40 := Ar25'_39.other Wr40 (own_ne (by omega))
  have Ar31'_40 := Ar31'_39.other Wr40 (own_ne (by omega))
  have Ar33'_40 := Ar33'_39.other Wr40 (own_ne (by omega))
  have Ar36'_40 := Ar36'_39.other Wr40 (own_ne (by omega))
  have Ar39'_40 := Ar39'.other Wr40 (own_ne (by omega))
  have Fd5_40 := own_so Wr40 Fd5_39 (Or.inr (hw _ (wm 12 rfl))) (Or.inr (hw _ (wm 27 rfl)))
  have Fd8_40 := own_so Wr40 Fd8_39 (Or.inr (hw _ (wm 14 rfl))) (Or.inr (hw _ (wm 27 rfl)))
  have Fd23_40 := own_so Wr40 Fd23_39 (Or.inr (hw _ (wm 16 rfl))) (Or.inr (hw _ (wm 27 rfl)))
  have Fd26_40 := own_so Wr40 Fd26_39 (Or.inr (hw _ (wm 18 rfl))) (Or.inr (hw _ (wm 27 rfl)))
  have Fd29_40 := own_so Wr40 Fd29_39 (Or.inr (hw _ (wm 20 rfl))) (Or.inr (hw _ (wm 27 rfl)))
  have Fd34_40 := own_so Wr40 Fd34_39 (Or.inr (hw _ (wm 22 rfl))) (Or.inr (hw _ (wm 27 rfl)))
  have Fd37_40 := own_so Wr40 Fd37_39 (Or.inr (hw _ (wm 25 rfl))) (Or.inr (hw _ (wm 27 rfl)))
  have F0_sortKeys_40 := own_so Wr40 F0_sortKeys_39 (Or.inr (hw _ (wm 31 rfl))) (Or.inr (hw _ (wm 27 rfl)))
  have F0_sortStates_40 := own_so Wr40 F0_sortStates_39 (Or.inr (hw _ (wm 33 rfl))) (Or.inr (hw _ (wm 27 rfl)))
  have F0_mergedKeys_40 := own_so Wr40 F0_mergedKeys_39 (Or.inr (hw _ (wm 35 rfl))) (Or.inr (hw _ (wm 27 rfl)))
  have F0_mergedStates_40 := own_so Wr40 F0_mergedStates_39 (Or.inr (hw _ (wm 37 rfl))) (Or.inr (hw _ (wm 27 rfl)))
  have F0_blocks_40 := own_so Wr40 F0_blocks_39 (Or.inl (hw _ (wm 29 rfl))) (Or.inr (hw _ (wm 27 rfl)))
  have F0_touchedCount_40 := own_so Wr40 F0_touchedCount_39 (Or.inl (hw _ (wm 44 rfl))) (Or.inr (hw _ (wm 27 rfl)))
  have Nf40 := Fr.snoc X40 Nf37 (by omega)
  have Z_40 : n0 ≤ hp40.size := by rw [Wr.size Wr40]; exact Z_39
  refine own_blk dec1 seq1 hby hx hZ hown hK hF 2 [] [] X40 eh40 ?_
  show own_Aft X40 hp40 _ 96 [zA a, zI 3, zI 3] [.int 1, .ref a]
  refine fun T41 X41 eh41 => ?_
  refine own_putF X41 hx hZ hown (hw _ (wm 28 rfl)) eh41 F0_blocks_40 Ea40 (Or.inl (hw _ (wm 29 rfl))) (hw _ (wm 2 rfl)) (ty := .int) (by decide) rfl rfl (hb hby d1_96) (fun T42 hp42 X42 eh42 Wr42 Fd42 Ea42 => ?_)
  have Ar18'_42 := Ar18'_40.other Wr42 (own_ne (by omega))
  have Ar20'_42 := Ar20'_40.other Wr42 (own_ne (by omega))
  have Ar22'_42 := Ar22'_40.other Wr42 (own_ne (by omega))
  have Ar25'_42 := Ar25'_40.other Wr42 (own_ne (by omega))
  have Ar31'_42 := Ar31'_40.other Wr42 (own_ne (by omega))
  have Ar33'_42 := Ar33'_40.other Wr42 (own_ne (by omega))
  have Ar36'_42 := Ar36'_40.other Wr42 (own_ne (by omega))
  have Ar39'_42 := Ar39'_40.other Wr42 (own_ne (by omega))
  have Fd5_42 := own_so Wr42 Fd5_40 (Or.inr (hw _ (wm 12 rfl))) (Or.inl (hw _ (wm 29 rfl)))
  have Fd8_42 := own_so Wr42 Fd8_40 (Or.inr (hw _ (wm 14 rfl))) (Or.inl (hw _ (wm 29 rfl)))
  have Fd23_42 := own_so Wr42 Fd23_40 (Or.inr (hw _ (wm 16 rfl))) (Or.inl (hw _ (wm 29 rfl)))
  have Fd26_42 := own_so Wr42 Fd26_40 (Or.inr (hw _ (wm 18 rfl))) (Or.inl (hw _ (wm 29 rfl)))
  have Fd29_42 := own_so Wr42 Fd29_40 (Or.inr (hw _ (wm 20 rfl))) (Or.inl (hw _ (wm 29 rfl)))
  have Fd34_42 := own_so Wr42 Fd34_40 (Or.inr (hw _ (wm 22 rfl))) (Or.inl (hw _ (wm 29 rfl)))
  have Fd37_42 := own_so Wr42 Fd37_40 (Or.inr (hw _ (wm 25 rfl))) (Or.inl (hw _ (wm 29 rfl)))
  have Fd40_42 := own_so Wr42 Fd40 (Or.inr (hw _ (wm 27 rfl))) (Or.inl (hw _ (wm 29 rfl)))
  have F0_sortKeys_42 := own_so Wr42 F0_sortKeys_40 (Or.inr (hw _ (wm 31 rfl))) (Or.inl (hw _ (wm 29 rfl)))
  have F0_sortStates_42 := own_so Wr42 F0_sortStates_40 (Or.inr (hw _ (wm 33 rfl))) (Or.inl (hw _ (wm 29 rfl)))
  have F0_mergedKeys_42 := own_so Wr42 F0_mergedKeys_40 (Or.inr (hw _ (wm 35 rfl))) (Or.inl (hw _ (wm 29 rfl)))
  have F0_mergedStates_42 := own_so Wr42 F0_mergedStates_40 (Or.inr (hw _ (wm 37 rfl))) (Or.inl (hw _ (wm 29 rfl)))
  have F0_touchedCount_42 := own_so Wr42 F0_touchedCount_40 (Or.inl (hw _ (wm 44 rfl))) (Or.inl (hw _ (wm 29 rfl)))
  have Nf42 := Fr.snoc X42 Nf40 (by omega)
  have Z_42 : n0 ≤ hp42.size := by rw [Wr.size Wr42]; exact Z_40
  refine own_blk dec1 seq1 hby hx hZ hown hK hF 2 [] [] X42 eh42 ?_
  show own_Aft X42 hp42 _ 101 [zA a, zI 3, zI 3] [.int 3, .ref a]
  refine fun T43 X43 eh43 => ?_
  refine own_newP X43 hx hZ (hw _ (wm 23 rfl)) eh43 3 rfl (cap := 3) (by decide) (by decide) (hb hby d1_101) (by decide) (by decide) (fun T44 hp44 sk ga44 X44 eh44 Ex44 Ar44 => ?_)
  have ch_sk : @LT.lt Nat _ tu sk := by rw [ga44]; exact Ar39'_42.lt
  have Ar18'_44 := Ar18'_42.ext Ex44
  have Ar20'_44 := Ar20'_42.ext Ex44
  have Ar22'_44 := Ar22'_42.ext Ex44
  have Ar25'_44 := Ar25'_42.ext Ex44
  have Ar31'_44 := Ar31'_42.ext Ex44
  have Ar33'_44 := Ar33'_42.ext Ex44
  have Ar36'_44 := Ar36'_42.ext Ex44
  have Ar39'_44 := Ar39'_42.ext Ex44
  have Ea42_44 := Exa.ext Ex44 Ea42
  have Fd5_44 := Fld.ext Ex44 Fd5_42
  have Fd8_44 := Fld.ext Ex44 Fd8_42
  have Fd23_44 := Fld.ext Ex44 Fd23_42
  have Fd26_44 := Fld.ext Ex44 Fd26_42
  have Fd29_44 := Fld.ext Ex44 Fd29_42
  have Fd34_44 := Fld.ext Ex44 Fd34_42
  have Fd37_44 := Fld.ext Ex44 Fd37_42
  have Fd40_44 := Fld.ext Ex44 Fd40_42
  have F0_sortKeys_44 := Fld.ext Ex44 F0_sortKeys_42
  have F0_sortStates_44 := Fld.ext Ex44 F0_sortStates_42
  have F0_mergedKeys_44 := Fld.ext Ex44 F0_mergedKeys_42
  have F0_mergedStates_44 := Fld.ext Ex44 F0_mergedStates_42
  have Fd42_44 := Fld.ext Ex44 Fd42
  have F0_touchedCount_44 := Fld.ext Ex44 F0_touchedCount_42
  have Z_44 : n0 ≤ hp44.size := Nat.le_trans Z_42 Ex44.1
  have Ar44' : own_A Z hp44 sk .double [.double 0, .double 0, .double 0] := Ar44
  refine own_putF X44 hx hZ hown (hw _ (wm 30 rfl)) eh44 F0_sortKeys_44 Ea42_44 (Or.inr ⟨(hw _ (wm 31 rfl)), rfl, hnm⟩) (hw _ (wm 2 rfl)) (ty := (.array .double)) (by decide) rfl rfl (hb hby d1_103) (fun T45 hp45 X45 eh45 Wr45 Fd45 Ea45 => ?_)
  have Ar18'_45 := Ar18'_44.other Wr45 (own_ne (by omega))
  have Ar20'_45 := Ar20'_44.other Wr45 (own_ne (by omega))
  have Ar22'_45 := Ar22'_44.other Wr45 (own_ne (by omega))
  have Ar25'_45 := Ar25'_44.other Wr45 (own_ne (by omega))
  have Ar31'_45 := Ar31'_44.other Wr45 (own_ne (by omega))
  have Ar33'_45 := Ar33'_44.other Wr45 (own_ne (by omega))
  have Ar36'_45 := Ar36'_44.other Wr45 (own_ne (by omega))
  have Ar39'_45 := Ar39'_44.other Wr45 (own_ne (by omega))
  have Ar44'_45 := Ar44'.other Wr45 (own_ne (by omega))
  have Fd5_45 := own_so Wr45 Fd5_44 (Or.inr (hw _ (wm 12 rfl))) (Or.inr (hw _ (wm 31 rfl)))
  have Fd8_45 := own_so Wr45 Fd8_44 (Or.inr (hw _ (wm 14 rfl))) (Or.inr (hw _ (wm 31 rfl)))
  have Fd23_45 := own_so Wr45 Fd23_44 (Or.inr (hw _ (wm 16 rfl))) (Or.inr (hw _ (wm 31 rfl)))
  have Fd26_45 := own_so Wr45 Fd26_44 (Or.inr (hw _ (wm 18 rfl))) (Or.inr (hw _ (wm 31 rfl)))
  have Fd29_45 := own_so Wr45 Fd29_44 (Or.inr (hw _ (wm 20 rfl))) (Or.inr (hw _ (wm 31 rfl)))
  have Fd34_45 := own_so Wr45 Fd34_44 (Or.inr (hw _ (wm 22 rfl))) (Or.inr (hw _ (wm 31 rfl)))
  have Fd37_45 := own_so Wr45 Fd37_44 (Or.inr (hw _ (wm 25 rfl))) (Or.inr (hw _ (wm 31 rfl)))
  have Fd40_45 := own_so Wr45 Fd40_44 (Or.inr (hw _ (wm 27 rfl))) (Or.inr (hw _ (wm 31 rfl)))
  have F0_sortStates_45 := own_so Wr45 F0_sortStates_44 (Or.inr (hw _ (wm 33 rfl))) (Or.inr (hw _ (wm 31 rfl)))
  have F0_mergedKeys_45 := own_so Wr45 F0_mergedKeys_44 (Or.inr (hw _ (wm 35 rfl))) (Or.inr (hw _ (wm 31 rfl)))
  have F0_mergedStates_45 := own_so Wr45 F0_mergedStates_44 (Or.inr (hw _ (wm 37 rfl))) (Or.inr (hw _ (wm 31 rfl)))
  have Fd42_45 := own_so Wr45 Fd42_44 (Or.inl (hw _ (wm 29 rfl))) (Or.inr (hw _ (wm 31 rfl)))
  have F0_touchedCount_45 := own_so Wr45 F0_touchedCount_44 (Or.inl (hw _ (wm 44 rfl))) (Or.inr (hw _ (wm 31 rfl)))
  have Nf45 := Fr.snoc X45 Nf42 (by omega)
  have Z_45 : n0 ≤ hp45.size := by rw [Wr.size Wr45]; exact Z_44
  refine own_blk dec1 seq1 hby hx hZ hown hK hF 2 [] [] X45 eh45 ?_
  show own_Aft X45 hp45 _ 108 [zA a, zI 3, zI 3] [.int 3, .ref a]
  refine fun T46 X46 eh46 => ?_
  refine own_newP X46 hx hZ (hw _ (wm 10 rfl)) eh46 3 rfl (cap := 3) (by decide) (by decide) (hb hby d1_108) (by decide) (by decide) (fun T47 hp47 ss ga47 X47 eh47 Ex47 Ar47 => ?_)
  have ch_ss : @LT.lt Nat _ sk ss := by rw [ga47]; exact Ar44'_45.lt
  have Ar18'_47 := Ar18'_45.ext Ex47
  have Ar20'_47 := Ar20'_45.ext Ex47
  have Ar22'_47 := Ar22'_45.ext Ex47
  have Ar25'_47 := Ar25'_45.ext Ex47
  have Ar31'_47 := Ar31'_45.ext Ex47
  have Ar33'_47 := Ar33'_45.ext Ex47
  have Ar36'_47 := Ar36'_45.ext Ex47
  have Ar39'_47 := Ar39'_45.ext Ex47
  have Ar44'_47 := Ar44'_45.ext Ex47
  have Ea45_47 := Exa.ext Ex47 Ea45
  have Fd5_47 := Fld.ext Ex47 Fd5_45
  have Fd8_47 := Fld.ext Ex47 Fd8_45
  have Fd23_47 := Fld.ext Ex47 Fd23_45
  have Fd26_47 := Fld.ext Ex47 Fd26_45
  have Fd29_47 := Fld.ext Ex47 Fd29_45
  have Fd34_47 := Fld.ext Ex47 Fd34_45
  have Fd37_47 := Fld.ext Ex47 Fd37_45
  have Fd40_47 := Fld.ext Ex47 Fd40_45
  have Fd45_47 := Fld.ext Ex47 Fd45
  have F0_sortStates_47 := Fld.ext Ex47 F0_sortStates_45
  have F0_mergedKeys_47 := Fld.ext Ex47 F0_mergedKeys_45
  have F0_mergedStates_47 := Fld.ext Ex47 F0_mergedStates_45
  have Fd42_47 := Fld.ext Ex47 Fd42_45
  have F0_touchedCount_47 := Fld.ext Ex47 F0_touchedCount_45
  have Z_47 : n0 ≤ hp47.size := Nat.le_trans Z_45 Ex47.1
  have Ar47' : own_A Z hp47 ss .int [.int 0, .int 0, .int 0] := Ar47
  refine own_putF X47 hx hZ hown (hw _ (wm 32 rfl)) eh47 F0_sortStates_47 Ea45_47 (Or.inr ⟨(hw _ (wm 33 rfl)), rfl, hnm⟩) (hw _ (wm 2 rfl)) (ty := (.array .int)) (by decide) rfl rfl (hb hby d1_110) (fun T48 hp48 X48 eh48 Wr48 Fd48 Ea48 => ?_)
  have Ar18'_48 := Ar18'_47.other Wr48 (own_ne (by omega))
  have Ar20'_48 := Ar20'_47.other Wr48 (own_ne (by omega))
  have Ar22'_48 := Ar22'_47.other Wr48 (own_ne (by omega))
  have Ar25'_48 := Ar25'_47.other Wr48 (own_ne (by omega))
  have Ar31'_48 := Ar31'_47.other Wr48 (own_ne (by omega))
  have Ar33'_48 := Ar33'_47.other Wr48 (own_ne (by omega))
  have Ar36'_48 := Ar36'_47.other Wr48 (own_ne (by omega))
  have Ar39'_48 := Ar39'_47.other Wr48 (own_ne (by omega))
  have Ar44'_48 := Ar44'_47.other Wr48 (own_ne (by omega))
  have Ar47'_48 := Ar47'.other Wr48 (own_ne (by omega))
  have Fd5_48 := own_so Wr48 Fd5_47 (Or.inr (hw _ (wm 12 rfl))) (Or.inr (hw _ (wm 33 rfl)))
  have Fd8_48 := own_so Wr48 Fd8_47 (Or.inr (hw _ (wm 14 rfl))) (Or.inr (hw _ (wm 33 rfl)))
  have Fd23_48 := own_so Wr48 Fd23_47 (Or.inr (hw _ (wm 16 rfl))) (Or.inr (hw _ (wm 33 rfl)))
  have Fd26_48 := own_so Wr48 Fd26_47 (Or.inr (hw _ (wm 18 rfl))) (Or.inr (hw _ (wm 33 rfl)))
  have Fd29_48 := own_so Wr48 Fd29_47 (Or.inr (hw _ (wm 20 rfl))) (Or.inr (hw _ (wm 33 rfl)))
  have Fd34_48 := own_so Wr48 Fd34_47 (Or.inr (hw _ (wm 22 rfl))) (Or.inr (hw _ (wm 33 rfl)))
  have Fd37_48 := own_so Wr48 Fd37_47 (Or.inr (hw _ (wm 25 rfl))) (Or.inr (hw _ (wm 33 rfl)))
  have Fd40_48 := own_so Wr48 Fd40_47 (Or.inr (hw _ (wm 27 rfl))) (Or.inr (hw _ (wm 33 rfl)))
  have Fd45_48 := own_so Wr48 Fd45_47 (Or.inr (hw _ (wm 31 rfl))) (Or.inr (hw _ (wm 33 rfl)))
  have F0_mergedKeys_48 := own_so Wr48 F0_mergedKeys_47 (Or.inr (hw _ (wm 35 rfl))) (Or.inr (hw _ (wm 33 rfl)))
  have F0_mergedStates_48 := own_so Wr48 F0_mergedStates_47 (Or.inr (hw _ (wm 37 rfl))) (Or.inr (hw _ (wm 33 rfl)))
  have Fd42_48 := own_so Wr48 Fd42_47 (Or.inl (hw _ (wm 29 rfl))) (Or.inr (hw _ (wm 33 rfl)))
  have F0_touchedCount_48 := own_so Wr48 F0_touchedCount_47 (Or.inl (hw _ (wm 44 rfl))) (Or.inr (hw _ (wm 33 rfl)))
  have Nf48 := Fr.snoc X48 Nf45 (by omega)
  have Z_48 : n0 ≤ hp48.size := by rw [Wr.size Wr48]; exact Z_47
  refine own_blk dec1 seq1 hby hx hZ hown hK hF 2 [] [] X48 eh48 ?_
  show own_Aft X48 hp48 _ 115 [zA a, zI 3, zI 3] [.int 3, .ref a]
  refine fun T49 X49 eh49 => ?_
  refine own_newP X49 hx hZ (hw _ (wm 23 rfl)) eh49 3 rfl (cap := 3) (by decide) (by decide) (hb hby d1_115) (by decide) (by decide) (fun T50 hp50 mk ga50 X50 eh50 Ex50 Ar50 => ?_)
  have ch_mk : @LT.lt Nat _ ss mk := by rw [ga50]; exact Ar47'_48.lt
  have Ar18'_50 := Ar18'_48.ext Ex50
  have Ar20'_50 := Ar20'_48.ext Ex50
  have Ar22'_50 := Ar22'_48.ext Ex50
  have Ar25'_50 := Ar25'_48.ext Ex50
  have Ar31'_50 := Ar31'_48.ext Ex50
  have Ar33'_50 := Ar33'_48.ext Ex50
  have Ar36'_50 := Ar36'_48.ext Ex50
  have Ar39'_50 := Ar39'_48.ext Ex50
  have Ar44'_50 := Ar44'_48.ext Ex50
  have Ar47'_50 := Ar47'_48.ext Ex50
  have Ea48_50 := Exa.ext Ex50 Ea48
  have Fd5_50 := Fld.ext Ex50 Fd5_48
  have Fd8_50 := Fld.ext Ex50 Fd8_48
  have Fd23_50 := Fld.ext Ex50 Fd23_48
  have Fd26_50 := Fld.ext Ex50 Fd26_48
  have Fd29_50 := Fld.ext Ex50 Fd29_48
  have Fd34_50 := Fld.ext Ex50 Fd34_48
  have Fd37_50 := Fld.ext Ex50 Fd37_48
  have Fd40_50 := Fld.ext Ex50 Fd40_48
  have Fd45_50 := Fld.ext Ex50 Fd45_48
  have Fd48_50 := Fld.ext Ex50 Fd48
  have F0_mergedKeys_50 := Fld.ext Ex50 F0_mergedKeys_48
  have F0_mergedStates_50 := Fld.ext Ex50 F0_mergedStates_48
  have Fd42_50 := Fld.ext Ex50 Fd42_48
  have F0_touchedCount_50 := Fld.ext Ex50 F0_touchedCount_48
  have Z_50 : n0 ≤ hp50.size := Nat.le_trans Z_48 Ex50.1
  have Ar50' : own_A Z hp50 mk .double [.double 0, .double 0, .double 0] := Ar50
  refine own_putF X50 hx hZ hown (hw _ (wm 34 rfl)) eh50 F0_mergedKeys_50 Ea48_50 (Or.inr ⟨(hw _ (wm 35 rfl)), rfl, hnm⟩) (hw _ (wm 2 rfl)) (ty := (.array .double)) (by decide) rfl rfl (hb hby d1_117) (fun T51 hp51 X51 eh51 Wr51 Fd51 Ea51 => ?_)
  have Ar18'_51 := Ar18'_50.other Wr51 (own_ne (by omega))
  have Ar20'_51 := Ar20'_50.other Wr51 (own_ne (by omega))
  have Ar22'_51 := Ar22'_50.other Wr51 (own_ne (by omega))
  have Ar25'_51 := Ar25'_50.other Wr51 (own_ne (by omega))
  have Ar31'_51 := Ar31'_50.other Wr51 (own_ne (by omega))
  have Ar33'_51 := Ar33'_50.other Wr51 (own_ne (by omega))
  have Ar36'_51 := Ar36'_50.other Wr51 (own_ne (by omega))
  have Ar39'_51 := Ar39'_50.other Wr51 (own_ne (by omega))
  have Ar44'_51 := Ar44'_50.other Wr51 (own_ne (by omega))
  have Ar47'_51 := Ar47'_50.other Wr51 (own_ne (by omega))
  have Ar50'_51 := Ar50'.other Wr51 (own_ne (by omega))
  have Fd5_51 := own_so Wr51 Fd5_50 (Or.inr (hw _ (wm 12 rfl))) (Or.inr (hw _ (wm 35 rfl)))
  have Fd8_51 := own_so Wr51 Fd8_50 (Or.inr (hw _ (wm 14 rfl))) (Or.inr (hw _ (wm 35 rfl)))
  have Fd23_51 := own_so Wr51 Fd23_50 (Or.inr (hw _ (wm 16 rfl))) (Or.inr (hw _ (wm 35 rfl)))
  have Fd26_51 := own_so Wr51 Fd26_50 (Or.inr (hw _ (wm 18 rfl))) (Or.inr (hw _ (wm 35 rfl)))
  have Fd29_51 := own_so Wr51 Fd29_50 (Or.inr (hw _ (wm 20 rfl))) (Or.inr (hw _ (wm 35 rfl)))
  have Fd34_51 := own_so Wr51 Fd34_50 (Or.inr (hw _ (wm 22 rfl))) (Or.inr (hw _ (wm 35 rfl)))
  have Fd37_51 := own_so Wr51 Fd37_50 (Or.inr (hw _ (wm 25 rfl))) (Or.inr (hw _ (wm 35 rfl)))
  have Fd40_51 := own_so Wr51 Fd40_50 (Or.inr (hw _ (wm 27 rfl))) (Or.inr (hw _ (wm 35 rfl)))
  have Fd45_51 := own_so Wr51 Fd45_50 (Or.inr (hw _ (wm 31 rfl))) (Or.inr (hw _ (wm 35 rfl)))
  have Fd48_51 := own_so Wr51 Fd48_50 (Or.inr (hw _ (wm 33 rfl))) (Or.inr (hw _ (wm 35 rfl)))
  have F0_mergedStates_51 := own_so Wr51 F0_mergedStates_50 (Or.inr (hw _ (wm 37 rfl))) (Or.inr (hw _ (wm 35 rfl)))
  have Fd42_51 := own_so Wr51 Fd42_50 (Or.inl (hw _ (wm 29 rfl))) (Or.inr (hw _ (wm 35 rfl)))
  have F0_touchedCount_51 := own_so Wr51 F0_touchedCount_50 (Or.inl (hw _ (wm 44 rfl))) (Or.inr (hw _ (wm 35 rfl)))
  have Nf51 := Fr.snoc X51 Nf48 (by omega)
  have Z_51 : n0 ≤ hp51.size := by rw [Wr.size Wr51]; exact Z_50
  refine own_blk dec1 seq1 hby hx hZ hown hK hF 2 [] [] X51 eh51 ?_
  show own_Aft X51 hp51 _ 122 [zA a, zI 3, zI 3] [.int 3, .ref a]
  refine fun T52 X52 eh52 => ?_
  refine own_newP X52 hx hZ (hw _ (wm 10 rfl)) eh52 3 rfl (cap := 3) (by decide) (by decide) (hb hby d1_122) (by decide) (by decide) (fun T53 hp53 ms ga53 X53 eh53 Ex53 Ar53 => ?_)
  have ch_ms : @LT.lt Nat _ mk ms := by rw [ga53]; exact Ar50'_51.lt
  have Ar18'_53 := Ar18'_51.ext Ex53
  have Ar20'_53 := Ar20'_51.ext Ex53
  have Ar22'_53 := Ar22'_51.ext Ex53
  have Ar25'_53 := Ar25'_51.ext Ex53
  have Ar31'_53 := Ar31'_51.ext Ex53
  have Ar33'_53 := Ar33'_51.ext Ex53
  have Ar36'_53 := Ar36'_51.ext Ex53
  have Ar39'_53 := Ar39'_51.ext Ex53
  have Ar44'_53 := Ar44'_51.ext Ex53
  have Ar47'_53 := Ar47'_51.ext Ex53
  have Ar50'_53 := Ar50'_51.ext Ex53
  have Ea51_53 := Exa.ext Ex53 Ea51
  have Fd5_53 := Fld.ext Ex53 Fd5_51
  have Fd8_53 := Fld.ext Ex53 Fd8_51
  have Fd23_53 := Fld.ext Ex53 Fd23_51
  have Fd26_53 := Fld.ext Ex53 Fd26_51
  have Fd29_53 := Fld.ext Ex53 Fd29_51
  have Fd34_53 := Fld.ext Ex53 Fd34_51
  have Fd37_53 := Fld.ext Ex53 Fd37_51
  have Fd40_53 := Fld.ext Ex53 Fd40_51
  have Fd45_53 := Fld.ext Ex53 Fd45_51
  have Fd48_53 := Fld.ext Ex53 Fd48_51
  have Fd51_53 := Fld.ext Ex53 Fd51
  have F0_mergedStates_53 := Fld.ext Ex53 F0_mergedStates_51
  have Fd42_53 := Fld.ext Ex53 Fd42_51
  have F0_touchedCount_53 := Fld.ext Ex53 F0_touchedCount_51
  have Z_53 : n0 ≤ hp53.size := Nat.le_trans Z_51 Ex53.1
  have Ar53' : own_A Z hp53 ms .int [.int 0, .int 0, .int 0] := Ar53
  refine own_putF X53 hx hZ hown (hw _ (wm 36 rfl)) eh53 F0_mergedStates_53 Ea51_53 (Or.inr ⟨(hw _ (wm 37 rfl)), rfl, hnm⟩) (hw _ (wm 2 rfl)) (ty := (.array .int)) (by decide) rfl rfl (hb hby d1_124) (fun T54 hp54 X54 eh54 Wr54 Fd54 Ea54 => ?_)
  have Ar18'_54 := Ar18'_53.other Wr54 (own_ne (by omega))
  have Ar20'_54 := Ar20'_53.other Wr54 (own_ne (by omega))
  have Ar22'_54 := Ar22'_53.other Wr54 (own_ne (by omega))
  have Ar25'_54 := Ar25'_53.other Wr54 (own_ne (by omega))
  have Ar31'_54 := Ar31'_53.other Wr54 (own_ne (by omega))
  have Ar33'_54 := Ar33'_53.other Wr54 (own_ne (by omega))
  have Ar36'_54 := Ar36'_53.other Wr54 (own_ne (by omega))
  have Ar39'_54 := Ar39'_53.other Wr54 (own_ne (by omega))
  have Ar44'_54 := Ar44'_53.other Wr54 (own_ne (by omega))
  have Ar47'_54 := Ar47'_53.other Wr54 (own_ne (by omega))
  have Ar50'_54 := Ar50'_53.other Wr54 (own_ne (by omega))
  have Ar53'_54 := Ar53'.other Wr54 (own_ne (by omega))
  have Fd5_54 := own_so Wr54 Fd5_53 (Or.inr (hw _ (wm 12 rfl))) (Or.inr (hw _ (wm 37 rfl)))
  have Fd8_54 := own_so Wr54 Fd8_53 (Or.inr (hw _ (wm 14 rfl))) (Or.inr (hw _ (wm 37 rfl)))
  have Fd23_54 := own_so Wr54 Fd23_53 (Or.inr (hw _ (wm 16 rfl))) (Or.inr (hw _ (wm 37 rfl)))
  have Fd26_54 := own_so Wr54 Fd26_53 (Or.inr (hw _ (wm 18 rfl))) (Or.inr (hw _ (wm 37 rfl)))
  have Fd29_54 := own_so Wr54 Fd29_53 (Or.inr (hw _ (wm 20 rfl))) (Or.inr (hw _ (wm 37 rfl)))
  have Fd34_54 := own_so Wr54 Fd34_53 (Or.inr (hw _ (wm 22 rfl))) (Or.inr (hw _ (wm 37 rfl)))
  have Fd37_54 := own_so Wr54 Fd37_53 (Or.inr (hw _ (wm 25 rfl))) (Or.inr (hw _ (wm 37 rfl)))
  have Fd40_54 := own_so Wr54 Fd40_53 (Or.inr (hw _ (wm 27 rfl))) (Or.inr (hw _ (wm 37 rfl)))
  have Fd45_54 := own_so Wr54 Fd45_53 (Or.inr (hw _ (wm 31 rfl))) (Or.inr (hw _ (wm 37 rfl)))
  have Fd48_54 := own_so Wr54 Fd48_53 (Or.inr (hw _ (wm 33 rfl))) (Or.inr (hw _ (wm 37 rfl)))
  have Fd51_54 := own_so Wr54 Fd51_53 (Or.inr (hw _ (wm 35 rfl))) (Or.inr (hw _ (wm 37 rfl)))
  have Fd42_54 := own_so Wr54 Fd42_53 (Or.inl (hw _ (wm 29 rfl))) (Or.inr (hw _ (wm 37 rfl)))
  have F0_touchedCount_54 := own_so Wr54 F0_touchedCount_53 (Or.inl (hw _ (wm 44 rfl))) (Or.inr (hw _ (wm 37 rfl)))
  have Nf54 := Fr.snoc X54 Nf51 (by omega)
  have Z_54 : n0 ≤ hp54.size := by rw [Wr.size Wr54]; exact Z_53
  exact own_retV X54 hx hlk eh54 hret (hb hby d1_127) (by decide) (by decide) (⟨rfl, Nf54, Ea54, el, po, bo, fi, en, ma, we, tu, sk, ss, mk, ms, ⟨na, ch_el, ch_po, ch_bo, ch_fi, ch_en, ch_ma, ch_we, ch_tu, ch_sk, ch_ss, ch_mk, ch_ms⟩, ⟨Fd5_54, Fd8_54, Fd23_54, Fd26_54, Fd29_54, Fd34_54, Fd37_54, Fd40_54, Fd45_54, Fd48_54, Fd51_54, Fd54, Fd42_54, F0_touchedCount_54⟩, Ar18'_54, Ar20'_54, Ar22'_54, Ar25'_54, Ar31'_54, Ar33'_54, Ar36'_54, Ar39'_54, Ar44'_54, Ar47'_54, Ar50'_54, Ar53'_54⟩)
set_option maxRecDepth 65536 in
set_option maxHeartbeats 40000000 in
theorem rm3_n0 (l : Launch) (Z : State) (a0 : Array Value) (hw : ∀ d ∈ tables_1, d.before a0 Z = true) (ws : List Jvm.Cond) (a el po bo fi en ma we tu sk ss mk ms : Addr) (t pp oo : Int32) (Le Lp Lw : List Value) (am : UInt64) (B : Int) (h0 : Heap) (n0 : Nat) (Z0 : n0 ≤ h0.size) (EX : Exa Z h0 a cP) (CH : own_CH n0 a el po bo fi en ma we tu sk ss mk ms) (PF : own_PF Z h0 a el po bo fi en ma we tu sk ss mk ms 1 0) (Ae : own_A Z h0 el .int Le) (Ap : own_A Z h0 po .int Lp) (Ab : own_A Z h0 bo .int [.int 0, .int 0, .int 0]) (Af : own_A Z h0 fi .int [.int 0, .int 0, .int 0]) (Am : own_A Z h0 ma .int [.int 0, .int 0, .int 0]) (At : own_A Z h0 tu .int [.int 0, .int 0, .int 0]) (Aw : own_A Z h0 we .double Lw) (hLe : Le.length = 3) (hLp : Lp.length = 3) (hLw : Lw.length = 3) (t0 : 0 ≤ t.toInt) (t1 : t.toInt < 3) (hp : Lp[t.toInt.toNat]? = some (.int pp)) (p0 : 0 ≤ pp.toInt) (p1 : pp.toInt < 3) (ho : Le[0]? = some (.int oo)) (o0 : 0 ≤ oo.toInt) (o1 : oo.toInt < 3) (hB : own_D 0 B am) (bB : B.natAbs < 100000) :
    own_MF l (⟨cP, "add", "(ID)V"⟩ : MethodName) prog_12_method_7_code 8 none ws ({ frames := 0, cells := 0, slots := 0, locals := 0 } : Room) #[.ref a, .int t, .double am] Z h0 (fun v h L => v = none ∧ Fr n0 L ∧ Keep h0 h [a, el, po, ma, we, tu] ∧ own_PF Z h a el po bo fi en ma we tu sk ss mk ms 1 1 ∧ own_A Z h el .int ((Le.set 0 (.int t)).set pp.toInt.toNat (.int oo)) ∧ own_A Z h po .int ((Lp.set t.toInt.toNat (.int 0)).set oo.toInt.toNat (.int pp)) ∧ own_A Z h ma .int [.int 1, .int 0, .int 0] ∧ own_A Z h tu .int [.int 0, .int 0, .int 0] ∧ ∃ r, own_D 0 B r ∧ own_A Z h we .double ((Lw.set t.toInt.toNat (.double 0)).set t.toInt.toNat (.double r))) := by
  refine own_body pf3 (ls0 := [.val (.ref a), .val (.int t), .val (.double am), .second, .unset, .unset, .unset, .unset]) (fun m => by first | (simp [entryFrame, mkF, argsToLocals, Value.category, maxLocals]; done) | rfl) ?_
  intro p e s m below meth c T0 hx hby hml hown hnm hlk hret hZ X0 eh0
  have hK := hKt1 hw; have hF := hFt1 hw
  have N0 := Fr.nil n0
  obtain ⟨c0_, c1_, c2_, c3_, c4_, c5_, c6_, c7_, c8_, c9_, c10_, c11_, c12_⟩ := CH
  have l0 : (0 : Int32).toInt = 0 := rfl
  have l1 : (1 : Int32).toInt = 1 := rfl
  have l2 : (2 : Int32).toInt = 2 := rfl
  have l3 : (3 : Int32).toInt = 3 := rfl
  have nin_bo : bo ∉ [a, el, po, ma, we, tu] := (own_nin (by simp only [own_out, and_true]; omega))
  have nin_fi : fi ∉ [a, el, po, ma, we, tu] := (own_nin (by simp only [own_out, and_true]; omega))
  have K0 := Keep.refl h0 [a, el, po, ma, we, tu]
  refine own_blk dec3 seq3 hby hx hZ hown hK hF 24 [false] [.ref bo, .int 0, .ref po, .int pp, .ref fi, .int 0, .ref ma, .int 0] X0 eh0 ?_
  show (Fld Z h0 a cP "blockOf" "[I" (.ref bo)) ∧ (own_at Z h0 bo .int t (.int 0)) ∧ (Fld Z h0 a cP "position" "[I" (.ref po)) ∧ (own_at Z h0 po .int t (.int pp)) ∧ (Fld Z h0 a cP "first" "[I" (.ref fi)) ∧ (own_at Z h0 fi .int (0 : Int32) (.int 0)) ∧ (Fld Z h0 a cP "marked" "[I" (.ref ma)) ∧ (own_at Z h0 ma .int (0 : Int32) (.int 0)) ∧ (¬ ((pp).toInt < ((0 : Int32)).toInt)) ∧ own_Aft X0 h0 _ 41 [zA a, zI t, zD am, zS, zI 0, zI pp, zI 0, zU] [.ref a]
  refine ⟨PF.2.2.1, Ab.at3 t t0 t1, PF.2.1, Ap.at t t.toInt.toNat (by omega) hp, PF.2.2.2.1, Af.at (0 : Int32) 0 rfl rfl, PF.2.2.2.2.2.1, Am.at (0 : Int32) 0 rfl rfl, by omega, fun T1 X1 eh1 => ?_⟩
  refine own_blk dec3 seq3 hby hx hZ hown hK hF 12 [false] [.ref ma, .int 0, .ref tu, .int 0] X1 eh1 ?_
  show (Fld Z h0 a cP "marked" "[I" (.ref ma)) ∧ (own_at Z h0 ma .int (0 : Int32) (.int 0)) ∧ (¬ (((0 : Int32)).toInt ≠ 0)) ∧ (Fld Z h0 a cP "touched" "[I" (.ref tu)) ∧ (Fld Z h0 a cP "touchedCount" "I" (.int 0)) ∧ own_Aft X1 h0 _ 62 [zA a, zI t, zD am, zS, zI 0, zI pp, zI 0, zU] [.int 1, .ref a, .int 0, .ref tu]
  refine ⟨PF.2.2.2.2.2.1, Am.at (0 : Int32) 0 rfl rfl, by decide, PF.2.2.2.2.2.2.2.1, PF.2.2.2.2.2.2.2.2.2.2.2.2.2, fun T2 X2 eh2 => ?_⟩
  refine own_putF X2 hx hZ hown (hw _ (wm 43 rfl)) eh2 PF.2.2.2.2.2.2.2.2.2.2.2.2.2 EX (Or.inl (hw _ (wm 44 rfl))) (hw _ (wm 2 rfl)) (ty := .int) (by decide) rfl rfl (hb hby d3_62) (fun T3 hp3 X3 eh3 Wr3 Fd3 Ea3 => ?_)
  have Ae_3 := Ae.other Wr3 (own_ne (by omega))
  have Ap_3 := Ap.other Wr3 (own_ne (by omega))
  have Aw_3 := Aw.other Wr3 (own_ne (by omega))
  have Am_3 := Am.other Wr3 (own_ne (by omega))
  have At_3 := At.other Wr3 (own_ne (by omega))
  have Nf3 := Fr.snoc X3 N0 (by omega)
  have Z_3 : n0 ≤ hp3.size := by rw [Wr.size Wr3]; exact Z0
  have K_3 := Keep.wr K0 Wr3 (Or.inl (List.mem_of_getElem? (i := 0) rfl))
  have PF_3 : own_PF Z hp3 a el po bo fi en ma we tu sk ss mk ms (1 : Int32) (1 : Int32) := ⟨own_so Wr3 PF.1 (Or.inr (hw _ (wm 12 rfl))) (Or.inl (hw _ (wm 44 rfl))), own_so Wr3 PF.2.1 (Or.inr (hw _ (wm 14 rfl))) (Or.inl (hw _ (wm 44 rfl))), own_so Wr3 PF.2.2.1 (Or.inr (hw _ (wm 16 rfl))) (Or.inl (hw _ (wm 44 rfl))), own_so Wr3 PF.2.2.2.1 (Or.inr (hw _ (wm 18 rfl))) (Or.inl (hw _ (wm 44 rfl))), own_so Wr3 PF.2.2.2.2.1 (Or.inr (hw _ (wm 20 rfl))) (Or.inl (hw _ (wm 44 rfl))), own_so Wr3 PF.2.2.2.2.2.1 (Or.inr (hw _ (wm 22 rfl))) (Or.inl (hw _ (wm 44 rfl))), own_so Wr3 PF.2.2.2.2.2.2.1 (Or.inr (hw _ (wm 25 rfl))) (Or.inl (hw _ (wm 44 rfl))), own_so Wr3 PF.2.2.2.2.2.2.2.1 (Or.inr (hw _ (wm 27 rfl))) (Or.inl (hw _ (wm 44 rfl))), own_so Wr3 PF.2.2.2.2.2.2.2.2.1 (Or.inr (hw _ (wm 31 rfl))) (Or.inl (hw _ (wm 44 rfl))), own_so Wr3 PF.2.2.2.2.2.2.2.2.2.1 (Or.inr (hw _ (wm 33 rfl))) (Or.inl (hw _ (wm 44 rfl))), own_so Wr3 PF.2.2.2.2.2.2.2.2.2.2.1 (Or.inr (hw _ (wm 35 rfl))) (Or.inl (hw _ (wm 44 rfl))), own_so Wr3 PF.2.2.2.2.2.2.2.2.2.2.2.1 (Or.inr (hw _ (wm 37 rfl))) (Or.inl (hw _ (wm 44 rfl))), own_so Wr3 PF.2.2.2.2.2.2.2.2.2.2.2.2.1 (Or.inl (hw _ (wm 29 rfl))) (Or.inl (hw _ (wm 44 rfl))), Fd3⟩
  refine own_blk dec3 seq3 hby hx hZ hown hK hF 1 [] [] X3 eh3 ?_
  show own_Aft X3 hp3 _ 67 [zA a, zI t, zD am, zS, zI 0, zI pp, zI 0, zU] [.int 0, .int 0, .ref tu]
  refine fun T4 X4 eh4 => ?_
  refine own_sI X4 hx hZ eh4 At_3 0 rfl (by show 0 < 3; decide) (hb hby d3_67) (fun T5 hp5 X5 eh5 Wr5 Ar5 => ?_)
  have Ar5' : own_A Z hp5 tu .int [.int 0, .int 0, .int 0] := Ar5
  have Ae_5 := Ae_3.other Wr5 (own_ne (by omega))
  have Ap_5 := Ap_3.other Wr5 (own_ne (by omega))
  have Aw_5 := Aw_3.other Wr5 (own_ne (by omega))
  have Am_5 := Am_3.other Wr5 (own_ne (by omega))
  have Ea3_5 := Exa.wr Wr5 Ea3
  have PF_5 := own_PF.wr PF_3 Wr5 (own_ne (by omega))
  have Nf5 := Fr.snoc X5 Nf3 (by omega)
  have Z_5 : n0 ≤ hp5.size := by rw [Wr.size Wr5]; exact Z_3
  have K_5 := Keep.wr K_3 Wr5 (Or.inl (List.mem_of_getElem? (i := 5) rfl))
  refine own_blk dec3 seq3 hby hx hZ hown hK hF 9 [] [.ref el, .int oo, .ref el] X5 eh5 ?_
  show (Fld Z hp5 a cP "elements" "[I" (.ref el)) ∧ (own_at Z hp5 el .int (0 : Int32) (.int oo)) ∧ (Fld Z hp5 a cP "elements" "[I" (.ref el)) ∧ own_Aft X5 hp5 _ 84 [zA a, zI t, zD am, zS, zI 0, zI pp, zI 0, zI oo] [.int t, .int 0, .ref el]
  refine ⟨PF_5.1, Ae_5.at (0 : Int32) 0 rfl ho, PF_5.1, fun T6 X6 eh6 => ?_⟩
  refine own_sI X6 hx hZ eh6 Ae_5 0 rfl (by omega) (hb hby d3_84) (fun T7 hp7 X7 eh7 Wr7 Ar7 => ?_)
  have Ap_7 := Ap_5.other Wr7 (own_ne (by omega))
  have Aw_7 := Aw_5.other Wr7 (own_ne (by omega))
  have Am_7 := Am_5.other Wr7 (own_ne (by omega))
  have Ar5'_7 := Ar5'.other Wr7 (own_ne (by omega))
  have Ea3_7 := Exa.wr Wr7 Ea3_5
  have PF_7 := own_PF.wr PF_5 Wr7 (own_ne (by omega))
  have Nf7 := Fr.snoc X7 Nf5 (by omega)
  have Z_7 : n0 ≤ hp7.size := by rw [Wr.size Wr7]; exact Z_5
  have K_7 := Keep.wr K_5 Wr7 (Or.inl (List.mem_of_getElem? (i := 1) rfl))
  refine own_blk dec3 seq3 hby hx hZ hown hK hF 4 [] [.ref po] X7 eh7 ?_
  show (Fld Z hp7 a cP "position" "[I" (.ref po)) ∧ own_Aft X7 hp7 _ 92 [zA a, zI t, zD am, zS, zI 0, zI pp, zI 0, zI oo] [.int 0, .int t, .ref po]
  refine ⟨PF_7.2.1, fun T8 X8 eh8 => ?_⟩
  refine own_sI X8 hx hZ eh8 Ap_7 t.toInt.toNat (by omega) (by omega) (hb hby d3_92) (fun T9 hp9 X9 eh9 Wr9 Ar9 => ?_)
  have Ar7_9 := Ar7.other Wr9 (own_ne (by omega))
  have Aw_9 := Aw_7.other Wr9 (own_ne (by omega))
  have Am_9 := Am_7.other Wr9 (own_ne (by omega))
  have Ar5'_9 := Ar5'_7.other Wr9 (own_ne (by omega))
  have Ea3_9 := Exa.wr Wr9 Ea3_7
  have PF_9 := own_PF.wr PF_7 Wr9 (own_ne (by omega))
  have Nf9 := Fr.snoc X9 Nf7 (by omega)
  have Z_9 : n0 ≤ hp9.size := by rw [Wr.size Wr9]; exact Z_7
  have K_9 := Keep.wr K_7 Wr9 (Or.inl (List.mem_of_getElem? (i := 2) rfl))
  refine own_blk dec3 seq3 hby hx hZ hown hK hF 4 [] [.ref el] X9 eh9 ?_
  show (Fld Z hp9 a cP "elements" "[I" (.ref el)) ∧ own_Aft X9 hp9 _ 101 [zA a, zI t, zD am, zS, zI 0, zI pp, zI 0, zI oo] [.int oo, .int pp, .ref el]
  refine ⟨PF_9.1, fun T10 X10 eh10 => ?_⟩
  refine own_sI X10 hx hZ eh10 Ar7_9 pp.toInt.toNat (by omega) (by rw [List.length_set]; omega) (hb hby d3_101) (fun T11 hp11 X11 eh11 Wr11 Ar11 => ?_)
  have Ar9_11 := Ar9.other Wr11 (own_ne (by omega))
  have Aw_11 := Aw_9.other Wr11 (own_ne (by omega))
  have Am_11 := Am_9.other Wr11 (own_ne (by omega))
  have Ar5'_11 := Ar5'_9.other Wr11 (own_ne (by omega))
  have Ea3_11 := Exa.wr Wr11 Ea3_9
  have PF_11 := own_PF.wr PF_9 Wr11 (own_ne (by omega))
  have Nf11 := Fr.snoc X11 Nf9 (by omega)
  have Z_11 : n0 ≤ hp11.size := by rw [Wr.size Wr11]; exact Z_9
  have K_11 := Keep.wr K_9 Wr11 (Or.inl (List.mem_of_getElem? (i := 1) rfl))
  refine own_blk dec3 seq3 hby hx hZ hown hK hF 4 [] [.ref po] X11 eh11 ?_
  show (Fld Z hp11 a cP "position" "[I" (.ref po)) ∧ own_Aft X11 hp11 _ 110 [zA a, zI t, zD am, zS, zI 0, zI pp, zI 0, zI oo] [.int pp, .int oo, .ref po]
  refine ⟨PF_11.2.1, fun T12 X12 eh12 => ?_⟩
  refine own_sI X12 hx hZ eh12 Ar9_11 oo.toInt.toNat (by omega) (by rw [List.length_set]; omega) (hb hby d3_110) (fun T13 hp13 X13 eh13 Wr13 Ar13 => ?_)
  have Ar11_13 := Ar11.other Wr13 (own_ne (by omega))
  have Aw_13 := Aw_11.other Wr13 (own_ne (by omega))
  have Am_13 := Am_11.other Wr13 (own_ne (by omega))
  have Ar5'_13 := Ar5'_11.other Wr13 (own_ne (by omega))
  have Ea3_13 := Exa.wr Wr13 Ea3_11
  have PF_13 := own_PF.wr PF_11 Wr13 (own_ne (by omega))
  have Nf13 := Fr.snoc X13 Nf11 (by omega)
  have Z_13 : n0 ≤ hp13.size := by rw [Wr.size Wr13]; exact Z_11
  have K_13 := Keep.wr K_11 Wr13 (Or.inl (List.mem_of_getElem? (i := 2) rfl))
  refine own_blk dec3 seq3 hby hx hZ hown hK hF 7 [] [.ref ma, .int 0] X13 eh13 ?_
  show (Fld Z hp13 a cP "marked" "[I" (.ref ma)) ∧ (own_at Z hp13 ma .int (0 : Int32) (.int 0)) ∧ own_Aft X13 hp13 _ 121 [zA a, zI t, zD am, zS, zI 0, zI pp, zI 0, zI oo] [.int 1, .int 0, .ref ma]
  refine ⟨PF_13.2.2.2.2.2.1, Am_13.at (0 : Int32) 0 rfl rfl, fun T14 X14 eh14 => ?_⟩
  refine own_sI X14 hx hZ eh14 Am_13 0 rfl (by show 0 < 3; decide) (hb hby d3_121) (fun T15 hp15 X15 eh15 Wr15 Ar15 => ?_)
  have Ar15' : own_A Z hp15 ma .int [.int 1, .int 0, .int 0] := Ar15
  have Ar11_15 := Ar11_13.other Wr15 (own_ne (by omega))
  have Ar13_15 := Ar13.other Wr15 (own_ne (by omega))
  have Aw_15 := Aw_13.other Wr15 (own_ne (by omega))
  have Ar5'_15 := Ar5'_13.other Wr15 (own_ne (by omega))
  have Ea3_15 := Exa.wr Wr15 Ea3_13
  have PF_15 := own_PF.wr PF_13 Wr15 (own_ne (by omega))
  have Nf15 := Fr.snoc X15 Nf13 (by omega)
  have Z_15 : n0 ≤ hp15.size := by rw [Wr.size Wr15]; exact Z_13
  have K_15 := Keep.wr K_13 Wr15 (Or.inl (List.mem_of_getElem? (i := 3) rfl))
  refine own_blk dec3 seq3 hby hx hZ hown hK hF 4 [] [.ref we] X15 eh15 ?_
  show (Fld Z hp15 a cP "weight" "[D" (.ref we)) ∧ own_Aft X15 hp15 _ 128 [zA a, zI t, zD am, zS, zI 0, zI pp, zI 0, zI oo] [.double 0, .int t, .ref we]
  refine ⟨PF_15.2.2.2.2.2.2.1, fun T16 X16 eh16 => ?_⟩
  refine own_sD X16 hx hZ eh16 Aw_15 t.toInt.toNat (by omega) (by omega) (hb hby d3_128) (fun T17 hp17 X17 eh17 Wr17 Ar17 => ?_)
  have Ar11_17 := Ar11_15.other Wr17 (own_ne (by omega))
  have Ar13_17 := Ar13_15.other Wr17 (own_ne (by omega))
  have Ar15'_17 := Ar15'.other Wr17 (own_ne (by omega))
  have Ar5'_17 := Ar5'_15.other Wr17 (own_ne (by omega))
  have Ea3_17 := Exa.wr Wr17 Ea3_15
  have PF_17 := own_PF.wr PF_15 Wr17 (own_ne (by omega))
  have Nf17 := Fr.snoc X17 Nf15 (by omega)
  have Z_17 : n0 ≤ hp17.size := by rw [Wr.size Wr17]; exact Z_15
  have K_17 := Keep.wr K_15 Wr17 (Or.inl (List.mem_of_getElem? (i := 4) rfl))
  have hr := own_z00.add (by omega) hB (by omega)
  rw [Int.zero_add] at hr
  refine own_blk dec3 seq3 hby hx hZ hown hK hF 7 [] [.ref we, .double 0] X17 eh17 ?_
  show (Fld Z hp17 a cP "weight" "[D" (.ref we)) ∧ (own_at Z hp17 we .double t (.double 0)) ∧ (Jvm.Free.Fl.NoNaN64 (FP.dadd 0 am)) ∧ own_Aft X17 hp17 _ 138 [zA a, zI t, zD am, zS, zI 0, zI pp, zI 0, zI oo] [.double (FP.dadd 0 am), .int t, .ref we]
  refine ⟨PF_17.2.2.2.2.2.2.1, Ar17.at t t.toInt.toNat (by omega) (List.getElem?_set_self (by omega)), own_nn hr.num, fun T18 X18 eh18 => ?_⟩
  refine own_sD X18 hx hZ eh18 Ar17 t.toInt.toNat (by omega) (by rw [List.length_set]; omega) (hb hby d3_138) (fun T19 hp19 X19 eh19 Wr19 Ar19 => ?_)
  have Ar11_19 := Ar11_17.other Wr19 (own_ne (by omega))
  have Ar13_19 := Ar13_17.other Wr19 (own_ne (by omega))
  have Ar15'_19 := Ar15'_17.other Wr19 (own_ne (by omega))
  have Ar5'_19 := Ar5'_17.other Wr19 (own_ne (by omega))
  have Ea3_19 := Exa.wr Wr19 Ea3_17
  have PF_19 := own_PF.wr PF_17 Wr19 (own_ne (by omega))
  have Nf19 := Fr.snoc X19 Nf17 (by omega)
  have Z_19 : n0 ≤ hp19.size := by rw [Wr.size Wr19]; exact Z_17
  have K_19 := Keep.wr K_17 Wr19 (Or.inl (List.mem_of_getElem? (i := 4) rfl))
  exact own_retV X19 hx hlk eh19 hret (hb hby d3_139) (by decide) (by decide) (⟨rfl, Nf19, K_19, PF_19, Ar11_19, Ar13_19, Ar15'_19, Ar5'_19, _, hr, Ar19⟩)
set_option maxRecDepth 65536 in
set_option maxHeartbeats 40000000 in
theorem rm3_n1 (l : Launch) (Z : State) (a0 : Array Value) (hw : ∀ d ∈ tables_1, d.before a0 Z = true) (ws : List Jvm.Cond) (a el po bo fi en ma we tu sk ss mk ms : Addr) (t pp oo : Int32) (Le Lp Lw : List Value) (am : UInt64) (B : Int) (h0 : Heap) (n0 : Nat) (Z0 : n0 ≤ h0.size) (EX : Exa Z h0 a cP) (CH : own_CH n0 a el po bo fi en ma we tu sk ss mk ms) (PF : own_PF Z h0 a el po bo fi en ma we tu sk ss mk ms 1 1) (Ae : own_A Z h0 el .int Le) (Ap : own_A Z h0 po .int Lp) (Ab : own_A Z h0 bo .int [.int 0, .int 0, .int 0]) (Af : own_A Z h0 fi .int [.int 0, .int 0, .int 0]) (Am : own_A Z h0 ma .int [.int 1, .int 0, .int 0]) (At : own_A Z h0 tu .int [.int 0, .int 0, .int 0]) (Aw : own_A Z h0 we .double Lw) (hLe : Le.length = 3) (hLp : Lp.length = 3) (hLw : Lw.length = 3) (t0 : 0 ≤ t.toInt) (t1 : t.toInt < 3) (hp : Lp[t.toInt.toNat]? = some (.int pp)) (p0 : 1 ≤ pp.toInt) (p1 : pp.toInt < 3) (ho : Le[1]? = some (.int oo)) (o0 : 0 ≤ oo.toInt) (o1 : oo.toInt < 3) (hB : own_D 0 B am) (bB : B.natAbs < 100000) :
    own_MF l (⟨cP, "add", "(ID)V"⟩ : MethodName) prog_12_method_7_code 8 none ws ({ frames := 0, cells := 0, slots := 0, locals := 0 } : Room) #[.ref a, .int t, .double am] Z h0 (fun v h L => v = none ∧ Fr n0 L ∧ Keep h0 h [el, po, ma, we] ∧ own_PF Z h a el po bo fi en ma we tu sk ss mk ms 1 1 ∧ own_A Z h el .int ((Le.set 1 (.int t)).set pp.toInt.toNat (.int oo)) ∧ own_A Z h po .int ((Lp.set t.toInt.toNat (.int 1)).set oo.toInt.toNat (.int pp)) ∧ own_A Z h ma .int [.int 2, .int 0, .int 0] ∧ own_A Z h tu .int [.int 0, .int 0, .int 0] ∧ ∃ r, own_D 0 B r ∧ own_A Z h we .double ((Lw.set t.toInt.toNat (.double 0)).set t.toInt.toNat (.double r))) := by
  refine own_body pf3 (ls0 := [.val (.ref a), .val (.int t), .val (.double am), .second, .unset, .unset, .unset, .unset]) (fun m => by first | (simp [entryFrame, mkF, argsToLocals, Value.category, maxLocals]; done) | rfl) ?_
  intro p e s m below meth c T0 hx hby hml hown hnm hlk hret hZ X0 eh0
  have hK := hKt1 hw; have hF := hFt1 hw
  have N0 := Fr.nil n0
  obtain ⟨c0_, c1_, c2_, c3_, c4_, c5_, c6_, c7_, c8_, c9_, c10_, c11_, c12_⟩ := CH
  have l0 : (0 : Int32).toInt = 0 := rfl
  have l1 : (1 : Int32).toInt = 1 := rfl
  have l2 : (2 : Int32).toInt = 2 := rfl
  have l3 : (3 : Int32).toInt = 3 := rfl
  have nin_bo : bo ∉ [el, po, ma, we] := (own_nin (by simp only [own_out, and_true]; omega))
  have nin_fi : fi ∉ [el, po, ma, we] := (own_nin (by simp only [own_out, and_true]; omega))
  have nin_a : a ∉ [el, po, ma, we] := (own_nin (by simp only [own_out, and_true]; omega))
  have nin_tu : tu ∉ [el, po, ma, we] := (own_nin (by simp only [own_out, and_true]; omega))
  have K0 := Keep.refl h0 [el, po, ma, we]
  refine own_blk dec3 seq3 hby hx hZ hown hK hF 24 [false] [.ref bo, .int 0, .ref po, .int pp, .ref fi, .int 0, .ref ma, .int 1] X0 eh0 ?_
  show (Fld Z h0 a cP "blockOf" "[I" (.ref bo)) ∧ (own_at Z h0 bo .int t (.int 0)) ∧ (Fld Z h0 a cP "position" "[I" (.ref po)) ∧ (own_at Z h0 po .int t (.int pp)) ∧ (Fld Z h0 a cP "first" "[I" (.ref fi)) ∧ (own_at Z h0 fi .int (0 : Int32) (.int 0)) ∧ (Fld Z h0 a cP "marked" "[I" (.ref ma)) ∧ (own_at Z h0 ma .int (0 : Int32) (.int 1)) ∧ (¬ ((pp).toInt < ((1 : Int32)).toInt)) ∧ own_Aft X0 h0 _ 41 [zA a, zI t, zD am, zS, zI 0, zI pp, zI 1, zU] [.ref a]
  refine ⟨PF.2.2.1, Ab.at3 t t0 t1, PF.2.1, Ap.at t t.toInt.toNat (by omega) hp, PF.2.2.2.1, Af.at (0 : Int32) 0 rfl rfl, PF.2.2.2.2.2.1, Am.at (0 : Int32) 0 rfl rfl, by omega, fun T1 X1 eh1 => ?_⟩
  refine own_blk dec3 seq3 hby hx hZ hown hK hF 13 [true] [.ref ma, .int 1, .ref el, .int oo, .ref el] X1 eh1 ?_
  show (Fld Z h0 a cP "marked" "[I" (.ref ma)) ∧ (own_at Z h0 ma .int (0 : Int32) (.int 1)) ∧ (((1 : Int32)).toInt ≠ 0) ∧ (Fld Z h0 a cP "elements" "[I" (.ref el)) ∧ (own_at Z h0 el .int (1 : Int32) (.int oo)) ∧ (Fld Z h0 a cP "elements" "[I" (.ref el)) ∧ own_Aft X1 h0 _ 84 [zA a, zI t, zD am, zS, zI 0, zI pp, zI 1, zI oo] [.int t, .int 1, .ref el]
  refine ⟨PF.2.2.2.2.2.1, Am.at (0 : Int32) 0 rfl rfl, by decide, PF.1, Ae.at (1 : Int32) 1 rfl ho, PF.1, fun T2 X2 eh2 => ?_⟩
  refine own_sI X2 hx hZ eh2 Ae 1 rfl (by omega) (hb hby d3_84) (fun T3 hp3 X3 eh3 Wr3 Ar3 => ?_)
  have Ap_3 := Ap.other Wr3 (own_ne (by omega))
  have Aw_3 := Aw.other Wr3 (own_ne (by omega))
  have Am_3 := Am.other Wr3 (own_ne (by omega))
  have Nf3 := Fr.snoc X3 N0 (by omega)
  have Z_3 : n0 ≤ hp3.size := by rw [Wr.size Wr3]; exact Z0
  have K_3 := Keep.wr K0 Wr3 (Or.inl (List.mem_of_getElem? (i := 0) rfl))
  refine own_blk dec3 seq3 hby hx hZ hown hK hF 4 [] [.ref po] X3 eh3 ?_
  show (Fld Z hp3 a cP "position" "[I" (.ref po)) ∧ own_Aft X3 hp3 _ 92 [zA a, zI t, zD am, zS, zI 0, zI pp, zI 1, zI oo] [.int 1, .int t, .ref po]
  refine ⟨(own_PF.keep PF K_3 nin_a).2.1, fun T4 X4 eh4 => ?_⟩
  refine own_sI X4 hx hZ eh4 Ap_3 t.toInt.toNat (by omega) (by omega) (hb hby d3_92) (fun T5 hp5 X5 eh5 Wr5 Ar5 => ?_)
  have Ar3_5 := Ar3.other Wr5 (own_ne (by omega))
  have Aw_5 := Aw_3.other Wr5 (own_ne (by omega))
  have Am_5 := Am_3.other Wr5 (own_ne (by omega))
  have Nf5 := Fr.snoc X5 Nf3 (by omega)
  have Z_5 : n0 ≤ hp5.size := by rw [Wr.size Wr5]; exact Z_3
  have K_5 := Keep.wr K_3 Wr5 (Or.inl (List.mem_of_getElem? (i := 1) rfl))
  refine own_blk dec3 seq3 hby hx hZ hown hK hF 4 [] [.ref el] X5 eh5 ?_
  show (Fld Z hp5 a cP "elements" "[I" (.ref el)) ∧ own_Aft X5 hp5 _ 101 [zA a, zI t, zD am, zS, zI 0, zI pp, zI 1, zI oo] [.int oo, .int pp, .ref el]
  refine ⟨(own_PF.keep PF K_5 nin_a).1, fun T6 X6 eh6 => ?_⟩
  refine own_sI X6 hx hZ eh6 Ar3_5 pp.toInt.toNat (by omega) (by rw [List.length_set]; omega) (hb hby d3_101) (fun T7 hp7 X7 eh7 Wr7 Ar7 => ?_)
  have Ar5_7 := Ar5.other Wr7 (own_ne (by omega))
  have Aw_7 := Aw_5.other Wr7 (own_ne (by omega))
  have Am_7 := Am_5.other Wr7 (own_ne (by omega))
  have Nf7 := Fr.snoc X7 Nf5 (by omega)
  have Z_7 : n0 ≤ hp7.size := by rw [Wr.size Wr7]; exact Z_5
  have K_7 := Keep.wr K_5 Wr7 (Or.inl (List.mem_of_getElem? (i := 0) rfl))
  refine own_blk dec3 seq3 hby hx hZ hown hK hF 4 [] [.ref po] X7 eh7 ?_
  show (Fld Z hp7 a cP "position" "[I" (.ref po)) ∧ own_Aft X7 hp7 _ 110 [zA a, zI t, zD am, zS, zI 0, zI pp, zI 1, zI oo] [.int pp, .int oo, .ref po]
  refine ⟨(own_PF.keep PF K_7 nin_a).2.1, fun T8 X8 eh8 => ?_⟩
  refine own_sI X8 hx hZ eh8 Ar5_7 oo.toInt.toNat (by omega) (by rw [List.length_set]; omega) (hb hby d3_110) (fun T9 hp9 X9 eh9 Wr9 Ar9 => ?_)
  have Ar7_9 := Ar7.other Wr9 (own_ne (by omega))
  have Aw_9 := Aw_7.other Wr9 (own_ne (by omega))
  have Am_9 := Am_7.other Wr9 (own_ne (by omega))
  have Nf9 := Fr.snoc X9 Nf7 (by omega)
  have Z_9 : n0 ≤ hp9.size := by rw [Wr.size Wr9]; exact Z_7
  have K_9 := Keep.wr K_7 Wr9 (Or.inl (List.mem_of_getElem? (i := 1) rfl))
  refine own_blk dec3 seq3 hby hx hZ hown hK hF 7 [] [.ref ma, .int 1] X9 eh9 ?_
  show (Fld Z hp9 a cP "marked" "[I" (.ref ma)) ∧ (own_at Z hp9 ma .int (0 : Int32) (.int 1)) ∧ own_Aft X9 hp9 _ 121 [zA a, zI t, zD am, zS, zI 0, zI pp, zI 1, zI oo] [.int 2, .int 0, .ref ma]
  refine ⟨(own_PF.keep PF K_9 nin_a).2.2.2.2.2.1, Am_9.at (0 : Int32) 0 rfl rfl, fun T10 X10 eh10 => ?_⟩
  refine own_sI X10 hx hZ eh10 Am_9 0 rfl (by show 0 < 3; decide) (hb hby d3_121) (fun T11 hp11 X11 eh11 Wr11 Ar11 => ?_)
  have Ar11' : own_A Z hp11 ma .int [.int 2, .int 0, .int 0] := Ar11
  have Ar7_11 := Ar7_9.other Wr11 (own_ne (by omega))
  have Ar9_11 := Ar9.other Wr11 (own_ne (by omega))
  have Aw_11 := Aw_9.other Wr11 (own_ne (by omega))
  have Nf11 := Fr.snoc X11 Nf9 (by omega)
  have Z_11 : n0 ≤ hp11.size := by rw [Wr.size Wr11]; exact Z_9
  have K_11 := Keep.wr K_9 Wr11 (Or.inl (List.mem_of_getElem? (i := 2) rfl))
  refine own_blk dec3 seq3 hby hx hZ hown hK hF 4 [] [.ref we] X11 eh11 ?_
  show (Fld Z hp11 a cP "weight" "[D" (.ref we)) ∧ own_Aft X11 hp11 _ 128 [zA a, zI t, zD am, zS, zI 0, zI pp, zI 1, zI oo] [.double 0, .int t, .ref we]
  refine ⟨(own_PF.keep PF K_11 nin_a).2.2.2.2.2.2.1, fun T12 X12 eh12 => ?_⟩
  refine own_sD X12 hx hZ eh12 Aw_11 t.toInt.toNat (by omega) (by omega) (hb hby d3_128) (fun T13 hp13 X13 eh13 Wr13 Ar13 => ?_)
  have Ar7_13 := Ar7_11.other Wr13 (own_ne (by omega))
  have Ar9_13 := Ar9_11.other Wr13 (own_ne (by omega))
  have Ar11'_13 := Ar11'.other Wr13 (own_ne (by omega))
  have Nf13 := Fr.snoc X13 Nf11 (by omega)
  have Z_13 : n0 ≤ hp13.size := by rw [Wr.size Wr13]; exact Z_11
  have K_13 := Keep.wr K_11 Wr13 (Or.inl (List.mem_of_getElem? (i := 3) rfl))
  have hr := own_z00.add (by omega) hB (by omega)
  rw [Int.zero_add] at hr
  refine own_blk dec3 seq3 hby hx hZ hown hK hF 7 [] [.ref we, .double 0] X13 eh13 ?_
  show (Fld Z hp13 a cP "weight" "[D" (.ref we)) ∧ (own_at Z hp13 we .double t (.double 0)) ∧ (Jvm.Free.Fl.NoNaN64 (FP.dadd 0 am)) ∧ own_Aft X13 hp13 _ 138 [zA a, zI t, zD am, zS, zI 0, zI pp, zI 1, zI oo] [.double (FP.dadd 0 am), .int t, .ref we]
  refine ⟨(own_PF.keep PF K_13 nin_a).2.2.2.2.2.2.1, Ar13.at t t.toInt.toNat (by omega) (List.getElem?_set_self (by omega)), own_nn hr.num, fun T14 X14 eh14 => ?_⟩
  refine own_sD X14 hx hZ eh14 Ar13 t.toInt.toNat (by omega) (by rw [List.length_set]; omega) (hb hby d3_138) (fun T15 hp15 X15 eh15 Wr15 Ar15 => ?_)
  have Ar7_15 := Ar7_13.other Wr15 (own_ne (by omega))
  have Ar9_15 := Ar9_13.other Wr15 (own_ne (by omega))
  have Ar11'_15 := Ar11'_13.other Wr15 (own_ne (by omega))
  have Nf15 := Fr.snoc X15 Nf13 (by omega)
  have Z_15 : n0 ≤ hp15.size := by rw [Wr.size Wr15]; exact Z_13
  have K_15 := Keep.wr K_13 Wr15 (Or.inl (List.mem_of_getElem? (i := 3) rfl))
  exact own_retV X15 hx hlk eh15 hret (hb hby d3_139) (by decide) (by decide) (⟨rfl, Nf15, K_15, (own_PF.keep PF K_15 nin_a), Ar7_15, Ar9_15, Ar11'_15, (At.keep K_15 nin_tu), _, hr, Ar15⟩)
set_option maxRecDepth 65536 in
set_option maxHeartbeats 40000000 in
theorem rm3_n2 (l : Launch) (Z : State) (a0 : Array Value) (hw : ∀ d ∈ tables_1, d.before a0 Z = true) (ws : List Jvm.Cond) (a el po bo fi en ma we tu sk ss mk ms : Addr) (t pp oo : Int32) (Le Lp Lw : List Value) (am : UInt64) (B : Int) (h0 : Heap) (n0 : Nat) (Z0 : n0 ≤ h0.size) (EX : Exa Z h0 a cP) (CH : own_CH n0 a el po bo fi en ma we tu sk ss mk ms) (PF : own_PF Z h0 a el po bo fi en ma we tu sk ss mk ms 1 1) (Ae : own_A Z h0 el .int Le) (Ap : own_A Z h0 po .int Lp) (Ab : own_A Z h0 bo .int [.int 0, .int 0, .int 0]) (Af : own_A Z h0 fi .int [.int 0, .int 0, .int 0]) (Am : own_A Z h0 ma .int [.int 2, .int 0, .int 0]) (At : own_A Z h0 tu .int [.int 0, .int 0, .int 0]) (Aw : own_A Z h0 we .double Lw) (hLe : Le.length = 3) (hLp : Lp.length = 3) (hLw : Lw.length = 3) (t0 : 0 ≤ t.toInt) (t1 : t.toInt < 3) (hp : Lp[t.toInt.toNat]? = some (.int pp)) (p0 : 2 ≤ pp.toInt) (p1 : pp.toInt < 3) (ho : Le[2]? = some (.int oo)) (o0 : 0 ≤ oo.toInt) (o1 : oo.toInt < 3) (hB : own_D 0 B am) (bB : B.natAbs < 100000) :
    own_MF l (⟨cP, "add", "(ID)V"⟩ : MethodName) prog_12_method_7_code 8 none ws ({ frames := 0, cells := 0, slots := 0, locals := 0 } : Room) #[.ref a, .int t, .double am] Z h0 (fun v h L => v = none ∧ Fr n0 L ∧ Keep h0 h [el, po, ma, we] ∧ own_PF Z h a el po bo fi en ma we tu sk ss mk ms 1 1 ∧ own_A Z h el .int ((Le.set 2 (.int t)).set pp.toInt.toNat (.int oo)) ∧ own_A Z h po .int ((Lp.set t.toInt.toNat (.int 2)).set oo.toInt.toNat (.int pp)) ∧ own_A Z h ma .int [.int 3, .int 0, .int 0] ∧ own_A Z h tu .int [.int 0, .int 0, .int 0] ∧ ∃ r, own_D 0 B r ∧ own_A Z h we .double ((Lw.set t.toInt.toNat (.double 0)).set t.toInt.toNat (.double r))) := by
  refine own_body pf3 (ls0 := [.val (.ref a), .val (.int t), .val (.double am), .second, .unset, .unset, .unset, .unset]) (fun m => by first | (simp [entryFrame, mkF, argsToLocals, Value.category, maxLocals]; done) | rfl) ?_
  intro p e s m below meth c T0 hx hby hml hown hnm hlk hret hZ X0 eh0
  have hK := hKt1 hw; have hF := hFt1 hw
  have N0 := Fr.nil n0
  obtain ⟨c0_, c1_, c2_, c3_, c4_, c5_, c6_, c7_, c8_, c9_, c10_, c11_, c12_⟩ := CH
  have l0 : (0 : Int32).toInt = 0 := rfl
  have l1 : (1 : Int32).toInt = 1 := rfl
  have l2 : (2 : Int32).toInt = 2 := rfl
  have l3 : (3 : Int32).toInt = 3 := rfl
  have nin_bo : bo ∉ [el, po, ma, we] := (own_nin (by simp only [own_out, and_true]; omega))
  have nin_fi : fi ∉ [el, po, ma, we] := (own_nin (by simp only [own_out, and_true]; omega))
  have nin_a : a ∉ [el, po, ma, we] := (own_nin (by simp only [own_out, and_true]; omega))
  have nin_tu : tu ∉ [el, po, ma, we] := (own_nin (by simp only [own_out, and_true]; omega))
  have K0 := Keep.refl h0 [el, po, ma, we]
  refine own_blk dec3 seq3 hby hx hZ hown hK hF 24 [false] [.ref bo, .int 0, .ref po, .int pp, .ref fi, .int 0, .ref ma, .int 2] X0 eh0 ?_
  show (Fld Z h0 a cP "blockOf" "[I" (.ref bo)) ∧ (own_at Z h0 bo .int t (.int 0)) ∧ (Fld Z h0 a cP "position" "[I" (.ref po)) ∧ (own_at Z h0 po .int t (.int pp)) ∧ (Fld Z h0 a cP "first" "[I" (.ref fi)) ∧ (own_at Z h0 fi .int (0 : Int32) (.int 0)) ∧ (Fld Z h0 a cP "marked" "[I" (.ref ma)) ∧ (own_at Z h0 ma .int (0 : Int32) (.int 2)) ∧ (¬ ((pp).toInt < ((2 : Int32)).toInt)) ∧ own_Aft X0 h0 _ 41 [zA a, zI t, zD am, zS, zI 0, zI pp, zI 2, zU] [.ref a]
  refine ⟨PF.2.2.1, Ab.at3 t t0 t1, PF.2.1, Ap.at t t.toInt.toNat (by omega) hp, PF.2.2.2.1, Af.at (0 : Int32) 0 rfl rfl, PF.2.2.2.2.2.1, Am.at (0 : Int32) 0 rfl rfl, by omega, fun T1 X1 eh1 => ?_⟩
  refine own_blk dec3 seq3 hby hx hZ hown hK hF 13 [true] [.ref ma, .int 2, .ref el, .int oo, .ref el] X1 eh1 ?_
  show (Fld Z h0 a cP "marked" "[I" (.ref ma)) ∧ (own_at Z h0 ma .int (0 : Int32) (.int 2)) ∧ (((2 : Int32)).toInt ≠ 0) ∧ (Fld Z h0 a cP "elements" "[I" (.ref el)) ∧ (own_at Z h0 el .int (2 : Int32) (.int oo)) ∧ (Fld Z h0 a cP "elements" "[I" (.ref el)) ∧ own_Aft X1 h0 _ 84 [zA a, zI t, zD am, zS, zI 0, zI pp, zI 2, zI oo] [.int t, .int 2, .ref el]
  refine ⟨PF.2.2.2.2.2.1, Am.at (0 : Int32) 0 rfl rfl, by decide, PF.1, Ae.at (2 : Int32) 2 rfl ho, PF.1, fun T2 X2 eh2 => ?_⟩
  refine own_sI X2 hx hZ eh2 Ae 2 rfl (by omega) (hb hby d3_84) (fun T3 hp3 X3 eh3 Wr3 Ar3 => ?_)
  have Ap_3 := Ap.other Wr3 (own_ne (by omega))
  have Aw_3 := Aw.other Wr3 (own_ne (by omega))
  have Am_3 := Am.other Wr3 (own_ne (by omega))
  have Nf3 := Fr.snoc X3 N0 (by omega)
  have Z_3 : n0 ≤ hp3.size := by rw [Wr.size Wr3]; exact Z0
  have K_3 := Keep.wr K0 Wr3 (Or.inl (List.mem_of_getElem? (i := 0) rfl))
  refine own_blk dec3 seq3 hby hx hZ hown hK hF 4 [] [.ref po] X3 eh3 ?_
  show (Fld Z hp3 a cP "position" "[I" (.ref po)) ∧ own_Aft X3 hp3 _ 92 [zA a, zI t, zD am, zS, zI 0, zI pp, zI 2, zI oo] [.int 2, .int t, .ref po]
  refine ⟨(own_PF.keep PF K_3 nin_a).2.1, fun T4 X4 eh4 => ?_⟩
  refine own_sI X4 hx hZ eh4 Ap_3 t.toInt.toNat (by omega) (by omega) (hb hby d3_92) (fun T5 hp5 X5 eh5 Wr5 Ar5 => ?_)
  have Ar3_5 := Ar3.other Wr5 (own_ne (by omega))
  have Aw_5 := Aw_3.other Wr5 (own_ne (by omega))
  have Am_5 := Am_3.other Wr5 (own_ne (by omega))
  have Nf5 := Fr.snoc X5 Nf3 (by omega)
  have Z_5 : n0 ≤ hp5.size := by rw [Wr.size Wr5]; exact Z_3
  have K_5 := Keep.wr K_3 Wr5 (Or.inl (List.mem_of_getElem? (i := 1) rfl))
  refine own_blk dec3 seq3 hby hx hZ hown hK hF 4 [] [.ref el] X5 eh5 ?_
  show (Fld Z hp5 a cP "elements" "[I" (.ref el)) ∧ own_Aft X5 hp5 _ 101 [zA a, zI t, zD am, zS, zI 0, zI pp, zI 2, zI oo] [.int oo, .int pp, .ref el]
  refine ⟨(own_PF.keep PF K_5 nin_a).1, fun T6 X6 eh6 => ?_⟩
  refine own_sI X6 hx hZ eh6 Ar3_5 pp.toInt.toNat (by omega) (by rw [List.length_set]; omega) (hb hby d3_101) (fun T7 hp7 X7 eh7 Wr7 Ar7 => ?_)
  have Ar5_7 := Ar5.other Wr7 (own_ne (by omega))
  have Aw_7 := Aw_5.other Wr7 (own_ne (by omega))
  have Am_7 := Am_5.other Wr7 (own_ne (by omega))
  have Nf7 := Fr.snoc X7 Nf5 (by omega)
  have Z_7 : n0 ≤ hp7.size := by rw [Wr.size Wr7]; exact Z_5
  have K_7 := Keep.wr K_5 Wr7 (Or.inl (List.mem_of_getElem? (i := 0) rfl))
  refine own_blk dec3 seq3 hby hx hZ hown hK hF 4 [] [.ref po] X7 eh7 ?_
  show (Fld Z hp7 a cP "position" "[I" (.ref po)) ∧ own_Aft X7 hp7 _ 110 [zA a, zI t, zD am, zS, zI 0, zI pp, zI 2, zI oo] [.int pp, .int oo, .ref po]
  refine ⟨(own_PF.keep PF K_7 nin_a).2.1, fun T8 X8 eh8 => ?_⟩
  refine own_sI X8 hx hZ eh8 Ar5_7 oo.toInt.toNat (by omega) (by rw [List.length_set]; omega) (hb hby d3_110) (fun T9 hp9 X9 eh9 Wr9 Ar9 => ?_)
  have Ar7_9 := Ar7.other Wr9 (own_ne (by omega))
  have Aw_9 := Aw_7.other Wr9 (own_ne (by omega))
  have Am_9 := Am_7.other Wr9 (own_ne (by omega))
  have Nf9 := Fr.snoc X9 Nf7 (by omega)
  have Z_9 : n0 ≤ hp9.size := by rw [Wr.size Wr9]; exact Z_7
  have K_9 := Keep.wr K_7 Wr9 (Or.inl (List.mem_of_getElem? (i := 1) rfl))
  refine own_blk dec3 seq3 hby hx hZ hown hK hF 7 [] [.ref ma, .int 2] X9 eh9 ?_
  show (Fld Z hp9 a cP "marked" "[I" (.ref ma)) ∧ (own_at Z hp9 ma .int (0 : Int32) (.int 2)) ∧ own_Aft X9 hp9 _ 121 [zA a, zI t, zD am, zS, zI 0, zI pp, zI 2, zI oo] [.int 3, .int 0, .ref ma]
  refine ⟨(own_PF.keep PF K_9 nin_a).2.2.2.2.2.1, Am_9.at (0 : Int32) 0 rfl rfl, fun T10 X10 eh10 => ?_⟩
  refine own_sI X10 hx hZ eh10 Am_9 0 rfl (by show 0 < 3; decide) (hb hby d3_121) (fun T11 hp11 X11 eh11 Wr11 Ar11 => ?_)
  have Ar11' : own_A Z hp11 ma .int [.int 3, .int 0, .int 0] := Ar11
  have Ar7_11 := Ar7_9.other Wr11 (own_ne (by omega))
  have Ar9_11 := Ar9.other Wr11 (own_ne (by omega))
  have Aw_11 := Aw_9.other Wr11 (own_ne (by omega))
  have Nf11 := Fr.snoc X11 Nf9 (by omega)
  have Z_11 : n0 ≤ hp11.size := by rw [Wr.size Wr11]; exact Z_9
  have K_11 := Keep.wr K_9 Wr11 (Or.inl (List.mem_of_getElem? (i := 2) rfl))
  refine own_blk dec3 seq3 hby hx hZ hown hK hF 4 [] [.ref we] X11 eh11 ?_
  show (Fld Z hp11 a cP "weight" "[D" (.ref we)) ∧ own_Aft X11 hp11 _ 128 [zA a, zI t, zD am, zS, zI 0, zI pp, zI 2, zI oo] [.double 0, .int t, .ref we]
  refine ⟨(own_PF.keep PF K_11 nin_a).2.2.2.2.2.2.1, fun T12 X12 eh12 => ?_⟩
  refine own_sD X12 hx hZ eh12 Aw_11 t.toInt.toNat (by omega) (by omega) (hb hby d3_128) (fun T13 hp13 X13 eh13 Wr13 Ar13 => ?_)
  have Ar7_13 := Ar7_11.other Wr13 (own_ne (by omega))
  have Ar9_13 := Ar9_11.other Wr13 (own_ne (by omega))
  have Ar11'_13 := Ar11'.other Wr13 (own_ne (by omega))
  have Nf13 := Fr.snoc X13 Nf11 (by omega)
  have Z_13 : n0 ≤ hp13.size := by rw [Wr.size Wr13]; exact Z_11
  have K_13 := Keep.wr K_11 Wr13 (Or.inl (List.mem_of_getElem? (i := 3) rfl))
  have hr := own_z00.add (by omega) hB (by omega)
  rw [Int.zero_add] at hr
  refine own_blk dec3 seq3 hby hx hZ hown hK hF 7 [] [.ref we, .double 0] X13 eh13 ?_
  show (Fld Z hp13 a cP "weight" "[D" (.ref we)) ∧ (own_at Z hp13 we .double t (.double 0)) ∧ (Jvm.Free.Fl.NoNaN64 (FP.dadd 0 am)) ∧ own_Aft X13 hp13 _ 138 [zA a, zI t, zD am, zS, zI 0, zI pp, zI 2, zI oo] [.double (FP.dadd 0 am), .int t, .ref we]
  refine ⟨(own_PF.keep PF K_13 nin_a).2.2.2.2.2.2.1, Ar13.at t t.toInt.toNat (by omega) (List.getElem?_set_self (by omega)), own_nn hr.num, fun T14 X14 eh14 => ?_⟩
  refine own_sD X14 hx hZ eh14 Ar13 t.toInt.toNat (by omega) (by rw [List.length_set]; omega) (hb hby d3_138) (fun T15 hp15 X15 eh15 Wr15 Ar15 => ?_)
  have Ar7_15 := Ar7_13.other Wr15 (own_ne (by omega))
  have Ar9_15 := Ar9_13.other Wr15 (own_ne (by omega))
  have Ar11'_15 := Ar11'_13.other Wr15 (own_ne (by omega))
  have Nf15 := Fr.snoc X15 Nf13 (by omega)
  have Z_15 : n0 ≤ hp15.size := by rw [Wr.size Wr15]; exact Z_13
  have K_15 := Keep.wr K_13 Wr15 (Or.inl (List.mem_of_getElem? (i := 3) rfl))
  exact own_retV X15 hx hlk eh15 hret (hb hby d3_139) (by decide) (by decide) (⟨rfl, Nf15, K_15, (own_PF.keep PF K_15 nin_a), Ar7_15, Ar9_15, Ar11'_15, (At.keep K_15 nin_tu), _, hr, Ar15⟩)
set_option maxRecDepth 65536 in
set_option maxHeartbeats 40000000 in
theorem rm3_o1 (l : Launch) (Z : State) (a0 : Array Value) (hw : ∀ d ∈ tables_1, d.before a0 Z = true) (ws : List Jvm.Cond) (a el po bo fi en ma we tu sk ss mk ms : Addr) (t pp : Int32) (Lp Lw : List Value) (am xw : UInt64) (B C : Int) (h0 : Heap) (n0 : Nat) (Z0 : n0 ≤ h0.size) (EX : Exa Z h0 a cP) (CH : own_CH n0 a el po bo fi en ma we tu sk ss mk ms) (PF : own_PF Z h0 a el po bo fi en ma we tu sk ss mk ms 1 1) (Ap : own_A Z h0 po .int Lp) (Ab : own_A Z h0 bo .int [.int 0, .int 0, .int 0]) (Af : own_A Z h0 fi .int [.int 0, .int 0, .int 0]) (Am : own_A Z h0 ma .int [.int 1, .int 0, .int 0]) (Aw : own_A Z h0 we .double Lw) (hLw : Lw.length = 3) (t0 : 0 ≤ t.toInt) (t1 : t.toInt < 3) (hp : Lp[t.toInt.toNat]? = some (.int pp)) (p1 : pp.toInt < 1) (hw_ : Lw[t.toInt.toNat]? = some (.double xw)) (hC : own_D 0 C xw) (bC : C.natAbs < 100000) (hB : own_D 0 B am) (bB : B.natAbs < 100000) :
    own_MF l (⟨cP, "add", "(ID)V"⟩ : MethodName) prog_12_method_7_code 8 none ws ({ frames := 0, cells := 0, slots := 0, locals := 0 } : Room) #[.ref a, .int t, .double am] Z h0 (fun v h L => v = none ∧ Fr n0 L ∧ Keep h0 h [we] ∧ ∃ r, own_D 0 (C + B) r ∧ own_A Z h we .double (Lw.set t.toInt.toNat (.double r))) := by
  refine own_body pf3 (ls0 := [.val (.ref a), .val (.int t), .val (.double am), .second, .unset, .unset, .unset, .unset]) (fun m => by first | (simp [entryFrame, mkF, argsToLocals, Value.category, maxLocals]; done) | rfl) ?_
  intro p e s m below meth c T0 hx hby hml hown hnm hlk hret hZ X0 eh0
  have hK := hKt1 hw; have hF := hFt1 hw
  have N0 := Fr.nil n0
  obtain ⟨c0_, c1_, c2_, c3_, c4_, c5_, c6_, c7_, c8_, c9_, c10_, c11_, c12_⟩ := CH
  have l0 : (0 : Int32).toInt = 0 := rfl
  have l1 : (1 : Int32).toInt = 1 := rfl
  have l2 : (2 : Int32).toInt = 2 := rfl
  have l3 : (3 : Int32).toInt = 3 := rfl
  have nin_a : a ∉ [we] := (own_nin (by simp only [own_out, and_true]; omega))
  have nin_po : po ∉ [we] := (own_nin (by simp only [own_out, and_true]; omega))
  have nin_bo : bo ∉ [we] := (own_nin (by simp only [own_out, and_true]; omega))
  have nin_fi : fi ∉ [we] := (own_nin (by simp only [own_out, and_true]; omega))
  have nin_ma : ma ∉ [we] := (own_nin (by simp only [own_out, and_true]; omega))
  have K0 := Keep.refl h0 [we]
  have hr := hC.add (by omega) hB (by omega)
  refine own_blk dec3 seq3 hby hx hZ hown hK hF 24 [true] [.ref bo, .int 0, .ref po, .int pp, .ref fi, .int 0, .ref ma, .int 1] X0 eh0 ?_
  show (Fld Z h0 a cP "blockOf" "[I" (.ref bo)) ∧ (own_at Z h0 bo .int t (.int 0)) ∧ (Fld Z h0 a cP "position" "[I" (.ref po)) ∧ (own_at Z h0 po .int t (.int pp)) ∧ (Fld Z h0 a cP "first" "[I" (.ref fi)) ∧ (own_at Z h0 fi .int (0 : Int32) (.int 0)) ∧ (Fld Z h0 a cP "marked" "[I" (.ref ma)) ∧ (own_at Z h0 ma .int (0 : Int32) (.int 1)) ∧ ((pp).toInt < ((1 : Int32)).toInt) ∧ own_Aft X0 h0 _ 130 [zA a, zI t, zD am, zS, zI 0, zI pp, zI 1, zU] [.ref a]
  refine ⟨PF.2.2.1, Ab.at3 t t0 t1, PF.2.1, Ap.at t t.toInt.toNat (by omega) hp, PF.2.2.2.1, Af.at (0 : Int32) 0 rfl rfl, PF.2.2.2.2.2.1, Am.at (0 : Int32) 0 rfl rfl, by omega, fun T1 X1 eh1 => ?_⟩
  refine own_blk dec3 seq3 hby hx hZ hown hK hF 6 [] [.ref we, .double xw] X1 eh1 ?_
  show (Fld Z h0 a cP "weight" "[D" (.ref we)) ∧ (own_at Z h0 we .double t (.double xw)) ∧ (Jvm.Free.Fl.NoNaN64 (FP.dadd xw am)) ∧ own_Aft X1 h0 _ 138 [zA a, zI t, zD am, zS, zI 0, zI pp, zI 1, zU] [.double (FP.dadd xw am), .int t, .ref we]
  refine ⟨PF.2.2.2.2.2.2.1, Aw.at t t.toInt.toNat (by omega) hw_, own_nn hr.num, fun T2 X2 eh2 => ?_⟩
  refine own_sD X2 hx hZ eh2 Aw t.toInt.toNat (by omega) (by omega) (hb hby d3_138) (fun T3 hp3 X3 eh3 Wr3 Ar3 => ?_)
  have Nf3 := Fr.snoc X3 N0 (by omega)
  have Z_3 : n0 ≤ hp3.size := by rw [Wr.size Wr3]; exact Z0
  have K_3 := Keep.wr K0 Wr3 (Or.inl (List.mem_of_getElem? (i := 0) rfl))
  exact own_retV X3 hx hlk eh3 hret (hb hby d3_139) (by decide) (by decide) (⟨rfl, Nf3, K_3, _, hr, Ar3⟩)
set_option maxRecDepth 65536 in
set_option maxHeartbeats 40000000 in
theorem rm3_o2 (l : Launch) (Z : State) (a0 : Array Value) (hw : ∀ d ∈ tables_1, d.before a0 Z = true) (ws : List Jvm.Cond) (a el po bo fi en ma we tu sk ss mk ms : Addr) (t pp : Int32) (Lp Lw : List Value) (am xw : UInt64) (B C : Int) (h0 : Heap) (n0 : Nat) (Z0 : n0 ≤ h0.size) (EX : Exa Z h0 a cP) (CH : own_CH n0 a el po bo fi en ma we tu sk ss mk ms) (PF : own_PF Z h0 a el po bo fi en ma we tu sk ss mk ms 1 1) (Ap : own_A Z h0 po .int Lp) (Ab : own_A Z h0 bo .int [.int 0, .int 0, .int 0]) (Af : own_A Z h0 fi .int [.int 0, .int 0, .int 0]) (Am : own_A Z h0 ma .int [.int 2, .int 0, .int 0]) (Aw : own_A Z h0 we .double Lw) (hLw : Lw.length = 3) (t0 : 0 ≤ t.toInt) (t1 : t.toInt < 3) (hp : Lp[t.toInt.toNat]? = some (.int pp)) (p1 : pp.toInt < 2) (hw_ : Lw[t.toInt.toNat]? = some (.double xw)) (hC : own_D 0 C xw) (bC : C.natAbs < 100000) (hB : own_D 0 B am) (bB : B.natAbs < 100000) :
    own_MF l (⟨cP, "add", "(ID)V"⟩ : MethodName) prog_12_method_7_code 8 none ws ({ frames := 0, cells := 0, slots := 0, locals := 0 } : Room) #[.ref a, .int t, .double am] Z h0 (fun v h L => v = none ∧ Fr n0 L ∧ Keep h0 h [we] ∧ ∃ r, own_D 0 (C + B) r ∧ own_A Z h we .double (Lw.set t.toInt.toNat (.double r))) := by
  refine own_body pf3 (ls0 := [.val (.ref a), .val (.int t), .val (.double am), .second, .unset, .unset, .unset, .unset]) (fun m => by first | (simp [entryFrame, mkF, argsToLocals, Value.category, maxLocals]; done) | rfl) ?_
  intro p e s m below meth c T0 hx hby hml hown hnm hlk hret hZ X0 eh0
  have hK := hKt1 hw; have hF := hFt1 hw
  have N0 := Fr.nil n0
  obtain ⟨c0_, c1_, c2_, c3_, c4_, c5_, c6_, c7_, c8_, c9_, c10_, c11_, c12_⟩ := CH
  have l0 : (0 : Int32).toInt = 0 := rfl
  have l1 : (1 : Int32).toInt = 1 := rfl
  have l2 : (2 : Int32).toInt = 2 := rfl
  have l3 : (3 : Int32).toInt = 3 := rfl
  have nin_a : a ∉ [we] := (own_nin (by simp only [own_out, and_true]; omega))
  have nin_po : po ∉ [we] := (own_nin (by simp only [own_out, and_true]; omega))
  have nin_bo : bo ∉ [we] := (own_nin (by simp only [own_out, and_true]; omega))
  have nin_fi : fi ∉ [we] := (own_nin (by simp only [own_out, and_true]; omega))
  have nin_ma : ma ∉ [we] := (own_nin (by simp only [own_out, and_true]; omega))
  have K0 := Keep.refl h0 [we]
  have hr := hC.add (by omega) hB (by omega)
  refine own_blk dec3 seq3 hby hx hZ hown hK hF 24 [true] [.ref bo, .int 0, .ref po, .int pp, .ref fi, .int 0, .ref ma, .int 2] X0 eh0 ?_
  show (Fld Z h0 a cP "blockOf" "[I" (.ref bo)) ∧ (own_at Z h0 bo .int t (.int 0)) ∧ (Fld Z h0 a cP "position" "[I" (.ref po)) ∧ (own_at Z h0 po .int t (.int pp)) ∧ (Fld Z h0 a cP "first" "[I" (.ref fi)) ∧ (own_at Z h0 fi .int (0 : Int32) (.int 0)) ∧ (Fld Z h0 a cP "marked" "[I" (.ref ma)) ∧ (own_at Z h0 ma .int (0 : Int32) (.int 2)) ∧ ((pp).toInt < ((2 : Int32)).toInt) ∧ own_Aft X0 h0 _ 130 [zA a, zI t, zD am, zS, zI 0, zI pp, zI 2, zU] [.ref a]
  refine ⟨PF.2.2.1, Ab.at3 t t0 t1, PF.2.1, Ap.at t t.toInt.toNat (by omega) hp, PF.2.2.2.1, Af.at (0 : Int32) 0 rfl rfl, PF.2.2.2.2.2.1, Am.at (0 : Int32) 0 rfl rfl, by omega, fun T1 X1 eh1 => ?_⟩
  refine own_blk dec3 seq3 hby hx hZ hown hK hF 6 [] [.ref we, .double xw] X1 eh1 ?_
  show (Fld Z h0 a cP "weight" "[D" (.ref we)) ∧ (own_at Z h0 we .double t (.double xw)) ∧ (Jvm.Free.Fl.NoNaN64 (FP.dadd xw am)) ∧ own_Aft X1 h0 _ 138 [zA a, zI t, zD am, zS, zI 0, zI pp, zI 2, zU] [.double (FP.dadd xw am), .int t, .ref we]
  refine ⟨PF.2.2.2.2.2.2.1, Aw.at t t.toInt.toNat (by omega) hw_, own_nn hr.num, fun T2 X2 eh2 => ?_⟩
  refine own_sD X2 hx hZ eh2 Aw t.toInt.toNat (by omega) (by omega) (hb hby d3_138) (fun T3 hp3 X3 eh3 Wr3 Ar3 => ?_)
  have Nf3 := Fr.snoc X3 N0 (by omega)
  have Z_3 : n0 ≤ hp3.size := by rw [Wr.size Wr3]; exact Z0
  have K_3 := Keep.wr K0 Wr3 (Or.inl (List.mem_of_getElem? (i := 0) rfl))
  exact own_retV X3 hx hlk eh3 hret (hb hby d3_139) (by decide) (by decide) (⟨rfl, Nf3, K_3, _, hr, Ar3⟩)
set_option maxRecDepth 65536 in
set_option maxHeartbeats 40000000 in
theorem rm4 (l : Launch) (Z : State) (a0 : Array Value) (hw : ∀ d ∈ tables_1, d.before a0 Z = true) (ws : List Jvm.Cond) (a el po bo fi en ma we tu sk ss mk ms : Addr) (mb : Addr) (e0 e1 e2 nb tc : Int32) (h0 : Heap) (n0 : Nat) (Z0 : n0 ≤ h0.size) (EX : Exa Z h0 a cP) (PF : own_PF Z h0 a el po bo fi en ma we tu sk ss mk ms nb tc) (nmb : n0 ≤ mb) (Ae : own_A Z h0 el .int [.int e0, .int e1, .int e2]) (Af : own_A Z h0 fi .int [.int 0, .int 0, .int 0]) (An : own_A Z h0 en .int [.int 3, .int 0, .int 0]) (Amb : own_A Z h0 mb .int [.int 0, .int 0, .int 0]) :
    own_MF l (⟨cP, "copyMembers", "(I[I)I"⟩ : MethodName) prog_12_method_6_code 4 (some .int) ws ({ frames := 1, cells := 0, slots := 0, locals := 24 } : Room) #[.ref a, .int 0, .ref mb] Z h0 (fun v h L => v = some (.int 3) ∧ Fr n0 L ∧ Keep h0 h [mb] ∧ own_A Z h mb .int [.int e0, .int e1, .int e2]) := by
  refine own_body pf4 (ls0 := [.val (.ref a), .val (.int 0), .val (.ref mb), .unset]) (fun m => by first | (simp [entryFrame, mkF, argsToLocals, Value.category, maxLocals]; done) | rfl) ?_
  intro p e s m below meth c T0 hx hby hml hown hnm hlk hret hZ X0 eh0
  have hK := hKt1 hw; have hF := hFt1 hw
  have N0 := Fr.nil n0
  have l0 : (0 : Int32).toInt = 0 := rfl
  have l1 : (1 : Int32).toInt = 1 := rfl
  have l2 : (2 : Int32).toInt = 2 := rfl
  have l3 : (3 : Int32).toInt = 3 := rfl
  refine own_blk dec4 seq4 hby hx hZ hown hK hF 19 [] [.ref en, .int 3, .ref fi, .int 0, .ref el, .ref fi, .int 0] X0 eh0 ?_
  show (Fld Z h0 a cP "end" "[I" (.ref en)) ∧ (own_at Z h0 en .int (0 : Int32) (.int 3)) ∧ (Fld Z h0 a cP "first" "[I" (.ref fi)) ∧ (own_at Z h0 fi .int (0 : Int32) (.int 0)) ∧ (Fld Z h0 a cP "elements" "[I" (.ref el)) ∧ (Fld Z h0 a cP "first" "[I" (.ref fi)) ∧ (own_at Z h0 fi .int (0 : Int32) (.int 0)) ∧ own_Aft X0 h0 _ 27 [zA a, zI 0, zA mb, zI 3] [.int 3, .int 0, .ref mb, .int 0, .ref el]
  refine ⟨PF.2.2.2.2.1, An.at (0 : Int32) 0 rfl rfl, PF.2.2.2.1, Af.at (0 : Int32) 0 rfl rfl, PF.1, PF.2.2.2.1, Af.at (0 : Int32) 0 rfl rfl, fun T1 X1 eh1 => ?_⟩
  refine own_cpI X1 hx hZ hown (hw _ (wm 50 rfl)) (hw _ (wm 53 rfl)) (hw _ (wm 51 rfl)) (hw _ (wm 52 rfl)) eh1 Ae Amb (by intro v hv; simp only [List.mem_cons, List.not_mem_nil, or_false] at hv; rcases hv with rfl | rfl | rfl <;> rfl) 3 rfl (Nat.le_refl 3) (Nat.le_refl 3) (by rw [hml]; rfl) 0 (Nat.le_of_eq rfl) (hb hby d4_27) (by decide) (by decide) (fun T2 hp2 X2 eh2 KK AA => ?_)
  show own_Go p.tables e below _ (T2.setTop (mkF m 30 (Array.mk [zA a, zI 0, zA mb, zI 3]) []))
  refine own_blk dec4 seq4 hby hx hZ hown hK hF 1 [] [] X2 eh2 ?_
  show own_Aft X2 hp2 _ 31 [zA a, zI 0, zA mb, zI 3] [.int 3]
  refine fun T3 X3 eh3 => ?_
  exact own_ret X3 hx hlk eh3 hret (by first | rfl | decide) (Or.inl ⟨rfl, by simp, _, rfl⟩) (hb hby d4_31) (by decide) (by decide) (⟨rfl, fun y hy => by rw [copyLocs_base (by simpa using hy)]; exact nmb, KK, AA⟩)
set_option maxRecDepth 65536 in
set_option maxHeartbeats 40000000 in
theorem rm15 (l : Launch) (Z : State) (a0 : Array Value) (hw : ∀ d ∈ tables_1, d.before a0 Z = true) (ws : List Jvm.Cond) (xa xb : UInt64) (C D : Int) (h0 : Heap) (n0 : Nat) (Z0 : n0 ≤ h0.size) (hC : own_D 0 C xa) (hD : own_D 0 D xb) (bC : -3000 ≤ C ∧ C ≤ 3000) (bD : -3000 ≤ D ∧ D ≤ 3000) :
    own_MF l (⟨cP, "equal", "(DD)Z"⟩ : MethodName) prog_12_method_2_code 4 (some .boolean) ws ({ frames := 1, cells := 0, slots := 0, locals := 24 } : Room) #[.double xa, .double xb] Z h0 (fun v h L => (∃ r : Int32, v = some (.int r) ∧ ((r = 1 ∧ C = D) ∨ (r = 0 ∧ C ≠ D))) ∧ L = [] ∧ h = h0) := by
  refine own_body pf15 (ls0 := [.val (.double xa), .second, .val (.double xb), .second]) (fun m => by first | (simp [entryFrame, mkF, argsToLocals, Value.category, maxLocals]; done) | rfl) ?_
  intro p e s m below meth c T0 hx hby hml hown hnm hlk hret hZ X0 eh0
  have hK := hKt1 hw; have hF := hFt1 hw
  have N0 := Fr.nil n0
  have hs := hC.sub (by omega) hD (by omega)
  refine own_blk dec15 seq15 hby hx hZ hown hK hF 3 [] [] X0 eh0 ?_
  show (Jvm.Free.Fl.NoNaN64 (FP.dsub xa xb)) ∧ own_Aft X0 h0 _ 3 [zD xa, zS, zD xb, zS] [.double (FP.dsub xa xb)]
  refine ⟨own_nn hs.num, fun T1 X1 eh1 => ?_⟩
  refine own_absD X1 hx hZ hown (by decide +kernel) (hw _ (wm 75 rfl)) (hw _ (wm 76 rfl)) (hw _ (wm 69 rfl)) (hw _ (wm 77 rfl)) eh1 (own_nn hs.num) (by rw [hml]; rfl) 0 (Nat.le_of_eq rfl) (hb hby d15_3) (by decide) (by decide) (by decide) (by decide) (fun T2 X2 eh2 => ?_)
  obtain ⟨K1, Q1, Q10, Q11⟩ := own_Dabs hs
  generalize (FP.dsub xa xb) &&& 0x7fffffffffffffff = d1 at Q1 ⊢
  show own_Go p.tables e below _ (T2.setTop (mkF m 6 (Array.mk [zD xa, zS, zD xb, zS]) [.double d1]))
  refine own_blk dec15 seq15 hby hx hZ hown hK hF 2 [] [] X2 eh2 ?_
  show own_Aft X2 h0 _ 10 [zD xa, zS, zD xb, zS] [.double xa, .double 4457293557087583675, .double d1]
  refine fun T3 X3 eh3 => ?_
  refine own_absD X3 hx hZ hown (by decide +kernel) (hw _ (wm 75 rfl)) (hw _ (wm 76 rfl)) (hw _ (wm 69 rfl)) (hw _ (wm 77 rfl)) eh3 (own_nn hC.num) (by rw [hml]; rfl) 4 (Nat.le_of_eq rfl) (hb hby d15_10) (by decide) (by decide) (by decide) (by decide) (fun T4 X4 eh4 => ?_)
  obtain ⟨K2, Q2, Q20, Q21⟩ := own_Dabs hC
  generalize xa &&& 0x7fffffffffffffff = d2 at Q2 ⊢
  show own_Go p.tables e below _ (T4.setTop (mkF m 13 (Array.mk [zD xa, zS, zD xb, zS]) [.double d2, .double 4457293557087583675, .double d1]))
  refine own_blk dec15 seq15 hby hx hZ hown hK hF 1 [] [] X4 eh4 ?_
  show own_Aft X4 h0 _ 14 [zD xa, zS, zD xb, zS] [.double xb, .double d2, .double 4457293557087583675, .double d1]
  refine fun T5 X5 eh5 => ?_
  refine own_absD X5 hx hZ hown (by decide +kernel) (hw _ (wm 75 rfl)) (hw _ (wm 76 rfl)) (hw _ (wm 69 rfl)) (hw _ (wm 77 rfl)) eh5 (own_nn hD.num) (by rw [hml]; rfl) 6 (Nat.le_of_eq rfl) (hb hby d15_14) (by decide) (by decide) (by decide) (by decide) (fun T6 X6 eh6 => ?_)
  obtain ⟨K3, Q3, Q30, Q31⟩ := own_Dabs hD
  generalize xb &&& 0x7fffffffffffffff = d3 at Q3 ⊢
  show own_Go p.tables e below _ (T6.setTop (mkF m 17 (Array.mk [zD xa, zS, zD xb, zS]) [.double d3, .double d2, .double 4457293557087583675, .double d1]))
  refine own_maxDD X6 hx hZ hown (by decide +kernel) (hw _ (wm 71 rfl)) (hw _ (wm 72 rfl)) (hw _ (wm 69 rfl)) (hw _ (wm 73 rfl)) eh6 (own_nn Q2.num) (own_nn Q3.num) (by rw [hml]; rfl) 4 (Nat.le_of_eq rfl) (hb hby d15_17) (by decide) (by decide) (by decide) (by decide) (fun T7 X7 eh7 => ?_)
  have Q4 := own_pickM Q2.num Q3.num
  generalize Native.java_lang_Math.nans.pick64 true d2 d3 = d4 at Q4 ⊢
  show own_Go p.tables e below _ (T7.setTop (mkF m 20 (Array.mk [zD xa, zS, zD xb, zS]) [.double d4, .double 4457293557087583675, .double d1]))
  obtain ⟨K4, R4, u1, u2, u3⟩ := own_Dmx Q2 Q3 Q4
  obtain ⟨g1, g2, g3⟩ := own_tol Q1 R4 Q10 (by omega) (by omega)
  by_cases q : C = D
  · skip
    refine own_blk dec15 seq15 hby hx hZ hown hK hF 5 [false] [] X7 eh7 ?_
    show (Jvm.Free.Fl.NoNaN64 (FP.dmul 4457293557087583675 d4)) ∧ (¬ (0 < (cmpValue (FP.dcmp d1 (FP.dmul 4457293557087583675 d4)) .g).toInt)) ∧ own_Aft X7 h0 _ 30 [zD xa, zS, zD xb, zS] [.int 1]
    refine ⟨own_nn g1, by have := own_gle (k := .g) Q1.num g1 (g2 (by omega)); omega, fun T8 X8 eh8 => ?_⟩
    exact own_ret X8 hx hlk eh8 hret (by first | rfl | decide) (Or.inl ⟨rfl, by simp, _, rfl⟩) (hb hby d15_30) (by decide) (by decide) (⟨⟨_, rfl, Or.inl ⟨rfl, q⟩⟩, rfl, rfl⟩)
  · skip
    refine own_blk dec15 seq15 hby hx hZ hown hK hF 4 [true] [] X7 eh7 ?_
    show (Jvm.Free.Fl.NoNaN64 (FP.dmul 4457293557087583675 d4)) ∧ (0 < (cmpValue (FP.dcmp d1 (FP.dmul 4457293557087583675 d4)) .g).toInt) ∧ own_Aft X7 h0 _ 30 [zD xa, zS, zD xb, zS] [.int 0]
    refine ⟨own_nn g1, own_ggt Q1.num g1 (g3 (by omega)), fun T9 X9 eh9 => ?_⟩
    exact own_ret X9 hx hlk eh9 hret (by first | rfl | decide) (Or.inl ⟨rfl, by simp, _, rfl⟩) (hb hby d15_30) (by decide) (by decide) (⟨⟨_, rfl, Or.inr ⟨rfl, q⟩⟩, rfl, rfl⟩)
set_option maxRecDepth 65536 in
set_option maxHeartbeats 40000000 in
theorem rm7_1 (l : Launch) (Z : State) (a0 : Array Value) (hw : ∀ d ∈ tables_1, d.before a0 Z = true) (ws : List Jvm.Cond) (a el po bo fi en ma we tu sk ss mk ms : Addr) (e0 e1 e2 nb tc : Int32) (Lw : List Value) (x0 : UInt64) (C0 : Int) (h0 : Heap) (n0 : Nat) (Z0 : n0 ≤ h0.size) (EX : Exa Z h0 a cP) (PF : own_PF Z h0 a el po bo fi en ma we tu sk ss mk ms nb tc) (Ae : own_A Z h0 el .int [.int e0, .int e1, .int e2]) (Aw : own_A Z h0 we .double Lw) (r00 : 0 ≤ e0.toInt) (r01 : e0.toInt < 3) (r10 : 0 ≤ e1.toInt) (r11 : e1.toInt < 3) (r20 : 0 ≤ e2.toInt) (r21 : e2.toInt < 3) (hw0 : Lw[e0.toInt.toNat]? = some (.double x0)) (hD0 : own_D 0 C0 x0) (bC0 : -3000 ≤ C0 ∧ C0 ≤ 3000) :
    own_MF l (⟨cP, "alike", "(II)Z"⟩ : MethodName) prog_12_method_10_code 8 (some .boolean) ws ({ frames := 1, cells := 0, slots := 0, locals := 24 } : Room) #[.ref a, .int 0, .int 1] Z h0 (fun v h L => (∃ r : Int32, v = some (.int r) ∧ ((r = 1 ∧ True) ∨ (r = 0 ∧ ¬ (True)))) ∧ L = [] ∧ h = h0) := by
  refine own_body pf7 (ls0 := [.val (.ref a), .val (.int 0), .val (.int 1), .unset, .unset, .unset, .unset, .unset]) (fun m => by first | (simp [entryFrame, mkF, argsToLocals, Value.category, maxLocals]; done) | rfl) ?_
  intro p e s m below meth c T0 hx hby hml hown hnm hlk hret hZ X0 eh0
  have hK := hKt1 hw; have hF := hFt1 hw
  have N0 := Fr.nil n0
  have l0 : (0 : Int32).toInt = 0 := rfl
  have l1 : (1 : Int32).toInt = 1 := rfl
  have l2 : (2 : Int32).toInt = 2 := rfl
  have l3 : (3 : Int32).toInt = 3 := rfl
  have hs := hD0.sub (by omega) hD0 (by omega)
  refine own_blk dec7 seq7 hby hx hZ hown hK hF 22 [true] [.ref we, .ref el, .int e0, .double x0] X0 eh0 ?_
  show (Fld Z h0 a cP "weight" "[D" (.ref we)) ∧ (Fld Z h0 a cP "elements" "[I" (.ref el)) ∧ (own_at Z h0 el .int (0 : Int32) (.int e0)) ∧ (own_at Z h0 we .double e0 (.double x0)) ∧ (((1 : Int32)).toInt ≤ ((1 : Int32)).toInt) ∧ (Jvm.Free.Fl.NoNaN64 (FP.dsub x0 x0)) ∧ own_Aft X0 h0 _ 76 [zA a, zI 0, zI 1, zD x0, zS, zD x0, zS, zI 1] [.double x0, .double 4457293557087583675, .double (FP.dsub x0 x0)]
  refine ⟨PF.2.2.2.2.2.2.1, PF.1, Ae.at (0 : Int32) 0 rfl rfl, Aw.at e0 e0.toInt.toNat (by omega) hw0, by decide, own_nn hs.num, fun T1 X1 eh1 => ?_⟩
  refine own_absD X1 hx hZ hown (by decide +kernel) (hw _ (wm 75 rfl)) (hw _ (wm 76 rfl)) (hw _ (wm 69 rfl)) (hw _ (wm 77 rfl)) eh1 (own_nn hD0.num) (by rw [hml]; rfl) 4 (Nat.le_of_eq rfl) (hb hby d7_76) (by decide) (by decide) (by decide) (by decide) (fun T2 X2 eh2 => ?_)
  obtain ⟨K2, Q2, Q20, Q21⟩ := own_Dabs hD0
  generalize x0 &&& 0x7fffffffffffffff = d2 at Q2 ⊢
  show own_Go p.tables e below _ (T2.setTop (mkF m 79 (Array.mk [zA a, zI 0, zI 1, zD x0, zS, zD x0, zS, zI 1]) [.double d2, .double 4457293557087583675, .double (FP.dsub x0 x0)]))
  refine own_blk dec7 seq7 hby hx hZ hown hK hF 1 [] [] X2 eh2 ?_
  show own_Aft X2 h0 _ 81 [zA a, zI 0, zI 1, zD x0, zS, zD x0, zS, zI 1] [.double x0, .double d2, .double 4457293557087583675, .double (FP.dsub x0 x0)]
  refine fun T3 X3 eh3 => ?_
  refine own_absD X3 hx hZ hown (by decide +kernel) (hw _ (wm 75 rfl)) (hw _ (wm 76 rfl)) (hw _ (wm 69 rfl)) (hw _ (wm 77 rfl)) eh3 (own_nn hD0.num) (by rw [hml]; rfl) 6 (Nat.le_of_eq rfl) (hb hby d7_81) (by decide) (by decide) (by decide) (by decide) (fun T4 X4 eh4 => ?_)
  obtain ⟨K3, Q3, Q30, Q31⟩ := own_Dabs hD0
  generalize x0 &&& 0x7fffffffffffffff = d3 at Q3 ⊢
  show own_Go p.tables e below _ (T4.setTop (mkF m 84 (Array.mk [zA a, zI 0, zI 1, zD x0, zS, zD x0, zS, zI 1]) [.double d3, .double d2, .double 4457293557087583675, .double (FP.dsub x0 x0)]))
  refine own_minDD X4 hx hZ hown (by decide +kernel) (hw _ (wm 67 rfl)) (hw _ (wm 68 rfl)) (hw _ (wm 69 rfl)) (hw _ (wm 70 rfl)) eh4 (own_nn Q2.num) (own_nn Q3.num) (by rw [hml]; rfl) 4 (Nat.le_of_eq rfl) (hb hby d7_84) (by decide) (by decide) (by decide) (by decide) (fun T5 X5 eh5 => ?_)
  have Q4 := own_pick Q2.num Q3.num
  generalize Native.java_lang_Math.nans.pick64 false d2 d3 = d4 at Q4 ⊢
  show own_Go p.tables e below _ (T5.setTop (mkF m 87 (Array.mk [zA a, zI 0, zI 1, zD x0, zS, zD x0, zS, zI 1]) [.double d4, .double 4457293557087583675, .double (FP.dsub x0 x0)]))
  obtain ⟨K4, R4, u1, u2, u3⟩ := own_Dmn Q2 Q3 Q4
  obtain ⟨g1, g2, g3⟩ := own_tol hs R4 (by omega) (by omega) (by omega)
  obtain q | q : C0 - C0 = 0 ∨ 1 ≤ C0 - C0 := by omega
  · skip
    refine own_blk dec7 seq7 hby hx hZ hown hK hF 5 [false] [] X5 eh5 ?_
    show (Jvm.Free.Fl.NoNaN64 (FP.dmul 4457293557087583675 d4)) ∧ (¬ (0 < (cmpValue (FP.dcmp (FP.dsub x0 x0) (FP.dmul 4457293557087583675 d4)) .g).toInt)) ∧ own_Aft X5 h0 _ 97 [zA a, zI 0, zI 1, zD x0, zS, zD x0, zS, zI 1] [.int 1]
    refine ⟨own_nn g1, by have := own_gle (k := .g) hs.num g1 (g2 (by omega)); omega, fun T6 X6 eh6 => ?_⟩
    exact own_ret X6 hx hlk eh6 hret (by first | rfl | decide) (Or.inl ⟨rfl, by simp, _, rfl⟩) (hb hby d7_97) (by decide) (by decide) (⟨⟨_, rfl, Or.inl ⟨rfl, trivial⟩⟩, rfl, rfl⟩)
  · skip
    refine own_blk dec7 seq7 hby hx hZ hown hK hF 4 [true] [] X5 eh5 ?_
    show (Jvm.Free.Fl.NoNaN64 (FP.dmul 4457293557087583675 d4)) ∧ (0 < (cmpValue (FP.dcmp (FP.dsub x0 x0) (FP.dmul 4457293557087583675 d4)) .g).toInt) ∧ own_Aft X5 h0 _ 97 [zA a, zI 0, zI 1, zD x0, zS, zD x0, zS, zI 1] [.int 0]
    refine ⟨own_nn g1, own_ggt hs.num g1 (g3 (by omega)), fun T7 X7 eh7 => ?_⟩
    exact own_ret X7 hx hlk eh7 hret (by first | rfl | decide) (Or.inl ⟨rfl, by simp, _, rfl⟩) (hb hby d7_97) (by decide) (by decide) (⟨⟨_, rfl, Or.inr ⟨rfl, by omega⟩⟩, rfl, rfl⟩)
set_option maxRecDepth 65536 in
set_option maxHeartbeats 40000000 in
theorem rm7_2 (l : Launch) (Z : State) (a0 : Array Value) (hw : ∀ d ∈ tables_1, d.before a0 Z = true) (ws : List Jvm.Cond) (a el po bo fi en ma we tu sk ss mk ms : Addr) (e0 e1 e2 nb tc : Int32) (Lw : List Value) (x0 x1 : UInt64) (C0 C1 : Int) (h0 : Heap) (n0 : Nat) (Z0 : n0 ≤ h0.size) (EX : Exa Z h0 a cP) (PF : own_PF Z h0 a el po bo fi en ma we tu sk ss mk ms nb tc) (Ae : own_A Z h0 el .int [.int e0, .int e1, .int e2]) (Aw : own_A Z h0 we .double Lw) (r00 : 0 ≤ e0.toInt) (r01 : e0.toInt < 3) (r10 : 0 ≤ e1.toInt) (r11 : e1.toInt < 3) (r20 : 0 ≤ e2.toInt) (r21 : e2.toInt < 3) (hw0 : Lw[e0.toInt.toNat]? = some (.double x0)) (hD0 : own_D 0 C0 x0) (bC0 : -3000 ≤ C0 ∧ C0 ≤ 3000) (hw1 : Lw[e1.toInt.toNat]? = some (.double x1)) (hD1 : own_D 0 C1 x1) (bC1 : -3000 ≤ C1 ∧ C1 ≤ 3000) :
    own_MF l (⟨cP, "alike", "(II)Z"⟩ : MethodName) prog_12_method_10_code 8 (some .boolean) ws ({ frames := 1, cells := 0, slots := 0, locals := 24 } : Room) #[.ref a, .int 0, .int 2] Z h0 (fun v h L => (∃ r : Int32, v = some (.int r) ∧ ((r = 1 ∧ C1 = C0) ∨ (r = 0 ∧ ¬ (C1 = C0)))) ∧ L = [] ∧ h = h0) := by
  refine own_body pf7 (ls0 := [.val (.ref a), .val (.int 0), .val (.int 2), .unset, .unset, .unset, .unset, .unset]) (fun m => by first | (simp [entryFrame, mkF, argsToLocals, Value.category, maxLocals]; done) | rfl) ?_
  intro p e s m below meth c T0 hx hby hml hown hnm hlk hret hZ X0 eh0
  have hK := hKt1 hw; have hF := hFt1 hw
  have N0 := Fr.nil n0
  have l0 : (0 : Int32).toInt = 0 := rfl
  have l1 : (1 : Int32).toInt = 1 := rfl
  have l2 : (2 : Int32).toInt = 2 := rfl
  have l3 : (3 : Int32).toInt = 3 := rfl
  refine own_blk dec7 seq7 hby hx hZ hown hK hF 24 [false] [.ref we, .ref el, .int e0, .double x0, .ref we, .ref el, .int e1] X0 eh0 ?_
  show (Fld Z h0 a cP "weight" "[D" (.ref we)) ∧ (Fld Z h0 a cP "elements" "[I" (.ref el)) ∧ (own_at Z h0 el .int (0 : Int32) (.int e0)) ∧ (own_at Z h0 we .double e0 (.double x0)) ∧ (¬ (((2 : Int32)).toInt ≤ ((1 : Int32)).toInt)) ∧ (Fld Z h0 a cP "weight" "[D" (.ref we)) ∧ (Fld Z h0 a cP "elements" "[I" (.ref el)) ∧ (own_at Z h0 el .int (1 : Int32) (.int e1)) ∧ own_Aft X0 h0 _ 38 [zA a, zI 0, zI 2, zD x0, zS, zD x0, zS, zI 1] [.int e1, .ref we, .double x0]
  refine ⟨PF.2.2.2.2.2.2.1, PF.1, Ae.at (0 : Int32) 0 rfl rfl, Aw.at e0 e0.toInt.toNat (by omega) hw0, by decide, PF.2.2.2.2.2.2.1, PF.1, Ae.at (1 : Int32) 1 rfl rfl, fun T1 X1 eh1 => ?_⟩
  refine own_blk dec7 seq7 hby hx hZ hown hK hF 1 [] [.double x1] X1 eh1 ?_
  show (own_at Z h0 we .double e1 (.double x1)) ∧ own_Aft X1 h0 _ 39 [zA a, zI 0, zI 2, zD x0, zS, zD x0, zS, zI 1] [.double x1, .double x0]
  refine ⟨Aw.at e1 e1.toInt.toNat (by omega) hw1, fun T2 X2 eh2 => ?_⟩
  refine own_minDD X2 hx hZ hown (by decide +kernel) (hw _ (wm 67 rfl)) (hw _ (wm 68 rfl)) (hw _ (wm 69 rfl)) (hw _ (wm 70 rfl)) eh2 (own_nn hD0.num) (own_nn hD1.num) (by rw [hml]; rfl) 0 (Nat.le_of_eq rfl) (hb hby d7_39) (by decide) (by decide) (by decide) (by decide) (fun T3 X3 eh3 => ?_)
  have U1 := own_pick hD0.num hD1.num
  generalize Native.java_lang_Math.nans.pick64 false x0 x1 = mn1 at U1 ⊢
  show own_Go p.tables e below _ (T3.setTop (mkF m 42 (Array.mk [zA a, zI 0, zI 2, zD x0, zS, zD x0, zS, zI 1]) [.double mn1]))
  obtain ⟨A1, S1, p1, q1, s1⟩ := own_Dmn hD0 hD1 U1
  refine own_blk dec7 seq7 hby hx hZ hown hK hF 9 [] [.ref we, .ref el, .int e1, .double x1] X3 eh3 ?_
  show (Fld Z h0 a cP "weight" "[D" (.ref we)) ∧ (Fld Z h0 a cP "elements" "[I" (.ref el)) ∧ (own_at Z h0 el .int (1 : Int32) (.int e1)) ∧ (own_at Z h0 we .double e1 (.double x1)) ∧ own_Aft X3 h0 _ 57 [zA a, zI 0, zI 2, zD mn1, zS, zD x0, zS, zI 1] [.double x1, .double x0]
  refine ⟨PF.2.2.2.2.2.2.1, PF.1, Ae.at (1 : Int32) 1 rfl rfl, Aw.at e1 e1.toInt.toNat (by omega) hw1, fun T4 X4 eh4 => ?_⟩
  refine own_maxDD X4 hx hZ hown (by decide +kernel) (hw _ (wm 71 rfl)) (hw _ (wm 72 rfl)) (hw _ (wm 69 rfl)) (hw _ (wm 73 rfl)) eh4 (own_nn hD0.num) (own_nn hD1.num) (by rw [hml]; rfl) 0 (Nat.le_of_eq rfl) (hb hby d7_57) (by decide) (by decide) (by decide) (by decide) (fun T5 X5 eh5 => ?_)
  have V1 := own_pickM hD0.num hD1.num
  generalize Native.java_lang_Math.nans.pick64 true x0 x1 = mx1 at V1 ⊢
  show own_Go p.tables e below _ (T5.setTop (mkF m 60 (Array.mk [zA a, zI 0, zI 2, zD mn1, zS, zD x0, zS, zI 1]) [.double mx1]))
  obtain ⟨B1, T1_, p1', q1', s1'⟩ := own_Dmx hD0 hD1 V1
  have hs := T1_.sub (by omega) S1 (by omega)
  refine own_blk dec7 seq7 hby hx hZ hown hK hF 11 [true] [] X5 eh5 ?_
  show (((2 : Int32)).toInt ≤ ((2 : Int32)).toInt) ∧ (Jvm.Free.Fl.NoNaN64 (FP.dsub mx1 mn1)) ∧ own_Aft X5 h0 _ 76 [zA a, zI 0, zI 2, zD mn1, zS, zD mx1, zS, zI 2] [.double mn1, .double 4457293557087583675, .double (FP.dsub mx1 mn1)]
  refine ⟨by decide, own_nn hs.num, fun T6 X6 eh6 => ?_⟩
  refine own_absD X6 hx hZ hown (by decide +kernel) (hw _ (wm 75 rfl)) (hw _ (wm 76 rfl)) (hw _ (wm 69 rfl)) (hw _ (wm 77 rfl)) eh6 (own_nn S1.num) (by rw [hml]; rfl) 4 (Nat.le_of_eq rfl) (hb hby d7_76) (by decide) (by decide) (by decide) (by decide) (fun T7 X7 eh7 => ?_)
  obtain ⟨K2, Q2, Q20, Q21⟩ := own_Dabs S1
  generalize mn1 &&& 0x7fffffffffffffff = d2 at Q2 ⊢
  show own_Go p.tables e below _ (T7.setTop (mkF m 79 (Array.mk [zA a, zI 0, zI 2, zD mn1, zS, zD mx1, zS, zI 2]) [.double d2, .double 4457293557087583675, .double (FP.dsub mx1 mn1)]))
  refine own_blk dec7 seq7 hby hx hZ hown hK hF 1 [] [] X7 eh7 ?_
  show own_Aft X7 h0 _ 81 [zA a, zI 0, zI 2, zD mn1, zS, zD mx1, zS, zI 2] [.double mx1, .double d2, .double 4457293557087583675, .double (FP.dsub mx1 mn1)]
  refine fun T8 X8 eh8 => ?_
  refine own_absD X8 hx hZ hown (by decide +kernel) (hw _ (wm 75 rfl)) (hw _ (wm 76 rfl)) (hw _ (wm 69 rfl)) (hw _ (wm 77 rfl)) eh8 (own_nn T1_.num) (by rw [hml]; rfl) 6 (Nat.le_of_eq rfl) (hb hby d7_81) (by decide) (by decide) (by decide) (by decide) (fun T9 X9 eh9 => ?_)
  obtain ⟨K3, Q3, Q30, Q31⟩ := own_Dabs T1_
  generalize mx1 &&& 0x7fffffffffffffff = d3 at Q3 ⊢
  show own_Go p.tables e below _ (T9.setTop (mkF m 84 (Array.mk [zA a, zI 0, zI 2, zD mn1, zS, zD mx1, zS, zI 2]) [.double d3, .double d2, .double 4457293557087583675, .double (FP.dsub mx1 mn1)]))
  refine own_minDD X9 hx hZ hown (by decide +kernel) (hw _ (wm 67 rfl)) (hw _ (wm 68 rfl)) (hw _ (wm 69 rfl)) (hw _ (wm 70 rfl)) eh9 (own_nn Q2.num) (own_nn Q3.num) (by rw [hml]; rfl) 4 (Nat.le_of_eq rfl) (hb hby d7_84) (by decide) (by decide) (by decide) (by decide) (fun T10 X10 eh10 => ?_)
  have Q4 := own_pick Q2.num Q3.num
  generalize Native.java_lang_Math.nans.pick64 false d2 d3 = d4 at Q4 ⊢
  show own_Go p.tables e below _ (T10.setTop (mkF m 87 (Array.mk [zA a, zI 0, zI 2, zD mn1, zS, zD mx1, zS, zI 2]) [.double d4, .double 4457293557087583675, .double (FP.dsub mx1 mn1)]))
  obtain ⟨K4, R4, u1, u2, u3⟩ := own_Dmn Q2 Q3 Q4
  obtain ⟨g1, g2, g3⟩ := own_tol hs R4 (by omega) (by omega) (by omega)
  obtain q | q : B1 - A1 = 0 ∨ 1 ≤ B1 - A1 := by omega
  · skip
    refine own_blk dec7 seq7 hby hx hZ hown hK hF 5 [false] [] X10 eh10 ?_
    show (Jvm.Free.Fl.NoNaN64 (FP.dmul 4457293557087583675 d4)) ∧ (¬ (0 < (cmpValue (FP.dcmp (FP.dsub mx1 mn1) (FP.dmul 4457293557087583675 d4)) .g).toInt)) ∧ own_Aft X10 h0 _ 97 [zA a, zI 0, zI 2, zD mn1, zS, zD mx1, zS, zI 2] [.int 1]
    refine ⟨own_nn g1, by have := own_gle (k := .g) hs.num g1 (g2 (by omega)); omega, fun T11 X11 eh11 => ?_⟩
    exact own_ret X11 hx hlk eh11 hret (by first | rfl | decide) (Or.inl ⟨rfl, by simp, _, rfl⟩) (hb hby d7_97) (by decide) (by decide) (⟨⟨_, rfl, Or.inl ⟨rfl, by omega⟩⟩, rfl, rfl⟩)
  · skip
    refine own_blk dec7 seq7 hby hx hZ hown hK hF 4 [true] [] X10 eh10 ?_
    show (Jvm.Free.Fl.NoNaN64 (FP.dmul 4457293557087583675 d4)) ∧ (0 < (cmpValue (FP.dcmp (FP.dsub mx1 mn1) (FP.dmul 4457293557087583675 d4)) .g).toInt) ∧ own_Aft X10 h0 _ 97 [zA a, zI 0, zI 2, zD mn1, zS, zD mx1, zS, zI 2] [.int 0]
    refine ⟨own_nn g1, own_ggt hs.num g1 (g3 (by omega)), fun T12 X12 eh12 => ?_⟩
    exact own_ret X12 hx hlk eh12 hret (by first | rfl | decide) (Or.inl ⟨rfl, by simp, _, rfl⟩) (hb hby d7_97) (by decide) (by decide) (⟨⟨_, rfl, Or.inr ⟨rfl, by omega⟩⟩, rfl, rfl⟩)
set_option maxRecDepth 65536 in
set_option maxHeartbeats 40000000 in
theorem rm7_3 (l : Launch) (Z : State) (a0 : Array Value) (hw : ∀ d ∈ tables_1, d.before a0 Z = true) (ws : List Jvm.Cond) (a el po bo fi en ma we tu sk ss mk ms : Addr) (e0 e1 e2 nb tc : Int32) (Lw : List Value) (x0 x1 x2 : UInt64) (C0 C1 C2 : Int) (h0 : Heap) (n0 : Nat) (Z0 : n0 ≤ h0.size) (EX : Exa Z h0 a cP) (PF : own_PF Z h0 a el po bo fi en ma we tu sk ss mk ms nb tc) (Ae : own_A Z h0 el .int [.int e0, .int e1, .int e2]) (Aw : own_A Z h0 we .double Lw) (r00 : 0 ≤ e0.toInt) (r01 : e0.toInt < 3) (r10 : 0 ≤ e1.toInt) (r11 : e1.toInt < 3) (r20 : 0 ≤ e2.toInt) (r21 : e2.toInt < 3) (hw0 : Lw[e0.toInt.toNat]? = some (.double x0)) (hD0 : own_D 0 C0 x0) (bC0 : -3000 ≤ C0 ∧ C0 ≤ 3000) (hw1 : Lw[e1.toInt.toNat]? = some (.double x1)) (hD1 : own_D 0 C1 x1) (bC1 : -3000 ≤ C1 ∧ C1 ≤ 3000) (hw2 : Lw[e2.toInt.toNat]? = some (.double x2)) (hD2 : own_D 0 C2 x2) (bC2 : -3000 ≤ C2 ∧ C2 ≤ 3000) :
    own_MF l (⟨cP, "alike", "(II)Z"⟩ : MethodName) prog_12_method_10_code 8 (some .boolean) ws ({ frames := 1, cells := 0, slots := 0, locals := 24 } : Room) #[.ref a, .int 0, .int 3] Z h0 (fun v h L => (∃ r : Int32, v = some (.int r) ∧ ((r = 1 ∧ C1 = C0 ∧ C2 = C0) ∨ (r = 0 ∧ ¬ (C1 = C0 ∧ C2 = C0)))) ∧ L = [] ∧ h = h0) := by
  refine own_body pf7 (ls0 := [.val (.ref a), .val (.int 0), .val (.int 3), .unset, .unset, .unset, .unset, .unset]) (fun m => by first | (simp [entryFrame, mkF, argsToLocals, Value.category, maxLocals]; done) | rfl) ?_
  intro p e s m below meth c T0 hx hby hml hown hnm hlk hret hZ X0 eh0
  have hK := hKt1 hw; have hF := hFt1 hw
  have N0 := Fr.nil n0
  have l0 : (0 : Int32).toInt = 0 := rfl
  have l1 : (1 : Int32).toInt = 1 := rfl
  have l2 : (2 : Int32).toInt = 2 := rfl
  have l3 : (3 : Int32).toInt = 3 := rfl
  refine own_blk dec7 seq7 hby hx hZ hown hK hF 24 [false] [.ref we, .ref el, .int e0, .double x0, .ref we, .ref el, .int e1] X0 eh0 ?_
  show (Fld Z h0 a cP "weight" "[D" (.ref we)) ∧ (Fld Z h0 a cP "elements" "[I" (.ref el)) ∧ (own_at Z h0 el .int (0 : Int32) (.int e0)) ∧ (own_at Z h0 we .double e0 (.double x0)) ∧ (¬ (((3 : Int32)).toInt ≤ ((1 : Int32)).toInt)) ∧ (Fld Z h0 a cP "weight" "[D" (.ref we)) ∧ (Fld Z h0 a cP "elements" "[I" (.ref el)) ∧ (own_at Z h0 el .int (1 : Int32) (.int e1)) ∧ own_Aft X0 h0 _ 38 [zA a, zI 0, zI 3, zD x0, zS, zD x0, zS, zI 1] [.int e1, .ref we, .double x0]
  refine ⟨PF.2.2.2.2.2.2.1, PF.1, Ae.at (0 : Int32) 0 rfl rfl, Aw.at e0 e0.toInt.toNat (by omega) hw0, by decide, PF.2.2.2.2.2.2.1, PF.1, Ae.at (1 : Int32) 1 rfl rfl, fun T1 X1 eh1 => ?_⟩
  refine own_blk dec7 seq7 hby hx hZ hown hK hF 1 [] [.double x1] X1 eh1 ?_
  show (own_at Z h0 we .double e1 (.double x1)) ∧ own_Aft X1 h0 _ 39 [zA a, zI 0, zI 3, zD x0, zS, zD x0, zS, zI 1] [.double x1, .double x0]
  refine ⟨Aw.at e1 e1.toInt.toNat (by omega) hw1, fun T2 X2 eh2 => ?_⟩
  refine own_minDD X2 hx hZ hown (by decide +kernel) (hw _ (wm 67 rfl)) (hw _ (wm 68 rfl)) (hw _ (wm 69 rfl)) (hw _ (wm 70 rfl)) eh2 (own_nn hD0.num) (own_nn hD1.num) (by rw [hml]; rfl) 0 (Nat.le_of_eq rfl) (hb hby d7_39) (by decide) (by decide) (by decide) (by decide) (fun T3 X3 eh3 => ?_)
  have U1 := own_pick hD0.num hD1.num
  generalize Native.java_lang_Math.nans.pick64 false x0 x1 = mn1 at U1 ⊢
  show own_Go p.tables e below _ (T3.setTop (mkF m 42 (Array.mk [zA a, zI 0, zI 3, zD x0, zS, zD x0, zS, zI 1]) [.double mn1]))
  obtain ⟨A1, S1, p1, q1, s1⟩ := own_Dmn hD0 hD1 U1
  refine own_blk dec7 seq7 hby hx hZ hown hK hF 9 [] [.ref we, .ref el, .int e1, .double x1] X3 eh3 ?_
  show (Fld Z h0 a cP "weight" "[D" (.ref we)) ∧ (Fld Z h0 a cP "elements" "[I" (.ref el)) ∧ (own_at Z h0 el .int (1 : Int32) (.int e1)) ∧ (own_at Z h0 we .double e1 (.double x1)) ∧ own_Aft X3 h0 _ 57 [zA a, zI 0, zI 3, zD mn1, zS, zD x0, zS, zI 1] [.double x1, .double x0]
  refine ⟨PF.2.2.2.2.2.2.1, PF.1, Ae.at (1 : Int32) 1 rfl rfl, Aw.at e1 e1.toInt.toNat (by omega) hw1, fun T4 X4 eh4 => ?_⟩
  refine own_maxDD X4 hx hZ hown (by decide +kernel) (hw _ (wm 71 rfl)) (hw _ (wm 72 rfl)) (hw _ (wm 69 rfl)) (hw _ (wm 73 rfl)) eh4 (own_nn hD0.num) (own_nn hD1.num) (by rw [hml]; rfl) 0 (Nat.le_of_eq rfl) (hb hby d7_57) (by decide) (by decide) (by decide) (by decide) (fun T5 X5 eh5 => ?_)
  have V1 := own_pickM hD0.num hD1.num
  generalize Native.java_lang_Math.nans.pick64 true x0 x1 = mx1 at V1 ⊢
  show own_Go p.tables e below _ (T5.setTop (mkF m 60 (Array.mk [zA a, zI 0, zI 3, zD mn1, zS, zD x0, zS, zI 1]) [.double mx1]))
  obtain ⟨B1, T1_, p1', q1', s1'⟩ := own_Dmx hD0 hD1 V1
  refine own_blk dec7 seq7 hby hx hZ hown hK hF 14 [false] [.ref we, .ref el, .int e2, .double x2] X5 eh5 ?_
  show (¬ (((3 : Int32)).toInt ≤ ((2 : Int32)).toInt)) ∧ (Fld Z h0 a cP "weight" "[D" (.ref we)) ∧ (Fld Z h0 a cP "elements" "[I" (.ref el)) ∧ (own_at Z h0 el .int (2 : Int32) (.int e2)) ∧ (own_at Z h0 we .double e2 (.double x2)) ∧ own_Aft X5 h0 _ 39 [zA a, zI 0, zI 3, zD mn1, zS, zD mx1, zS, zI 2] [.double x2, .double mn1]
  refine ⟨by decide, PF.2.2.2.2.2.2.1, PF.1, Ae.at (2 : Int32) 2 rfl rfl, Aw.at e2 e2.toInt.toNat (by omega) hw2, fun T6 X6 eh6 => ?_⟩
  refine own_minDD X6 hx hZ hown (by decide +kernel) (hw _ (wm 67 rfl)) (hw _ (wm 68 rfl)) (hw _ (wm 69 rfl)) (hw _ (wm 70 rfl)) eh6 (own_nn S1.num) (own_nn hD2.num) (by rw [hml]; rfl) 0 (Nat.le_of_eq rfl) (hb hby d7_39) (by decide) (by decide) (by decide) (by decide) (fun T7 X7 eh7 => ?_)
  have U2 := own_pick S1.num hD2.num
  generalize Native.java_lang_Math.nans.pick64 false mn1 x2 = mn2 at U2 ⊢
  show own_Go p.tables e below _ (T7.setTop (mkF m 42 (Array.mk [zA a, zI 0, zI 3, zD mn1, zS, zD mx1, zS, zI 2]) [.double mn2]))
  obtain ⟨A2, S2, p2, q2, s2⟩ := own_Dmn S1 hD2 U2
  refine own_blk dec7 seq7 hby hx hZ hown hK hF 9 [] [.ref we, .ref el, .int e2, .double x2] X7 eh7 ?_
  show (Fld Z h0 a cP "weight" "[D" (.ref we)) ∧ (Fld Z h0 a cP "elements" "[I" (.ref el)) ∧ (own_at Z h0 el .int (2 : Int32) (.int e2)) ∧ (own_at Z h0 we .double e2 (.double x2)) ∧ own_Aft X7 h0 _ 57 [zA a, zI 0, zI 3, zD mn2, zS, zD mx1, zS, zI 2] [.double x2, .double mx1]
  refine ⟨PF.2.2.2.2.2.2.1, PF.1, Ae.at (2 : Int32) 2 rfl rfl, Aw.at e2 e2.toInt.toNat (by omega) hw2, fun T8 X8 eh8 => ?_⟩
  refine own_maxDD X8 hx hZ hown (by decide +kernel) (hw _ (wm 71 rfl)) (hw _ (wm 72 rfl)) (hw _ (wm 69 rfl)) (hw _ (wm 73 rfl)) eh8 (own_nn T1_.num) (own_nn hD2.num) (by rw [hml]; rfl) 0 (Nat.le_of_eq rfl) (hb hby d7_57) (by decide) (by decide) (by decide) (by decide) (fun T9 X9 eh9 => ?_)
  have V2 := own_pickM T1_.num hD2.num
  generalize Native.java_lang_Math.nans.pick64 true mx1 x2 = mx2 at V2 ⊢
  show own_Go p.tables e below _ (T9.setTop (mkF m 60 (Array.mk [zA a, zI 0, zI 3, zD mn2, zS, zD mx1, zS, zI 2]) [.double mx2]))
  obtain ⟨B2, T2_, p2', q2', s2'⟩ := own_Dmx T1_ hD2 V2
  have hs := T2_.sub (by omega) S2 (by omega)
  refine own_blk dec7 seq7 hby hx hZ hown hK hF 11 [true] [] X9 eh9 ?_
  show (((3 : Int32)).toInt ≤ ((3 : Int32)).toInt) ∧ (Jvm.Free.Fl.NoNaN64 (FP.dsub mx2 mn2)) ∧ own_Aft X9 h0 _ 76 [zA a, zI 0, zI 3, zD mn2, zS, zD mx2, zS, zI 3] [.double mn2, .double 4457293557087583675, .double (FP.dsub mx2 mn2)]
  refine ⟨by decide, own_nn hs.num, fun T10 X10 eh10 => ?_⟩
  refine own_absD X10 hx hZ hown (by decide +kernel) (hw _ (wm 75 rfl)) (hw _ (wm 76 rfl)) (hw _ (wm 69 rfl)) (hw _ (wm 77 rfl)) eh10 (own_nn S2.num) (by rw [hml]; rfl) 4 (Nat.le_of_eq rfl) (hb hby d7_76) (by decide) (by decide) (by decide) (by decide) (fun T11 X11 eh11 => ?_)
  obtain ⟨K2, Q2, Q20, Q21⟩ := own_Dabs S2
  generalize mn2 &&& 0x7fffffffffffffff = d2 at Q2 ⊢
  show own_Go p.tables e below _ (T11.setTop (mkF m 79 (Array.mk [zA a, zI 0, zI 3, zD mn2, zS, zD mx2, zS, zI 3]) [.double d2, .double 4457293557087583675, .double (FP.dsub mx2 mn2)]))
  refine own_blk dec7 seq7 hby hx hZ hown hK hF 1 [] [] X11 eh11 ?_
  show own_Aft X11 h0 _ 81 [zA a, zI 0, zI 3, zD mn2, zS, zD mx2, zS, zI 3] [.double mx2, .double d2, .double 4457293557087583675, .double (FP.dsub mx2 mn2)]
  refine fun T12 X12 eh12 => ?_
  refine own_absD X12 hx hZ hown (by decide +kernel) (hw _ (wm 75 rfl)) (hw _ (wm 76 rfl)) (hw _ (wm 69 rfl)) (hw _ (wm 77 rfl)) eh12 (own_nn T2_.num) (by rw [hml]; rfl) 6 (Nat.le_of_eq rfl) (hb hby d7_81) (by decide) (by decide) (by decide) (by decide) (fun T13 X13 eh13 => ?_)
  obtain ⟨K3, Q3, Q30, Q31⟩ := own_Dabs T2_
  generalize mx2 &&& 0x7fffffffffffffff = d3 at Q3 ⊢
  show own_Go p.tables e below _ (T13.setTop (mkF m 84 (Array.mk [zA a, zI 0, zI 3, zD mn2, zS, zD mx2, zS, zI 3]) [.double d3, .double d2, .double 4457293557087583675, .double (FP.dsub mx2 mn2)]))
  refine own_minDD X13 hx hZ hown (by decide +kernel) (hw _ (wm 67 rfl)) (hw _ (wm 68 rfl)) (hw _ (wm 69 rfl)) (hw _ (wm 70 rfl)) eh13 (own_nn Q2.num) (own_nn Q3.num) (by rw [hml]; rfl) 4 (Nat.le_of_eq rfl) (hb hby d7_84) (by decide) (by decide) (by decide) (by decide) (fun T14 X14 eh14 => ?_)
  have Q4 := own_pick Q2.num Q3.num
  generalize Native.java_lang_Math.nans.pick64 false d2 d3 = d4 at Q4 ⊢
  show own_Go p.tables e below _ (T14.setTop (mkF m 87 (Array.mk [zA a, zI 0, zI 3, zD mn2, zS, zD mx2, zS, zI 3]) [.double d4, .double 4457293557087583675, .double (FP.dsub mx2 mn2)]))
  obtain ⟨K4, R4, u1, u2, u3⟩ := own_Dmn Q2 Q3 Q4
  obtain ⟨g1, g2, g3⟩ := own_tol hs R4 (by omega) (by omega) (by omega)
  obtain q | q : B2 - A2 = 0 ∨ 1 ≤ B2 - A2 := by omega
  · skip
    refine own_blk dec7 seq7 hby hx hZ hown hK hF 5 [false] [] X14 eh14 ?_
    show (Jvm.Free.Fl.NoNaN64 (FP.dmul 4457293557087583675 d4)) ∧ (¬ (0 < (cmpValue (FP.dcmp (FP.dsub mx2 mn2) (FP.dmul 4457293557087583675 d4)) .g).toInt)) ∧ own_Aft X14 h0 _ 97 [zA a, zI 0, zI 3, zD mn2, zS, zD mx2, zS, zI 3] [.int 1]
    refine ⟨own_nn g1, by have := own_gle (k := .g) hs.num g1 (g2 (by omega)); omega, fun T15 X15 eh15 => ?_⟩
    exact own_ret X15 hx hlk eh15 hret (by first | rfl | decide) (Or.inl ⟨rfl, by simp, _, rfl⟩) (hb hby d7_97) (by decide) (by decide) (⟨⟨_, rfl, Or.inl ⟨rfl, by omega⟩⟩, rfl, rfl⟩)
  · skip
    refine own_blk dec7 seq7 hby hx hZ hown hK hF 4 [true] [] X14 eh14 ?_
    show (Jvm.Free.Fl.NoNaN64 (FP.dmul 4457293557087583675 d4)) ∧ (0 < (cmpValue (FP.dcmp (FP.dsub mx2 mn2) (FP.dmul 4457293557087583675 d4)) .g).toInt) ∧ own_Aft X14 h0 _ 97 [zA a, zI 0, zI 3, zD mn2, zS, zD mx2, zS, zI 3] [.int 0]
    refine ⟨own_nn g1, own_ggt hs.num g1 (g3 (by omega)), fun T16 X16 eh16 => ?_⟩
    exact own_ret X16 hx hlk eh16 hret (by first | rfl | decide) (Or.inl ⟨rfl, by simp, _, rfl⟩) (hb hby d7_97) (by decide) (by decide) (⟨⟨_, rfl, Or.inr ⟨rfl, by omega⟩⟩, rfl, rfl⟩)
set_option maxRecDepth 65536 in
set_option maxHeartbeats 40000000 in
theorem rm13_1 (l : Launch) (Z : State) (a0 : Array Value) (hw : ∀ d ∈ tables_1, d.before a0 Z = true) (ws : List Jvm.Cond) (ka sa kb sb : Addr) (e0 e1 e2 v0 v1 v2 : Int32) (x0 x1 x2 u0 u1 u2 : UInt64) (h0 : Heap) (n0 : Nat) (Z0 : n0 ≤ h0.size) (n1 : ka ≠ kb) (n2 : ka ≠ sb) (n3 : sa ≠ kb) (n4 : sa ≠ sb) (n5 : kb ≠ sb) (n6 : n0 ≤ kb) (n7 : n0 ≤ sb) (A1 : own_A Z h0 ka .double [.double x0, .double x1, .double x2]) (A2 : own_A Z h0 sa .int [.int e0, .int e1, .int e2]) (A3 : own_A Z h0 kb .double [.double u0, .double u1, .double u2]) (A4 : own_A Z h0 sb .int [.int v0, .int v1, .int v2]) (Nx0 : own_num x0) (Nx1 : own_num x1) :
    own_MF l (⟨cP, "merge", "([D[IIII[D[I)V"⟩ : MethodName) prog_12_method_14_code 12 none ws ({ frames := 0, cells := 0, slots := 0, locals := 0 } : Room) #[.ref ka, .ref sa, .int 0, .int 1, .int 2, .ref kb, .ref sb] Z h0 (fun v h L => v = none ∧ Fr n0 L ∧ Keep h0 h [kb, sb] ∧ ∃ (k0 k1 : UInt64) (s0 s1 : Int32), own_A Z h kb .double [.double k0, .double k1, .double u2] ∧ own_A Z h sb .int [.int s0, .int s1, .int v2] ∧ ((k0 = x0 ∧ k1 = x1 ∧ s0 = e0 ∧ s1 = e1 ∧ own_z x0 ≤ own_z x1) ∨ (k0 = x1 ∧ k1 = x0 ∧ s0 = e1 ∧ s1 = e0 ∧ own_z x1 < own_z x0))) := by
  refine own_body pf13 (ls0 := [.val (.ref ka), .val (.ref sa), .val (.int 0), .val (.int 1), .val (.int 2), .val (.ref kb), .val (.ref sb), .unset, .unset, .unset, .unset, .unset]) (fun m => by first | (simp [entryFrame, mkF, argsToLocals, Value.category, maxLocals]; done) | rfl) ?_
  intro p e s m below meth c T0 hx hby hml hown hnm hlk hret hZ X0 eh0
  have hK := hKt1 hw; have hF := hFt1 hw
  have N0 := Fr.nil n0
  have nin_ka : ka ∉ [kb, sb] := own_nin ⟨n1, n2, trivial⟩
  have nin_sa : sa ∉ [kb, sb] := own_nin ⟨n3, n4, trivial⟩
  have K0 := Keep.refl h0 [kb, sb]
  refine own_blk dec13 seq13 hby hx hZ hown hK hF 22 [false, false, false] [.double x0, .double x1] X0 eh0 ?_
  show (¬ (((2 : Int32)).toInt ≤ ((0 : Int32)).toInt)) ∧ (¬ (((1 : Int32)).toInt = ((2 : Int32)).toInt)) ∧ (¬ (((1 : Int32)).toInt ≤ ((0 : Int32)).toInt)) ∧ (own_at Z h0 ka .double (0 : Int32) (.double x0)) ∧ (own_at Z h0 ka .double (1 : Int32) (.double x1)) ∧ own_Aft X0 h0 _ 38 [zA ka, zA sa, zI 0, zI 1, zI 2, zA kb, zA sb, zI 0, zI 1, zI 0, zU, zU] [.int (cmpValue (FP.dcmp x0 x1) .g)]
  refine ⟨by decide, by decide, by decide, A1.at (0 : Int32) 0 rfl rfl, A1.at (1 : Int32) 1 rfl rfl, fun T1 X1 eh1 => ?_⟩
  rcases Int.lt_or_le (own_z x1) (own_z x0) with q | q
  · skip
    refine own_blk dec13 seq13 hby hx hZ hown hK hF 13 [true, true] [.double x1] X1 eh1 ?_
    show (0 < (cmpValue (FP.dcmp x0 x1) .g).toInt) ∧ (((0 : Int32)).toInt = 0) ∧ (own_at Z h0 ka .double (1 : Int32) (.double x1)) ∧ own_Aft X1 h0 _ 76 [zA ka, zA sa, zI 0, zI 1, zI 2, zA kb, zA sb, zI 0, zI 2, zI 0, zI 0, zI 1] [.double x1, .int 0, .ref kb]
    refine ⟨own_ggt Nx0 Nx1 q, by decide, A1.at (1 : Int32) 1 rfl rfl, fun T2 X2 eh2 => ?_⟩
    refine own_sD X2 hx hZ eh2 A3 0 rfl (by show 0 < 3; decide) (hb hby d13_76) (fun T3 hp3 X3 eh3 Wr3 Ar3 => ?_)
    have Ar3' : own_A Z hp3 kb .double [.double x1, .double u1, .double u2] := Ar3
    have A4_3 := A4.other Wr3 (Ne.symm n5)
    have Nf3 := Fr.snoc X3 N0 n6
    have Z_3 : n0 ≤ hp3.size := by rw [Wr.size Wr3]; exact Z0
    have K_3 := Keep.wr K0 Wr3 (Or.inl (List.mem_of_getElem? (i := 0) rfl))
    refine own_blk dec13 seq13 hby hx hZ hown hK hF 5 [] [.int e1] X3 eh3 ?_
    show (own_at Z hp3 sa .int (1 : Int32) (.int e1)) ∧ own_Aft X3 hp3 _ 85 [zA ka, zA sa, zI 0, zI 1, zI 2, zA kb, zA sb, zI 0, zI 2, zI 0, zI 0, zI 1] [.int e1, .int 0, .ref sb]
    refine ⟨(A2.keep K_3 nin_sa).at (1 : Int32) 1 rfl rfl, fun T4 X4 eh4 => ?_⟩
    refine own_sI X4 hx hZ eh4 A4_3 0 rfl (by show 0 < 3; decide) (hb hby d13_85) (fun T5 hp5 X5 eh5 Wr5 Ar5 => ?_)
    have Ar5' : own_A Z hp5 sb .int [.int e1, .int v1, .int v2] := Ar5
    have Ar3'_5 := Ar3'.other Wr5 n5
    have Nf5 := Fr.snoc X5 Nf3 n7
    have Z_5 : n0 ≤ hp5.size := by rw [Wr.size Wr5]; exact Z_3
    have K_5 := Keep.wr K_3 Wr5 (Or.inl (List.mem_of_getElem? (i := 1) rfl))
    refine own_blk dec13 seq13 hby hx hZ hown hK hF 22 [false, true, false] [.double x0] X5 eh5 ?_
    show (¬ (((2 : Int32)).toInt ≤ ((1 : Int32)).toInt)) ∧ (((2 : Int32)).toInt = ((2 : Int32)).toInt) ∧ (¬ (((1 : Int32)).toInt = 0)) ∧ (own_at Z hp5 ka .double (0 : Int32) (.double x0)) ∧ own_Aft X5 hp5 _ 76 [zA ka, zA sa, zI 0, zI 1, zI 2, zA kb, zA sb, zI 1, zI 2, zI 1, zI 1, zI 0] [.double x0, .int 1, .ref kb]
    refine ⟨by decide, by decide, by decide, (A1.keep K_5 nin_ka).at (0 : Int32) 0 rfl rfl, fun T6 X6 eh6 => ?_⟩
    refine own_sD X6 hx hZ eh6 Ar3'_5 1 rfl (by show 1 < 3; decide) (hb hby d13_76) (fun T7 hp7 X7 eh7 Wr7 Ar7 => ?_)
    have Ar7' : own_A Z hp7 kb .double [.double x1, .double x0, .double u2] := Ar7
    have Ar5'_7 := Ar5'.other Wr7 (Ne.symm n5)
    have Nf7 := Fr.snoc X7 Nf5 n6
    have Z_7 : n0 ≤ hp7.size := by rw [Wr.size Wr7]; exact Z_5
    have K_7 := Keep.wr K_5 Wr7 (Or.inl (List.mem_of_getElem? (i := 0) rfl))
    refine own_blk dec13 seq13 hby hx hZ hown hK hF 5 [] [.int e0] X7 eh7 ?_
    show (own_at Z hp7 sa .int (0 : Int32) (.int e0)) ∧ own_Aft X7 hp7 _ 85 [zA ka, zA sa, zI 0, zI 1, zI 2, zA kb, zA sb, zI 1, zI 2, zI 1, zI 1, zI 0] [.int e0, .int 1, .ref sb]
    refine ⟨(A2.keep K_7 nin_sa).at (0 : Int32) 0 rfl rfl, fun T8 X8 eh8 => ?_⟩
    refine own_sI X8 hx hZ eh8 Ar5'_7 1 rfl (by show 1 < 3; decide) (hb hby d13_85) (fun T9 hp9 X9 eh9 Wr9 Ar9 => ?_)
    have Ar9' : own_A Z hp9 sb .int [.int e1, .int e0, .int v2] := Ar9
    have Ar7'_9 := Ar7'.other Wr9 n5
    have Nf9 := Fr.snoc X9 Nf7 n7
    have Z_9 : n0 ≤ hp9.size := by rw [Wr.size Wr9]; exact Z_7
    have K_9 := Keep.wr K_7 Wr9 (Or.inl (List.mem_of_getElem? (i := 1) rfl))
    refine own_blk dec13 seq13 hby hx hZ hown hK hF 5 [true] [] X9 eh9 ?_
    show (((2 : Int32)).toInt ≤ ((2 : Int32)).toInt) ∧ own_Aft X9 hp9 _ 92 [zA ka, zA sa, zI 0, zI 1, zI 2, zA kb, zA sb, zI 1, zI 2, zI 2, zI 1, zI 0] []
    refine ⟨by decide, fun T10 X10 eh10 => ?_⟩
    exact own_retV X10 hx hlk eh10 hret (hb hby d13_92) (by decide) (by decide) (⟨rfl, Nf9, K_9, _, _, _, _, Ar7'_9, Ar9', Or.inr ⟨rfl, rfl, rfl, rfl, q⟩⟩)
  · skip
    refine own_blk dec13 seq13 hby hx hZ hown hK hF 15 [false, false] [.double x0] X1 eh1 ?_
    show (¬ (0 < (cmpValue (FP.dcmp x0 x1) .g).toInt)) ∧ (¬ (((1 : Int32)).toInt = 0)) ∧ (own_at Z h0 ka .double (0 : Int32) (.double x0)) ∧ own_Aft X1 h0 _ 76 [zA ka, zA sa, zI 0, zI 1, zI 2, zA kb, zA sb, zI 1, zI 1, zI 0, zI 1, zI 0] [.double x0, .int 0, .ref kb]
    refine ⟨by have := own_gle (k := .g) Nx0 Nx1 q; omega, by decide, A1.at (0 : Int32) 0 rfl rfl, fun T11 X11 eh11 => ?_⟩
    refine own_sD X11 hx hZ eh11 A3 0 rfl (by show 0 < 3; decide) (hb hby d13_76) (fun T12 hp12 X12 eh12 Wr12 Ar12 => ?_)
    have Ar12' : own_A Z hp12 kb .double [.double x0, .double u1, .double u2] := Ar12
    have A4_12 := A4.other Wr12 (Ne.symm n5)
    have Nf12 := Fr.snoc X12 N0 n6
    have Z_12 : n0 ≤ hp12.size := by rw [Wr.size Wr12]; exact Z0
    have K_12 := Keep.wr K0 Wr12 (Or.inl (List.mem_of_getElem? (i := 0) rfl))
    refine own_blk dec13 seq13 hby hx hZ hown hK hF 5 [] [.int e0] X12 eh12 ?_
    show (own_at Z hp12 sa .int (0 : Int32) (.int e0)) ∧ own_Aft X12 hp12 _ 85 [zA ka, zA sa, zI 0, zI 1, zI 2, zA kb, zA sb, zI 1, zI 1, zI 0, zI 1, zI 0] [.int e0, .int 0, .ref sb]
    refine ⟨(A2.keep K_12 nin_sa).at (0 : Int32) 0 rfl rfl, fun T13 X13 eh13 => ?_⟩
    refine own_sI X13 hx hZ eh13 A4_12 0 rfl (by show 0 < 3; decide) (hb hby d13_85) (fun T14 hp14 X14 eh14 Wr14 Ar14 => ?_)
    have Ar14' : own_A Z hp14 sb .int [.int e0, .int v1, .int v2] := Ar14
    have Ar12'_14 := Ar12'.other Wr14 n5
    have Nf14 := Fr.snoc X14 Nf12 n7
    have Z_14 : n0 ≤ hp14.size := by rw [Wr.size Wr14]; exact Z_12
    have K_14 := Keep.wr K_12 Wr14 (Or.inl (List.mem_of_getElem? (i := 1) rfl))
    refine own_blk dec13 seq13 hby hx hZ hown hK hF 23 [false, false, true, true] [.double x1] X14 eh14 ?_
    show (¬ (((2 : Int32)).toInt ≤ ((1 : Int32)).toInt)) ∧ (¬ (((1 : Int32)).toInt = ((2 : Int32)).toInt)) ∧ (((1 : Int32)).toInt ≤ ((1 : Int32)).toInt) ∧ (((0 : Int32)).toInt = 0) ∧ (own_at Z hp14 ka .double (1 : Int32) (.double x1)) ∧ own_Aft X14 hp14 _ 76 [zA ka, zA sa, zI 0, zI 1, zI 2, zA kb, zA sb, zI 1, zI 2, zI 1, zI 0, zI 1] [.double x1, .int 1, .ref kb]
    refine ⟨by decide, by decide, by decide, by decide, (A1.keep K_14 nin_ka).at (1 : Int32) 1 rfl rfl, fun T15 X15 eh15 => ?_⟩
    refine own_sD X15 hx hZ eh15 Ar12'_14 1 rfl (by show 1 < 3; decide) (hb hby d13_76) (fun T16 hp16 X16 eh16 Wr16 Ar16 => ?_)
    have Ar16' : own_A Z hp16 kb .double [.double x0, .double x1, .double u2] := Ar16
    have Ar14'_16 := Ar14'.other Wr16 (Ne.symm n5)
    have Nf16 := Fr.snoc X16 Nf14 n6
    have Z_16 : n0 ≤ hp16.size := by rw [Wr.size Wr16]; exact Z_14
    have K_16 := Keep.wr K_14 Wr16 (Or.inl (List.mem_of_getElem? (i := 0) rfl))
    refine own_blk dec13 seq13 hby hx hZ hown hK hF 5 [] [.int e1] X16 eh16 ?_
    show (own_at Z hp16 sa .int (1 : Int32) (.int e1)) ∧ own_Aft X16 hp16 _ 85 [zA ka, zA sa, zI 0, zI 1, zI 2, zA kb, zA sb, zI 1, zI 2, zI 1, zI 0, zI 1] [.int e1, .int 1, .ref sb]
    refine ⟨(A2.keep K_16 nin_sa).at (1 : Int32) 1 rfl rfl, fun T17 X17 eh17 => ?_⟩
    refine own_sI X17 hx hZ eh17 Ar14'_16 1 rfl (by show 1 < 3; decide) (hb hby d13_85) (fun T18 hp18 X18 eh18 Wr18 Ar18 => ?_)
    have Ar18' : own_A Z hp18 sb .int [.int e0, .int e1, .int v2] := Ar18
    have Ar16'_18 := Ar16'.other Wr18 n5
    have Nf18 := Fr.snoc X18 Nf16 n7
    have Z_18 : n0 ≤ hp18.size := by rw [Wr.size Wr18]; exact Z_16
    have K_18 := Keep.wr K_16 Wr18 (Or.inl (List.mem_of_getElem? (i := 1) rfl))
    refine own_blk dec13 seq13 hby hx hZ hown hK hF 5 [true] [] X18 eh18 ?_
    show (((2 : Int32)).toInt ≤ ((2 : Int32)).toInt) ∧ own_Aft X18 hp18 _ 92 [zA ka, zA sa, zI 0, zI 1, zI 2, zA kb, zA sb, zI 1, zI 2, zI 2, zI 0, zI 1] []
    refine ⟨by decide, fun T19 X19 eh19 => ?_⟩
    exact own_retV X19 hx hlk eh19 hret (hb hby d13_92) (by decide) (by decide) (⟨rfl, Nf18, K_18, _, _, _, _, Ar16'_18, Ar18', Or.inl ⟨rfl, rfl, rfl, rfl, q⟩⟩)
set_option maxRecDepth 65536 in
set_option maxHeartbeats 40000000 in
theorem rm13_2 (l : Launch) (Z : State) (a0 : Array Value) (hw : ∀ d ∈ tables_1, d.before a0 Z = true) (ws : List Jvm.Cond) (ka sa kb sb : Addr) (e0 e1 e2 v0 v1 v2 : Int32) (x0 x1 x2 u0 u1 u2 : UInt64) (h0 : Heap) (n0 : Nat) (Z0 : n0 ≤ h0.size) (n1 : ka ≠ kb) (n2 : ka ≠ sb) (n3 : sa ≠ kb) (n4 : sa ≠ sb) (n5 : kb ≠ sb) (n6 : n0 ≤ kb) (n7 : n0 ≤ sb) (A1 : own_A Z h0 ka .double [.double x0, .double x1, .double x2]) (A2 : own_A Z h0 sa .int [.int e0, .int e1, .int e2]) (A3 : own_A Z h0 kb .double [.double u0, .double u1, .double u2]) (A4 : own_A Z h0 sb .int [.int v0, .int v1, .int v2])  :
    own_MF l (⟨cP, "merge", "([D[IIII[D[I)V"⟩ : MethodName) prog_12_method_14_code 12 none ws ({ frames := 0, cells := 0, slots := 0, locals := 0 } : Room) #[.ref ka, .ref sa, .int 2, .int 3, .int 3, .ref kb, .ref sb] Z h0 (fun v h L => v = none ∧ Fr n0 L ∧ Keep h0 h [kb, sb] ∧ own_A Z h kb .double [.double u0, .double u1, .double x2] ∧ own_A Z h sb .int [.int v0, .int v1, .int e2]) := by
  refine own_body pf13 (ls0 := [.val (.ref ka), .val (.ref sa), .val (.int 2), .val (.int 3), .val (.int 3), .val (.ref kb), .val (.ref sb), .unset, .unset, .unset, .unset, .unset]) (fun m => by first | (simp [entryFrame, mkF, argsToLocals, Value.category, maxLocals]; done) | rfl) ?_
  intro p e s m below meth c T0 hx hby hml hown hnm hlk hret hZ X0 eh0
  have hK := hKt1 hw; have hF := hFt1 hw
  have N0 := Fr.nil n0
  have nin_ka : ka ∉ [kb, sb] := own_nin ⟨n1, n2, trivial⟩
  have nin_sa : sa ∉ [kb, sb] := own_nin ⟨n3, n4, trivial⟩
  have K0 := Keep.refl h0 [kb, sb]
  refine own_blk dec13 seq13 hby hx hZ hown hK hF 24 [false, true, false] [] X0 eh0 ?_
  show (¬ (((3 : Int32)).toInt ≤ ((2 : Int32)).toInt)) ∧ (((3 : Int32)).toInt = ((3 : Int32)).toInt) ∧ (¬ (((1 : Int32)).toInt = 0)) ∧ own_Aft X0 h0 _ 73 [zA ka, zA sa, zI 2, zI 3, zI 3, zA kb, zA sb, zI 3, zI 3, zI 2, zI 1, zI 2] [.ref ka, .int 2, .ref kb]
  refine ⟨by decide, by decide, by decide, fun T1 X1 eh1 => ?_⟩
  refine own_blk dec13 seq13 hby hx hZ hown hK hF 2 [] [.double x2] X1 eh1 ?_
  show (own_at Z h0 ka .double (2 : Int32) (.double x2)) ∧ own_Aft X1 h0 _ 76 [zA ka, zA sa, zI 2, zI 3, zI 3, zA kb, zA sb, zI 3, zI 3, zI 2, zI 1, zI 2] [.double x2, .int 2, .ref kb]
  refine ⟨A1.at (2 : Int32) 2 rfl rfl, fun T2 X2 eh2 => ?_⟩
  refine own_sD X2 hx hZ eh2 A3 2 rfl (by show 2 < 3; decide) (hb hby d13_76) (fun T3 hp3 X3 eh3 Wr3 Ar3 => ?_)
  have Ar3' : own_A Z hp3 kb .double [.double u0, .double u1, .double x2] := Ar3
  have A4_3 := A4.other Wr3 (Ne.symm n5)
  have Nf3 := Fr.snoc X3 N0 n6
  have Z_3 : n0 ≤ hp3.size := by rw [Wr.size Wr3]; exact Z0
  have K_3 := Keep.wr K0 Wr3 (Or.inl (List.mem_of_getElem? (i := 0) rfl))
  refine own_blk dec13 seq13 hby hx hZ hown hK hF 5 [] [.int e2] X3 eh3 ?_
  show (own_at Z hp3 sa .int (2 : Int32) (.int e2)) ∧ own_Aft X3 hp3 _ 85 [zA ka, zA sa, zI 2, zI 3, zI 3, zA kb, zA sb, zI 3, zI 3, zI 2, zI 1, zI 2] [.int e2, .int 2, .ref sb]
  refine ⟨(A2.keep K_3 nin_sa).at (2 : Int32) 2 rfl rfl, fun T4 X4 eh4 => ?_⟩
  refine own_sI X4 hx hZ eh4 A4_3 2 rfl (by show 2 < 3; decide) (hb hby d13_85) (fun T5 hp5 X5 eh5 Wr5 Ar5 => ?_)
  have Ar5' : own_A Z hp5 sb .int [.int v0, .int v1, .int e2] := Ar5
  have Ar3'_5 := Ar3'.other Wr5 n5
  have Nf5 := Fr.snoc X5 Nf3 n7
  have Z_5 : n0 ≤ hp5.size := by rw [Wr.size Wr5]; exact Z_3
  have K_5 := Keep.wr K_3 Wr5 (Or.inl (List.mem_of_getElem? (i := 1) rfl))
  refine own_blk dec13 seq13 hby hx hZ hown hK hF 5 [true] [] X5 eh5 ?_
  show (((3 : Int32)).toInt ≤ ((3 : Int32)).toInt) ∧ own_Aft X5 hp5 _ 92 [zA ka, zA sa, zI 2, zI 3, zI 3, zA kb, zA sb, zI 3, zI 3, zI 3, zI 1, zI 2] []
  refine ⟨by decide, fun T6 X6 eh6 => ?_⟩
  exact own_retV X6 hx hlk eh6 hret (hb hby d13_92) (by decide) (by decide) (⟨rfl, Nf5, K_5, Ar3'_5, Ar5'⟩)
set_option maxRecDepth 65536 in
set_option maxHeartbeats 40000000 in
theorem rm13_3 (l : Launch) (Z : State) (a0 : Array Value) (hw : ∀ d ∈ tables_1, d.before a0 Z = true) (ws : List Jvm.Cond) (ka sa kb sb : Addr) (e0 e1 e2 v0 v1 v2 : Int32) (x0 x1 x2 u0 u1 u2 : UInt64) (h0 : Heap) (n0 : Nat) (Z0 : n0 ≤ h0.size) (n1 : ka ≠ kb) (n2 : ka ≠ sb) (n3 : sa ≠ kb) (n4 : sa ≠ sb) (n5 : kb ≠ sb) (n6 : n0 ≤ kb) (n7 : n0 ≤ sb) (A1 : own_A Z h0 ka .double [.double x0, .double x1, .double x2]) (A2 : own_A Z h0 sa .int [.int e0, .int e1, .int e2]) (A3 : own_A Z h0 kb .double [.double u0, .double u1, .double u2]) (A4 : own_A Z h0 sb .int [.int v0, .int v1, .int v2]) (Nx0 : own_num x0) (Nx1 : own_num x1) (Nx2 : own_num x2) :
    own_MF l (⟨cP, "merge", "([D[IIII[D[I)V"⟩ : MethodName) prog_12_method_14_code 12 none ws ({ frames := 0, cells := 0, slots := 0, locals := 0 } : Room) #[.ref ka, .ref sa, .int 0, .int 2, .int 3, .ref kb, .ref sb] Z h0 (fun v h L => v = none ∧ Fr n0 L ∧ Keep h0 h [kb, sb] ∧ ∃ (k0 k1 k2 : UInt64) (s0 s1 s2 : Int32), own_A Z h kb .double [.double k0, .double k1, .double k2] ∧ own_A Z h sb .int [.int s0, .int s1, .int s2] ∧ ((k0 = x2 ∧ k1 = x0 ∧ k2 = x1 ∧ s0 = e2 ∧ s1 = e0 ∧ s2 = e1 ∧ own_z x2 < own_z x0) ∨ (k0 = x0 ∧ k1 = x2 ∧ k2 = x1 ∧ s0 = e0 ∧ s1 = e2 ∧ s2 = e1 ∧ own_z x0 ≤ own_z x2 ∧ own_z x2 < own_z x1) ∨ (k0 = x0 ∧ k1 = x1 ∧ k2 = x2 ∧ s0 = e0 ∧ s1 = e1 ∧ s2 = e2 ∧ own_z x0 ≤ own_z x2 ∧ own_z x1 ≤ own_z x2))) := by
  refine own_body pf13 (ls0 := [.val (.ref ka), .val (.ref sa), .val (.int 0), .val (.int 2), .val (.int 3), .val (.ref kb), .val (.ref sb), .unset, .unset, .unset, .unset, .unset]) (fun m => by first | (simp [entryFrame, mkF, argsToLocals, Value.category, maxLocals]; done) | rfl) ?_
  intro p e s m below meth c T0 hx hby hml hown hnm hlk hret hZ X0 eh0
  have hK := hKt1 hw; have hF := hFt1 hw
  have N0 := Fr.nil n0
  have nin_ka : ka ∉ [kb, sb] := own_nin ⟨n1, n2, trivial⟩
  have nin_sa : sa ∉ [kb, sb] := own_nin ⟨n3, n4, trivial⟩
  have K0 := Keep.refl h0 [kb, sb]
  refine own_blk dec13 seq13 hby hx hZ hown hK hF 22 [false, false, false] [.double x0, .double x2] X0 eh0 ?_
  show (¬ (((3 : Int32)).toInt ≤ ((0 : Int32)).toInt)) ∧ (¬ (((2 : Int32)).toInt = ((3 : Int32)).toInt)) ∧ (¬ (((2 : Int32)).toInt ≤ ((0 : Int32)).toInt)) ∧ (own_at Z h0 ka .double (0 : Int32) (.double x0)) ∧ (own_at Z h0 ka .double (2 : Int32) (.double x2)) ∧ own_Aft X0 h0 _ 38 [zA ka, zA sa, zI 0, zI 2, zI 3, zA kb, zA sb, zI 0, zI 2, zI 0, zU, zU] [.int (cmpValue (FP.dcmp x0 x2) .g)]
  refine ⟨by decide, by decide, by decide, A1.at (0 : Int32) 0 rfl rfl, A1.at (2 : Int32) 2 rfl rfl, fun T1 X1 eh1 => ?_⟩
  rcases Int.lt_or_le (own_z x2) (own_z x0) with q | q
  · skip
    refine own_blk dec13 seq13 hby hx hZ hown hK hF 13 [true, true] [.double x2] X1 eh1 ?_
    show (0 < (cmpValue (FP.dcmp x0 x2) .g).toInt) ∧ (((0 : Int32)).toInt = 0) ∧ (own_at Z h0 ka .double (2 : Int32) (.double x2)) ∧ own_Aft X1 h0 _ 76 [zA ka, zA sa, zI 0, zI 2, zI 3, zA kb, zA sb, zI 0, zI 3, zI 0, zI 0, zI 2] [.double x2, .int 0, .ref kb]
    refine ⟨own_ggt Nx0 Nx2 q, by decide, A1.at (2 : Int32) 2 rfl rfl, fun T2 X2 eh2 => ?_⟩
    refine own_sD X2 hx hZ eh2 A3 0 rfl (by show 0 < 3; decide) (hb hby d13_76) (fun T3 hp3 X3 eh3 Wr3 Ar3 => ?_)
    have Ar3' : own_A Z hp3 kb .double [.double x2, .double u1, .double u2] := Ar3
    have A4_3 := A4.other Wr3 (Ne.symm n5)
    have Nf3 := Fr.snoc X3 N0 n6
    have Z_3 : n0 ≤ hp3.size := by rw [Wr.size Wr3]; exact Z0
    have K_3 := Keep.wr K0 Wr3 (Or.inl (List.mem_of_getElem? (i := 0) rfl))
    refine own_blk dec13 seq13 hby hx hZ hown hK hF 5 [] [.int e2] X3 eh3 ?_
    show (own_at Z hp3 sa .int (2 : Int32) (.int e2)) ∧ own_Aft X3 hp3 _ 85 [zA ka, zA sa, zI 0, zI 2, zI 3, zA kb, zA sb, zI 0, zI 3, zI 0, zI 0, zI 2] [.int e2, .int 0, .ref sb]
    refine ⟨(A2.keep K_3 nin_sa).at (2 : Int32) 2 rfl rfl, fun T4 X4 eh4 => ?_⟩
    refine own_sI X4 hx hZ eh4 A4_3 0 rfl (by show 0 < 3; decide) (hb hby d13_85) (fun T5 hp5 X5 eh5 Wr5 Ar5 => ?_)
    have Ar5' : own_A Z hp5 sb .int [.int e2, .int v1, .int v2] := Ar5
    have Ar3'_5 := Ar3'.other Wr5 n5
    have Nf5 := Fr.snoc X5 Nf3 n7
    have Z_5 : n0 ≤ hp5.size := by rw [Wr.size Wr5]; exact Z_3
    have K_5 := Keep.wr K_3 Wr5 (Or.inl (List.mem_of_getElem? (i := 1) rfl))
    refine own_blk dec13 seq13 hby hx hZ hown hK hF 22 [false, true, false] [.double x0] X5 eh5 ?_
    show (¬ (((3 : Int32)).toInt ≤ ((1 : Int32)).toInt)) ∧ (((3 : Int32)).toInt = ((3 : Int32)).toInt) ∧ (¬ (((1 : Int32)).toInt = 0)) ∧ (own_at Z hp5 ka .double (0 : Int32) (.double x0)) ∧ own_Aft X5 hp5 _ 76 [zA ka, zA sa, zI 0, zI 2, zI 3, zA kb, zA sb, zI 1, zI 3, zI 1, zI 1, zI 0] [.double x0, .int 1, .ref kb]
    refine ⟨by decide, by decide, by decide, (A1.keep K_5 nin_ka).at (0 : Int32) 0 rfl rfl, fun T6 X6 eh6 => ?_⟩
    refine own_sD X6 hx hZ eh6 Ar3'_5 1 rfl (by show 1 < 3; decide) (hb hby d13_76) (fun T7 hp7 X7 eh7 Wr7 Ar7 => ?_)
    have Ar7' : own_A Z hp7 kb .double [.double x2, .double x0, .double u2] := Ar7
    have Ar5'_7 := Ar5'.other Wr7 (Ne.symm n5)
    have Nf7 := Fr.snoc X7 Nf5 n6
    have Z_7 : n0 ≤ hp7.size := by rw [Wr.size Wr7]; exact Z_5
    have K_7 := Keep.wr K_5 Wr7 (Or.inl (List.mem_of_getElem? (i := 0) rfl))
    refine own_blk dec13 seq13 hby hx hZ hown hK hF 5 [] [.int e0] X7 eh7 ?_
    show (own_at Z hp7 sa .int (0 : Int32) (.int e0)) ∧ own_Aft X7 hp7 _ 85 [zA ka, zA sa, zI 0, zI 2, zI 3, zA kb, zA sb, zI 1, zI 3, zI 1, zI 1, zI 0] [.int e0, .int 1, .ref sb]
    refine ⟨(A2.keep K_7 nin_sa).at (0 : Int32) 0 rfl rfl, fun T8 X8 eh8 => ?_⟩
    refine own_sI X8 hx hZ eh8 Ar5'_7 1 rfl (by show 1 < 3; decide) (hb hby d13_85) (fun T9 hp9 X9 eh9 Wr9 Ar9 => ?_)
    have Ar9' : own_A Z hp9 sb .int [.int e2, .int e0, .int v2] := Ar9
    have Ar7'_9 := Ar7'.other Wr9 n5
    have Nf9 := Fr.snoc X9 Nf7 n7
    have Z_9 : n0 ≤ hp9.size := by rw [Wr.size Wr9]; exact Z_7
    have K_9 := Keep.wr K_7 Wr9 (Or.inl (List.mem_of_getElem? (i := 1) rfl))
    refine own_blk dec13 seq13 hby hx hZ hown hK hF 22 [false, true, false] [.double x1] X9 eh9 ?_
    show (¬ (((3 : Int32)).toInt ≤ ((2 : Int32)).toInt)) ∧ (((3 : Int32)).toInt = ((3 : Int32)).toInt) ∧ (¬ (((1 : Int32)).toInt = 0)) ∧ (own_at Z hp9 ka .double (1 : Int32) (.double x1)) ∧ own_Aft X9 hp9 _ 76 [zA ka, zA sa, zI 0, zI 2, zI 3, zA kb, zA sb, zI 2, zI 3, zI 2, zI 1, zI 1] [.double x1, .int 2, .ref kb]
    refine ⟨by decide, by decide, by decide, (A1.keep K_9 nin_ka).at (1 : Int32) 1 rfl rfl, fun T10 X10 eh10 => ?_⟩
    refine own_sD X10 hx hZ eh10 Ar7'_9 2 rfl (by show 2 < 3; decide) (hb hby d13_76) (fun T11 hp11 X11 eh11 Wr11 Ar11 => ?_)
    have Ar11' : own_A Z hp11 kb .double [.double x2, .double x0, .double x1] := Ar11
    have Ar9'_11 := Ar9'.other Wr11 (Ne.symm n5)
    have Nf11 := Fr.snoc X11 Nf9 n6
    have Z_11 : n0 ≤ hp11.size := by rw [Wr.size Wr11]; exact Z_9
    have K_11 := Keep.wr K_9 Wr11 (Or.inl (List.mem_of_getElem? (i := 0) rfl))
    refine own_blk dec13 seq13 hby hx hZ hown hK hF 5 [] [.int e1] X11 eh11 ?_
    show (own_at Z hp11 sa .int (1 : Int32) (.int e1)) ∧ own_Aft X11 hp11 _ 85 [zA ka, zA sa, zI 0, zI 2, zI 3, zA kb, zA sb, zI 2, zI 3, zI 2, zI 1, zI 1] [.int e1, .int 2, .ref sb]
    refine ⟨(A2.keep K_11 nin_sa).at (1 : Int32) 1 rfl rfl, fun T12 X12 eh12 => ?_⟩
    refine own_sI X12 hx hZ eh12 Ar9'_11 2 rfl (by show 2 < 3; decide) (hb hby d13_85) (fun T13 hp13 X13 eh13 Wr13 Ar13 => ?_)
    have Ar13' : own_A Z hp13 sb .int [.int e2, .int e0, .int e1] := Ar13
    have Ar11'_13 := Ar11'.other Wr13 n5
    have Nf13 := Fr.snoc X13 Nf11 n7
    have Z_13 : n0 ≤ hp13.size := by rw [Wr.size Wr13]; exact Z_11
    have K_13 := Keep.wr K_11 Wr13 (Or.inl (List.mem_of_getElem? (i := 1) rfl))
    refine own_blk dec13 seq13 hby hx hZ hown hK hF 5 [true] [] X13 eh13 ?_
    show (((3 : Int32)).toInt ≤ ((3 : Int32)).toInt) ∧ own_Aft X13 hp13 _ 92 [zA ka, zA sa, zI 0, zI 2, zI 3, zA kb, zA sb, zI 2, zI 3, zI 3, zI 1, zI 1] []
    refine ⟨by decide, fun T14 X14 eh14 => ?_⟩
    exact own_retV X14 hx hlk eh14 hret (hb hby d13_92) (by decide) (by decide) (⟨rfl, Nf13, K_13, _, _, _, _, _, _, Ar11'_13, Ar13', Or.inl ⟨rfl, rfl, rfl, rfl, rfl, rfl, q⟩⟩)
  · skip
    refine own_blk dec13 seq13 hby hx hZ hown hK hF 15 [false, false] [.double x0] X1 eh1 ?_
    show (¬ (0 < (cmpValue (FP.dcmp x0 x2) .g).toInt)) ∧ (¬ (((1 : Int32)).toInt = 0)) ∧ (own_at Z h0 ka .double (0 : Int32) (.double x0)) ∧ own_Aft X1 h0 _ 76 [zA ka, zA sa, zI 0, zI 2, zI 3, zA kb, zA sb, zI 1, zI 2, zI 0, zI 1, zI 0] [.double x0, .int 0, .ref kb]
    refine ⟨by have := own_gle (k := .g) Nx0 Nx2 q; omega, by decide, A1.at (0 : Int32) 0 rfl rfl, fun T15 X15 eh15 => ?_⟩
    refine own_sD X15 hx hZ eh15 A3 0 rfl (by show 0 < 3; decide) (hb hby d13_76) (fun T16 hp16 X16 eh16 Wr16 Ar16 => ?_)
    have Ar16' : own_A Z hp16 kb .double [.double x0, .double u1, .double u2] := Ar16
    have A4_16 := A4.other Wr16 (Ne.symm n5)
    have Nf16 := Fr.snoc X16 N0 n6
    have Z_16 : n0 ≤ hp16.size := by rw [Wr.size Wr16]; exact Z0
    have K_16 := Keep.wr K0 Wr16 (Or.inl (List.mem_of_getElem? (i := 0) rfl))
    refine own_blk dec13 seq13 hby hx hZ hown hK hF 5 [] [.int e0] X16 eh16 ?_
    show (own_at Z hp16 sa .int (0 : Int32) (.int e0)) ∧ own_Aft X16 hp16 _ 85 [zA ka, zA sa, zI 0, zI 2, zI 3, zA kb, zA sb, zI 1, zI 2, zI 0, zI 1, zI 0] [.int e0, .int 0, .ref sb]
    refine ⟨(A2.keep K_16 nin_sa).at (0 : Int32) 0 rfl rfl, fun T17 X17 eh17 => ?_⟩
    refine own_sI X17 hx hZ eh17 A4_16 0 rfl (by show 0 < 3; decide) (hb hby d13_85) (fun T18 hp18 X18 eh18 Wr18 Ar18 => ?_)
    have Ar18' : own_A Z hp18 sb .int [.int e0, .int v1, .int v2] := Ar18
    have Ar16'_18 := Ar16'.other Wr18 n5
    have Nf18 := Fr.snoc X18 Nf16 n7
    have Z_18 : n0 ≤ hp18.size := by rw [Wr.size Wr18]; exact Z_16
    have K_18 := Keep.wr K_16 Wr18 (Or.inl (List.mem_of_getElem? (i := 1) rfl))
    refine own_blk dec13 seq13 hby hx hZ hown hK hF 18 [false, false, false] [.double x1, .double x2] X18 eh18 ?_
    show (¬ (((3 : Int32)).toInt ≤ ((1 : Int32)).toInt)) ∧ (¬ (((2 : Int32)).toInt = ((3 : Int32)).toInt)) ∧ (¬ (((2 : Int32)).toInt ≤ ((1 : Int32)).toInt)) ∧ (own_at Z hp18 ka .double (1 : Int32) (.double x1)) ∧ (own_at Z hp18 ka .double (2 : Int32) (.double x2)) ∧ own_Aft X18 hp18 _ 38 [zA ka, zA sa, zI 0, zI 2, zI 3, zA kb, zA sb, zI 1, zI 2, zI 1, zI 1, zI 0] [.int (cmpValue (FP.dcmp x1 x2) .g)]
    refine ⟨by decide, by decide, by decide, (A1.keep K_18 nin_ka).at (1 : Int32) 1 rfl rfl, (A1.keep K_18 nin_ka).at (2 : Int32) 2 rfl rfl, fun T19 X19 eh19 => ?_⟩
    rcases Int.lt_or_le (own_z x2) (own_z x1) with q' | q'
    · skip
      refine own_blk dec13 seq13 hby hx hZ hown hK hF 13 [true, true] [.double x2] X19 eh19 ?_
      show (0 < (cmpValue (FP.dcmp x1 x2) .g).toInt) ∧ (((0 : Int32)).toInt = 0) ∧ (own_at Z hp18 ka .double (2 : Int32) (.double x2)) ∧ own_Aft X19 hp18 _ 76 [zA ka, zA sa, zI 0, zI 2, zI 3, zA kb, zA sb, zI 1, zI 3, zI 1, zI 0, zI 2] [.double x2, .int 1, .ref kb]
      refine ⟨own_ggt Nx1 Nx2 q', by decide, (A1.keep K_18 nin_ka).at (2 : Int32) 2 rfl rfl, fun T20 X20 eh20 => ?_⟩
      refine own_sD X20 hx hZ eh20 Ar16'_18 1 rfl (by show 1 < 3; decide) (hb hby d13_76) (fun T21 hp21 X21 eh21 Wr21 Ar21 => ?_)
      have Ar21' : own_A Z hp21 kb .double [.double x0, .double x2, .double u2] := Ar21
      have Ar18'_21 := Ar18'.other Wr21 (Ne.symm n5)
      have Nf21 := Fr.snoc X21 Nf18 n6
      have Z_21 : n0 ≤ hp21.size := by rw [Wr.size Wr21]; exact Z_18
      have K_21 := Keep.wr K_18 Wr21 (Or.inl (List.mem_of_getElem? (i := 0) rfl))
      refine own_blk dec13 seq13 hby hx hZ hown hK hF 5 [] [.int e2] X21 eh21 ?_
      show (own_at Z hp21 sa .int (2 : Int32) (.int e2)) ∧ own_Aft X21 hp21 _ 85 [zA ka, zA sa, zI 0, zI 2, zI 3, zA kb, zA sb, zI 1, zI 3, zI 1, zI 0, zI 2] [.int e2, .int 1, .ref sb]
      refine ⟨(A2.keep K_21 nin_sa).at (2 : Int32) 2 rfl rfl, fun T22 X22 eh22 => ?_⟩
      refine own_sI X22 hx hZ eh22 Ar18'_21 1 rfl (by show 1 < 3; decide) (hb hby d13_85) (fun T23 hp23 X23 eh23 Wr23 Ar23 => ?_)
      have Ar23' : own_A Z hp23 sb .int [.int e0, .int e2, .int v2] := Ar23
      have Ar21'_23 := Ar21'.other Wr23 n5
      have Nf23 := Fr.snoc X23 Nf21 n7
      have Z_23 : n0 ≤ hp23.size := by rw [Wr.size Wr23]; exact Z_21
      have K_23 := Keep.wr K_21 Wr23 (Or.inl (List.mem_of_getElem? (i := 1) rfl))
      refine own_blk dec13 seq13 hby hx hZ hown hK hF 22 [false, true, false] [.double x1] X23 eh23 ?_
      show (¬ (((3 : Int32)).toInt ≤ ((2 : Int32)).toInt)) ∧ (((3 : Int32)).toInt = ((3 : Int32)).toInt) ∧ (¬ (((1 : Int32)).toInt = 0)) ∧ (own_at Z hp23 ka .double (1 : Int32) (.double x1)) ∧ own_Aft X23 hp23 _ 76 [zA ka, zA sa, zI 0, zI 2, zI 3, zA kb, zA sb, zI 2, zI 3, zI 2, zI 1, zI 1] [.double x1, .int 2, .ref kb]
      refine ⟨by decide, by decide, by decide, (A1.keep K_23 nin_ka).at (1 : Int32) 1 rfl rfl, fun T24 X24 eh24 => ?_⟩
      refine own_sD X24 hx hZ eh24 Ar21'_23 2 rfl (by show 2 < 3; decide) (hb hby d13_76) (fun T25 hp25 X25 eh25 Wr25 Ar25 => ?_)
      have Ar25' : own_A Z hp25 kb .double [.double x0, .double x2, .double x1] := Ar25
      have Ar23'_25 := Ar23'.other Wr25 (Ne.symm n5)
      have Nf25 := Fr.snoc X25 Nf23 n6
      have Z_25 : n0 ≤ hp25.size := by rw [Wr.size Wr25]; exact Z_23
      have K_25 := Keep.wr K_23 Wr25 (Or.inl (List.mem_of_getElem? (i := 0) rfl))
      refine own_blk dec13 seq13 hby hx hZ hown hK hF 5 [] [.int e1] X25 eh25 ?_
      show (own_at Z hp25 sa .int (1 : Int32) (.int e1)) ∧ own_Aft X25 hp25 _ 85 [zA ka, zA sa, zI 0, zI 2, zI 3, zA kb, zA sb, zI 2, zI 3, zI 2, zI 1, zI 1] [.int e1, .int 2, .ref sb]
      refine ⟨(A2.keep K_25 nin_sa).at (1 : Int32) 1 rfl rfl, fun T26 X26 eh26 => ?_⟩
      refine own_sI X26 hx hZ eh26 Ar23'_25 2 rfl (by show 2 < 3; decide) (hb hby d13_85) (fun T27 hp27 X27 eh27 Wr27 Ar27 => ?_)
      have Ar27' : own_A Z hp27 sb .int [.int e0, .int e2, .int e1] := Ar27
      have Ar25'_27 := Ar25'.other Wr27 n5
      have Nf27 := Fr.snoc X27 Nf25 n7
      have Z_27 : n0 ≤ hp27.size := by rw [Wr.size Wr27]; exact Z_25
      have K_27 := Keep.wr K_25 Wr27 (Or.inl (List.mem_of_getElem? (i := 1) rfl))
      refine own_blk dec13 seq13 hby hx hZ hown hK hF 5 [true] [] X27 eh27 ?_
      show (((3 : Int32)).toInt ≤ ((3 : Int32)).toInt) ∧ own_Aft X27 hp27 _ 92 [zA ka, zA sa, zI 0, zI 2, zI 3, zA kb, zA sb, zI 2, zI 3, zI 3, zI 1, zI 1] []
      refine ⟨by decide, fun T28 X28 eh28 => ?_⟩
      exact own_retV X28 hx hlk eh28 hret (hb hby d13_92) (by decide) (by decide) (⟨rfl, Nf27, K_27, _, _, _, _, _, _, Ar25'_27, Ar27', Or.inr (Or.inl ⟨rfl, rfl, rfl, rfl, rfl, rfl, q, q'⟩)⟩)
    · skip
      refine own_blk dec13 seq13 hby hx hZ hown hK hF 15 [false, false] [.double x1] X19 eh19 ?_
      show (¬ (0 < (cmpValue (FP.dcmp x1 x2) .g).toInt)) ∧ (¬ (((1 : Int32)).toInt = 0)) ∧ (own_at Z hp18 ka .double (1 : Int32) (.double x1)) ∧ own_Aft X19 hp18 _ 76 [zA ka, zA sa, zI 0, zI 2, zI 3, zA kb, zA sb, zI 2, zI 2, zI 1, zI 1, zI 1] [.double x1, .int 1, .ref kb]
      refine ⟨by have := own_gle (k := .g) Nx1 Nx2 q'; omega, by decide, (A1.keep K_18 nin_ka).at (1 : Int32) 1 rfl rfl, fun T29 X29 eh29 => ?_⟩
      refine own_sD X29 hx hZ eh29 Ar16'_18 1 rfl (by show 1 < 3; decide) (hb hby d13_76) (fun T30 hp30 X30 eh30 Wr30 Ar30 => ?_)
      have Ar30' : own_A Z hp30 kb .double [.double x0, .double x1, .double u2] := Ar30
      have Ar18'_30 := Ar18'.other Wr30 (Ne.symm n5)
      have Nf30 := Fr.snoc X30 Nf18 n6
      have Z_30 : n0 ≤ hp30.size := by rw [Wr.size Wr30]; exact Z_18
      have K_30 := Keep.wr K_18 Wr30 (Or.inl (List.mem_of_getElem? (i := 0) rfl))
      refine own_blk dec13 seq13 hby hx hZ hown hK hF 5 [] [.int e1] X30 eh30 ?_
      show (own_at Z hp30 sa .int (1 : Int32) (.int e1)) ∧ own_Aft X30 hp30 _ 85 [zA ka, zA sa, zI 0, zI 2, zI 3, zA kb, zA sb, zI 2, zI 2, zI 1, zI 1, zI 1] [.int e1, .int 1, .ref sb]
      refine ⟨(A2.keep K_30 nin_sa).at (1 : Int32) 1 rfl rfl, fun T31 X31 eh31 => ?_⟩
      refine own_sI X31 hx hZ eh31 Ar18'_30 1 rfl (by show 1 < 3; decide) (hb hby d13_85) (fun T32 hp32 X32 eh32 Wr32 Ar32 => ?_)
      have Ar32' : own_A Z hp32 sb .int [.int e0, .int e1, .int v2] := Ar32
      have Ar30'_32 := Ar30'.other Wr32 n5
      have Nf32 := Fr.snoc X32 Nf30 n7
      have Z_32 : n0 ≤ hp32.size := by rw [Wr.size Wr32]; exact Z_30
      have K_32 := Keep.wr K_30 Wr32 (Or.inl (List.mem_of_getElem? (i := 1) rfl))
      refine own_blk dec13 seq13 hby hx hZ hown hK hF 23 [false, false, true, true] [.double x2] X32 eh32 ?_
      show (¬ (((3 : Int32)).toInt ≤ ((2 : Int32)).toInt)) ∧ (¬ (((2 : Int32)).toInt = ((3 : Int32)).toInt)) ∧ (((2 : Int32)).toInt ≤ ((2 : Int32)).toInt) ∧ (((0 : Int32)).toInt = 0) ∧ (own_at Z hp32 ka .double (2 : Int32) (.double x2)) ∧ own_Aft X32 hp32 _ 76 [zA ka, zA sa, zI 0, zI 2, zI 3, zA kb, zA sb, zI 2, zI 3, zI 2, zI 0, zI 2] [.double x2, .int 2, .ref kb]
      refine ⟨by decide, by decide, by decide, by decide, (A1.keep K_32 nin_ka).at (2 : Int32) 2 rfl rfl, fun T33 X33 eh33 => ?_⟩
      refine own_sD X33 hx hZ eh33 Ar30'_32 2 rfl (by show 2 < 3; decide) (hb hby d13_76) (fun T34 hp34 X34 eh34 Wr34 Ar34 => ?_)
      have Ar34' : own_A Z hp34 kb .double [.double x0, .double x1, .double x2] := Ar34
      have Ar32'_34 := Ar32'.other Wr34 (Ne.symm n5)
      have Nf34 := Fr.snoc X34 Nf32 n6
      have Z_34 : n0 ≤ hp34.size := by rw [Wr.size Wr34]; exact Z_32
      have K_34 := Keep.wr K_32 Wr34 (Or.inl (List.mem_of_getElem? (i := 0) rfl))
      refine own_blk dec13 seq13 hby hx hZ hown hK hF 5 [] [.int e2] X34 eh34 ?_
      show (own_at Z hp34 sa .int (2 : Int32) (.int e2)) ∧ own_Aft X34 hp34 _ 85 [zA ka, zA sa, zI 0, zI 2, zI 3, zA kb, zA sb, zI 2, zI 3, zI 2, zI 0, zI 2] [.int e2, .int 2, .ref sb]
      refine ⟨(A2.keep K_34 nin_sa).at (2 : Int32) 2 rfl rfl, fun T35 X35 eh35 => ?_⟩
      refine own_sI X35 hx hZ eh35 Ar32'_34 2 rfl (by show 2 < 3; decide) (hb hby d13_85) (fun T36 hp36 X36 eh36 Wr36 Ar36 => ?_)
      have Ar36' : own_A Z hp36 sb .int [.int e0, .int e1, .int e2] := Ar36
      have Ar34'_36 := Ar34'.other Wr36 n5
      have Nf36 := Fr.snoc X36 Nf34 n7
      have Z_36 : n0 ≤ hp36.size := by rw [Wr.size Wr36]; exact Z_34
      have K_36 := Keep.wr K_34 Wr36 (Or.inl (List.mem_of_getElem? (i := 1) rfl))
      refine own_blk dec13 seq13 hby hx hZ hown hK hF 5 [true] [] X36 eh36 ?_
      show (((3 : Int32)).toInt ≤ ((3 : Int32)).toInt) ∧ own_Aft X36 hp36 _ 92 [zA ka, zA sa, zI 0, zI 2, zI 3, zA kb, zA sb, zI 2, zI 3, zI 3, zI 0, zI 2] []
      refine ⟨by decide, fun T37 X37 eh37 => ?_⟩
      exact own_retV X37 hx hlk eh37 hret (hb hby d13_92) (by decide) (by decide) (⟨rfl, Nf36, K_36, _, _, _, _, _, _, Ar34'_36, Ar36', Or.inr (Or.inr ⟨rfl, rfl, rfl, rfl, rfl, rfl, q, q'⟩)⟩)
set_option maxRecDepth 65536 in
set_option maxHeartbeats 40000000 in
theorem rm12_1_2 (l : Launch) (Z : State) (a0 : Array Value) (hw : ∀ d ∈ tables_1, d.before a0 Z = true) (ws : List Jvm.Cond)  (h0 : Heap) (n0 : Nat) (Z0 : n0 ≤ h0.size)  :
    own_MF l (⟨"java/lang/Math", "min", "(JJ)J"⟩ : MethodName) jdk_29_method_70_code 4 (some .long) ws ({ frames := 0, cells := 0, slots := 0, locals := 0 } : Room) #[.long 1, .long 2] Z h0 (fun v h L => (v = some (.long 1)) ∧ L = [] ∧ h = h0) := by
  refine own_body pf12 (ls0 := [.val (.long 1), .second, .val (.long 2), .second]) (fun m => by first | (simp [entryFrame, mkF, argsToLocals, Value.category, maxLocals]; done) | rfl) ?_
  intro p e s m below meth c T0 hx hby hml hown hnm hlk hret hZ X0 eh0
  have hK := hKt12 hw; have hF := hFt12 hw
  have N0 := Fr.nil n0
  refine own_blk dec12 seq12 hby hx hZ hown hK hF 6 [false] [] X0 eh0 ?_
  show (¬ (0 < (Jvm.Free.XT.cmpL (1 : Int64) (2 : Int64)).toInt)) ∧ own_Aft X0 h0 _ 11 [zL 1, zS, zL 2, zS] [.long 1]
  refine ⟨by decide, fun T1 X1 eh1 => ?_⟩
  exact own_ret X1 hx hlk eh1 hret (by first | rfl | decide) (Or.inr (Or.inl ⟨rfl, rfl, _, rfl⟩)) (hb hby d12_11) (by decide) (by decide) (⟨rfl, rfl, rfl⟩)
set_option maxRecDepth 65536 in
set_option maxHeartbeats 40000000 in
theorem rm12_2_2 (l : Launch) (Z : State) (a0 : Array Value) (hw : ∀ d ∈ tables_1, d.before a0 Z = true) (ws : List Jvm.Cond)  (h0 : Heap) (n0 : Nat) (Z0 : n0 ≤ h0.size)  :
    own_MF l (⟨"java/lang/Math", "min", "(JJ)J"⟩ : MethodName) jdk_29_method_70_code 4 (some .long) ws ({ frames := 0, cells := 0, slots := 0, locals := 0 } : Room) #[.long 2, .long 2] Z h0 (fun v h L => (v = some (.long 2)) ∧ L = [] ∧ h = h0) := by
  refine own_body pf12 (ls0 := [.val (.long 2), .second, .val (.long 2), .second]) (fun m => by first | (simp [entryFrame, mkF, argsToLocals, Value.category, maxLocals]; done) | rfl) ?_
  intro p e s m below meth c T0 hx hby hml hown hnm hlk hret hZ X0 eh0
  have hK := hKt12 hw; have hF := hFt12 hw
  have N0 := Fr.nil n0
  refine own_blk dec12 seq12 hby hx hZ hown hK hF 6 [false] [] X0 eh0 ?_
  show (¬ (0 < (Jvm.Free.XT.cmpL (2 : Int64) (2 : Int64)).toInt)) ∧ own_Aft X0 h0 _ 11 [zL 2, zS, zL 2, zS] [.long 2]
  refine ⟨by decide, fun T1 X1 eh1 => ?_⟩
  exact own_ret X1 hx hlk eh1 hret (by first | rfl | decide) (Or.inr (Or.inl ⟨rfl, rfl, _, rfl⟩)) (hb hby d12_11) (by decide) (by decide) (⟨rfl, rfl, rfl⟩)
set_option maxRecDepth 65536 in
set_option maxHeartbeats 40000000 in
theorem rm12_1_3 (l : Launch) (Z : State) (a0 : Array Value) (hw : ∀ d ∈ tables_1, d.before a0 Z = true) (ws : List Jvm.Cond)  (h0 : Heap) (n0 : Nat) (Z0 : n0 ≤ h0.size)  :
    own_MF l (⟨"java/lang/Math", "min", "(JJ)J"⟩ : MethodName) jdk_29_method_70_code 4 (some .long) ws ({ frames := 0, cells := 0, slots := 0, locals := 0 } : Room) #[.long 1, .long 3] Z h0 (fun v h L => (v = some (.long 1)) ∧ L = [] ∧ h = h0) := by
  refine own_body pf12 (ls0 := [.val (.long 1), .second, .val (.long 3), .second]) (fun m => by first | (simp [entryFrame, mkF, argsToLocals, Value.category, maxLocals]; done) | rfl) ?_
  intro p e s m below meth c T0 hx hby hml hown hnm hlk hret hZ X0 eh0
  have hK := hKt12 hw; have hF := hFt12 hw
  have N0 := Fr.nil n0
  refine own_blk dec12 seq12 hby hx hZ hown hK hF 6 [false] [] X0 eh0 ?_
  show (¬ (0 < (Jvm.Free.XT.cmpL (1 : Int64) (3 : Int64)).toInt)) ∧ own_Aft X0 h0 _ 11 [zL 1, zS, zL 3, zS] [.long 1]
  refine ⟨by decide, fun T1 X1 eh1 => ?_⟩
  exact own_ret X1 hx hlk eh1 hret (by first | rfl | decide) (Or.inr (Or.inl ⟨rfl, rfl, _, rfl⟩)) (hb hby d12_11) (by decide) (by decide) (⟨rfl, rfl, rfl⟩)
set_option maxRecDepth 65536 in
set_option maxHeartbeats 40000000 in
theorem rm12_2_3 (l : Launch) (Z : State) (a0 : Array Value) (hw : ∀ d ∈ tables_1, d.before a0 Z = true) (ws : List Jvm.Cond)  (h0 : Heap) (n0 : Nat) (Z0 : n0 ≤ h0.size)  :
    own_MF l (⟨"java/lang/Math", "min", "(JJ)J"⟩ : MethodName) jdk_29_method_70_code 4 (some .long) ws ({ frames := 0, cells := 0, slots := 0, locals := 0 } : Room) #[.long 2, .long 3] Z h0 (fun v h L => (v = some (.long 2)) ∧ L = [] ∧ h = h0) := by
  refine own_body pf12 (ls0 := [.val (.long 2), .second, .val (.long 3), .second]) (fun m => by first | (simp [entryFrame, mkF, argsToLocals, Value.category, maxLocals]; done) | rfl) ?_
  intro p e s m below meth c T0 hx hby hml hown hnm hlk hret hZ X0 eh0
  have hK := hKt12 hw; have hF := hFt12 hw
  have N0 := Fr.nil n0
  refine own_blk dec12 seq12 hby hx hZ hown hK hF 6 [false] [] X0 eh0 ?_
  show (¬ (0 < (Jvm.Free.XT.cmpL (2 : Int64) (3 : Int64)).toInt)) ∧ own_Aft X0 h0 _ 11 [zL 2, zS, zL 3, zS] [.long 2]
  refine ⟨by decide, fun T1 X1 eh1 => ?_⟩
  exact own_ret X1 hx hlk eh1 hret (by first | rfl | decide) (Or.inr (Or.inl ⟨rfl, rfl, _, rfl⟩)) (hb hby d12_11) (by decide) (by decide) (⟨rfl, rfl, rfl⟩)
set_option maxRecDepth 65536 in
set_option maxHeartbeats 40000000 in
theorem rm12_3_3 (l : Launch) (Z : State) (a0 : Array Value) (hw : ∀ d ∈ tables_1, d.before a0 Z = true) (ws : List Jvm.Cond)  (h0 : Heap) (n0 : Nat) (Z0 : n0 ≤ h0.size)  :
    own_MF l (⟨"java/lang/Math", "min", "(JJ)J"⟩ : MethodName) jdk_29_method_70_code 4 (some .long) ws ({ frames := 0, cells := 0, slots := 0, locals := 0 } : Room) #[.long 3, .long 3] Z h0 (fun v h L => (v = some (.long 3)) ∧ L = [] ∧ h = h0) := by
  refine own_body pf12 (ls0 := [.val (.long 3), .second, .val (.long 3), .second]) (fun m => by first | (simp [entryFrame, mkF, argsToLocals, Value.category, maxLocals]; done) | rfl) ?_
  intro p e s m below meth c T0 hx hby hml hown hnm hlk hret hZ X0 eh0
  have hK := hKt12 hw; have hF := hFt12 hw
  have N0 := Fr.nil n0
  refine own_blk dec12 seq12 hby hx hZ hown hK hF 6 [false] [] X0 eh0 ?_
  show (¬ (0 < (Jvm.Free.XT.cmpL (3 : Int64) (3 : Int64)).toInt)) ∧ own_Aft X0 h0 _ 11 [zL 3, zS, zL 3, zS] [.long 3]
  refine ⟨by decide, fun T1 X1 eh1 => ?_⟩
  exact own_ret X1 hx hlk eh1 hret (by first | rfl | decide) (Or.inr (Or.inl ⟨rfl, rfl, _, rfl⟩)) (hb hby d12_11) (by decide) (by decide) (⟨rfl, rfl, rfl⟩)
set_option maxRecDepth 65536 in
set_option maxHeartbeats 40000000 in
theorem rm12_4_3 (l : Launch) (Z : State) (a0 : Array Value) (hw : ∀ d ∈ tables_1, d.before a0 Z = true) (ws : List Jvm.Cond)  (h0 : Heap) (n0 : Nat) (Z0 : n0 ≤ h0.size)  :
    own_MF l (⟨"java/lang/Math", "min", "(JJ)J"⟩ : MethodName) jdk_29_method_70_code 4 (some .long) ws ({ frames := 0, cells := 0, slots := 0, locals := 0 } : Room) #[.long 4, .long 3] Z h0 (fun v h L => (v = some (.long 3)) ∧ L = [] ∧ h = h0) := by
  refine own_body pf12 (ls0 := [.val (.long 4), .second, .val (.long 3), .second]) (fun m => by first | (simp [entryFrame, mkF, argsToLocals, Value.category, maxLocals]; done) | rfl) ?_
  intro p e s m below meth c T0 hx hby hml hown hnm hlk hret hZ X0 eh0
  have hK := hKt12 hw; have hF := hFt12 hw
  have N0 := Fr.nil n0
  refine own_blk dec12 seq12 hby hx hZ hown hK hF 5 [true] [] X0 eh0 ?_
  show (0 < (Jvm.Free.XT.cmpL (4 : Int64) (3 : Int64)).toInt) ∧ own_Aft X0 h0 _ 11 [zL 4, zS, zL 3, zS] [.long 3]
  refine ⟨by decide, fun T1 X1 eh1 => ?_⟩
  exact own_ret X1 hx hlk eh1 hret (by first | rfl | decide) (Or.inr (Or.inl ⟨rfl, rfl, _, rfl⟩)) (hb hby d12_11) (by decide) (by decide) (⟨rfl, rfl, rfl⟩)
def own_perm3 (e0 e1 e2 f0 f1 f2 : Int32) (C0 C1 C2 D0 D1 D2 : Int) : Prop := (f0 = e0 ∧ f1 = e1 ∧ f2 = e2 ∧ D0 = C0 ∧ D1 = C1 ∧ D2 = C2) ∨ (f0 = e0 ∧ f1 = e2 ∧ f2 = e1 ∧ D0 = C0 ∧ D1 = C2 ∧ D2 = C1) ∨ (f0 = e1 ∧ f1 = e0 ∧ f2 = e2 ∧ D0 = C1 ∧ D1 = C0 ∧ D2 = C2) ∨ (f0 = e1 ∧ f1 = e2 ∧ f2 = e0 ∧ D0 = C1 ∧ D1 = C2 ∧ D2 = C0) ∨ (f0 = e2 ∧ f1 = e0 ∧ f2 = e1 ∧ D0 = C2 ∧ D1 = C0 ∧ D2 = C1) ∨ (f0 = e2 ∧ f1 = e1 ∧ f2 = e0 ∧ D0 = C2 ∧ D1 = C1 ∧ D2 = C0)
def own_perm2 (e0 e1 f0 f1 : Int32) (C0 C1 D0 D1 : Int) : Prop := (f0 = e0 ∧ f1 = e1 ∧ D0 = C0 ∧ D1 = C1) ∨ (f0 = e1 ∧ f1 = e0 ∧ D0 = C1 ∧ D1 = C0)
set_option maxRecDepth 65536 in
set_option maxHeartbeats 40000000 in
theorem rm11_2 (l : Launch) (Z : State) (a0 : Array Value) (hw : ∀ d ∈ tables_1, d.before a0 Z = true) (ws : List Jvm.Cond) (a el po bo fi en ma we tu sk ss mk ms : Addr) (e0 e1 e2 nb tc : Int32) (Lp Lw : List Value) (x0 x1 : UInt64) (C0 C1 : Int) (h0 : Heap) (n0 : Nat) (Z0 : n0 ≤ h0.size) (EX : Exa Z h0 a cP) (CH : own_CH n0 a el po bo fi en ma we tu sk ss mk ms) (PF : own_PF Z h0 a el po bo fi en ma we tu sk ss mk ms nb tc) (Ae : own_A Z h0 el .int [.int e0, .int e1, .int e2]) (Ap : own_A Z h0 po .int Lp) (hLp : Lp.length = 3) (Aw : own_A Z h0 we .double Lw) (Ak : own_A Z h0 sk .double [.double 0, .double 0, .double 0]) (As : own_A Z h0 ss .int [.int 0, .int 0, .int 0]) (Bk : own_A Z h0 mk .double [.double 0, .double 0, .double 0]) (Bs : own_A Z h0 ms .int [.int 0, .int 0, .int 0]) (r00 : 0 ≤ e0.toInt) (r01 : e0.toInt < 3) (r10 : 0 ≤ e1.toInt) (r11 : e1.toInt < 3) (r20 : 0 ≤ e2.toInt) (r21 : e2.toInt < 3) (hw0 : Lw[e0.toInt.toNat]? = some (.double x0)) (hD0 : own_D 0 C0 x0) (bC0 : -3000 ≤ C0 ∧ C0 ≤ 3000) (hw1 : Lw[e1.toInt.toNat]? = some (.double x1)) (hD1 : own_D 0 C1 x1) (bC1 : -3000 ≤ C1 ∧ C1 ≤ 3000) :
    own_MF l (⟨cP, "sortByWeight", "(II)V"⟩ : MethodName) prog_12_method_13_code 14 none ws ({ frames := 1, cells := 0, slots := 0, locals := 40 } : Room) #[.ref a, .int 0, .int 2] Z h0 (fun v h L => v = none ∧ Fr n0 L ∧ Keep h0 h [el, po, sk, ss, mk, ms] ∧ ∃ (f0 f1 : Int32) (y0 y1 : UInt64) (D0 D1 : Int), own_A Z h el .int [.int f0, .int f1, .int e2] ∧ (Lw[f0.toInt.toNat]? = some (.double y0) ∧ own_D 0 D0 y0 ∧ (-3000 ≤ D0 ∧ D0 ≤ 3000) ∧ Lw[f1.toInt.toNat]? = some (.double y1) ∧ own_D 0 D1 y1 ∧ (-3000 ≤ D1 ∧ D1 ≤ 3000)) ∧ (0 ≤ f0.toInt ∧ f0.toInt < 3 ∧ 0 ≤ f1.toInt ∧ f1.toInt < 3) ∧ (D0 ≤ D1) ∧ own_perm2 e0 e1 f0 f1 C0 C1 D0 D1) := by
  refine own_body pf11 (ls0 := [.val (.ref a), .val (.int 0), .val (.int 2), .unset, .unset, .unset, .unset, .unset, .unset, .unset, .unset, .unset, .unset, .unset]) (fun m => by first | (simp [entryFrame, mkF, argsToLocals, Value.category, maxLocals]; done) | rfl) ?_
  intro p e s m below meth c T0 hx hby hml hown hnm hlk hret hZ X0 eh0
  have hK := hKt1 hw; have hF := hFt1 hw
  have N0 := Fr.nil n0
  obtain ⟨c0_, c1_, c2_, c3_, c4_, c5_, c6_, c7_, c8_, c9_, c10_, c11_, c12_⟩ := CH
  have l0 : (0 : Int32).toInt = 0 := rfl
  have l1 : (1 : Int32).toInt = 1 := rfl
  have l2 : (2 : Int32).toInt = 2 := rfl
  have l3 : (3 : Int32).toInt = 3 := rfl
  have nin_a : a ∉ [el, po, sk, ss, mk, ms] := (own_nin (by simp only [own_out, and_true]; omega))
  have nin_we : we ∉ [el, po, sk, ss, mk, ms] := (own_nin (by simp only [own_out, and_true]; omega))
  have K0 := Keep.refl h0 [el, po, sk, ss, mk, ms]
  refine own_blk dec11 seq11 hby hx hZ hown hK hF 24 [false] [.ref sk, .ref ss, .ref mk, .ref ms] X0 eh0 ?_
  show (Fld Z h0 a cP "sortKeys" "[D" (.ref sk)) ∧ (Fld Z h0 a cP "sortStates" "[I" (.ref ss)) ∧ (Fld Z h0 a cP "mergedKeys" "[D" (.ref mk)) ∧ (Fld Z h0 a cP "mergedStates" "[I" (.ref ms)) ∧ (¬ (((2 : Int32)).toInt ≤ ((0 : Int32)).toInt)) ∧ own_Aft X0 h0 _ 42 [zA a, zI 0, zI 2, zI 2, zA sk, zA ss, zA mk, zA ms, zI 0, zU, zU, zU, zU, zU] [.ref a, .int 0, .ref ss]
  refine ⟨PF.2.2.2.2.2.2.2.2.1, PF.2.2.2.2.2.2.2.2.2.1, PF.2.2.2.2.2.2.2.2.2.2.1, PF.2.2.2.2.2.2.2.2.2.2.2.1, by decide, fun T1 X1 eh1 => ?_⟩
  refine own_blk dec11 seq11 hby hx hZ hown hK hF 5 [] [.ref el, .int e0] X1 eh1 ?_
  show (Fld Z h0 a cP "elements" "[I" (.ref el)) ∧ (own_at Z h0 el .int (0 : Int32) (.int e0)) ∧ own_Aft X1 h0 _ 50 [zA a, zI 0, zI 2, zI 2, zA sk, zA ss, zA mk, zA ms, zI 0, zU, zU, zU, zU, zU] [.int e0, .int 0, .ref ss]
  refine ⟨PF.1, Ae.at (0 : Int32) 0 rfl rfl, fun T2 X2 eh2 => ?_⟩
  refine own_sI X2 hx hZ eh2 As 0 rfl (by show 0 < 3; decide) (hb hby d11_50) (fun T3 hp3 X3 eh3 Wr3 Ar3 => ?_)
  have Ar3' : own_A Z hp3 ss .int [.int e0, .int 0, .int 0] := Ar3
  have Ae_3 := Ae.other Wr3 (own_ne (by omega))
  have Ap_3 := Ap.other Wr3 (own_ne (by omega))
  have Ak_3 := Ak.other Wr3 (own_ne (by omega))
  have Bk_3 := Bk.other Wr3 (own_ne (by omega))
  have Bs_3 := Bs.other Wr3 (own_ne (by omega))
  have Nf3 := Fr.snoc X3 N0 (by omega)
  have Z_3 : n0 ≤ hp3.size := by rw [Wr.size Wr3]; exact Z0
  have K_3 := Keep.wr K0 Wr3 (Or.inl (List.mem_of_getElem? (i := 3) rfl))
  refine own_blk dec11 seq11 hby hx hZ hown hK hF 8 [] [.ref we, .int e0, .double x0] X3 eh3 ?_
  show (Fld Z hp3 a cP "weight" "[D" (.ref we)) ∧ (own_at Z hp3 ss .int (0 : Int32) (.int e0)) ∧ (own_at Z hp3 we .double e0 (.double x0)) ∧ own_Aft X3 hp3 _ 65 [zA a, zI 0, zI 2, zI 2, zA sk, zA ss, zA mk, zA ms, zI 0, zU, zU, zU, zU, zU] [.double x0, .int 0, .ref sk]
  refine ⟨(own_PF.keep PF K_3 nin_a).2.2.2.2.2.2.1, Ar3'.at (0 : Int32) 0 rfl rfl, (Aw.keep K_3 nin_we).at e0 e0.toInt.toNat (by omega) hw0, fun T4 X4 eh4 => ?_⟩
  refine own_sD X4 hx hZ eh4 Ak_3 0 rfl (by show 0 < 3; decide) (hb hby d11_65) (fun T5 hp5 X5 eh5 Wr5 Ar5 => ?_)
  have Ar5' : own_A Z hp5 sk .double [.double x0, .double 0, .double 0] := Ar5
  have Ae_5 := Ae_3.other Wr5 (own_ne (by omega))
  have Ap_5 := Ap_3.other Wr5 (own_ne (by omega))
  have Ar3'_5 := Ar3'.other Wr5 (own_ne (by omega))
  have Bk_5 := Bk_3.other Wr5 (own_ne (by omega))
  have Bs_5 := Bs_3.other Wr5 (own_ne (by omega))
  have Nf5 := Fr.snoc X5 Nf3 (by omega)
  have Z_5 : n0 ≤ hp5.size := by rw [Wr.size Wr5]; exact Z_3
  have K_5 := Keep.wr K_3 Wr5 (Or.inl (List.mem_of_getElem? (i := 2) rfl))
  refine own_blk dec11 seq11 hby hx hZ hown hK hF 13 [false] [.ref el, .int e1] X5 eh5 ?_
  show (¬ (((2 : Int32)).toInt ≤ ((1 : Int32)).toInt)) ∧ (Fld Z hp5 a cP "elements" "[I" (.ref el)) ∧ (own_at Z hp5 el .int (1 : Int32) (.int e1)) ∧ own_Aft X5 hp5 _ 50 [zA a, zI 0, zI 2, zI 2, zA sk, zA ss, zA mk, zA ms, zI 1, zU, zU, zU, zU, zU] [.int e1, .int 1, .ref ss]
  refine ⟨by decide, (own_PF.keep PF K_5 nin_a).1, Ae_5.at (1 : Int32) 1 rfl rfl, fun T6 X6 eh6 => ?_⟩
  refine own_sI X6 hx hZ eh6 Ar3'_5 1 rfl (by show 1 < 3; decide) (hb hby d11_50) (fun T7 hp7 X7 eh7 Wr7 Ar7 => ?_)
  have Ar7' : own_A Z hp7 ss .int [.int e0, .int e1, .int 0] := Ar7
  have Ae_7 := Ae_5.other Wr7 (own_ne (by omega))
  have Ap_7 := Ap_5.other Wr7 (own_ne (by omega))
  have Ar5'_7 := Ar5'.other Wr7 (own_ne (by omega))
  have Bk_7 := Bk_5.other Wr7 (own_ne (by omega))
  have Bs_7 := Bs_5.other Wr7 (own_ne (by omega))
  have Nf7 := Fr.snoc X7 Nf5 (by omega)
  have Z_7 : n0 ≤ hp7.size := by rw [Wr.size Wr7]; exact Z_5
  have K_7 := Keep.wr K_5 Wr7 (Or.inl (List.mem_of_getElem? (i := 3) rfl))
  refine own_blk dec11 seq11 hby hx hZ hown hK hF 8 [] [.ref we, .int e1, .double x1] X7 eh7 ?_
  show (Fld Z hp7 a cP "weight" "[D" (.ref we)) ∧ (own_at Z hp7 ss .int (1 : Int32) (.int e1)) ∧ (own_at Z hp7 we .double e1 (.double x1)) ∧ own_Aft X7 hp7 _ 65 [zA a, zI 0, zI 2, zI 2, zA sk, zA ss, zA mk, zA ms, zI 1, zU, zU, zU, zU, zU] [.double x1, .int 1, .ref sk]
  refine ⟨(own_PF.keep PF K_7 nin_a).2.2.2.2.2.2.1, Ar7'.at (1 : Int32) 1 rfl rfl, (Aw.keep K_7 nin_we).at e1 e1.toInt.toNat (by omega) hw1, fun T8 X8 eh8 => ?_⟩
  refine own_sD X8 hx hZ eh8 Ar5'_7 1 rfl (by show 1 < 3; decide) (hb hby d11_65) (fun T9 hp9 X9 eh9 Wr9 Ar9 => ?_)
  have Ar9' : own_A Z hp9 sk .double [.double x0, .double x1, .double 0] := Ar9
  have Ae_9 := Ae_7.other Wr9 (own_ne (by omega))
  have Ap_9 := Ap_7.other Wr9 (own_ne (by omega))
  have Ar7'_9 := Ar7'.other Wr9 (own_ne (by omega))
  have Bk_9 := Bk_7.other Wr9 (own_ne (by omega))
  have Bs_9 := Bs_7.other Wr9 (own_ne (by omega))
  have Nf9 := Fr.snoc X9 Nf7 (by omega)
  have Z_9 : n0 ≤ hp9.size := by rw [Wr.size Wr9]; exact Z_7
  have K_9 := Keep.wr K_7 Wr9 (Or.inl (List.mem_of_getElem? (i := 2) rfl))
  refine own_blk dec11 seq11 hby hx hZ hown hK hF 24 [true, false, false] [] X9 eh9 ?_
  show (((2 : Int32)).toInt ≤ ((2 : Int32)).toInt) ∧ (¬ (0 ≤ (Jvm.Free.XT.cmpL (1 : Int64) (2 : Int64)).toInt)) ∧ (¬ (0 ≤ (Jvm.Free.XT.cmpL (0 : Int64) (2 : Int64)).toInt)) ∧ own_Aft X9 hp9 _ 101 [zA a, zI 0, zI 2, zI 2, zA sk, zA ss, zA mk, zA ms, zL 1, zS, zL 0, zS, zU, zU] [.long 2, .long ((0 : Int64) + (1 : Int64))]
  refine ⟨by decide, by decide, by decide, fun T10 X10 eh10 => ?_⟩
  refine own_callSP X10 hx hZ hown (hw _ (wm 82 rfl)) (hw _ (wm 83 rfl)) (hw _ (wm 69 rfl)) (hw _ (wm 84 rfl)) (by decide) eh10 [.long ((0 : Int64) + (1 : Int64)), .long 2] pd12 rfl (fr := 0) (lo := 0) (rm12_1_2 l Z a0 hw [] hp9 n0 Z_9) (by rw [hml]; rfl) 0 rfl (Nat.le_of_eq rfl) (hb hby d11_101) (by decide) (by decide) (by decide) (by decide) (fun T11 rv11 X11 eh11 qc11 => ?_)
  obtain rfl := qc11
  show own_Go p.tables e below _ (T11.setTop (mkF m 104 (Array.mk [zA a, zI 0, zI 2, zI 2, zA sk, zA ss, zA mk, zA ms, zL 1, zS, zL 0, zS, zU, zU]) [.long 1]))
  refine own_blk dec11 seq11 hby hx hZ hown hK hF 9 [] [] X11 eh11 ?_
  show own_Aft X11 hp9 _ 118 [zA a, zI 0, zI 2, zI 2, zA sk, zA ss, zA mk, zA ms, zL 1, zS, zL 0, zS, zI ((1 : Int64).toInt32), zU] [.long 2, .long ((0 : Int64) + (2 : Int64))]
  refine fun T12 X12 eh12 => ?_
  refine own_callSP X12 hx hZ hown (hw _ (wm 82 rfl)) (hw _ (wm 83 rfl)) (hw _ (wm 69 rfl)) (hw _ (wm 84 rfl)) (by decide) eh12 [.long ((0 : Int64) + (2 : Int64)), .long 2] pd12 rfl (fr := 0) (lo := 0) (rm12_2_2 l Z a0 hw [] hp9 n0 Z_9) (by rw [hml]; rfl) 0 rfl (Nat.le_of_eq rfl) (hb hby d11_118) (by decide) (by decide) (by decide) (by decide) (fun T13 rv13 X13 eh13 qc13 => ?_)
  obtain rfl := qc13
  show own_Go p.tables e below _ (T13.setTop (mkF m 121 (Array.mk [zA a, zI 0, zI 2, zI 2, zA sk, zA ss, zA mk, zA ms, zL 1, zS, zL 0, zS, zI ((1 : Int64).toInt32), zU]) [.long 2]))
  refine own_blk dec11 seq11 hby hx hZ hown hK hF 10 [] [] X13 eh13 ?_
  show own_Aft X13 hp9 _ 139 [zA a, zI 0, zI 2, zI 2, zA sk, zA ss, zA mk, zA ms, zL 1, zS, zL 0, zS, zI ((1 : Int64).toInt32), zI ((2 : Int64).toInt32)] [.ref ms, .ref mk, .int ((2 : Int64).toInt32), .int ((1 : Int64).toInt32), .int ((0 : Int64).toInt32), .ref ss, .ref sk]
  refine fun T14 X14 eh14 => ?_
  refine own_callS X14 hx hZ hown (hw _ (wm 86 rfl)) (hw _ (wm 87 rfl)) (hw _ (wm 3 rfl)) (hw _ (wm 88 rfl)) (by decide) eh14 [.ref sk, .ref ss, .int ((0 : Int64).toInt32), .int ((1 : Int64).toInt32), .int ((2 : Int64).toInt32), .ref mk, .ref ms] pd13 rfl (rm := ({ frames := 0, cells := 0, slots := 0, locals := 0 } : Room)) (rm13_1 l Z a0 hw [] sk ss mk ms e0 e1 (0 : Int32) (0 : Int32) (0 : Int32) (0 : Int32) x0 x1 0 0 0 0 hp9 n0 Z_9 (own_ne (by omega)) (own_ne (by omega)) (own_ne (by omega)) (own_ne (by omega)) (own_ne (by omega)) (by omega) (by omega) Ar9' Ar7'_9 Bk_9 Bs_9 hD0.num hD1.num) (by rw [hml]; rfl) 0 rfl (Nat.le_of_eq rfl) (hb hby d11_139) (by decide) (by decide) (by decide) (by decide) (fun T15 rv15 Lc15 X15 qc15 => ?_)
  obtain ⟨rfl, Mm1, KKm1, k0, k1, s0, s1, R1, R2, hR⟩ := qc15
  have Aem1 := Ae_9.keep KKm1 (own_nin (by simp only [own_out, and_true]; omega))
  have Apm1 := Ap_9.keep KKm1 (own_nin (by simp only [own_out, and_true]; omega))
  have Ar9'm1 := Ar9'.keep KKm1 (own_nin (by simp only [own_out, and_true]; omega))
  have Ar7'm1 := Ar7'_9.keep KKm1 (own_nin (by simp only [own_out, and_true]; omega))
  have Nm1 := Fr.app Nf9 Mm1
  have ZZm1 := Nat.le_trans Z_9 KKm1.1
  have KLm1 := Keep.trans K_9 KKm1 (fun x hx => Or.inl (by simp only [List.mem_cons, List.not_mem_nil, or_false] at hx ⊢; rcases hx with rfl | rfl <;> simp))
  show own_Go p.tables e below _ (T15.setTop (mkF m 142 (Array.mk [zA a, zI 0, zI 2, zI 2, zA sk, zA ss, zA mk, zA ms, zL 1, zS, zL 0, zS, zI ((1 : Int64).toInt32), zI ((2 : Int64).toInt32)]) []))
  refine own_blk dec11 seq11 hby hx hZ hown hK hF 24 [true] [] X15 rfl ?_
  show (0 ≤ (Jvm.Free.XT.cmpL ((0 : Int64) + (2 : Int64)) (2 : Int64)).toInt) ∧ own_Aft X15 T15.heap _ 180 [zA a, zI 0, zI 2, zI 2, zA mk, zA ms, zA sk, zA ss, zL 1, zS, zA mk, zA ms, zI ((1 : Int64).toInt32), zI ((2 : Int64).toInt32)] []
  refine ⟨by decide, fun T16 X16 eh16 => ?_⟩
  refine own_blk dec11 seq11 hby hx hZ hown hK hF 10 [true] [] X16 eh16 ?_
  show (0 ≤ (Jvm.Free.XT.cmpL (2 : Int64) (2 : Int64)).toInt) ∧ own_Aft X16 T15.heap _ 191 [zA a, zI 0, zI 2, zI 2, zA mk, zA ms, zA sk, zA ss, zL 2, zS, zA mk, zA ms, zI ((1 : Int64).toInt32), zI ((2 : Int64).toInt32)] []
  refine ⟨by decide, fun T17 X17 eh17 => ?_⟩
  obtain ⟨D0, D1, z0, z1, z2, z3, z4, z5, z6, z7, z8, z9, z10, hP⟩ : ∃ D0 D1 : Int, Lw[s0.toInt.toNat]? = some (.double k0) ∧ own_D 0 D0 k0 ∧ (-3000 ≤ D0 ∧ D0 ≤ 3000) ∧ Lw[s1.toInt.toNat]? = some (.double k1) ∧ own_D 0 D1 k1 ∧ (-3000 ≤ D1 ∧ D1 ≤ 3000) ∧ 0 ≤ s0.toInt ∧ s0.toInt < 3 ∧ 0 ≤ s1.toInt ∧ s1.toInt < 3 ∧ D0 ≤ D1 ∧ own_perm2 e0 e1 s0 s1 C0 C1 D0 D1 := by
    rcases hR with ⟨rfl, rfl, rfl, rfl, q⟩ | ⟨rfl, rfl, rfl, rfl, q⟩
    · exact ⟨C0, C1, hw0, hD0, bC0, hw1, hD1, bC1, r00, r01, r10, r11, (own_Dle hD0 hD1).mp q, Or.inl ⟨rfl, rfl, rfl, rfl⟩⟩
    · exact ⟨C1, C0, hw1, hD1, bC1, hw0, hD0, bC0, r10, r11, r00, r01, Int.le_of_lt ((own_Dlt hD1 hD0).mp q), Or.inr ⟨rfl, rfl, rfl, rfl⟩⟩
  refine own_blk dec11 seq11 hby hx hZ hown hK hF 13 [false] [.ref el, .int s0] X17 eh17 ?_
  show (¬ (((2 : Int32)).toInt ≤ ((0 : Int32)).toInt)) ∧ (Fld Z T15.heap a cP "elements" "[I" (.ref el)) ∧ (own_at Z T15.heap ms .int (0 : Int32) (.int s0)) ∧ own_Aft X17 T15.heap _ 213 [zA a, zI 0, zI 2, zI 2, zA mk, zA ms, zA sk, zA ss, zI 0, zU, zA mk, zA ms, zI ((1 : Int64).toInt32), zI ((2 : Int64).toInt32)] [.int s0, .int 0, .ref el]
  refine ⟨by decide, (own_PF.keep PF KLm1 nin_a).1, R2.at (0 : Int32) 0 rfl rfl, fun T18 X18 eh18 => ?_⟩
  refine own_sI X18 hx hZ eh18 Aem1 0 rfl (by show 0 < 3; decide) (hb hby d11_213) (fun T19 hp19 X19 eh19 Wr19 Ar19 => ?_)
  have Ar19' : own_A Z hp19 el .int [.int s0, .int e1, .int e2] := Ar19
  have Apm1_19 := Apm1.other Wr19 (own_ne (by omega))
  have Ar9'm1_19 := Ar9'm1.other Wr19 (own_ne (by omega))
  have Ar7'm1_19 := Ar7'm1.other Wr19 (own_ne (by omega))
  have R1_19 := R1.other Wr19 (own_ne (by omega))
  have R2_19 := R2.other Wr19 (own_ne (by omega))
  have Nf19 := Fr.snoc X19 Nm1 (by omega)
  have Z_19 : n0 ≤ hp19.size := by rw [Wr.size Wr19]; exact ZZm1
  have K_19 := Keep.wr KLm1 Wr19 (Or.inl (List.mem_of_getElem? (i := 0) rfl))
  refine own_blk dec11 seq11 hby hx hZ hown hK hF 8 [] [.ref po, .int s0] X19 eh19 ?_
  show (Fld Z hp19 a cP "position" "[I" (.ref po)) ∧ (own_at Z hp19 ms .int (0 : Int32) (.int s0)) ∧ own_Aft X19 hp19 _ 227 [zA a, zI 0, zI 2, zI 2, zA mk, zA ms, zA sk, zA ss, zI 0, zU, zA mk, zA ms, zI ((1 : Int64).toInt32), zI ((2 : Int64).toInt32)] [.int 0, .int s0, .ref po]
  refine ⟨(own_PF.keep PF K_19 nin_a).2.1, R2_19.at (0 : Int32) 0 rfl rfl, fun T20 X20 eh20 => ?_⟩
  refine own_sI X20 hx hZ eh20 Apm1_19 s0.toInt.toNat (by omega) (by omega) (hb hby d11_227) (fun T21 hp21 X21 eh21 Wr21 Ar21 => ?_)
  have Ar19'_21 := Ar19'.other Wr21 (own_ne (by omega))
  have Ar9'm1_21 := Ar9'm1_19.other Wr21 (own_ne (by omega))
  have Ar7'm1_21 := Ar7'm1_19.other Wr21 (own_ne (by omega))
  have R1_21 := R1_19.other Wr21 (own_ne (by omega))
  have R2_21 := R2_19.other Wr21 (own_ne (by omega))
  have Nf21 := Fr.snoc X21 Nf19 (by omega)
  have Z_21 : n0 ≤ hp21.size := by rw [Wr.size Wr21]; exact Z_19
  have K_21 := Keep.wr K_19 Wr21 (Or.inl (List.mem_of_getElem? (i := 1) rfl))
  refine own_blk dec11 seq11 hby hx hZ hown hK hF 13 [false] [.ref el, .int s1] X21 eh21 ?_
  show (¬ (((2 : Int32)).toInt ≤ ((1 : Int32)).toInt)) ∧ (Fld Z hp21 a cP "elements" "[I" (.ref el)) ∧ (own_at Z hp21 ms .int (1 : Int32) (.int s1)) ∧ own_Aft X21 hp21 _ 213 [zA a, zI 0, zI 2, zI 2, zA mk, zA ms, zA sk, zA ss, zI 1, zU, zA mk, zA ms, zI ((1 : Int64).toInt32), zI ((2 : Int64).toInt32)] [.int s1, .int 1, .ref el]
  refine ⟨by decide, (own_PF.keep PF K_21 nin_a).1, R2_21.at (1 : Int32) 1 rfl rfl, fun T22 X22 eh22 => ?_⟩
  refine own_sI X22 hx hZ eh22 Ar19'_21 1 rfl (by show 1 < 3; decide) (hb hby d11_213) (fun T23 hp23 X23 eh23 Wr23 Ar23 => ?_)
  have Ar23' : own_A Z hp23 el .int [.int s0, .int s1, .int e2] := Ar23
  have Ar21_23 := Ar21.other Wr23 (own_ne (by omega))
  have Ar9'm1_23 := Ar9'm1_21.other Wr23 (own_ne (by omega))
  have Ar7'm1_23 := Ar7'm1_21.other Wr23 (own_ne (by omega))
  have R1_23 := R1_21.other Wr23 (own_ne (by omega))
  have R2_23 := R2_21.other Wr23 (own_ne (by omega))
  have Nf23 := Fr.snoc X23 Nf21 (by omega)
  have Z_23 : n0 ≤ hp23.size := by rw [Wr.size Wr23]; exact Z_21
  have K_23 := Keep.wr K_21 Wr23 (Or.inl (List.mem_of_getElem? (i := 0) rfl))
  refine own_blk dec11 seq11 hby hx hZ hown hK hF 8 [] [.ref po, .int s1] X23 eh23 ?_
  show (Fld Z hp23 a cP "position" "[I" (.ref po)) ∧ (own_at Z hp23 ms .int (1 : Int32) (.int s1)) ∧ own_Aft X23 hp23 _ 227 [zA a, zI 0, zI 2, zI 2, zA mk, zA ms, zA sk, zA ss, zI 1, zU, zA mk, zA ms, zI ((1 : Int64).toInt32), zI ((2 : Int64).toInt32)] [.int 1, .int s1, .ref po]
  refine ⟨(own_PF.keep PF K_23 nin_a).2.1, R2_23.at (1 : Int32) 1 rfl rfl, fun T24 X24 eh24 => ?_⟩
  refine own_sI X24 hx hZ eh24 Ar21_23 s1.toInt.toNat (by omega) (by rw [List.length_set]; omega) (hb hby d11_227) (fun T25 hp25 X25 eh25 Wr25 Ar25 => ?_)
  have Ar23'_25 := Ar23'.other Wr25 (own_ne (by omega))
  have Ar9'm1_25 := Ar9'm1_23.other Wr25 (own_ne (by omega))
  have Ar7'm1_25 := Ar7'm1_23.other Wr25 (own_ne (by omega))
  have R1_25 := R1_23.other Wr25 (own_ne (by omega))
  have R2_25 := R2_23.other Wr25 (own_ne (by omega))
  have Nf25 := Fr.snoc X25 Nf23 (by omega)
  have Z_25 : n0 ≤ hp25.size := by rw [Wr.size Wr25]; exact Z_23
  have K_25 := Keep.wr K_23 Wr25 (Or.inl (List.mem_of_getElem? (i := 1) rfl))
  refine own_blk dec11 seq11 hby hx hZ hown hK hF 5 [true] [] X25 eh25 ?_
  show (((2 : Int32)).toInt ≤ ((2 : Int32)).toInt) ∧ own_Aft X25 hp25 _ 234 [zA a, zI 0, zI 2, zI 2, zA mk, zA ms, zA sk, zA ss, zI 2, zU, zA mk, zA ms, zI ((1 : Int64).toInt32), zI ((2 : Int64).toInt32)] []
  refine ⟨by decide, fun T26 X26 eh26 => ?_⟩
  exact own_retV X26 hx hlk eh26 hret (hb hby d11_234) (by decide) (by decide) (⟨rfl, Nf25, K_25, s0, s1, k0, k1, D0, D1, Ar23'_25, ⟨z0, z1, z2, z3, z4, z5⟩, ⟨z6, z7, z8, z9⟩, z10, hP⟩)
set_option maxRecDepth 65536 in
set_option maxHeartbeats 40000000 in
theorem rm11_3 (l : Launch) (Z : State) (a0 : Array Value) (hw : ∀ d ∈ tables_1, d.before a0 Z = true) (ws : List Jvm.Cond) (a el po bo fi en ma we tu sk ss mk ms : Addr) (e0 e1 e2 nb tc : Int32) (Lp Lw : List Value) (x0 x1 x2 : UInt64) (C0 C1 C2 : Int) (h0 : Heap) (n0 : Nat) (Z0 : n0 ≤ h0.size) (EX : Exa Z h0 a cP) (CH : own_CH n0 a el po bo fi en ma we tu sk ss mk ms) (PF : own_PF Z h0 a el po bo fi en ma we tu sk ss mk ms nb tc) (Ae : own_A Z h0 el .int [.int e0, .int e1, .int e2]) (Ap : own_A Z h0 po .int Lp) (hLp : Lp.length = 3) (Aw : own_A Z h0 we .double Lw) (Ak : own_A Z h0 sk .double [.double 0, .double 0, .double 0]) (As : own_A Z h0 ss .int [.int 0, .int 0, .int 0]) (Bk : own_A Z h0 mk .double [.double 0, .double 0, .double 0]) (Bs : own_A Z h0 ms .int [.int 0, .int 0, .int 0]) (r00 : 0 ≤ e0.toInt) (r01 : e0.toInt < 3) (r10 : 0 ≤ e1.toInt) (r11 : e1.toInt < 3) (r20 : 0 ≤ e2.toInt) (r21 : e2.toInt < 3) (hw0 : Lw[e0.toInt.toNat]? = some (.double x0)) (hD0 : own_D 0 C0 x0) (bC0 : -3000 ≤ C0 ∧ C0 ≤ 3000) (hw1 : Lw[e1.toInt.toNat]? = some (.double x1)) (hD1 : own_D 0 C1 x1) (bC1 : -3000 ≤ C1 ∧ C1 ≤ 3000) (hw2 : Lw[e2.toInt.toNat]? = some (.double x2)) (hD2 : own_D 0 C2 x2) (bC2 : -3000 ≤ C2 ∧ C2 ≤ 3000) :
    own_MF l (⟨cP, "sortByWeight", "(II)V"⟩ : MethodName) prog_12_method_13_code 14 none ws ({ frames := 1, cells := 0, slots := 0, locals := 40 } : Room) #[.ref a, .int 0, .int 3] Z h0 (fun v h L => v = none ∧ Fr n0 L ∧ Keep h0 h [el, po, sk, ss, mk, ms] ∧ ∃ (f0 f1 f2 : Int32) (y0 y1 y2 : UInt64) (D0 D1 D2 : Int), own_A Z h el .int [.int f0, .int f1, .int f2] ∧ (Lw[f0.toInt.toNat]? = some (.double y0) ∧ own_D 0 D0 y0 ∧ (-3000 ≤ D0 ∧ D0 ≤ 3000) ∧ Lw[f1.toInt.toNat]? = some (.double y1) ∧ own_D 0 D1 y1 ∧ (-3000 ≤ D1 ∧ D1 ≤ 3000) ∧ Lw[f2.toInt.toNat]? = some (.double y2) ∧ own_D 0 D2 y2 ∧ (-3000 ≤ D2 ∧ D2 ≤ 3000)) ∧ (0 ≤ f0.toInt ∧ f0.toInt < 3 ∧ 0 ≤ f1.toInt ∧ f1.toInt < 3 ∧ 0 ≤ f2.toInt ∧ f2.toInt < 3) ∧ (D0 ≤ D1 ∧ D1 ≤ D2) ∧ own_perm3 e0 e1 e2 f0 f1 f2 C0 C1 C2 D0 D1 D2) := by
  refine own_body pf11 (ls0 := [.val (.ref a), .val (.int 0), .val (.int 3), .unset, .unset, .unset, .unset, .unset, .unset, .unset, .unset, .unset, .unset, .unset]) (fun m => by first | (simp [entryFrame, mkF, argsToLocals, Value.category, maxLocals]; done) | rfl) ?_
  intro p e s m below meth c T0 hx hby hml hown hnm hlk hret hZ X0 eh0
  have hK := hKt1 hw; have hF := hFt1 hw
  have N0 := Fr.nil n0
  obtain ⟨c0_, c1_, c2_, c3_, c4_, c5_, c6_, c7_, c8_, c9_, c10_, c11_, c12_⟩ := CH
  have l0 : (0 : Int32).toInt = 0 := rfl
  have l1 : (1 : Int32).toInt = 1 := rfl
  have l2 : (2 : Int32).toInt = 2 := rfl
  have l3 : (3 : Int32).toInt = 3 := rfl
  have nin_a : a ∉ [el, po, sk, ss, mk, ms] := (own_nin (by simp only [own_out, and_true]; omega))
  have nin_we : we ∉ [el, po, sk, ss, mk, ms] := (own_nin (by simp only [own_out, and_true]; omega))
  have K0 := Keep.refl h0 [el, po, sk, ss, mk, ms]
  refine own_blk dec11 seq11 hby hx hZ hown hK hF 24 [false] [.ref sk, .ref ss, .ref mk, .ref ms] X0 eh0 ?_
  show (Fld Z h0 a cP "sortKeys" "[D" (.ref sk)) ∧ (Fld Z h0 a cP "sortStates" "[I" (.ref ss)) ∧ (Fld Z h0 a cP "mergedKeys" "[D" (.ref mk)) ∧ (Fld Z h0 a cP "mergedStates" "[I" (.ref ms)) ∧ (¬ (((3 : Int32)).toInt ≤ ((0 : Int32)).toInt)) ∧ own_Aft X0 h0 _ 42 [zA a, zI 0, zI 3, zI 3, zA sk, zA ss, zA mk, zA ms, zI 0, zU, zU, zU, zU, zU] [.ref a, .int 0, .ref ss]
  refine ⟨PF.2.2.2.2.2.2.2.2.1, PF.2.2.2.2.2.2.2.2.2.1, PF.2.2.2.2.2.2.2.2.2.2.1, PF.2.2.2.2.2.2.2.2.2.2.2.1, by decide, fun T1 X1 eh1 => ?_⟩
  refine own_blk dec11 seq11 hby hx hZ hown hK hF 5 [] [.ref el, .int e0] X1 eh1 ?_
  show (Fld Z h0 a cP "elements" "[I" (.ref el)) ∧ (own_at Z h0 el .int (0 : Int32) (.int e0)) ∧ own_Aft X1 h0 _ 50 [zA a, zI 0, zI 3, zI 3, zA sk, zA ss, zA mk, zA ms, zI 0, zU, zU, zU, zU, zU] [.int e0, .int 0, .ref ss]
  refine ⟨PF.1, Ae.at (0 : Int32) 0 rfl rfl, fun T2 X2 eh2 => ?_⟩
  refine own_sI X2 hx hZ eh2 As 0 rfl (by show 0 < 3; decide) (hb hby d11_50) (fun T3 hp3 X3 eh3 Wr3 Ar3 => ?_)
  have Ar3' : own_A Z hp3 ss .int [.int e0, .int 0, .int 0] := Ar3
  have Ae_3 := Ae.other Wr3 (own_ne (by omega))
  have Ap_3 := Ap.other Wr3 (own_ne (by omega))
  have Ak_3 := Ak.other Wr3 (own_ne (by omega))
  have Bk_3 := Bk.other Wr3 (own_ne (by omega))
  have Bs_3 := Bs.other Wr3 (own_ne (by omega))
  have Nf3 := Fr.snoc X3 N0 (by omega)
  have Z_3 : n0 ≤ hp3.size := by rw [Wr.size Wr3]; exact Z0
  have K_3 := Keep.wr K0 Wr3 (Or.inl (List.mem_of_getElem? (i := 3) rfl))
  refine own_blk dec11 seq11 hby hx hZ hown hK hF 8 [] [.ref we, .int e0, .double x0] X3 eh3 ?_
  show (Fld Z hp3 a cP "weight" "[D" (.ref we)) ∧ (own_at Z hp3 ss .int (0 : Int32) (.int e0)) ∧ (own_at Z hp3 we .double e0 (.double x0)) ∧ own_Aft X3 hp3 _ 65 [zA a, zI 0, zI 3, zI 3, zA sk, zA ss, zA mk, zA ms, zI 0, zU, zU, zU, zU, zU] [.double x0, .int 0, .ref sk]
  refine ⟨(own_PF.keep PF K_3 nin_a).2.2.2.2.2.2.1, Ar3'.at (0 : Int32) 0 rfl rfl, (Aw.keep K_3 nin_we).at e0 e0.toInt.toNat (by omega) hw0, fun T4 X4 eh4 => ?_⟩
  refine own_sD X4 hx hZ eh4 Ak_3 0 rfl (by show 0 < 3; decide) (hb hby d11_65) (fun T5 hp5 X5 eh5 Wr5 Ar5 => ?_)
  have Ar5' : own_A Z hp5 sk .double [.double x0, .double 0, .double 0] := Ar5
  have Ae_5 := Ae_3.other Wr5 (own_ne (by omega))
  have Ap_5 := Ap_3.other Wr5 (own_ne (by omega))
  have Ar3'_5 := Ar3'.other Wr5 (own_ne (by omega))
  have Bk_5 := Bk_3.other Wr5 (own_ne (by omega))
  have Bs_5 := Bs_3.other Wr5 (own_ne (by omega))
  have Nf5 := Fr.snoc X5 Nf3 (by omega)
  have Z_5 : n0 ≤ hp5.size := by rw [Wr.size Wr5]; exact Z_3
  have K_5 := Keep.wr K_3 Wr5 (Or.inl (List.mem_of_getElem? (i := 2) rfl))
  refine own_blk dec11 seq11 hby hx hZ hown hK hF 13 [false] [.ref el, .int e1] X5 eh5 ?_
  show (¬ (((3 : Int32)).toInt ≤ ((1 : Int32)).toInt)) ∧ (Fld Z hp5 a cP "elements" "[I" (.ref el)) ∧ (own_at Z hp5 el .int (1 : Int32) (.int e1)) ∧ own_Aft X5 hp5 _ 50 [zA a, zI 0, zI 3, zI 3, zA sk, zA ss, zA mk, zA ms, zI 1, zU, zU, zU, zU, zU] [.int e1, .int 1, .ref ss]
  refine ⟨by decide, (own_PF.keep PF K_5 nin_a).1, Ae_5.at (1 : Int32) 1 rfl rfl, fun T6 X6 eh6 => ?_⟩
  refine own_sI X6 hx hZ eh6 Ar3'_5 1 rfl (by show 1 < 3; decide) (hb hby d11_50) (fun T7 hp7 X7 eh7 Wr7 Ar7 => ?_)
  have Ar7' : own_A Z hp7 ss .int [.int e0, .int e1, .int 0] := Ar7
  have Ae_7 := Ae_5.other Wr7 (own_ne (by omega))
  have Ap_7 := Ap_5.other Wr7 (own_ne (by omega))
  have Ar5'_7 := Ar5'.other Wr7 (own_ne (by omega))
  have Bk_7 := Bk_5.other Wr7 (own_ne (by omega))
  have Bs_7 := Bs_5.other Wr7 (own_ne (by omega))
  have Nf7 := Fr.snoc X7 Nf5 (by omega)
  have Z_7 : n0 ≤ hp7.size := by rw [Wr.size Wr7]; exact Z_5
  have K_7 := Keep.wr K_5 Wr7 (Or.inl (List.mem_of_getElem? (i := 3) rfl))
  refine own_blk dec11 seq11 hby hx hZ hown hK hF 8 [] [.ref we, .int e1, .double x1] X7 eh7 ?_
  show (Fld Z hp7 a cP "weight" "[D" (.ref we)) ∧ (own_at Z hp7 ss .int (1 : Int32) (.int e1)) ∧ (own_at Z hp7 we .double e1 (.double x1)) ∧ own_Aft X7 hp7 _ 65 [zA a, zI 0, zI 3, zI 3, zA sk, zA ss, zA mk, zA ms, zI 1, zU, zU, zU, zU, zU] [.double x1, .int 1, .ref sk]
  refine ⟨(own_PF.keep PF K_7 nin_a).2.2.2.2.2.2.1, Ar7'.at (1 : Int32) 1 rfl rfl, (Aw.keep K_7 nin_we).at e1 e1.toInt.toNat (by omega) hw1, fun T8 X8 eh8 => ?_⟩
  refine own_sD X8 hx hZ eh8 Ar5'_7 1 rfl (by show 1 < 3; decide) (hb hby d11_65) (fun T9 hp9 X9 eh9 Wr9 Ar9 => ?_)
  have Ar9' : own_A Z hp9 sk .double [.double x0, .double x1, .double 0] := Ar9
  have Ae_9 := Ae_7.other Wr9 (own_ne (by omega))
  have Ap_9 := Ap_7.other Wr9 (own_ne (by omega))
  have Ar7'_9 := Ar7'.other Wr9 (own_ne (by omega))
  have Bk_9 := Bk_7.other Wr9 (own_ne (by omega))
  have Bs_9 := Bs_7.other Wr9 (own_ne (by omega))
  have Nf9 := Fr.snoc X9 Nf7 (by omega)
  have Z_9 : n0 ≤ hp9.size := by rw [Wr.size Wr9]; exact Z_7
  have K_9 := Keep.wr K_7 Wr9 (Or.inl (List.mem_of_getElem? (i := 2) rfl))
  refine own_blk dec11 seq11 hby hx hZ hown hK hF 13 [false] [.ref el, .int e2] X9 eh9 ?_
  show (¬ (((3 : Int32)).toInt ≤ ((2 : Int32)).toInt)) ∧ (Fld Z hp9 a cP "elements" "[I" (.ref el)) ∧ (own_at Z hp9 el .int (2 : Int32) (.int e2)) ∧ own_Aft X9 hp9 _ 50 [zA a, zI 0, zI 3, zI 3, zA sk, zA ss, zA mk, zA ms, zI 2, zU, zU, zU, zU, zU] [.int e2, .int 2, .ref ss]
  refine ⟨by decide, (own_PF.keep PF K_9 nin_a).1, Ae_9.at (2 : Int32) 2 rfl rfl, fun T10 X10 eh10 => ?_⟩
  refine own_sI X10 hx hZ eh10 Ar7'_9 2 rfl (by show 2 < 3; decide) (hb hby d11_50) (fun T11 hp11 X11 eh11 Wr11 Ar11 => ?_)
  have Ar11' : own_A Z hp11 ss .int [.int e0, .int e1, .int e2] := Ar11
  have Ae_11 := Ae_9.other Wr11 (own_ne (by omega))
  have Ap_11 := Ap_9.other Wr11 (own_ne (by omega))
  have Ar9'_11 := Ar9'.other Wr11 (own_ne (by omega))
  have Bk_11 := Bk_9.other Wr11 (own_ne (by omega))
  have Bs_11 := Bs_9.other Wr11 (own_ne (by omega))
  have Nf11 := Fr.snoc X11 Nf9 (by omega)
  have Z_11 : n0 ≤ hp11.size := by rw [Wr.size Wr11]; exact Z_9
  have K_11 := Keep.wr K_9 Wr11 (Or.inl (List.mem_of_getElem? (i := 3) rfl))
  refine own_blk dec11 seq11 hby hx hZ hown hK hF 8 [] [.ref we, .int e2, .double x2] X11 eh11 ?_
  show (Fld Z hp11 a cP "weight" "[D" (.ref we)) ∧ (own_at Z hp11 ss .int (2 : Int32) (.int e2)) ∧ (own_at Z hp11 we .double e2 (.double x2)) ∧ own_Aft X11 hp11 _ 65 [zA a, zI 0, zI 3, zI 3, zA sk, zA ss, zA mk, zA ms, zI 2, zU, zU, zU, zU, zU] [.double x2, .int 2, .ref sk]
  refine ⟨(own_PF.keep PF K_11 nin_a).2.2.2.2.2.2.1, Ar11'.at (2 : Int32) 2 rfl rfl, (Aw.keep K_11 nin_we).at e2 e2.toInt.toNat (by omega) hw2, fun T12 X12 eh12 => ?_⟩
  refine own_sD X12 hx hZ eh12 Ar9'_11 2 rfl (by show 2 < 3; decide) (hb hby d11_65) (fun T13 hp13 X13 eh13 Wr13 Ar13 => ?_)
  have Ar13' : own_A Z hp13 sk .double [.double x0, .double x1, .double x2] := Ar13
  have Ae_13 := Ae_11.other Wr13 (own_ne (by omega))
  have Ap_13 := Ap_11.other Wr13 (own_ne (by omega))
  have Ar11'_13 := Ar11'.other Wr13 (own_ne (by omega))
  have Bk_13 := Bk_11.other Wr13 (own_ne (by omega))
  have Bs_13 := Bs_11.other Wr13 (own_ne (by omega))
  have Nf13 := Fr.snoc X13 Nf11 (by omega)
  have Z_13 : n0 ≤ hp13.size := by rw [Wr.size Wr13]; exact Z_11
  have K_13 := Keep.wr K_11 Wr13 (Or.inl (List.mem_of_getElem? (i := 2) rfl))
  refine own_blk dec11 seq11 hby hx hZ hown hK hF 24 [true, false, false] [] X13 eh13 ?_
  show (((3 : Int32)).toInt ≤ ((3 : Int32)).toInt) ∧ (¬ (0 ≤ (Jvm.Free.XT.cmpL (1 : Int64) (3 : Int64)).toInt)) ∧ (¬ (0 ≤ (Jvm.Free.XT.cmpL (0 : Int64) (3 : Int64)).toInt)) ∧ own_Aft X13 hp13 _ 101 [zA a, zI 0, zI 3, zI 3, zA sk, zA ss, zA mk, zA ms, zL 1, zS, zL 0, zS, zU, zU] [.long 3, .long ((0 : Int64) + (1 : Int64))]
  refine ⟨by decide, by decide, by decide, fun T14 X14 eh14 => ?_⟩
  refine own_callSP X14 hx hZ hown (hw _ (wm 82 rfl)) (hw _ (wm 83 rfl)) (hw _ (wm 69 rfl)) (hw _ (wm 84 rfl)) (by decide) eh14 [.long ((0 : Int64) + (1 : Int64)), .long 3] pd12 rfl (fr := 0) (lo := 0) (rm12_1_3 l Z a0 hw [] hp13 n0 Z_13) (by rw [hml]; rfl) 0 rfl (Nat.le_of_eq rfl) (hb hby d11_101) (by decide) (by decide) (by decide) (by decide) (fun T15 rv15 X15 eh15 qc15 => ?_)
  obtain rfl := qc15
  show own_Go p.tables e below _ (T15.setTop (mkF m 104 (Array.mk [zA a, zI 0, zI 3, zI 3, zA sk, zA ss, zA mk, zA ms, zL 1, zS, zL 0, zS, zU, zU]) [.long 1]))
  refine own_blk dec11 seq11 hby hx hZ hown hK hF 9 [] [] X15 eh15 ?_
  show own_Aft X15 hp13 _ 118 [zA a, zI 0, zI 3, zI 3, zA sk, zA ss, zA mk, zA ms, zL 1, zS, zL 0, zS, zI ((1 : Int64).toInt32), zU] [.long 3, .long ((0 : Int64) + (2 : Int64))]
  refine fun T16 X16 eh16 => ?_
  refine own_callSP X16 hx hZ hown (hw _ (wm 82 rfl)) (hw _ (wm 83 rfl)) (hw _ (wm 69 rfl)) (hw _ (wm 84 rfl)) (by decide) eh16 [.long ((0 : Int64) + (2 : Int64)), .long 3] pd12 rfl (fr := 0) (lo := 0) (rm12_2_3 l Z a0 hw [] hp13 n0 Z_13) (by rw [hml]; rfl) 0 rfl (Nat.le_of_eq rfl) (hb hby d11_118) (by decide) (by decide) (by decide) (by decide) (fun T17 rv17 X17 eh17 qc17 => ?_)
  obtain rfl := qc17
  show own_Go p.tables e below _ (T17.setTop (mkF m 121 (Array.mk [zA a, zI 0, zI 3, zI 3, zA sk, zA ss, zA mk, zA ms, zL 1, zS, zL 0, zS, zI ((1 : Int64).toInt32), zU]) [.long 2]))
  refine own_blk dec11 seq11 hby hx hZ hown hK hF 10 [] [] X17 eh17 ?_
  show own_Aft X17 hp13 _ 139 [zA a, zI 0, zI 3, zI 3, zA sk, zA ss, zA mk, zA ms, zL 1, zS, zL 0, zS, zI ((1 : Int64).toInt32), zI ((2 : Int64).toInt32)] [.ref ms, .ref mk, .int ((2 : Int64).toInt32), .int ((1 : Int64).toInt32), .int ((0 : Int64).toInt32), .ref ss, .ref sk]
  refine fun T18 X18 eh18 => ?_
  refine own_callS X18 hx hZ hown (hw _ (wm 86 rfl)) (hw _ (wm 87 rfl)) (hw _ (wm 3 rfl)) (hw _ (wm 88 rfl)) (by decide) eh18 [.ref sk, .ref ss, .int ((0 : Int64).toInt32), .int ((1 : Int64).toInt32), .int ((2 : Int64).toInt32), .ref mk, .ref ms] pd13 rfl (rm := ({ frames := 0, cells := 0, slots := 0, locals := 0 } : Room)) (rm13_1 l Z a0 hw [] sk ss mk ms e0 e1 e2 (0 : Int32) (0 : Int32) (0 : Int32) x0 x1 x2 0 0 0 hp13 n0 Z_13 (own_ne (by omega)) (own_ne (by omega)) (own_ne (by omega)) (own_ne (by omega)) (own_ne (by omega)) (by omega) (by omega) Ar13' Ar11'_13 Bk_13 Bs_13 hD0.num hD1.num) (by rw [hml]; rfl) 0 rfl (Nat.le_of_eq rfl) (hb hby d11_139) (by decide) (by decide) (by decide) (by decide) (fun T19 rv19 Lc19 X19 qc19 => ?_)
  obtain ⟨rfl, Mm1, KKm1, k0, k1, s0, s1, R1, R2, hR⟩ := qc19
  have Aem1 := Ae_13.keep KKm1 (own_nin (by simp only [own_out, and_true]; omega))
  have Apm1 := Ap_13.keep KKm1 (own_nin (by simp only [own_out, and_true]; omega))
  have Ar13'm1 := Ar13'.keep KKm1 (own_nin (by simp only [own_out, and_true]; omega))
  have Ar11'm1 := Ar11'_13.keep KKm1 (own_nin (by simp only [own_out, and_true]; omega))
  have Nm1 := Fr.app Nf13 Mm1
  have ZZm1 := Nat.le_trans Z_13 KKm1.1
  have KLm1 := Keep.trans K_13 KKm1 (fun x hx => Or.inl (by simp only [List.mem_cons, List.not_mem_nil, or_false] at hx ⊢; rcases hx with rfl | rfl <;> simp))
  show own_Go p.tables e below _ (T19.setTop (mkF m 142 (Array.mk [zA a, zI 0, zI 3, zI 3, zA sk, zA ss, zA mk, zA ms, zL 1, zS, zL 0, zS, zI ((1 : Int64).toInt32), zI ((2 : Int64).toInt32)]) []))
  refine own_blk dec11 seq11 hby hx hZ hown hK hF 17 [false] [] X19 rfl ?_
  show (¬ (0 ≤ (Jvm.Free.XT.cmpL ((0 : Int64) + (2 : Int64)) (3 : Int64)).toInt)) ∧ own_Aft X19 T19.heap _ 101 [zA a, zI 0, zI 3, zI 3, zA sk, zA ss, zA mk, zA ms, zL 1, zS, zL ((0 : Int64) + (2 : Int64)), zS, zI ((1 : Int64).toInt32), zI ((2 : Int64).toInt32)] [.long 3, .long (((0 : Int64) + (2 : Int64)) + (1 : Int64))]
  refine ⟨by decide, fun T20 X20 eh20 => ?_⟩
  refine own_callSP X20 hx hZ hown (hw _ (wm 82 rfl)) (hw _ (wm 83 rfl)) (hw _ (wm 69 rfl)) (hw _ (wm 84 rfl)) (by decide) eh20 [.long (((0 : Int64) + (2 : Int64)) + (1 : Int64)), .long 3] pd12 rfl (fr := 0) (lo := 0) (rm12_3_3 l Z a0 hw [] T19.heap n0 ZZm1) (by rw [hml]; rfl) 0 rfl (Nat.le_of_eq rfl) (hb hby d11_101) (by decide) (by decide) (by decide) (by decide) (fun T21 rv21 X21 eh21 qc21 => ?_)
  obtain rfl := qc21
  show own_Go p.tables e below _ (T21.setTop (mkF m 104 (Array.mk [zA a, zI 0, zI 3, zI 3, zA sk, zA ss, zA mk, zA ms, zL 1, zS, zL ((0 : Int64) + (2 : Int64)), zS, zI ((1 : Int64).toInt32), zI ((2 : Int64).toInt32)]) [.long 3]))
  refine own_blk dec11 seq11 hby hx hZ hown hK hF 9 [] [] X21 eh21 ?_
  show own_Aft X21 T19.heap _ 118 [zA a, zI 0, zI 3, zI 3, zA sk, zA ss, zA mk, zA ms, zL 1, zS, zL ((0 : Int64) + (2 : Int64)), zS, zI ((3 : Int64).toInt32), zI ((2 : Int64).toInt32)] [.long 3, .long (((0 : Int64) + (2 : Int64)) + (2 : Int64))]
  refine fun T22 X22 eh22 => ?_
  refine own_callSP X22 hx hZ hown (hw _ (wm 82 rfl)) (hw _ (wm 83 rfl)) (hw _ (wm 69 rfl)) (hw _ (wm 84 rfl)) (by decide) eh22 [.long (((0 : Int64) + (2 : Int64)) + (2 : Int64)), .long 3] pd12 rfl (fr := 0) (lo := 0) (rm12_4_3 l Z a0 hw [] T19.heap n0 ZZm1) (by rw [hml]; rfl) 0 rfl (Nat.le_of_eq rfl) (hb hby d11_118) (by decide) (by decide) (by decide) (by decide) (fun T23 rv23 X23 eh23 qc23 => ?_)
  obtain rfl := qc23
  show own_Go p.tables e below _ (T23.setTop (mkF m 121 (Array.mk [zA a, zI 0, zI 3, zI 3, zA sk, zA ss, zA mk, zA ms, zL 1, zS, zL ((0 : Int64) + (2 : Int64)), zS, zI ((3 : Int64).toInt32), zI ((2 : Int64).toInt32)]) [.long 3]))
  refine own_blk dec11 seq11 hby hx hZ hown hK hF 10 [] [] X23 eh23 ?_
  show own_Aft X23 T19.heap _ 139 [zA a, zI 0, zI 3, zI 3, zA sk, zA ss, zA mk, zA ms, zL 1, zS, zL ((0 : Int64) + (2 : Int64)), zS, zI ((3 : Int64).toInt32), zI ((3 : Int64).toInt32)] [.ref ms, .ref mk, .int ((3 : Int64).toInt32), .int ((3 : Int64).toInt32), .int (((0 : Int64) + (2 : Int64)).toInt32), .ref ss, .ref sk]
  refine fun T24 X24 eh24 => ?_
  refine own_callS X24 hx hZ hown (hw _ (wm 86 rfl)) (hw _ (wm 87 rfl)) (hw _ (wm 3 rfl)) (hw _ (wm 88 rfl)) (by decide) eh24 [.ref sk, .ref ss, .int (((0 : Int64) + (2 : Int64)).toInt32), .int ((3 : Int64).toInt32), .int ((3 : Int64).toInt32), .ref mk, .ref ms] pd13 rfl (rm := ({ frames := 0, cells := 0, slots := 0, locals := 0 } : Room)) (rm13_2 l Z a0 hw [] sk ss mk ms e0 e1 e2 s0 s1 (0 : Int32) x0 x1 x2 k0 k1 0 T19.heap n0 ZZm1 (own_ne (by omega)) (own_ne (by omega)) (own_ne (by omega)) (own_ne (by omega)) (own_ne (by omega)) (by omega) (by omega) Ar13'm1 Ar11'm1 R1 R2 ) (by rw [hml]; rfl) 0 rfl (Nat.le_of_eq rfl) (hb hby d11_139) (by decide) (by decide) (by decide) (by decide) (fun T25 rv25 Lc25 X25 qc25 => ?_)
  obtain ⟨rfl, Mm2, KKm2, R3, R4⟩ := qc25
  have Aem1m2 := Aem1.keep KKm2 (own_nin (by simp only [own_out, and_true]; omega))
  have Apm1m2 := Apm1.keep KKm2 (own_nin (by simp only [own_out, and_true]; omega))
  have Ar13'm1m2 := Ar13'm1.keep KKm2 (own_nin (by simp only [own_out, and_true]; omega))
  have Ar11'm1m2 := Ar11'm1.keep KKm2 (own_nin (by simp only [own_out, and_true]; omega))
  have Nm2 := Fr.app Nm1 Mm2
  have ZZm2 := Nat.le_trans ZZm1 KKm2.1
  have KLm2 := Keep.trans KLm1 KKm2 (fun x hx => Or.inl (by simp only [List.mem_cons, List.not_mem_nil, or_false] at hx ⊢; rcases hx with rfl | rfl <;> simp))
  show own_Go p.tables e below _ (T25.setTop (mkF m 142 (Array.mk [zA a, zI 0, zI 3, zI 3, zA sk, zA ss, zA mk, zA ms, zL 1, zS, zL ((0 : Int64) + (2 : Int64)), zS, zI ((3 : Int64).toInt32), zI ((3 : Int64).toInt32)]) []))
  refine own_blk dec11 seq11 hby hx hZ hown hK hF 24 [true] [] X25 rfl ?_
  show (0 ≤ (Jvm.Free.XT.cmpL (((0 : Int64) + (2 : Int64)) + (2 : Int64)) (3 : Int64)).toInt) ∧ own_Aft X25 T25.heap _ 180 [zA a, zI 0, zI 3, zI 3, zA mk, zA ms, zA sk, zA ss, zL 1, zS, zA mk, zA ms, zI ((3 : Int64).toInt32), zI ((3 : Int64).toInt32)] []
  refine ⟨by decide, fun T26 X26 eh26 => ?_⟩
  refine own_blk dec11 seq11 hby hx hZ hown hK hF 22 [false, false] [] X26 eh26 ?_
  show (¬ (0 ≤ (Jvm.Free.XT.cmpL (2 : Int64) (3 : Int64)).toInt)) ∧ (¬ (0 ≤ (Jvm.Free.XT.cmpL (0 : Int64) (3 : Int64)).toInt)) ∧ own_Aft X26 T25.heap _ 101 [zA a, zI 0, zI 3, zI 3, zA mk, zA ms, zA sk, zA ss, zL 2, zS, zL 0, zS, zI ((3 : Int64).toInt32), zI ((3 : Int64).toInt32)] [.long 3, .long ((0 : Int64) + (2 : Int64))]
  refine ⟨by decide, by decide, fun T27 X27 eh27 => ?_⟩
  refine own_callSP X27 hx hZ hown (hw _ (wm 82 rfl)) (hw _ (wm 83 rfl)) (hw _ (wm 69 rfl)) (hw _ (wm 84 rfl)) (by decide) eh27 [.long ((0 : Int64) + (2 : Int64)), .long 3] pd12 rfl (fr := 0) (lo := 0) (rm12_2_3 l Z a0 hw [] T25.heap n0 ZZm2) (by rw [hml]; rfl) 0 rfl (Nat.le_of_eq rfl) (hb hby d11_101) (by decide) (by decide) (by decide) (by decide) (fun T28 rv28 X28 eh28 qc28 => ?_)
  obtain rfl := qc28
  show own_Go p.tables e below _ (T28.setTop (mkF m 104 (Array.mk [zA a, zI 0, zI 3, zI 3, zA mk, zA ms, zA sk, zA ss, zL 2, zS, zL 0, zS, zI ((3 : Int64).toInt32), zI ((3 : Int64).toInt32)]) [.long 2]))
  refine own_blk dec11 seq11 hby hx hZ hown hK hF 9 [] [] X28 eh28 ?_
  show own_Aft X28 T25.heap _ 118 [zA a, zI 0, zI 3, zI 3, zA mk, zA ms, zA sk, zA ss, zL 2, zS, zL 0, zS, zI ((2 : Int64).toInt32), zI ((3 : Int64).toInt32)] [.long 3, .long ((0 : Int64) + (4 : Int64))]
  refine fun T29 X29 eh29 => ?_
  refine own_callSP X29 hx hZ hown (hw _ (wm 82 rfl)) (hw _ (wm 83 rfl)) (hw _ (wm 69 rfl)) (hw _ (wm 84 rfl)) (by decide) eh29 [.long ((0 : Int64) + (4 : Int64)), .long 3] pd12 rfl (fr := 0) (lo := 0) (rm12_4_3 l Z a0 hw [] T25.heap n0 ZZm2) (by rw [hml]; rfl) 0 rfl (Nat.le_of_eq rfl) (hb hby d11_118) (by decide) (by decide) (by decide) (by decide) (fun T30 rv30 X30 eh30 qc30 => ?_)
  obtain rfl := qc30
  show own_Go p.tables e below _ (T30.setTop (mkF m 121 (Array.mk [zA a, zI 0, zI 3, zI 3, zA mk, zA ms, zA sk, zA ss, zL 2, zS, zL 0, zS, zI ((2 : Int64).toInt32), zI ((3 : Int64).toInt32)]) [.long 3]))
  refine own_blk dec11 seq11 hby hx hZ hown hK hF 10 [] [] X30 eh30 ?_
  show own_Aft X30 T25.heap _ 139 [zA a, zI 0, zI 3, zI 3, zA mk, zA ms, zA sk, zA ss, zL 2, zS, zL 0, zS, zI ((2 : Int64).toInt32), zI ((3 : Int64).toInt32)] [.ref ss, .ref sk, .int ((3 : Int64).toInt32), .int ((2 : Int64).toInt32), .int ((0 : Int64).toInt32), .ref ms, .ref mk]
  refine fun T31 X31 eh31 => ?_
  obtain ⟨nk0, nk1⟩ : own_num k0 ∧ own_num k1 := by rcases hR with ⟨rfl, rfl, -, -, -⟩ | ⟨rfl, rfl, -, -, -⟩ <;> exact ⟨by first | exact hD0.num | exact hD1.num, by first | exact hD0.num | exact hD1.num⟩
  refine own_callS X31 hx hZ hown (hw _ (wm 86 rfl)) (hw _ (wm 87 rfl)) (hw _ (wm 3 rfl)) (hw _ (wm 88 rfl)) (by decide) eh31 [.ref mk, .ref ms, .int ((0 : Int64).toInt32), .int ((2 : Int64).toInt32), .int ((3 : Int64).toInt32), .ref sk, .ref ss] pd13 rfl (rm := ({ frames := 0, cells := 0, slots := 0, locals := 0 } : Room)) (rm13_3 l Z a0 hw [] mk ms sk ss s0 s1 e2 e0 e1 e2 k0 k1 x2 x0 x1 x2 T25.heap n0 ZZm2 (own_ne (by omega)) (own_ne (by omega)) (own_ne (by omega)) (own_ne (by omega)) (own_ne (by omega)) (by omega) (by omega) R3 R4 Ar13'm1m2 Ar11'm1m2 nk0 nk1 hD2.num) (by rw [hml]; rfl) 0 rfl (Nat.le_of_eq rfl) (hb hby d11_139) (by decide) (by decide) (by decide) (by decide) (fun T32 rv32 Lc32 X32 qc32 => ?_)
  obtain ⟨rfl, Mm3, KKm3, j0, j1, j2, g0, g1, g2, R5, R6, hS⟩ := qc32
  have Aem1m2m3 := Aem1m2.keep KKm3 (own_nin (by simp only [own_out, and_true]; omega))
  have Apm1m2m3 := Apm1m2.keep KKm3 (own_nin (by simp only [own_out, and_true]; omega))
  have R3m3 := R3.keep KKm3 (own_nin (by simp only [own_out, and_true]; omega))
  have R4m3 := R4.keep KKm3 (own_nin (by simp only [own_out, and_true]; omega))
  have Nm3 := Fr.app Nm2 Mm3
  have ZZm3 := Nat.le_trans ZZm2 KKm3.1
  have KLm3 := Keep.trans KLm2 KKm3 (fun x hx => Or.inl (by simp only [List.mem_cons, List.not_mem_nil, or_false] at hx ⊢; rcases hx with rfl | rfl <;> simp))
  show own_Go p.tables e below _ (T32.setTop (mkF m 142 (Array.mk [zA a, zI 0, zI 3, zI 3, zA mk, zA ms, zA sk, zA ss, zL 2, zS, zL 0, zS, zI ((2 : Int64).toInt32), zI ((3 : Int64).toInt32)]) []))
  refine own_blk dec11 seq11 hby hx hZ hown hK hF 24 [true] [] X32 rfl ?_
  show (0 ≤ (Jvm.Free.XT.cmpL ((0 : Int64) + (4 : Int64)) (3 : Int64)).toInt) ∧ own_Aft X32 T32.heap _ 180 [zA a, zI 0, zI 3, zI 3, zA sk, zA ss, zA mk, zA ms, zL 2, zS, zA sk, zA ss, zI ((2 : Int64).toInt32), zI ((3 : Int64).toInt32)] []
  refine ⟨by decide, fun T33 X33 eh33 => ?_⟩
  refine own_blk dec11 seq11 hby hx hZ hown hK hF 10 [true] [] X33 eh33 ?_
  show (0 ≤ (Jvm.Free.XT.cmpL (4 : Int64) (3 : Int64)).toInt) ∧ own_Aft X33 T32.heap _ 191 [zA a, zI 0, zI 3, zI 3, zA sk, zA ss, zA mk, zA ms, zL 4, zS, zA sk, zA ss, zI ((2 : Int64).toInt32), zI ((3 : Int64).toInt32)] []
  refine ⟨by decide, fun T34 X34 eh34 => ?_⟩
  obtain ⟨D0, D1, D2, hW, hG, hO, hP⟩ : ∃ D0 D1 D2 : Int, (Lw[g0.toInt.toNat]? = some (.double j0) ∧ own_D 0 D0 j0 ∧ (-3000 ≤ D0 ∧ D0 ≤ 3000) ∧ Lw[g1.toInt.toNat]? = some (.double j1) ∧ own_D 0 D1 j1 ∧ (-3000 ≤ D1 ∧ D1 ≤ 3000) ∧ Lw[g2.toInt.toNat]? = some (.double j2) ∧ own_D 0 D2 j2 ∧ (-3000 ≤ D2 ∧ D2 ≤ 3000)) ∧ (0 ≤ g0.toInt ∧ g0.toInt < 3 ∧ 0 ≤ g1.toInt ∧ g1.toInt < 3 ∧ 0 ≤ g2.toInt ∧ g2.toInt < 3) ∧ (D0 ≤ D1 ∧ D1 ≤ D2) ∧ own_perm3 e0 e1 e2 g0 g1 g2 C0 C1 C2 D0 D1 D2 := by
    rcases hR with ⟨rfl, rfl, rfl, rfl, q⟩ | ⟨rfl, rfl, rfl, rfl, q⟩ <;> rcases hS with ⟨rfl, rfl, rfl, rfl, rfl, rfl, q1⟩ | ⟨rfl, rfl, rfl, rfl, rfl, rfl, q1, q2⟩ | ⟨rfl, rfl, rfl, rfl, rfl, rfl, q1, q2⟩
    · exact ⟨C2, C0, C1, ⟨hw2, hD2, bC2, hw0, hD0, bC0, hw1, hD1, bC1⟩, ⟨r20, r21, r00, r01, r10, r11⟩, ⟨Int.le_of_lt ((own_Dlt hD2 hD0).mp q1), (own_Dle hD0 hD1).mp q⟩, Or.inr (Or.inr (Or.inr (Or.inr (Or.inl ⟨rfl, rfl, rfl, rfl, rfl, rfl⟩))))⟩
    · exact ⟨C0, C2, C1, ⟨hw0, hD0, bC0, hw2, hD2, bC2, hw1, hD1, bC1⟩, ⟨r00, r01, r20, r21, r10, r11⟩, ⟨(own_Dle hD0 hD2).mp q1, Int.le_of_lt ((own_Dlt hD2 hD1).mp q2)⟩, Or.inr (Or.inl ⟨rfl, rfl, rfl, rfl, rfl, rfl⟩)⟩
    · exact ⟨C0, C1, C2, ⟨hw0, hD0, bC0, hw1, hD1, bC1, hw2, hD2, bC2⟩, ⟨r00, r01, r10, r11, r20, r21⟩, ⟨(own_Dle hD0 hD1).mp q, (own_Dle hD1 hD2).mp q2⟩, Or.inl ⟨rfl, rfl, rfl, rfl, rfl, rfl⟩⟩
    · exact ⟨C2, C1, C0, ⟨hw2, hD2, bC2, hw1, hD1, bC1, hw0, hD0, bC0⟩, ⟨r20, r21, r10, r11, r00, r01⟩, ⟨Int.le_of_lt ((own_Dlt hD2 hD1).mp q1), Int.le_of_lt ((own_Dlt hD1 hD0).mp q)⟩, Or.inr (Or.inr (Or.inr (Or.inr (Or.inr (⟨rfl, rfl, rfl, rfl, rfl, rfl⟩)))))⟩
    · exact ⟨C1, C2, C0, ⟨hw1, hD1, bC1, hw2, hD2, bC2, hw0, hD0, bC0⟩, ⟨r10, r11, r20, r21, r00, r01⟩, ⟨(own_Dle hD1 hD2).mp q1, Int.le_of_lt ((own_Dlt hD2 hD0).mp q2)⟩, Or.inr (Or.inr (Or.inr (Or.inl ⟨rfl, rfl, rfl, rfl, rfl, rfl⟩)))⟩
    · exact ⟨C1, C0, C2, ⟨hw1, hD1, bC1, hw0, hD0, bC0, hw2, hD2, bC2⟩, ⟨r10, r11, r00, r01, r20, r21⟩, ⟨Int.le_of_lt ((own_Dlt hD1 hD0).mp q), (own_Dle hD0 hD2).mp q2⟩, Or.inr (Or.inr (Or.inl ⟨rfl, rfl, rfl, rfl, rfl, rfl⟩))⟩
  obtain ⟨ga, gb, gc, gd, ge, gf⟩ := hG
  refine own_blk dec11 seq11 hby hx hZ hown hK hF 13 [false] [.ref el, .int g0] X34 eh34 ?_
  show (¬ (((3 : Int32)).toInt ≤ ((0 : Int32)).toInt)) ∧ (Fld Z T32.heap a cP "elements" "[I" (.ref el)) ∧ (own_at Z T32.heap ss .int (0 : Int32) (.int g0)) ∧ own_Aft X34 T32.heap _ 213 [zA a, zI 0, zI 3, zI 3, zA sk, zA ss, zA mk, zA ms, zI 0, zU, zA sk, zA ss, zI ((2 : Int64).toInt32), zI ((3 : Int64).toInt32)] [.int g0, .int 0, .ref el]
  refine ⟨by decide, (own_PF.keep PF KLm3 nin_a).1, R6.at (0 : Int32) 0 rfl rfl, fun T35 X35 eh35 => ?_⟩
  refine own_sI X35 hx hZ eh35 Aem1m2m3 0 rfl (by show 0 < 3; decide) (hb hby d11_213) (fun T36 hp36 X36 eh36 Wr36 Ar36 => ?_)
  have Ar36' : own_A Z hp36 el .int [.int g0, .int e1, .int e2] := Ar36
  have Apm1m2m3_36 := Apm1m2m3.other Wr36 (own_ne (by omega))
  have R3m3_36 := R3m3.other Wr36 (own_ne (by omega))
  have R4m3_36 := R4m3.other Wr36 (own_ne (by omega))
  have R5_36 := R5.other Wr36 (own_ne (by omega))
  have R6_36 := R6.other Wr36 (own_ne (by omega))
  have Nf36 := Fr.snoc X36 Nm3 (by omega)
  have Z_36 : n0 ≤ hp36.size := by rw [Wr.size Wr36]; exact ZZm3
  have K_36 := Keep.wr KLm3 Wr36 (Or.inl (List.mem_of_getElem? (i := 0) rfl))
  refine own_blk dec11 seq11 hby hx hZ hown hK hF 8 [] [.ref po, .int g0] X36 eh36 ?_
  show (Fld Z hp36 a cP "position" "[I" (.ref po)) ∧ (own_at Z hp36 ss .int (0 : Int32) (.int g0)) ∧ own_Aft X36 hp36 _ 227 [zA a, zI 0, zI 3, zI 3, zA sk, zA ss, zA mk, zA ms, zI 0, zU, zA sk, zA ss, zI ((2 : Int64).toInt32), zI ((3 : Int64).toInt32)] [.int 0, .int g0, .ref po]
  refine ⟨(own_PF.keep PF K_36 nin_a).2.1, R6_36.at (0 : Int32) 0 rfl rfl, fun T37 X37 eh37 => ?_⟩
  refine own_sI X37 hx hZ eh37 Apm1m2m3_36 g0.toInt.toNat (by omega) (by omega) (hb hby d11_227) (fun T38 hp38 X38 eh38 Wr38 Ar38 => ?_)
  have Ar36'_38 := Ar36'.other Wr38 (own_ne (by omega))
  have R3m3_38 := R3m3_36.other Wr38 (own_ne (by omega))
  have R4m3_38 := R4m3_36.other Wr38 (own_ne (by omega))
  have R5_38 := R5_36.other Wr38 (own_ne (by omega))
  have R6_38 := R6_36.other Wr38 (own_ne (by omega))
  have Nf38 := Fr.snoc X38 Nf36 (by omega)
  have Z_38 : n0 ≤ hp38.size := by rw [Wr.size Wr38]; exact Z_36
  have K_38 := Keep.wr K_36 Wr38 (Or.inl (List.mem_of_getElem? (i := 1) rfl))
  refine own_blk dec11 seq11 hby hx hZ hown hK hF 13 [false] [.ref el, .int g1] X38 eh38 ?_
  show (¬ (((3 : Int32)).toInt ≤ ((1 : Int32)).toInt)) ∧ (Fld Z hp38 a cP "elements" "[I" (.ref el)) ∧ (own_at Z hp38 ss .int (1 : Int32) (.int g1)) ∧ own_Aft X38 hp38 _ 213 [zA a, zI 0, zI 3, zI 3, zA sk, zA ss, zA mk, zA ms, zI 1, zU, zA sk, zA ss, zI ((2 : Int64).toInt32), zI ((3 : Int64).toInt32)] [.int g1, .int 1, .ref el]
  refine ⟨by decide, (own_PF.keep PF K_38 nin_a).1, R6_38.at (1 : Int32) 1 rfl rfl, fun T39 X39 eh39 => ?_⟩
  refine own_sI X39 hx hZ eh39 Ar36'_38 1 rfl (by show 1 < 3; decide) (hb hby d11_213) (fun T40 hp40 X40 eh40 Wr40 Ar40 => ?_)
  have Ar40' : own_A Z hp40 el .int [.int g0, .int g1, .int e2] := Ar40
  have Ar38_40 := Ar38.other Wr40 (own_ne (by omega))
  have R3m3_40 := R3m3_38.other Wr40 (own_ne (by omega))
  have R4m3_40 := R4m3_38.other Wr40 (own_ne (by omega))
  have R5_40 := R5_38.other Wr40 (own_ne (by omega))
  have R6_40 := R6_38.other Wr40 (own_ne (by omega))
  have Nf40 := Fr.snoc X40 Nf38 (by omega)
  have Z_40 : n0 ≤ hp40.size := by rw [Wr.size Wr40]; exact Z_38
  have K_40 := Keep.wr K_38 Wr40 (Or.inl (List.mem_of_getElem? (i := 0) rfl))
  refine own_blk dec11 seq11 hby hx hZ hown hK hF 8 [] [.ref po, .int g1] X40 eh40 ?_
  show (Fld Z hp40 a cP "position" "[I" (.ref po)) ∧ (own_at Z hp40 ss .int (1 : Int32) (.int g1)) ∧ own_Aft X40 hp40 _ 227 [zA a, zI 0, zI 3, zI 3, zA sk, zA ss, zA mk, zA ms, zI 1, zU, zA sk, zA ss, zI ((2 : Int64).toInt32), zI ((3 : Int64).toInt32)] [.int 1, .int g1, .ref po]
  refine ⟨(own_PF.keep PF K_40 nin_a).2.1, R6_40.at (1 : Int32) 1 rfl rfl, fun T41 X41 eh41 => ?_⟩
  refine own_sI X41 hx hZ eh41 Ar38_40 g1.toInt.toNat (by omega) (by rw [List.length_set]; omega) (hb hby d11_227) (fun T42 hp42 X42 eh42 Wr42 Ar42 => ?_)
  have Ar40'_42 := Ar40'.other Wr42 (own_ne (by omega))
  have R3m3_42 := R3m3_40.other Wr42 (own_ne (by omega))
  have R4m3_42 := R4m3_40.other Wr42 (own_ne (by omega))
  have R5_42 := R5_40.other Wr42 (own_ne (by omega))
  have R6_42 := R6_40.other Wr42 (own_ne (by omega))
  have Nf42 := Fr.snoc X42 Nf40 (by omega)
  have Z_42 : n0 ≤ hp42.size := by rw [Wr.size Wr42]; exact Z_40
  have K_42 := Keep.wr K_40 Wr42 (Or.inl (List.mem_of_getElem? (i := 1) rfl))
  refine own_blk dec11 seq11 hby hx hZ hown hK hF 13 [false] [.ref el, .int g2] X42 eh42 ?_
  show (¬ (((3 : Int32)).toInt ≤ ((2 : Int32)).toInt)) ∧ (Fld Z hp42 a cP "elements" "[I" (.ref el)) ∧ (own_at Z hp42 ss .int (2 : Int32) (.int g2)) ∧ own_Aft X42 hp42 _ 213 [zA a, zI 0, zI 3, zI 3, zA sk, zA ss, zA mk, zA ms, zI 2, zU, zA sk, zA ss, zI ((2 : Int64).toInt32), zI ((3 : Int64).toInt32)] [.int g2, .int 2, .ref el]
  refine ⟨by decide, (own_PF.keep PF K_42 nin_a).1, R6_42.at (2 : Int32) 2 rfl rfl, fun T43 X43 eh43 => ?_⟩
  refine own_sI X43 hx hZ eh43 Ar40'_42 2 rfl (by show 2 < 3; decide) (hb hby d11_213) (fun T44 hp44 X44 eh44 Wr44 Ar44 => ?_)
  have Ar44' : own_A Z hp44 el .int [.int g0, .int g1, .int g2] := Ar44
  have Ar42_44 := Ar42.other Wr44 (own_ne (by omega))
  have R3m3_44 := R3m3_42.other Wr44 (own_ne (by omega))
  have R4m3_44 := R4m3_42.other Wr44 (own_ne (by omega))
  have R5_44 := R5_42.other Wr44 (own_ne (by omega))
  have R6_44 := R6_42.other Wr44 (own_ne (by omega))
  have Nf44 := Fr.snoc X44 Nf42 (by omega)
  have Z_44 : n0 ≤ hp44.size := by rw [Wr.size Wr44]; exact Z_42
  have K_44 := Keep.wr K_42 Wr44 (Or.inl (List.mem_of_getElem? (i := 0) rfl))
  refine own_blk dec11 seq11 hby hx hZ hown hK hF 8 [] [.ref po, .int g2] X44 eh44 ?_
  show (Fld Z hp44 a cP "position" "[I" (.ref po)) ∧ (own_at Z hp44 ss .int (2 : Int32) (.int g2)) ∧ own_Aft X44 hp44 _ 227 [zA a, zI 0, zI 3, zI 3, zA sk, zA ss, zA mk, zA ms, zI 2, zU, zA sk, zA ss, zI ((2 : Int64).toInt32), zI ((3 : Int64).toInt32)] [.int 2, .int g2, .ref po]
  refine ⟨(own_PF.keep PF K_44 nin_a).2.1, R6_44.at (2 : Int32) 2 rfl rfl, fun T45 X45 eh45 => ?_⟩
  refine own_sI X45 hx hZ eh45 Ar42_44 g2.toInt.toNat (by omega) (by rw [List.length_set]; rw [List.length_set]; omega) (hb hby d11_227) (fun T46 hp46 X46 eh46 Wr46 Ar46 => ?_)
  have Ar44'_46 := Ar44'.other Wr46 (own_ne (by omega))
  have R3m3_46 := R3m3_44.other Wr46 (own_ne (by omega))
  have R4m3_46 := R4m3_44.other Wr46 (own_ne (by omega))
  have R5_46 := R5_44.other Wr46 (own_ne (by omega))
  have R6_46 := R6_44.other Wr46 (own_ne (by omega))
  have Nf46 := Fr.snoc X46 Nf44 (by omega)
  have Z_46 : n0 ≤ hp46.size := by rw [Wr.size Wr46]; exact Z_44
  have K_46 := Keep.wr K_44 Wr46 (Or.inl (List.mem_of_getElem? (i := 1) rfl))
  refine own_blk dec11 seq11 hby hx hZ hown hK hF 5 [true] [] X46 eh46 ?_
  show (((3 : Int32)).toInt ≤ ((3 : Int32)).toInt) ∧ own_Aft X46 hp46 _ 234 [zA a, zI 0, zI 3, zI 3, zA sk, zA ss, zA mk, zA ms, zI 3, zU, zA sk, zA ss, zI ((2 : Int64).toInt32), zI ((3 : Int64).toInt32)] []
  refine ⟨by decide, fun T47 X47 eh47 => ?_⟩
  exact own_retV X47 hx hlk eh47 hret (hb hby d11_234) (by decide) (by decide) (⟨rfl, Nf46, K_46, g0, g1, g2, j0, j1, j2, D0, D1, D2, Ar44'_46, hW, ⟨ga, gb, gc, gd, ge, gf⟩, hO, hP⟩)
set_option maxRecDepth 65536 in
set_option maxHeartbeats 40000000 in
theorem rm14_011 (l : Launch) (Z : State) (a0 : Array Value) (hw : ∀ d ∈ tables_1, d.before a0 Z = true) (ws : List Jvm.Cond) (a el po bo fi en ma we tu sk ss mk ms : Addr) (f0 f1 f2 nb tc : Int32) (Lw : List Value) (y0 y1 y2 : UInt64) (D0 D1 D2 : Int) (h0 : Heap) (n0 : Nat) (Z0 : n0 ≤ h0.size) (EX : Exa Z h0 a cP) (PF : own_PF Z h0 a el po bo fi en ma we tu sk ss mk ms nb tc) (Ae : own_A Z h0 el .int [.int f0, .int f1, .int f2]) (Aw : own_A Z h0 we .double Lw)  :
    own_MF l (⟨cP, "groupEnd", "(IIIZ)I"⟩ : MethodName) prog_12_method_11_code 6 (some .int) ws ({ frames := 2, cells := 0, slots := 0, locals := 40 } : Room) #[.ref a, .int 0, .int 1, .int 3, .int 1] Z h0 (fun v h L => (v = some (.int 1)) ∧ L = [] ∧ h = h0) := by
  refine own_body pf14 (ls0 := [.val (.ref a), .val (.int 0), .val (.int 1), .val (.int 3), .val (.int 1), .unset]) (fun m => by first | (simp [entryFrame, mkF, argsToLocals, Value.category, maxLocals]; done) | rfl) ?_
  intro p e s m below meth c T0 hx hby hml hown hnm hlk hret hZ X0 eh0
  have hK := hKt1 hw; have hF := hFt1 hw
  have N0 := Fr.nil n0
  have l0 : (0 : Int32).toInt = 0 := rfl
  have l1 : (1 : Int32).toInt = 1 := rfl
  have l2 : (2 : Int32).toInt = 2 := rfl
  have l3 : (3 : Int32).toInt = 3 := rfl
  refine own_blk dec14 seq14 hby hx hZ hown hK hF 9 [true, false] [] X0 eh0 ?_
  show (((0 : Int32)).toInt < ((1 : Int32)).toInt) ∧ (¬ (((1 : Int32)).toInt = 0)) ∧ own_Aft X0 h0 _ 73 [zA a, zI 0, zI 1, zI 3, zI 1, zI 1] [.int 1]
  refine ⟨by decide, by decide, fun T1 X1 eh1 => ?_⟩
  exact own_ret X1 hx hlk eh1 hret (by first | rfl | decide) (Or.inl ⟨rfl, by simp, _, rfl⟩) (hb hby d14_73) (by decide) (by decide) (⟨rfl, rfl, rfl⟩)
set_option maxRecDepth 65536 in
set_option maxHeartbeats 40000000 in
theorem rm14_111 (l : Launch) (Z : State) (a0 : Array Value) (hw : ∀ d ∈ tables_1, d.before a0 Z = true) (ws : List Jvm.Cond) (a el po bo fi en ma we tu sk ss mk ms : Addr) (f0 f1 f2 nb tc : Int32) (Lw : List Value) (y0 y1 y2 : UInt64) (D0 D1 D2 : Int) (h0 : Heap) (n0 : Nat) (Z0 : n0 ≤ h0.size) (EX : Exa Z h0 a cP) (PF : own_PF Z h0 a el po bo fi en ma we tu sk ss mk ms nb tc) (Ae : own_A Z h0 el .int [.int f0, .int f1, .int f2]) (Aw : own_A Z h0 we .double Lw)  :
    own_MF l (⟨cP, "groupEnd", "(IIIZ)I"⟩ : MethodName) prog_12_method_11_code 6 (some .int) ws ({ frames := 2, cells := 0, slots := 0, locals := 40 } : Room) #[.ref a, .int 1, .int 1, .int 3, .int 1] Z h0 (fun v h L => (v = some (.int 3)) ∧ L = [] ∧ h = h0) := by
  refine own_body pf14 (ls0 := [.val (.ref a), .val (.int 1), .val (.int 1), .val (.int 3), .val (.int 1), .unset]) (fun m => by first | (simp [entryFrame, mkF, argsToLocals, Value.category, maxLocals]; done) | rfl) ?_
  intro p e s m below meth c T0 hx hby hml hown hnm hlk hret hZ X0 eh0
  have hK := hKt1 hw; have hF := hFt1 hw
  have N0 := Fr.nil n0
  have l0 : (0 : Int32).toInt = 0 := rfl
  have l1 : (1 : Int32).toInt = 1 := rfl
  have l2 : (2 : Int32).toInt = 2 := rfl
  have l3 : (3 : Int32).toInt = 3 := rfl
  refine own_blk dec14 seq14 hby hx hZ hown hK hF 7 [false] [] X0 eh0 ?_
  show (¬ (((1 : Int32)).toInt < ((1 : Int32)).toInt)) ∧ own_Aft X0 h0 _ 73 [zA a, zI 1, zI 1, zI 3, zI 1, zI 3] [.int 3]
  refine ⟨by decide, fun T1 X1 eh1 => ?_⟩
  exact own_ret X1 hx hlk eh1 hret (by first | rfl | decide) (Or.inl ⟨rfl, by simp, _, rfl⟩) (hb hby d14_73) (by decide) (by decide) (⟨rfl, rfl, rfl⟩)
set_option maxRecDepth 65536 in
set_option maxHeartbeats 40000000 in
theorem rm14_021 (l : Launch) (Z : State) (a0 : Array Value) (hw : ∀ d ∈ tables_1, d.before a0 Z = true) (ws : List Jvm.Cond) (a el po bo fi en ma we tu sk ss mk ms : Addr) (f0 f1 f2 nb tc : Int32) (Lw : List Value) (y0 y1 y2 : UInt64) (D0 D1 D2 : Int) (h0 : Heap) (n0 : Nat) (Z0 : n0 ≤ h0.size) (EX : Exa Z h0 a cP) (PF : own_PF Z h0 a el po bo fi en ma we tu sk ss mk ms nb tc) (Ae : own_A Z h0 el .int [.int f0, .int f1, .int f2]) (Aw : own_A Z h0 we .double Lw)  :
    own_MF l (⟨cP, "groupEnd", "(IIIZ)I"⟩ : MethodName) prog_12_method_11_code 6 (some .int) ws ({ frames := 2, cells := 0, slots := 0, locals := 40 } : Room) #[.ref a, .int 0, .int 2, .int 3, .int 1] Z h0 (fun v h L => (v = some (.int 2)) ∧ L = [] ∧ h = h0) := by
  refine own_body pf14 (ls0 := [.val (.ref a), .val (.int 0), .val (.int 2), .val (.int 3), .val (.int 1), .unset]) (fun m => by first | (simp [entryFrame, mkF, argsToLocals, Value.category, maxLocals]; done) | rfl) ?_
  intro p e s m below meth c T0 hx hby hml hown hnm hlk hret hZ X0 eh0
  have hK := hKt1 hw; have hF := hFt1 hw
  have N0 := Fr.nil n0
  have l0 : (0 : Int32).toInt = 0 := rfl
  have l1 : (1 : Int32).toInt = 1 := rfl
  have l2 : (2 : Int32).toInt = 2 := rfl
  have l3 : (3 : Int32).toInt = 3 := rfl
  refine own_blk dec14 seq14 hby hx hZ hown hK hF 9 [true, false] [] X0 eh0 ?_
  show (((0 : Int32)).toInt < ((2 : Int32)).toInt) ∧ (¬ (((1 : Int32)).toInt = 0)) ∧ own_Aft X0 h0 _ 73 [zA a, zI 0, zI 2, zI 3, zI 1, zI 2] [.int 2]
  refine ⟨by decide, by decide, fun T1 X1 eh1 => ?_⟩
  exact own_ret X1 hx hlk eh1 hret (by first | rfl | decide) (Or.inl ⟨rfl, by simp, _, rfl⟩) (hb hby d14_73) (by decide) (by decide) (⟨rfl, rfl, rfl⟩)
set_option maxRecDepth 65536 in
set_option maxHeartbeats 40000000 in
theorem rm14_221 (l : Launch) (Z : State) (a0 : Array Value) (hw : ∀ d ∈ tables_1, d.before a0 Z = true) (ws : List Jvm.Cond) (a el po bo fi en ma we tu sk ss mk ms : Addr) (f0 f1 f2 nb tc : Int32) (Lw : List Value) (y0 y1 y2 : UInt64) (D0 D1 D2 : Int) (h0 : Heap) (n0 : Nat) (Z0 : n0 ≤ h0.size) (EX : Exa Z h0 a cP) (PF : own_PF Z h0 a el po bo fi en ma we tu sk ss mk ms nb tc) (Ae : own_A Z h0 el .int [.int f0, .int f1, .int f2]) (Aw : own_A Z h0 we .double Lw)  :
    own_MF l (⟨cP, "groupEnd", "(IIIZ)I"⟩ : MethodName) prog_12_method_11_code 6 (some .int) ws ({ frames := 2, cells := 0, slots := 0, locals := 40 } : Room) #[.ref a, .int 2, .int 2, .int 3, .int 1] Z h0 (fun v h L => (v = some (.int 3)) ∧ L = [] ∧ h = h0) := by
  refine own_body pf14 (ls0 := [.val (.ref a), .val (.int 2), .val (.int 2), .val (.int 3), .val (.int 1), .unset]) (fun m => by first | (simp [entryFrame, mkF, argsToLocals, Value.category, maxLocals]; done) | rfl) ?_
  intro p e s m below meth c T0 hx hby hml hown hnm hlk hret hZ X0 eh0
  have hK := hKt1 hw; have hF := hFt1 hw
  have N0 := Fr.nil n0
  have l0 : (0 : Int32).toInt = 0 := rfl
  have l1 : (1 : Int32).toInt = 1 := rfl
  have l2 : (2 : Int32).toInt = 2 := rfl
  have l3 : (3 : Int32).toInt = 3 := rfl
  refine own_blk dec14 seq14 hby hx hZ hown hK hF 7 [false] [] X0 eh0 ?_
  show (¬ (((2 : Int32)).toInt < ((2 : Int32)).toInt)) ∧ own_Aft X0 h0 _ 73 [zA a, zI 2, zI 2, zI 3, zI 1, zI 3] [.int 3]
  refine ⟨by decide, fun T1 X1 eh1 => ?_⟩
  exact own_ret X1 hx hlk eh1 hret (by first | rfl | decide) (Or.inl ⟨rfl, by simp, _, rfl⟩) (hb hby d14_73) (by decide) (by decide) (⟨rfl, rfl, rfl⟩)
set_option maxRecDepth 65536 in
set_option maxHeartbeats 40000000 in
theorem rm14_031 (l : Launch) (Z : State) (a0 : Array Value) (hw : ∀ d ∈ tables_1, d.before a0 Z = true) (ws : List Jvm.Cond) (a el po bo fi en ma we tu sk ss mk ms : Addr) (f0 f1 f2 nb tc : Int32) (Lw : List Value) (y0 y1 y2 : UInt64) (D0 D1 D2 : Int) (h0 : Heap) (n0 : Nat) (Z0 : n0 ≤ h0.size) (EX : Exa Z h0 a cP) (PF : own_PF Z h0 a el po bo fi en ma we tu sk ss mk ms nb tc) (Ae : own_A Z h0 el .int [.int f0, .int f1, .int f2]) (Aw : own_A Z h0 we .double Lw)  :
    own_MF l (⟨cP, "groupEnd", "(IIIZ)I"⟩ : MethodName) prog_12_method_11_code 6 (some .int) ws ({ frames := 2, cells := 0, slots := 0, locals := 40 } : Room) #[.ref a, .int 0, .int 3, .int 3, .int 1] Z h0 (fun v h L => (v = some (.int 3)) ∧ L = [] ∧ h = h0) := by
  refine own_body pf14 (ls0 := [.val (.ref a), .val (.int 0), .val (.int 3), .val (.int 3), .val (.int 1), .unset]) (fun m => by first | (simp [entryFrame, mkF, argsToLocals, Value.category, maxLocals]; done) | rfl) ?_
  intro p e s m below meth c T0 hx hby hml hown hnm hlk hret hZ X0 eh0
  have hK := hKt1 hw; have hF := hFt1 hw
  have N0 := Fr.nil n0
  have l0 : (0 : Int32).toInt = 0 := rfl
  have l1 : (1 : Int32).toInt = 1 := rfl
  have l2 : (2 : Int32).toInt = 2 := rfl
  have l3 : (3 : Int32).toInt = 3 := rfl
  refine own_blk dec14 seq14 hby hx hZ hown hK hF 9 [true, false] [] X0 eh0 ?_
  show (((0 : Int32)).toInt < ((3 : Int32)).toInt) ∧ (¬ (((1 : Int32)).toInt = 0)) ∧ own_Aft X0 h0 _ 73 [zA a, zI 0, zI 3, zI 3, zI 1, zI 3] [.int 3]
  refine ⟨by decide, by decide, fun T1 X1 eh1 => ?_⟩
  exact own_ret X1 hx hlk eh1 hret (by first | rfl | decide) (Or.inl ⟨rfl, by simp, _, rfl⟩) (hb hby d14_73) (by decide) (by decide) (⟨rfl, rfl, rfl⟩)
set_option maxRecDepth 65536 in
set_option maxHeartbeats 40000000 in
theorem rm14_220 (l : Launch) (Z : State) (a0 : Array Value) (hw : ∀ d ∈ tables_1, d.before a0 Z = true) (ws : List Jvm.Cond) (a el po bo fi en ma we tu sk ss mk ms : Addr) (f0 f1 f2 nb tc : Int32) (Lw : List Value) (y0 y1 y2 : UInt64) (D0 D1 D2 : Int) (h0 : Heap) (n0 : Nat) (Z0 : n0 ≤ h0.size) (EX : Exa Z h0 a cP) (PF : own_PF Z h0 a el po bo fi en ma we tu sk ss mk ms nb tc) (Ae : own_A Z h0 el .int [.int f0, .int f1, .int f2]) (Aw : own_A Z h0 we .double Lw)  :
    own_MF l (⟨cP, "groupEnd", "(IIIZ)I"⟩ : MethodName) prog_12_method_11_code 6 (some .int) ws ({ frames := 2, cells := 0, slots := 0, locals := 40 } : Room) #[.ref a, .int 2, .int 2, .int 3, .int 0] Z h0 (fun v h L => (v = some (.int 3)) ∧ L = [] ∧ h = h0) := by
  refine own_body pf14 (ls0 := [.val (.ref a), .val (.int 2), .val (.int 2), .val (.int 3), .val (.int 0), .unset]) (fun m => by first | (simp [entryFrame, mkF, argsToLocals, Value.category, maxLocals]; done) | rfl) ?_
  intro p e s m below meth c T0 hx hby hml hown hnm hlk hret hZ X0 eh0
  have hK := hKt1 hw; have hF := hFt1 hw
  have N0 := Fr.nil n0
  have l0 : (0 : Int32).toInt = 0 := rfl
  have l1 : (1 : Int32).toInt = 1 := rfl
  have l2 : (2 : Int32).toInt = 2 := rfl
  have l3 : (3 : Int32).toInt = 3 := rfl
  refine own_blk dec14 seq14 hby hx hZ hown hK hF 7 [false] [] X0 eh0 ?_
  show (¬ (((2 : Int32)).toInt < ((2 : Int32)).toInt)) ∧ own_Aft X0 h0 _ 73 [zA a, zI 2, zI 2, zI 3, zI 0, zI 3] [.int 3]
  refine ⟨by decide, fun T1 X1 eh1 => ?_⟩
  exact own_ret X1 hx hlk eh1 hret (by first | rfl | decide) (Or.inl ⟨rfl, by simp, _, rfl⟩) (hb hby d14_73) (by decide) (by decide) (⟨rfl, rfl, rfl⟩)
set_option maxRecDepth 65536 in
set_option maxHeartbeats 40000000 in
theorem rm14_120 (l : Launch) (Z : State) (a0 : Array Value) (hw : ∀ d ∈ tables_1, d.before a0 Z = true) (ws : List Jvm.Cond) (a el po bo fi en ma we tu sk ss mk ms : Addr) (f0 f1 f2 nb tc : Int32) (Lw : List Value) (y0 y1 y2 : UInt64) (D0 D1 D2 : Int) (h0 : Heap) (n0 : Nat) (Z0 : n0 ≤ h0.size) (EX : Exa Z h0 a cP) (PF : own_PF Z h0 a el po bo fi en ma we tu sk ss mk ms nb tc) (Ae : own_A Z h0 el .int [.int f0, .int f1, .int f2]) (Aw : own_A Z h0 we .double Lw)  :
    own_MF l (⟨cP, "groupEnd", "(IIIZ)I"⟩ : MethodName) prog_12_method_11_code 6 (some .int) ws ({ frames := 2, cells := 0, slots := 0, locals := 40 } : Room) #[.ref a, .int 1, .int 2, .int 3, .int 0] Z h0 (fun v h L => (v = some (.int 2)) ∧ L = [] ∧ h = h0) := by
  refine own_body pf14 (ls0 := [.val (.ref a), .val (.int 1), .val (.int 2), .val (.int 3), .val (.int 0), .unset]) (fun m => by first | (simp [entryFrame, mkF, argsToLocals, Value.category, maxLocals]; done) | rfl) ?_
  intro p e s m below meth c T0 hx hby hml hown hnm hlk hret hZ X0 eh0
  have hK := hKt1 hw; have hF := hFt1 hw
  have N0 := Fr.nil n0
  have l0 : (0 : Int32).toInt = 0 := rfl
  have l1 : (1 : Int32).toInt = 1 := rfl
  have l2 : (2 : Int32).toInt = 2 := rfl
  have l3 : (3 : Int32).toInt = 3 := rfl
  refine own_blk dec14 seq14 hby hx hZ hown hK hF 13 [true, true, true] [] X0 eh0 ?_
  show (((1 : Int32)).toInt < ((2 : Int32)).toInt) ∧ (((0 : Int32)).toInt = 0) ∧ (((2 : Int32)).toInt ≤ ((2 : Int32)).toInt) ∧ own_Aft X0 h0 _ 73 [zA a, zI 1, zI 2, zI 3, zI 0, zI 2] [.int 2]
  refine ⟨by decide, by decide, by decide, fun T1 X1 eh1 => ?_⟩
  exact own_ret X1 hx hlk eh1 hret (by first | rfl | decide) (Or.inl ⟨rfl, by simp, _, rfl⟩) (hb hby d14_73) (by decide) (by decide) (⟨rfl, rfl, rfl⟩)
set_option maxRecDepth 65536 in
set_option maxHeartbeats 40000000 in
theorem rm14_230 (l : Launch) (Z : State) (a0 : Array Value) (hw : ∀ d ∈ tables_1, d.before a0 Z = true) (ws : List Jvm.Cond) (a el po bo fi en ma we tu sk ss mk ms : Addr) (f0 f1 f2 nb tc : Int32) (Lw : List Value) (y0 y1 y2 : UInt64) (D0 D1 D2 : Int) (h0 : Heap) (n0 : Nat) (Z0 : n0 ≤ h0.size) (EX : Exa Z h0 a cP) (PF : own_PF Z h0 a el po bo fi en ma we tu sk ss mk ms nb tc) (Ae : own_A Z h0 el .int [.int f0, .int f1, .int f2]) (Aw : own_A Z h0 we .double Lw)  :
    own_MF l (⟨cP, "groupEnd", "(IIIZ)I"⟩ : MethodName) prog_12_method_11_code 6 (some .int) ws ({ frames := 2, cells := 0, slots := 0, locals := 40 } : Room) #[.ref a, .int 2, .int 3, .int 3, .int 0] Z h0 (fun v h L => (v = some (.int 3)) ∧ L = [] ∧ h = h0) := by
  refine own_body pf14 (ls0 := [.val (.ref a), .val (.int 2), .val (.int 3), .val (.int 3), .val (.int 0), .unset]) (fun m => by first | (simp [entryFrame, mkF, argsToLocals, Value.category, maxLocals]; done) | rfl) ?_
  intro p e s m below meth c T0 hx hby hml hown hnm hlk hret hZ X0 eh0
  have hK := hKt1 hw; have hF := hFt1 hw
  have N0 := Fr.nil n0
  have l0 : (0 : Int32).toInt = 0 := rfl
  have l1 : (1 : Int32).toInt = 1 := rfl
  have l2 : (2 : Int32).toInt = 2 := rfl
  have l3 : (3 : Int32).toInt = 3 := rfl
  refine own_blk dec14 seq14 hby hx hZ hown hK hF 13 [true, true, true] [] X0 eh0 ?_
  show (((2 : Int32)).toInt < ((3 : Int32)).toInt) ∧ (((0 : Int32)).toInt = 0) ∧ (((3 : Int32)).toInt ≤ ((3 : Int32)).toInt) ∧ own_Aft X0 h0 _ 73 [zA a, zI 2, zI 3, zI 3, zI 0, zI 3] [.int 3]
  refine ⟨by decide, by decide, by decide, fun T1 X1 eh1 => ?_⟩
  exact own_ret X1 hx hlk eh1 hret (by first | rfl | decide) (Or.inl ⟨rfl, by simp, _, rfl⟩) (hb hby d14_73) (by decide) (by decide) (⟨rfl, rfl, rfl⟩)
set_option maxRecDepth 65536 in
set_option maxHeartbeats 40000000 in
theorem rm14_020 (l : Launch) (Z : State) (a0 : Array Value) (hw : ∀ d ∈ tables_1, d.before a0 Z = true) (ws : List Jvm.Cond) (a el po bo fi en ma we tu sk ss mk ms : Addr) (f0 f1 f2 nb tc : Int32) (Lw : List Value) (y0 y1 y2 : UInt64) (D0 D1 D2 : Int) (h0 : Heap) (n0 : Nat) (Z0 : n0 ≤ h0.size) (EX : Exa Z h0 a cP) (PF : own_PF Z h0 a el po bo fi en ma we tu sk ss mk ms nb tc) (Ae : own_A Z h0 el .int [.int f0, .int f1, .int f2]) (Aw : own_A Z h0 we .double Lw) (hw0 : Lw[f0.toInt.toNat]? = some (.double y0)) (hD0 : own_D 0 D0 y0) (bC0 : -3000 ≤ D0 ∧ D0 ≤ 3000) (hw1 : Lw[f1.toInt.toNat]? = some (.double y1)) (hD1 : own_D 0 D1 y1) (bC1 : -3000 ≤ D1 ∧ D1 ≤ 3000) (r00 : 0 ≤ f0.toInt) (r01 : f0.toInt < 3) (r10 : 0 ≤ f1.toInt) (r11 : f1.toInt < 3) (ne : D0 ≠ D1) :
    own_MF l (⟨cP, "groupEnd", "(IIIZ)I"⟩ : MethodName) prog_12_method_11_code 6 (some .int) ws ({ frames := 2, cells := 0, slots := 0, locals := 40 } : Room) #[.ref a, .int 0, .int 2, .int 3, .int 0] Z h0 (fun v h L => (v = some (.int 1)) ∧ L = [] ∧ h = h0) := by
  refine own_body pf14 (ls0 := [.val (.ref a), .val (.int 0), .val (.int 2), .val (.int 3), .val (.int 0), .unset]) (fun m => by first | (simp [entryFrame, mkF, argsToLocals, Value.category, maxLocals]; done) | rfl) ?_
  intro p e s m below meth c T0 hx hby hml hown hnm hlk hret hZ X0 eh0
  have hK := hKt1 hw; have hF := hFt1 hw
  have N0 := Fr.nil n0
  have l0 : (0 : Int32).toInt = 0 := rfl
  have l1 : (1 : Int32).toInt = 1 := rfl
  have l2 : (2 : Int32).toInt = 2 := rfl
  have l3 : (3 : Int32).toInt = 3 := rfl
  refine own_blk dec14 seq14 hby hx hZ hown hK hF 24 [true, true, false] [.ref we, .ref el, .int f0, .double y0, .ref we] X0 eh0 ?_
  show (((0 : Int32)).toInt < ((2 : Int32)).toInt) ∧ (((0 : Int32)).toInt = 0) ∧ (¬ (((2 : Int32)).toInt ≤ ((1 : Int32)).toInt)) ∧ (Fld Z h0 a cP "weight" "[D" (.ref we)) ∧ (Fld Z h0 a cP "elements" "[I" (.ref el)) ∧ (own_at Z h0 el .int (0 : Int32) (.int f0)) ∧ (own_at Z h0 we .double f0 (.double y0)) ∧ (Fld Z h0 a cP "weight" "[D" (.ref we)) ∧ own_Aft X0 h0 _ 52 [zA a, zI 0, zI 2, zI 3, zI 0, zI 1] [.ref a, .ref we, .double y0]
  refine ⟨by decide, by decide, by decide, PF.2.2.2.2.2.2.1, PF.1, Ae.at (0 : Int32) 0 rfl rfl, Aw.at f0 f0.toInt.toNat (by omega) hw0, PF.2.2.2.2.2.2.1, fun T1 X1 eh1 => ?_⟩
  refine own_blk dec14 seq14 hby hx hZ hown hK hF 4 [] [.ref el, .int f1, .double y1] X1 eh1 ?_
  show (Fld Z h0 a cP "elements" "[I" (.ref el)) ∧ (own_at Z h0 el .int (1 : Int32) (.int f1)) ∧ (own_at Z h0 we .double f1 (.double y1)) ∧ own_Aft X1 h0 _ 59 [zA a, zI 0, zI 2, zI 3, zI 0, zI 1] [.double y1, .double y0]
  refine ⟨PF.1, Ae.at (1 : Int32) 1 rfl rfl, Aw.at f1 f1.toInt.toNat (by omega) hw1, fun T2 X2 eh2 => ?_⟩
  refine own_callSP X2 hx hZ hown (hw _ (wm 93 rfl)) (hw _ (wm 94 rfl)) (hw _ (wm 3 rfl)) (hw _ (wm 95 rfl)) (by decide) eh2 [.double y0, .double y1] pd15 rfl (fr := 1) (lo := 24) (rm15 l Z a0 hw [] y0 y1 D0 D1 h0 n0 Z0 hD0 hD1 bC0 bC1) (by rw [hml]; rfl) 0 rfl (Nat.le_of_eq rfl) (hb hby d14_59) (by decide) (by decide) (by decide) (by decide) (fun T3 rv3 X3 eh3 qc3 => ?_)
  obtain ⟨r0_, rfl, hr0⟩ := qc3
  show own_Go p.tables e below _ (T3.setTop (mkF m 62 (Array.mk [zA a, zI 0, zI 2, zI 3, zI 0, zI 1]) [.int r0_]))
  obtain rfl : r0_ = 0 := by rcases hr0 with ⟨rfl, q⟩ | ⟨rfl, q⟩ <;> first | rfl | (exfalso; omega)
  show own_Go p.tables e below _ (T3.setTop (mkF m 62 (Array.mk [zA a, zI 0, zI 2, zI 3, zI 0, zI 1]) [.int 0]))
  refine own_blk dec14 seq14 hby hx hZ hown hK hF 2 [true] [] X3 eh3 ?_
  show (((0 : Int32)).toInt = 0) ∧ own_Aft X3 h0 _ 73 [zA a, zI 0, zI 2, zI 3, zI 0, zI 1] [.int 1]
  refine ⟨by decide, fun T4 X4 eh4 => ?_⟩
  exact own_ret X4 hx hlk eh4 hret (by first | rfl | decide) (Or.inl ⟨rfl, by simp, _, rfl⟩) (hb hby d14_73) (by decide) (by decide) (⟨rfl, rfl, rfl⟩)
set_option maxRecDepth 65536 in
set_option maxHeartbeats 40000000 in
theorem rm14_030n (l : Launch) (Z : State) (a0 : Array Value) (hw : ∀ d ∈ tables_1, d.before a0 Z = true) (ws : List Jvm.Cond) (a el po bo fi en ma we tu sk ss mk ms : Addr) (f0 f1 f2 nb tc : Int32) (Lw : List Value) (y0 y1 y2 : UInt64) (D0 D1 D2 : Int) (h0 : Heap) (n0 : Nat) (Z0 : n0 ≤ h0.size) (EX : Exa Z h0 a cP) (PF : own_PF Z h0 a el po bo fi en ma we tu sk ss mk ms nb tc) (Ae : own_A Z h0 el .int [.int f0, .int f1, .int f2]) (Aw : own_A Z h0 we .double Lw) (hw0 : Lw[f0.toInt.toNat]? = some (.double y0)) (hD0 : own_D 0 D0 y0) (bC0 : -3000 ≤ D0 ∧ D0 ≤ 3000) (hw1 : Lw[f1.toInt.toNat]? = some (.double y1)) (hD1 : own_D 0 D1 y1) (bC1 : -3000 ≤ D1 ∧ D1 ≤ 3000) (hw2 : Lw[f2.toInt.toNat]? = some (.double y2)) (hD2 : own_D 0 D2 y2) (bC2 : -3000 ≤ D2 ∧ D2 ≤ 3000) (r00 : 0 ≤ f0.toInt) (r01 : f0.toInt < 3) (r10 : 0 ≤ f1.toInt) (r11 : f1.toInt < 3) (r20 : 0 ≤ f2.toInt) (r21 : f2.toInt < 3) (ne : D0 ≠ D1) :
    own_MF l (⟨cP, "groupEnd", "(IIIZ)I"⟩ : MethodName) prog_12_method_11_code 6 (some .int) ws ({ frames := 2, cells := 0, slots := 0, locals := 40 } : Room) #[.ref a, .int 0, .int 3, .int 3, .int 0] Z h0 (fun v h L => (v = some (.int 1)) ∧ L = [] ∧ h = h0) := by
  refine own_body pf14 (ls0 := [.val (.ref a), .val (.int 0), .val (.int 3), .val (.int 3), .val (.int 0), .unset]) (fun m => by first | (simp [entryFrame, mkF, argsToLocals, Value.category, maxLocals]; done) | rfl) ?_
  intro p e s m below meth c T0 hx hby hml hown hnm hlk hret hZ X0 eh0
  have hK := hKt1 hw; have hF := hFt1 hw
  have N0 := Fr.nil n0
  have l0 : (0 : Int32).toInt = 0 := rfl
  have l1 : (1 : Int32).toInt = 1 := rfl
  have l2 : (2 : Int32).toInt = 2 := rfl
  have l3 : (3 : Int32).toInt = 3 := rfl
  refine own_blk dec14 seq14 hby hx hZ hown hK hF 24 [true, true, false] [.ref we, .ref el, .int f0, .double y0, .ref we] X0 eh0 ?_
  show (((0 : Int32)).toInt < ((3 : Int32)).toInt) ∧ (((0 : Int32)).toInt = 0) ∧ (¬ (((3 : Int32)).toInt ≤ ((1 : Int32)).toInt)) ∧ (Fld Z h0 a cP "weight" "[D" (.ref we)) ∧ (Fld Z h0 a cP "elements" "[I" (.ref el)) ∧ (own_at Z h0 el .int (0 : Int32) (.int f0)) ∧ (own_at Z h0 we .double f0 (.double y0)) ∧ (Fld Z h0 a cP "weight" "[D" (.ref we)) ∧ own_Aft X0 h0 _ 52 [zA a, zI 0, zI 3, zI 3, zI 0, zI 1] [.ref a, .ref we, .double y0]
  refine ⟨by decide, by decide, by decide, PF.2.2.2.2.2.2.1, PF.1, Ae.at (0 : Int32) 0 rfl rfl, Aw.at f0 f0.toInt.toNat (by omega) hw0, PF.2.2.2.2.2.2.1, fun T1 X1 eh1 => ?_⟩
  refine own_blk dec14 seq14 hby hx hZ hown hK hF 4 [] [.ref el, .int f1, .double y1] X1 eh1 ?_
  show (Fld Z h0 a cP "elements" "[I" (.ref el)) ∧ (own_at Z h0 el .int (1 : Int32) (.int f1)) ∧ (own_at Z h0 we .double f1 (.double y1)) ∧ own_Aft X1 h0 _ 59 [zA a, zI 0, zI 3, zI 3, zI 0, zI 1] [.double y1, .double y0]
  refine ⟨PF.1, Ae.at (1 : Int32) 1 rfl rfl, Aw.at f1 f1.toInt.toNat (by omega) hw1, fun T2 X2 eh2 => ?_⟩
  refine own_callSP X2 hx hZ hown (hw _ (wm 93 rfl)) (hw _ (wm 94 rfl)) (hw _ (wm 3 rfl)) (hw _ (wm 95 rfl)) (by decide) eh2 [.double y0, .double y1] pd15 rfl (fr := 1) (lo := 24) (rm15 l Z a0 hw [] y0 y1 D0 D1 h0 n0 Z0 hD0 hD1 bC0 bC1) (by rw [hml]; rfl) 0 rfl (Nat.le_of_eq rfl) (hb hby d14_59) (by decide) (by decide) (by decide) (by decide) (fun T3 rv3 X3 eh3 qc3 => ?_)
  obtain ⟨r0_, rfl, hr0⟩ := qc3
  show own_Go p.tables e below _ (T3.setTop (mkF m 62 (Array.mk [zA a, zI 0, zI 3, zI 3, zI 0, zI 1]) [.int r0_]))
  obtain rfl : r0_ = 0 := by rcases hr0 with ⟨rfl, q⟩ | ⟨rfl, q⟩ <;> first | rfl | (exfalso; omega)
  show own_Go p.tables e below _ (T3.setTop (mkF m 62 (Array.mk [zA a, zI 0, zI 3, zI 3, zI 0, zI 1]) [.int 0]))
  refine own_blk dec14 seq14 hby hx hZ hown hK hF 2 [true] [] X3 eh3 ?_
  show (((0 : Int32)).toInt = 0) ∧ own_Aft X3 h0 _ 73 [zA a, zI 0, zI 3, zI 3, zI 0, zI 1] [.int 1]
  refine ⟨by decide, fun T4 X4 eh4 => ?_⟩
  exact own_ret X4 hx hlk eh4 hret (by first | rfl | decide) (Or.inl ⟨rfl, by simp, _, rfl⟩) (hb hby d14_73) (by decide) (by decide) (⟨rfl, rfl, rfl⟩)
set_option maxRecDepth 65536 in
set_option maxHeartbeats 40000000 in
theorem rm14_030e (l : Launch) (Z : State) (a0 : Array Value) (hw : ∀ d ∈ tables_1, d.before a0 Z = true) (ws : List Jvm.Cond) (a el po bo fi en ma we tu sk ss mk ms : Addr) (f0 f1 f2 nb tc : Int32) (Lw : List Value) (y0 y1 y2 : UInt64) (D0 D1 D2 : Int) (h0 : Heap) (n0 : Nat) (Z0 : n0 ≤ h0.size) (EX : Exa Z h0 a cP) (PF : own_PF Z h0 a el po bo fi en ma we tu sk ss mk ms nb tc) (Ae : own_A Z h0 el .int [.int f0, .int f1, .int f2]) (Aw : own_A Z h0 we .double Lw) (hw0 : Lw[f0.toInt.toNat]? = some (.double y0)) (hD0 : own_D 0 D0 y0) (bC0 : -3000 ≤ D0 ∧ D0 ≤ 3000) (hw1 : Lw[f1.toInt.toNat]? = some (.double y1)) (hD1 : own_D 0 D1 y1) (bC1 : -3000 ≤ D1 ∧ D1 ≤ 3000) (hw2 : Lw[f2.toInt.toNat]? = some (.double y2)) (hD2 : own_D 0 D2 y2) (bC2 : -3000 ≤ D2 ∧ D2 ≤ 3000) (r00 : 0 ≤ f0.toInt) (r01 : f0.toInt < 3) (r10 : 0 ≤ f1.toInt) (r11 : f1.toInt < 3) (r20 : 0 ≤ f2.toInt) (r21 : f2.toInt < 3) (eq : D0 = D1) (ne : D1 ≠ D2) :
    own_MF l (⟨cP, "groupEnd", "(IIIZ)I"⟩ : MethodName) prog_12_method_11_code 6 (some .int) ws ({ frames := 2, cells := 0, slots := 0, locals := 40 } : Room) #[.ref a, .int 0, .int 3, .int 3, .int 0] Z h0 (fun v h L => (v = some (.int 2)) ∧ L = [] ∧ h = h0) := by
  refine own_body pf14 (ls0 := [.val (.ref a), .val (.int 0), .val (.int 3), .val (.int 3), .val (.int 0), .unset]) (fun m => by first | (simp [entryFrame, mkF, argsToLocals, Value.category, maxLocals]; done) | rfl) ?_
  intro p e s m below meth c T0 hx hby hml hown hnm hlk hret hZ X0 eh0
  have hK := hKt1 hw; have hF := hFt1 hw
  have N0 := Fr.nil n0
  have l0 : (0 : Int32).toInt = 0 := rfl
  have l1 : (1 : Int32).toInt = 1 := rfl
  have l2 : (2 : Int32).toInt = 2 := rfl
  have l3 : (3 : Int32).toInt = 3 := rfl
  refine own_blk dec14 seq14 hby hx hZ hown hK hF 24 [true, true, false] [.ref we, .ref el, .int f0, .double y0, .ref we] X0 eh0 ?_
  show (((0 : Int32)).toInt < ((3 : Int32)).toInt) ∧ (((0 : Int32)).toInt = 0) ∧ (¬ (((3 : Int32)).toInt ≤ ((1 : Int32)).toInt)) ∧ (Fld Z h0 a cP "weight" "[D" (.ref we)) ∧ (Fld Z h0 a cP "elements" "[I" (.ref el)) ∧ (own_at Z h0 el .int (0 : Int32) (.int f0)) ∧ (own_at Z h0 we .double f0 (.double y0)) ∧ (Fld Z h0 a cP "weight" "[D" (.ref we)) ∧ own_Aft X0 h0 _ 52 [zA a, zI 0, zI 3, zI 3, zI 0, zI 1] [.ref a, .ref we, .double y0]
  refine ⟨by decide, by decide, by decide, PF.2.2.2.2.2.2.1, PF.1, Ae.at (0 : Int32) 0 rfl rfl, Aw.at f0 f0.toInt.toNat (by omega) hw0, PF.2.2.2.2.2.2.1, fun T1 X1 eh1 => ?_⟩
  refine own_blk dec14 seq14 hby hx hZ hown hK hF 4 [] [.ref el, .int f1, .double y1] X1 eh1 ?_
  show (Fld Z h0 a cP "elements" "[I" (.ref el)) ∧ (own_at Z h0 el .int (1 : Int32) (.int f1)) ∧ (own_at Z h0 we .double f1 (.double y1)) ∧ own_Aft X1 h0 _ 59 [zA a, zI 0, zI 3, zI 3, zI 0, zI 1] [.double y1, .double y0]
  refine ⟨PF.1, Ae.at (1 : Int32) 1 rfl rfl, Aw.at f1 f1.toInt.toNat (by omega) hw1, fun T2 X2 eh2 => ?_⟩
  refine own_callSP X2 hx hZ hown (hw _ (wm 93 rfl)) (hw _ (wm 94 rfl)) (hw _ (wm 3 rfl)) (hw _ (wm 95 rfl)) (by decide) eh2 [.double y0, .double y1] pd15 rfl (fr := 1) (lo := 24) (rm15 l Z a0 hw [] y0 y1 D0 D1 h0 n0 Z0 hD0 hD1 bC0 bC1) (by rw [hml]; rfl) 0 rfl (Nat.le_of_eq rfl) (hb hby d14_59) (by decide) (by decide) (by decide) (by decide) (fun T3 rv3 X3 eh3 qc3 => ?_)
  obtain ⟨r0_, rfl, hr0⟩ := qc3
  show own_Go p.tables e below _ (T3.setTop (mkF m 62 (Array.mk [zA a, zI 0, zI 3, zI 3, zI 0, zI 1]) [.int r0_]))
  obtain rfl : r0_ = 1 := by rcases hr0 with ⟨rfl, q⟩ | ⟨rfl, q⟩ <;> first | rfl | (exfalso; omega)
  show own_Go p.tables e below _ (T3.setTop (mkF m 62 (Array.mk [zA a, zI 0, zI 3, zI 3, zI 0, zI 1]) [.int 1]))
  refine own_blk dec14 seq14 hby hx hZ hown hK hF 22 [false, false] [.ref we, .ref el, .int f1, .double y1, .ref we, .ref el, .int f2, .double y2] X3 eh3 ?_
  show (¬ (((1 : Int32)).toInt = 0)) ∧ (¬ (((3 : Int32)).toInt ≤ ((2 : Int32)).toInt)) ∧ (Fld Z h0 a cP "weight" "[D" (.ref we)) ∧ (Fld Z h0 a cP "elements" "[I" (.ref el)) ∧ (own_at Z h0 el .int (1 : Int32) (.int f1)) ∧ (own_at Z h0 we .double f1 (.double y1)) ∧ (Fld Z h0 a cP "weight" "[D" (.ref we)) ∧ (Fld Z h0 a cP "elements" "[I" (.ref el)) ∧ (own_at Z h0 el .int (2 : Int32) (.int f2)) ∧ (own_at Z h0 we .double f2 (.double y2)) ∧ own_Aft X3 h0 _ 59 [zA a, zI 0, zI 3, zI 3, zI 0, zI 2] [.double y2, .double y1]
  refine ⟨by decide, by decide, PF.2.2.2.2.2.2.1, PF.1, Ae.at (1 : Int32) 1 rfl rfl, Aw.at f1 f1.toInt.toNat (by omega) hw1, PF.2.2.2.2.2.2.1, PF.1, Ae.at (2 : Int32) 2 rfl rfl, Aw.at f2 f2.toInt.toNat (by omega) hw2, fun T4 X4 eh4 => ?_⟩
  refine own_callSP X4 hx hZ hown (hw _ (wm 93 rfl)) (hw _ (wm 94 rfl)) (hw _ (wm 3 rfl)) (hw _ (wm 95 rfl)) (by decide) eh4 [.double y1, .double y2] pd15 rfl (fr := 1) (lo := 24) (rm15 l Z a0 hw [] y1 y2 D1 D2 h0 n0 Z0 hD1 hD2 bC1 bC2) (by rw [hml]; rfl) 0 rfl (Nat.le_of_eq rfl) (hb hby d14_59) (by decide) (by decide) (by decide) (by decide) (fun T5 rv5 X5 eh5 qc5 => ?_)
  obtain ⟨r1_, rfl, hr1⟩ := qc5
  show own_Go p.tables e below _ (T5.setTop (mkF m 62 (Array.mk [zA a, zI 0, zI 3, zI 3, zI 0, zI 2]) [.int r1_]))
  obtain rfl : r1_ = 0 := by rcases hr1 with ⟨rfl, q⟩ | ⟨rfl, q⟩ <;> first | rfl | (exfalso; omega)
  show own_Go p.tables e below _ (T5.setTop (mkF m 62 (Array.mk [zA a, zI 0, zI 3, zI 3, zI 0, zI 2]) [.int 0]))
  refine own_blk dec14 seq14 hby hx hZ hown hK hF 2 [true] [] X5 eh5 ?_
  show (((0 : Int32)).toInt = 0) ∧ own_Aft X5 h0 _ 73 [zA a, zI 0, zI 3, zI 3, zI 0, zI 2] [.int 2]
  refine ⟨by decide, fun T6 X6 eh6 => ?_⟩
  exact own_ret X6 hx hlk eh6 hret (by first | rfl | decide) (Or.inl ⟨rfl, by simp, _, rfl⟩) (hb hby d14_73) (by decide) (by decide) (⟨rfl, rfl, rfl⟩)
set_option maxRecDepth 65536 in
set_option maxHeartbeats 40000000 in
theorem rm14_130n (l : Launch) (Z : State) (a0 : Array Value) (hw : ∀ d ∈ tables_1, d.before a0 Z = true) (ws : List Jvm.Cond) (a el po bo fi en ma we tu sk ss mk ms : Addr) (f0 f1 f2 nb tc : Int32) (Lw : List Value) (y0 y1 y2 : UInt64) (D0 D1 D2 : Int) (h0 : Heap) (n0 : Nat) (Z0 : n0 ≤ h0.size) (EX : Exa Z h0 a cP) (PF : own_PF Z h0 a el po bo fi en ma we tu sk ss mk ms nb tc) (Ae : own_A Z h0 el .int [.int f0, .int f1, .int f2]) (Aw : own_A Z h0 we .double Lw) (hw0 : Lw[f0.toInt.toNat]? = some (.double y0)) (hD0 : own_D 0 D0 y0) (bC0 : -3000 ≤ D0 ∧ D0 ≤ 3000) (hw1 : Lw[f1.toInt.toNat]? = some (.double y1)) (hD1 : own_D 0 D1 y1) (bC1 : -3000 ≤ D1 ∧ D1 ≤ 3000) (hw2 : Lw[f2.toInt.toNat]? = some (.double y2)) (hD2 : own_D 0 D2 y2) (bC2 : -3000 ≤ D2 ∧ D2 ≤ 3000) (r00 : 0 ≤ f0.toInt) (r01 : f0.toInt < 3) (r10 : 0 ≤ f1.toInt) (r11 : f1.toInt < 3) (r20 : 0 ≤ f2.toInt) (r21 : f2.toInt < 3) (ne : D1 ≠ D2) :
    own_MF l (⟨cP, "groupEnd", "(IIIZ)I"⟩ : MethodName) prog_12_method_11_code 6 (some .int) ws ({ frames := 2, cells := 0, slots := 0, locals := 40 } : Room) #[.ref a, .int 1, .int 3, .int 3, .int 0] Z h0 (fun v h L => (v = some (.int 2)) ∧ L = [] ∧ h = h0) := by
  refine own_body pf14 (ls0 := [.val (.ref a), .val (.int 1), .val (.int 3), .val (.int 3), .val (.int 0), .unset]) (fun m => by first | (simp [entryFrame, mkF, argsToLocals, Value.category, maxLocals]; done) | rfl) ?_
  intro p e s m below meth c T0 hx hby hml hown hnm hlk hret hZ X0 eh0
  have hK := hKt1 hw; have hF := hFt1 hw
  have N0 := Fr.nil n0
  have l0 : (0 : Int32).toInt = 0 := rfl
  have l1 : (1 : Int32).toInt = 1 := rfl
  have l2 : (2 : Int32).toInt = 2 := rfl
  have l3 : (3 : Int32).toInt = 3 := rfl
  refine own_blk dec14 seq14 hby hx hZ hown hK hF 24 [true, true, false] [.ref we, .ref el, .int f1, .double y1, .ref we] X0 eh0 ?_
  show (((1 : Int32)).toInt < ((3 : Int32)).toInt) ∧ (((0 : Int32)).toInt = 0) ∧ (¬ (((3 : Int32)).toInt ≤ ((2 : Int32)).toInt)) ∧ (Fld Z h0 a cP "weight" "[D" (.ref we)) ∧ (Fld Z h0 a cP "elements" "[I" (.ref el)) ∧ (own_at Z h0 el .int (1 : Int32) (.int f1)) ∧ (own_at Z h0 we .double f1 (.double y1)) ∧ (Fld Z h0 a cP "weight" "[D" (.ref we)) ∧ own_Aft X0 h0 _ 52 [zA a, zI 1, zI 3, zI 3, zI 0, zI 2] [.ref a, .ref we, .double y1]
  refine ⟨by decide, by decide, by decide, PF.2.2.2.2.2.2.1, PF.1, Ae.at (1 : Int32) 1 rfl rfl, Aw.at f1 f1.toInt.toNat (by omega) hw1, PF.2.2.2.2.2.2.1, fun T1 X1 eh1 => ?_⟩
  refine own_blk dec14 seq14 hby hx hZ hown hK hF 4 [] [.ref el, .int f2, .double y2] X1 eh1 ?_
  show (Fld Z h0 a cP "elements" "[I" (.ref el)) ∧ (own_at Z h0 el .int (2 : Int32) (.int f2)) ∧ (own_at Z h0 we .double f2 (.double y2)) ∧ own_Aft X1 h0 _ 59 [zA a, zI 1, zI 3, zI 3, zI 0, zI 2] [.double y2, .double y1]
  refine ⟨PF.1, Ae.at (2 : Int32) 2 rfl rfl, Aw.at f2 f2.toInt.toNat (by omega) hw2, fun T2 X2 eh2 => ?_⟩
  refine own_callSP X2 hx hZ hown (hw _ (wm 93 rfl)) (hw _ (wm 94 rfl)) (hw _ (wm 3 rfl)) (hw _ (wm 95 rfl)) (by decide) eh2 [.double y1, .double y2] pd15 rfl (fr := 1) (lo := 24) (rm15 l Z a0 hw [] y1 y2 D1 D2 h0 n0 Z0 hD1 hD2 bC1 bC2) (by rw [hml]; rfl) 0 rfl (Nat.le_of_eq rfl) (hb hby d14_59) (by decide) (by decide) (by decide) (by decide) (fun T3 rv3 X3 eh3 qc3 => ?_)
  obtain ⟨r1_, rfl, hr1⟩ := qc3
  show own_Go p.tables e below _ (T3.setTop (mkF m 62 (Array.mk [zA a, zI 1, zI 3, zI 3, zI 0, zI 2]) [.int r1_]))
  obtain rfl : r1_ = 0 := by rcases hr1 with ⟨rfl, q⟩ | ⟨rfl, q⟩ <;> first | rfl | (exfalso; omega)
  show own_Go p.tables e below _ (T3.setTop (mkF m 62 (Array.mk [zA a, zI 1, zI 3, zI 3, zI 0, zI 2]) [.int 0]))
  refine own_blk dec14 seq14 hby hx hZ hown hK hF 2 [true] [] X3 eh3 ?_
  show (((0 : Int32)).toInt = 0) ∧ own_Aft X3 h0 _ 73 [zA a, zI 1, zI 3, zI 3, zI 0, zI 2] [.int 2]
  refine ⟨by decide, fun T4 X4 eh4 => ?_⟩
  exact own_ret X4 hx hlk eh4 hret (by first | rfl | decide) (Or.inl ⟨rfl, by simp, _, rfl⟩) (hb hby d14_73) (by decide) (by decide) (⟨rfl, rfl, rfl⟩)
set_option maxRecDepth 65536 in
set_option maxHeartbeats 40000000 in
theorem rm14_130e (l : Launch) (Z : State) (a0 : Array Value) (hw : ∀ d ∈ tables_1, d.before a0 Z = true) (ws : List Jvm.Cond) (a el po bo fi en ma we tu sk ss mk ms : Addr) (f0 f1 f2 nb tc : Int32) (Lw : List Value) (y0 y1 y2 : UInt64) (D0 D1 D2 : Int) (h0 : Heap) (n0 : Nat) (Z0 : n0 ≤ h0.size) (EX : Exa Z h0 a cP) (PF : own_PF Z h0 a el po bo fi en ma we tu sk ss mk ms nb tc) (Ae : own_A Z h0 el .int [.int f0, .int f1, .int f2]) (Aw : own_A Z h0 we .double Lw) (hw0 : Lw[f0.toInt.toNat]? = some (.double y0)) (hD0 : own_D 0 D0 y0) (bC0 : -3000 ≤ D0 ∧ D0 ≤ 3000) (hw1 : Lw[f1.toInt.toNat]? = some (.double y1)) (hD1 : own_D 0 D1 y1) (bC1 : -3000 ≤ D1 ∧ D1 ≤ 3000) (hw2 : Lw[f2.toInt.toNat]? = some (.double y2)) (hD2 : own_D 0 D2 y2) (bC2 : -3000 ≤ D2 ∧ D2 ≤ 3000) (r00 : 0 ≤ f0.toInt) (r01 : f0.toInt < 3) (r10 : 0 ≤ f1.toInt) (r11 : f1.toInt < 3) (r20 : 0 ≤ f2.toInt) (r21 : f2.toInt < 3) (eq : D1 = D2) :
    own_MF l (⟨cP, "groupEnd", "(IIIZ)I"⟩ : MethodName) prog_12_method_11_code 6 (some .int) ws ({ frames := 2, cells := 0, slots := 0, locals := 40 } : Room) #[.ref a, .int 1, .int 3, .int 3, .int 0] Z h0 (fun v h L => (v = some (.int 3)) ∧ L = [] ∧ h = h0) := by
  refine own_body pf14 (ls0 := [.val (.ref a), .val (.int 1), .val (.int 3), .val (.int 3), .val (.int 0), .unset]) (fun m => by first | (simp [entryFrame, mkF, argsToLocals, Value.category, maxLocals]; done) | rfl) ?_
  intro p e s m below meth c T0 hx hby hml hown hnm hlk hret hZ X0 eh0
  have hK := hKt1 hw; have hF := hFt1 hw
  have N0 := Fr.nil n0
  have l0 : (0 : Int32).toInt = 0 := rfl
  have l1 : (1 : Int32).toInt = 1 := rfl
  have l2 : (2 : Int32).toInt = 2 := rfl
  have l3 : (3 : Int32).toInt = 3 := rfl
  refine own_blk dec14 seq14 hby hx hZ hown hK hF 24 [true, true, false] [.ref we, .ref el, .int f1, .double y1, .ref we] X0 eh0 ?_
  show (((1 : Int32)).toInt < ((3 : Int32)).toInt) ∧ (((0 : Int32)).toInt = 0) ∧ (¬ (((3 : Int32)).toInt ≤ ((2 : Int32)).toInt)) ∧ (Fld Z h0 a cP "weight" "[D" (.ref we)) ∧ (Fld Z h0 a cP "elements" "[I" (.ref el)) ∧ (own_at Z h0 el .int (1 : Int32) (.int f1)) ∧ (own_at Z h0 we .double f1 (.double y1)) ∧ (Fld Z h0 a cP "weight" "[D" (.ref we)) ∧ own_Aft X0 h0 _ 52 [zA a, zI 1, zI 3, zI 3, zI 0, zI 2] [.ref a, .ref we, .double y1]
  refine ⟨by decide, by decide, by decide, PF.2.2.2.2.2.2.1, PF.1, Ae.at (1 : Int32) 1 rfl rfl, Aw.at f1 f1.toInt.toNat (by omega) hw1, PF.2.2.2.2.2.2.1, fun T1 X1 eh1 => ?_⟩
  refine own_blk dec14 seq14 hby hx hZ hown hK hF 4 [] [.ref el, .int f2, .double y2] X1 eh1 ?_
  show (Fld Z h0 a cP "elements" "[I" (.ref el)) ∧ (own_at Z h0 el .int (2 : Int32) (.int f2)) ∧ (own_at Z h0 we .double f2 (.double y2)) ∧ own_Aft X1 h0 _ 59 [zA a, zI 1, zI 3, zI 3, zI 0, zI 2] [.double y2, .double y1]
  refine ⟨PF.1, Ae.at (2 : Int32) 2 rfl rfl, Aw.at f2 f2.toInt.toNat (by omega) hw2, fun T2 X2 eh2 => ?_⟩
  refine own_callSP X2 hx hZ hown (hw _ (wm 93 rfl)) (hw _ (wm 94 rfl)) (hw _ (wm 3 rfl)) (hw _ (wm 95 rfl)) (by decide) eh2 [.double y1, .double y2] pd15 rfl (fr := 1) (lo := 24) (rm15 l Z a0 hw [] y1 y2 D1 D2 h0 n0 Z0 hD1 hD2 bC1 bC2) (by rw [hml]; rfl) 0 rfl (Nat.le_of_eq rfl) (hb hby d14_59) (by decide) (by decide) (by decide) (by decide) (fun T3 rv3 X3 eh3 qc3 => ?_)
  obtain ⟨r1_, rfl, hr1⟩ := qc3
  show own_Go p.tables e below _ (T3.setTop (mkF m 62 (Array.mk [zA a, zI 1, zI 3, zI 3, zI 0, zI 2]) [.int r1_]))
  obtain rfl : r1_ = 1 := by rcases hr1 with ⟨rfl, q⟩ | ⟨rfl, q⟩ <;> first | rfl | (exfalso; omega)
  show own_Go p.tables e below _ (T3.setTop (mkF m 62 (Array.mk [zA a, zI 1, zI 3, zI 3, zI 0, zI 2]) [.int 1]))
  refine own_blk dec14 seq14 hby hx hZ hown hK hF 7 [false, true] [] X3 eh3 ?_
  show (¬ (((1 : Int32)).toInt = 0)) ∧ (((3 : Int32)).toInt ≤ ((3 : Int32)).toInt) ∧ own_Aft X3 h0 _ 73 [zA a, zI 1, zI 3, zI 3, zI 0, zI 3] [.int 3]
  refine ⟨by decide, by decide, fun T4 X4 eh4 => ?_⟩
  exact own_ret X4 hx hlk eh4 hret (by first | rfl | decide) (Or.inl ⟨rfl, by simp, _, rfl⟩) (hb hby d14_73) (by decide) (by decide) (⟨rfl, rfl, rfl⟩)
set_option maxRecDepth 65536 in
set_option maxHeartbeats 40000000 in
theorem rm16_0_1 (l : Launch) (Z : State) (a0 : Array Value) (hw : ∀ d ∈ tables_1, d.before a0 Z = true) (ws : List Jvm.Cond) (a el po bo fi en ma we tu sk ss mk ms : Addr) (f0 f1 f2 tc i0 i1 i2 j0 j1 j2 : Int32) (Lb : List Value) (h0 : Heap) (n0 : Nat) (Z0 : n0 ≤ h0.size) (EX : Exa Z h0 a cP) (CH : own_CH n0 a el po bo fi en ma we tu sk ss mk ms) (PF : own_PF Z h0 a el po bo fi en ma we tu sk ss mk ms 1 tc) (Ae : own_A Z h0 el .int [.int f0, .int f1, .int f2]) (Ab : own_A Z h0 bo .int Lb) (hLb : Lb.length = 3) (Af : own_A Z h0 fi .int [.int i0, .int i1, .int i2]) (An : own_A Z h0 en .int [.int j0, .int j1, .int j2]) (q0 : 0 ≤ f0.toInt) (q1 : f0.toInt < 3) :
    own_MF l (⟨cP, "newBlock", "(II)V"⟩ : MethodName) prog_12_method_12_code 5 none ws ({ frames := 0, cells := 0, slots := 0, locals := 0 } : Room) #[.ref a, .int 0, .int 1] Z h0 (fun v h L => v = none ∧ Fr n0 L ∧ Keep h0 h [a, bo, fi, en] ∧ own_PF Z h a el po bo fi en ma we tu sk ss mk ms 2 tc ∧ own_A Z h bo .int (Lb.set f0.toInt.toNat (.int 1)) ∧ own_A Z h fi .int [.int i0, .int 0, .int i2] ∧ own_A Z h en .int [.int j0, .int 1, .int j2]) := by
  refine own_body pf16 (ls0 := [.val (.ref a), .val (.int 0), .val (.int 1), .unset, .unset]) (fun m => by first | (simp [entryFrame, mkF, argsToLocals, Value.category, maxLocals]; done) | rfl) ?_
  intro p e s m below meth c T0 hx hby hml hown hnm hlk hret hZ X0 eh0
  have hK := hKt1 hw; have hF := hFt1 hw
  have N0 := Fr.nil n0
  obtain ⟨c0_, c1_, c2_, c3_, c4_, c5_, c6_, c7_, c8_, c9_, c10_, c11_, c12_⟩ := CH
  have l0 : (0 : Int32).toInt = 0 := rfl
  have l1 : (1 : Int32).toInt = 1 := rfl
  have l2 : (2 : Int32).toInt = 2 := rfl
  have l3 : (3 : Int32).toInt = 3 := rfl
  have nin_el : el ∉ [a, bo, fi, en] := (own_nin (by simp only [own_out, and_true]; omega))
  have K0 := Keep.refl h0 [a, bo, fi, en]
  refine own_blk dec16 seq16 hby hx hZ hown hK hF 6 [] [.int 1] X0 eh0 ?_
  show (Fld Z h0 a cP "blocks" "I" (.int 1)) ∧ own_Aft X0 h0 _ 8 [zA a, zI 0, zI 1, zU, zU] [.int 2, .ref a, .int 1]
  refine ⟨PF.2.2.2.2.2.2.2.2.2.2.2.2.1, fun T1 X1 eh1 => ?_⟩
  refine own_putF X1 hx hZ hown (hw _ (wm 28 rfl)) eh1 PF.2.2.2.2.2.2.2.2.2.2.2.2.1 EX (Or.inl (hw _ (wm 29 rfl))) (hw _ (wm 2 rfl)) (ty := .int) (by decide) rfl rfl (hb hby d16_8) (fun T2 hp2 X2 eh2 Wr2 Fd2 Ea2 => ?_)
  have Ab_2 := Ab.other Wr2 (own_ne (by omega))
  have Af_2 := Af.other Wr2 (own_ne (by omega))
  have An_2 := An.other Wr2 (own_ne (by omega))
  have Nf2 := Fr.snoc X2 N0 (by omega)
  have Z_2 : n0 ≤ hp2.size := by rw [Wr.size Wr2]; exact Z0
  have K_2 := Keep.wr K0 Wr2 (Or.inl (List.mem_of_getElem? (i := 0) rfl))
  have PF_2 : own_PF Z hp2 a el po bo fi en ma we tu sk ss mk ms (2 : Int32) tc := ⟨own_so Wr2 PF.1 (Or.inr (hw _ (wm 12 rfl))) (Or.inl (hw _ (wm 29 rfl))), own_so Wr2 PF.2.1 (Or.inr (hw _ (wm 14 rfl))) (Or.inl (hw _ (wm 29 rfl))), own_so Wr2 PF.2.2.1 (Or.inr (hw _ (wm 16 rfl))) (Or.inl (hw _ (wm 29 rfl))), own_so Wr2 PF.2.2.2.1 (Or.inr (hw _ (wm 18 rfl))) (Or.inl (hw _ (wm 29 rfl))), own_so Wr2 PF.2.2.2.2.1 (Or.inr (hw _ (wm 20 rfl))) (Or.inl (hw _ (wm 29 rfl))), own_so Wr2 PF.2.2.2.2.2.1 (Or.inr (hw _ (wm 22 rfl))) (Or.inl (hw _ (wm 29 rfl))), own_so Wr2 PF.2.2.2.2.2.2.1 (Or.inr (hw _ (wm 25 rfl))) (Or.inl (hw _ (wm 29 rfl))), own_so Wr2 PF.2.2.2.2.2.2.2.1 (Or.inr (hw _ (wm 27 rfl))) (Or.inl (hw _ (wm 29 rfl))), own_so Wr2 PF.2.2.2.2.2.2.2.2.1 (Or.inr (hw _ (wm 31 rfl))) (Or.inl (hw _ (wm 29 rfl))), own_so Wr2 PF.2.2.2.2.2.2.2.2.2.1 (Or.inr (hw _ (wm 33 rfl))) (Or.inl (hw _ (wm 29 rfl))), own_so Wr2 PF.2.2.2.2.2.2.2.2.2.2.1 (Or.inr (hw _ (wm 35 rfl))) (Or.inl (hw _ (wm 29 rfl))), own_so Wr2 PF.2.2.2.2.2.2.2.2.2.2.2.1 (Or.inr (hw _ (wm 37 rfl))) (Or.inl (hw _ (wm 29 rfl))), Fd2, own_so Wr2 PF.2.2.2.2.2.2.2.2.2.2.2.2.2 (Or.inl (hw _ (wm 44 rfl))) (Or.inl (hw _ (wm 29 rfl)))⟩
  refine own_blk dec16 seq16 hby hx hZ hown hK hF 5 [] [.ref fi] X2 eh2 ?_
  show (Fld Z hp2 a cP "first" "[I" (.ref fi)) ∧ own_Aft X2 hp2 _ 18 [zA a, zI 0, zI 1, zI 1, zU] [.int 0, .int 1, .ref fi]
  refine ⟨PF_2.2.2.2.1, fun T3 X3 eh3 => ?_⟩
  refine own_sI X3 hx hZ eh3 Af_2 1 rfl (by show 1 < 3; decide) (hb hby d16_18) (fun T4 hp4 X4 eh4 Wr4 Ar4 => ?_)
  have Ar4' : own_A Z hp4 fi .int [.int i0, .int 0, .int i2] := Ar4
  have Ab_4 := Ab_2.other Wr4 (own_ne (by omega))
  have An_4 := An_2.other Wr4 (own_ne (by omega))
  have Ea2_4 := Exa.wr Wr4 Ea2
  have PF_4 := own_PF.wr PF_2 Wr4 (own_ne (by omega))
  have Nf4 := Fr.snoc X4 Nf2 (by omega)
  have Z_4 : n0 ≤ hp4.size := by rw [Wr.size Wr4]; exact Z_2
  have K_4 := Keep.wr K_2 Wr4 (Or.inl (List.mem_of_getElem? (i := 2) rfl))
  refine own_blk dec16 seq16 hby hx hZ hown hK hF 4 [] [.ref en] X4 eh4 ?_
  show (Fld Z hp4 a cP "end" "[I" (.ref en)) ∧ own_Aft X4 hp4 _ 25 [zA a, zI 0, zI 1, zI 1, zU] [.int 1, .int 1, .ref en]
  refine ⟨PF_4.2.2.2.2.1, fun T5 X5 eh5 => ?_⟩
  refine own_sI X5 hx hZ eh5 An_4 1 rfl (by show 1 < 3; decide) (hb hby d16_25) (fun T6 hp6 X6 eh6 Wr6 Ar6 => ?_)
  have Ar6' : own_A Z hp6 en .int [.int j0, .int 1, .int j2] := Ar6
  have Ab_6 := Ab_4.other Wr6 (own_ne (by omega))
  have Ar4'_6 := Ar4'.other Wr6 (own_ne (by omega))
  have Ea2_6 := Exa.wr Wr6 Ea2_4
  have PF_6 := own_PF.wr PF_4 Wr6 (own_ne (by omega))
  have Nf6 := Fr.snoc X6 Nf4 (by omega)
  have Z_6 : n0 ≤ hp6.size := by rw [Wr.size Wr6]; exact Z_4
  have K_6 := Keep.wr K_4 Wr6 (Or.inl (List.mem_of_getElem? (i := 3) rfl))
  refine own_blk dec16 seq16 hby hx hZ hown hK hF 12 [false] [.ref bo, .ref el, .int f0] X6 eh6 ?_
  show (¬ (((1 : Int32)).toInt ≤ ((0 : Int32)).toInt)) ∧ (Fld Z hp6 a cP "blockOf" "[I" (.ref bo)) ∧ (Fld Z hp6 a cP "elements" "[I" (.ref el)) ∧ (own_at Z hp6 el .int (0 : Int32) (.int f0)) ∧ own_Aft X6 hp6 _ 47 [zA a, zI 0, zI 1, zI 1, zI 0] [.int 1, .int f0, .ref bo]
  refine ⟨by decide, PF_6.2.2.1, PF_6.1, (Ae.keep K_6 nin_el).at (0 : Int32) 0 rfl rfl, fun T7 X7 eh7 => ?_⟩
  refine own_sI X7 hx hZ eh7 Ab_6 f0.toInt.toNat (by omega) (by omega) (hb hby d16_47) (fun T8 hp8 X8 eh8 Wr8 Ar8 => ?_)
  have Ar4'_8 := Ar4'_6.other Wr8 (own_ne (by omega))
  have Ar6'_8 := Ar6'.other Wr8 (own_ne (by omega))
  have Ea2_8 := Exa.wr Wr8 Ea2_6
  have PF_8 := own_PF.wr PF_6 Wr8 (own_ne (by omega))
  have Nf8 := Fr.snoc X8 Nf6 (by omega)
  have Z_8 : n0 ≤ hp8.size := by rw [Wr.size Wr8]; exact Z_6
  have K_8 := Keep.wr K_6 Wr8 (Or.inl (List.mem_of_getElem? (i := 1) rfl))
  refine own_blk dec16 seq16 hby hx hZ hown hK hF 5 [true] [] X8 eh8 ?_
  show (((1 : Int32)).toInt ≤ ((1 : Int32)).toInt) ∧ own_Aft X8 hp8 _ 54 [zA a, zI 0, zI 1, zI 1, zI 1] []
  refine ⟨by decide, fun T9 X9 eh9 => ?_⟩
  exact own_retV X9 hx hlk eh9 hret (hb hby d16_54) (by decide) (by decide) (⟨rfl, Nf8, K_8, PF_8, Ar8, Ar4'_8, Ar6'_8⟩)
set_option maxRecDepth 65536 in
set_option maxHeartbeats 40000000 in
theorem rm16_2_1 (l : Launch) (Z : State) (a0 : Array Value) (hw : ∀ d ∈ tables_1, d.before a0 Z = true) (ws : List Jvm.Cond) (a el po bo fi en ma we tu sk ss mk ms : Addr) (f0 f1 f2 tc i0 i1 i2 j0 j1 j2 : Int32) (Lb : List Value) (h0 : Heap) (n0 : Nat) (Z0 : n0 ≤ h0.size) (EX : Exa Z h0 a cP) (CH : own_CH n0 a el po bo fi en ma we tu sk ss mk ms) (PF : own_PF Z h0 a el po bo fi en ma we tu sk ss mk ms 1 tc) (Ae : own_A Z h0 el .int [.int f0, .int f1, .int f2]) (Ab : own_A Z h0 bo .int Lb) (hLb : Lb.length = 3) (Af : own_A Z h0 fi .int [.int i0, .int i1, .int i2]) (An : own_A Z h0 en .int [.int j0, .int j1, .int j2]) (q0 : 0 ≤ f2.toInt) (q1 : f2.toInt < 3) :
    own_MF l (⟨cP, "newBlock", "(II)V"⟩ : MethodName) prog_12_method_12_code 5 none ws ({ frames := 0, cells := 0, slots := 0, locals := 0 } : Room) #[.ref a, .int 2, .int 3] Z h0 (fun v h L => v = none ∧ Fr n0 L ∧ Keep h0 h [a, bo, fi, en] ∧ own_PF Z h a el po bo fi en ma we tu sk ss mk ms 2 tc ∧ own_A Z h bo .int (Lb.set f2.toInt.toNat (.int 1)) ∧ own_A Z h fi .int [.int i0, .int 2, .int i2] ∧ own_A Z h en .int [.int j0, .int 3, .int j2]) := by
  refine own_body pf16 (ls0 := [.val (.ref a), .val (.int 2), .val (.int 3), .unset, .unset]) (fun m => by first | (simp [entryFrame, mkF, argsToLocals, Value.category, maxLocals]; done) | rfl) ?_
  intro p e s m below meth c T0 hx hby hml hown hnm hlk hret hZ X0 eh0
  have hK := hKt1 hw; have hF := hFt1 hw
  have N0 := Fr.nil n0
  obtain ⟨c0_, c1_, c2_, c3_, c4_, c5_, c6_, c7_, c8_, c9_, c10_, c11_, c12_⟩ := CH
  have l0 : (0 : Int32).toInt = 0 := rfl
  have l1 : (1 : Int32).toInt = 1 := rfl
  have l2 : (2 : Int32).toInt = 2 := rfl
  have l3 : (3 : Int32).toInt = 3 := rfl
  have nin_el : el ∉ [a, bo, fi, en] := (own_nin (by simp only [own_out, and_true]; omega))
  have K0 := Keep.refl h0 [a, bo, fi, en]
  refine own_blk dec16 seq16 hby hx hZ hown hK hF 6 [] [.int 1] X0 eh0 ?_
  show (Fld Z h0 a cP "blocks" "I" (.int 1)) ∧ own_Aft X0 h0 _ 8 [zA a, zI 2, zI 3, zU, zU] [.int 2, .ref a, .int 1]
  refine ⟨PF.2.2.2.2.2.2.2.2.2.2.2.2.1, fun T1 X1 eh1 => ?_⟩
  refine own_putF X1 hx hZ hown (hw _ (wm 28 rfl)) eh1 PF.2.2.2.2.2.2.2.2.2.2.2.2.1 EX (Or.inl (hw _ (wm 29 rfl))) (hw _ (wm 2 rfl)) (ty := .int) (by decide) rfl rfl (hb hby d16_8) (fun T2 hp2 X2 eh2 Wr2 Fd2 Ea2 => ?_)
  have Ab_2 := Ab.other Wr2 (own_ne (by omega))
  have Af_2 := Af.other Wr2 (own_ne (by omega))
  have An_2 := An.other Wr2 (own_ne (by omega))
  have Nf2 := Fr.snoc X2 N0 (by omega)
  have Z_2 : n0 ≤ hp2.size := by rw [Wr.size Wr2]; exact Z0
  have K_2 := Keep.wr K0 Wr2 (Or.inl (List.mem_of_getElem? (i := 0) rfl))
  have PF_2 : own_PF Z hp2 a el po bo fi en ma we tu sk ss mk ms (2 : Int32) tc := ⟨own_so Wr2 PF.1 (Or.inr (hw _ (wm 12 rfl))) (Or.inl (hw _ (wm 29 rfl))), own_so Wr2 PF.2.1 (Or.inr (hw _ (wm 14 rfl))) (Or.inl (hw _ (wm 29 rfl))), own_so Wr2 PF.2.2.1 (Or.inr (hw _ (wm 16 rfl))) (Or.inl (hw _ (wm 29 rfl))), own_so Wr2 PF.2.2.2.1 (Or.inr (hw _ (wm 18 rfl))) (Or.inl (hw _ (wm 29 rfl))), own_so Wr2 PF.2.2.2.2.1 (Or.inr (hw _ (wm 20 rfl))) (Or.inl (hw _ (wm 29 rfl))), own_so Wr2 PF.2.2.2.2.2.1 (Or.inr (hw _ (wm 22 rfl))) (Or.inl (hw _ (wm 29 rfl))), own_so Wr2 PF.2.2.2.2.2.2.1 (Or.inr (hw _ (wm 25 rfl))) (Or.inl (hw _ (wm 29 rfl))), own_so Wr2 PF.2.2.2.2.2.2.2.1 (Or.inr (hw _ (wm 27 rfl))) (Or.inl (hw _ (wm 29 rfl))), own_so Wr2 PF.2.2.2.2.2.2.2.2.1 (Or.inr (hw _ (wm 31 rfl))) (Or.inl (hw _ (wm 29 rfl))), own_so Wr2 PF.2.2.2.2.2.2.2.2.2.1 (Or.inr (hw _ (wm 33 rfl))) (Or.inl (hw _ (wm 29 rfl))), own_so Wr2 PF.2.2.2.2.2.2.2.2.2.2.1 (Or.inr (hw _ (wm 35 rfl))) (Or.inl (hw _ (wm 29 rfl))), own_so Wr2 PF.2.2.2.2.2.2.2.2.2.2.2.1 (Or.inr (hw _ (wm 37 rfl))) (Or.inl (hw _ (wm 29 rfl))), Fd2, own_so Wr2 PF.2.2.2.2.2.2.2.2.2.2.2.2.2 (Or.inl (hw _ (wm 44 rfl))) (Or.inl (hw _ (wm 29 rfl)))⟩
  refine own_blk dec16 seq16 hby hx hZ hown hK hF 5 [] [.ref fi] X2 eh2 ?_
  show (Fld Z hp2 a cP "first" "[I" (.ref fi)) ∧ own_Aft X2 hp2 _ 18 [zA a, zI 2, zI 3, zI 1, zU] [.int 2, .int 1, .ref fi]
  refine ⟨PF_2.2.2.2.1, fun T3 X3 eh3 => ?_⟩
  refine own_sI X3 hx hZ eh3 Af_2 1 rfl (by show 1 < 3; decide) (hb hby d16_18) (fun T4 hp4 X4 eh4 Wr4 Ar4 => ?_)
  have Ar4' : own_A Z hp4 fi .int [.int i0, .int 2, .int i2] := Ar4
  have Ab_4 := Ab_2.other Wr4 (own_ne (by omega))
  have An_4 := An_2.other Wr4 (own_ne (by omega))
  have Ea2_4 := Exa.wr Wr4 Ea2
  have PF_4 := own_PF.wr PF_2 Wr4 (own_ne (by omega))
  have Nf4 := Fr.snoc X4 Nf2 (by omega)
  have Z_4 : n0 ≤ hp4.size := by rw [Wr.size Wr4]; exact Z_2
  have K_4 := Keep.wr K_2 Wr4 (Or.inl (List.mem_of_getElem? (i := 2) rfl))
  refine own_blk dec16 seq16 hby hx hZ hown hK hF 4 [] [.ref en] X4 eh4 ?_
  show (Fld Z hp4 a cP "end" "[I" (.ref en)) ∧ own_Aft X4 hp4 _ 25 [zA a, zI 2, zI 3, zI 1, zU] [.int 3, .int 1, .ref en]
  refine ⟨PF_4.2.2.2.2.1, fun T5 X5 eh5 => ?_⟩
  refine own_sI X5 hx hZ eh5 An_4 1 rfl (by show 1 < 3; decide) (hb hby d16_25) (fun T6 hp6 X6 eh6 Wr6 Ar6 => ?_)
  have Ar6' : own_A Z hp6 en .int [.int j0, .int 3, .int j2] := Ar6
  have Ab_6 := Ab_4.other Wr6 (own_ne (by omega))
  have Ar4'_6 := Ar4'.other Wr6 (own_ne (by omega))
  have Ea2_6 := Exa.wr Wr6 Ea2_4
  have PF_6 := own_PF.wr PF_4 Wr6 (own_ne (by omega))
  have Nf6 := Fr.snoc X6 Nf4 (by omega)
  have Z_6 : n0 ≤ hp6.size := by rw [Wr.size Wr6]; exact Z_4
  have K_6 := Keep.wr K_4 Wr6 (Or.inl (List.mem_of_getElem? (i := 3) rfl))
  refine own_blk dec16 seq16 hby hx hZ hown hK hF 12 [false] [.ref bo, .ref el, .int f2] X6 eh6 ?_
  show (¬ (((3 : Int32)).toInt ≤ ((2 : Int32)).toInt)) ∧ (Fld Z hp6 a cP "blockOf" "[I" (.ref bo)) ∧ (Fld Z hp6 a cP "elements" "[I" (.ref el)) ∧ (own_at Z hp6 el .int (2 : Int32) (.int f2)) ∧ own_Aft X6 hp6 _ 47 [zA a, zI 2, zI 3, zI 1, zI 2] [.int 1, .int f2, .ref bo]
  refine ⟨by decide, PF_6.2.2.1, PF_6.1, (Ae.keep K_6 nin_el).at (2 : Int32) 2 rfl rfl, fun T7 X7 eh7 => ?_⟩
  refine own_sI X7 hx hZ eh7 Ab_6 f2.toInt.toNat (by omega) (by omega) (hb hby d16_47) (fun T8 hp8 X8 eh8 Wr8 Ar8 => ?_)
  have Ar4'_8 := Ar4'_6.other Wr8 (own_ne (by omega))
  have Ar6'_8 := Ar6'.other Wr8 (own_ne (by omega))
  have Ea2_8 := Exa.wr Wr8 Ea2_6
  have PF_8 := own_PF.wr PF_6 Wr8 (own_ne (by omega))
  have Nf8 := Fr.snoc X8 Nf6 (by omega)
  have Z_8 : n0 ≤ hp8.size := by rw [Wr.size Wr8]; exact Z_6
  have K_8 := Keep.wr K_6 Wr8 (Or.inl (List.mem_of_getElem? (i := 1) rfl))
  refine own_blk dec16 seq16 hby hx hZ hown hK hF 5 [true] [] X8 eh8 ?_
  show (((3 : Int32)).toInt ≤ ((3 : Int32)).toInt) ∧ own_Aft X8 hp8 _ 54 [zA a, zI 2, zI 3, zI 1, zI 3] []
  refine ⟨by decide, fun T9 X9 eh9 => ?_⟩
  exact own_retV X9 hx hlk eh9 hret (hb hby d16_54) (by decide) (by decide) (⟨rfl, Nf8, K_8, PF_8, Ar8, Ar4'_8, Ar6'_8⟩)
set_option maxRecDepth 65536 in
set_option maxHeartbeats 40000000 in
theorem rm16_1_1 (l : Launch) (Z : State) (a0 : Array Value) (hw : ∀ d ∈ tables_1, d.before a0 Z = true) (ws : List Jvm.Cond) (a el po bo fi en ma we tu sk ss mk ms : Addr) (f0 f1 f2 tc i0 i1 i2 j0 j1 j2 : Int32) (Lb : List Value) (h0 : Heap) (n0 : Nat) (Z0 : n0 ≤ h0.size) (EX : Exa Z h0 a cP) (CH : own_CH n0 a el po bo fi en ma we tu sk ss mk ms) (PF : own_PF Z h0 a el po bo fi en ma we tu sk ss mk ms 1 tc) (Ae : own_A Z h0 el .int [.int f0, .int f1, .int f2]) (Ab : own_A Z h0 bo .int Lb) (hLb : Lb.length = 3) (Af : own_A Z h0 fi .int [.int i0, .int i1, .int i2]) (An : own_A Z h0 en .int [.int j0, .int j1, .int j2]) (q0 : 0 ≤ f1.toInt) (q1 : f1.toInt < 3) :
    own_MF l (⟨cP, "newBlock", "(II)V"⟩ : MethodName) prog_12_method_12_code 5 none ws ({ frames := 0, cells := 0, slots := 0, locals := 0 } : Room) #[.ref a, .int 1, .int 2] Z h0 (fun v h L => v = none ∧ Fr n0 L ∧ Keep h0 h [a, bo, fi, en] ∧ own_PF Z h a el po bo fi en ma we tu sk ss mk ms 2 tc ∧ own_A Z h bo .int (Lb.set f1.toInt.toNat (.int 1)) ∧ own_A Z h fi .int [.int i0, .int 1, .int i2] ∧ own_A Z h en .int [.int j0, .int 2, .int j2]) := by
  refine own_body pf16 (ls0 := [.val (.ref a), .val (.int 1), .val (.int 2), .unset, .unset]) (fun m => by first | (simp [entryFrame, mkF, argsToLocals, Value.category, maxLocals]; done) | rfl) ?_
  intro p e s m below meth c T0 hx hby hml hown hnm hlk hret hZ X0 eh0
  have hK := hKt1 hw; have hF := hFt1 hw
  have N0 := Fr.nil n0
  obtain ⟨c0_, c1_, c2_, c3_, c4_, c5_, c6_, c7_, c8_, c9_, c10_, c11_, c12_⟩ := CH
  have l0 : (0 : Int32).toInt = 0 := rfl
  have l1 : (1 : Int32).toInt = 1 := rfl
  have l2 : (2 : Int32).toInt = 2 := rfl
  have l3 : (3 : Int32).toInt = 3 := rfl
  have nin_el : el ∉ [a, bo, fi, en] := (own_nin (by simp only [own_out, and_true]; omega))
  have K0 := Keep.refl h0 [a, bo, fi, en]
  refine own_blk dec16 seq16 hby hx hZ hown hK hF 6 [] [.int 1] X0 eh0 ?_
  show (Fld Z h0 a cP "blocks" "I" (.int 1)) ∧ own_Aft X0 h0 _ 8 [zA a, zI 1, zI 2, zU, zU] [.int 2, .ref a, .int 1]
  refine ⟨PF.2.2.2.2.2.2.2.2.2.2.2.2.1, fun T1 X1 eh1 => ?_⟩
  refine own_putF X1 hx hZ hown (hw _ (wm 28 rfl)) eh1 PF.2.2.2.2.2.2.2.2.2.2.2.2.1 EX (Or.inl (hw _ (wm 29 rfl))) (hw _ (wm 2 rfl)) (ty := .int) (by decide) rfl rfl (hb hby d16_8) (fun T2 hp2 X2 eh2 Wr2 Fd2 Ea2 => ?_)
  have Ab_2 := Ab.other Wr2 (own_ne (by omega))
  have Af_2 := Af.other Wr2 (own_ne (by omega))
  have An_2 := An.other Wr2 (own_ne (by omega))
  have Nf2 := Fr.snoc X2 N0 (by omega)
  have Z_2 : n0 ≤ hp2.size := by rw [Wr.size Wr2]; exact Z0
  have K_2 := Keep.wr K0 Wr2 (Or.inl (List.mem_of_getElem? (i := 0) rfl))
  have PF_2 : own_PF Z hp2 a el po bo fi en ma we tu sk ss mk ms (2 : Int32) tc := ⟨own_so Wr2 PF.1 (Or.inr (hw _ (wm 12 rfl))) (Or.inl (hw _ (wm 29 rfl))), own_so Wr2 PF.2.1 (Or.inr (hw _ (wm 14 rfl))) (Or.inl (hw _ (wm 29 rfl))), own_so Wr2 PF.2.2.1 (Or.inr (hw _ (wm 16 rfl))) (Or.inl (hw _ (wm 29 rfl))), own_so Wr2 PF.2.2.2.1 (Or.inr (hw _ (wm 18 rfl))) (Or.inl (hw _ (wm 29 rfl))), own_so Wr2 PF.2.2.2.2.1 (Or.inr (hw _ (wm 20 rfl))) (Or.inl (hw _ (wm 29 rfl))), own_so Wr2 PF.2.2.2.2.2.1 (Or.inr (hw _ (wm 22 rfl))) (Or.inl (hw _ (wm 29 rfl))), own_so Wr2 PF.2.2.2.2.2.2.1 (Or.inr (hw _ (wm 25 rfl))) (Or.inl (hw _ (wm 29 rfl))), own_so Wr2 PF.2.2.2.2.2.2.2.1 (Or.inr (hw _ (wm 27 rfl))) (Or.inl (hw _ (wm 29 rfl))), own_so Wr2 PF.2.2.2.2.2.2.2.2.1 (Or.inr (hw _ (wm 31 rfl))) (Or.inl (hw _ (wm 29 rfl))), own_so Wr2 PF.2.2.2.2.2.2.2.2.2.1 (Or.inr (hw _ (wm 33 rfl))) (Or.inl (hw _ (wm 29 rfl))), own_so Wr2 PF.2.2.2.2.2.2.2.2.2.2.1 (Or.inr (hw _ (wm 35 rfl))) (Or.inl (hw _ (wm 29 rfl))), own_so Wr2 PF.2.2.2.2.2.2.2.2.2.2.2.1 (Or.inr (hw _ (wm 37 rfl))) (Or.inl (hw _ (wm 29 rfl))), Fd2, own_so Wr2 PF.2.2.2.2.2.2.2.2.2.2.2.2.2 (Or.inl (hw _ (wm 44 rfl))) (Or.inl (hw _ (wm 29 rfl)))⟩
  refine own_blk dec16 seq16 hby hx hZ hown hK hF 5 [] [.ref fi] X2 eh2 ?_
  show (Fld Z hp2 a cP "first" "[I" (.ref fi)) ∧ own_Aft X2 hp2 _ 18 [zA a, zI 1, zI 2, zI 1, zU] [.int 1, .int 1, .ref fi]
  refine ⟨PF_2.2.2.2.1, fun T3 X3 eh3 => ?_⟩
  refine own_sI X3 hx hZ eh3 Af_2 1 rfl (by show 1 < 3; decide) (hb hby d16_18) (fun T4 hp4 X4 eh4 Wr4 Ar4 => ?_)
  have Ar4' : own_A Z hp4 fi .int [.int i0, .int 1, .int i2] := Ar4
  have Ab_4 := Ab_2.other Wr4 (own_ne (by omega))
  have An_4 := An_2.other Wr4 (own_ne (by omega))
  have Ea2_4 := Exa.wr Wr4 Ea2
  have PF_4 := own_PF.wr PF_2 Wr4 (own_ne (by omega))
  have Nf4 := Fr.snoc X4 Nf2 (by omega)
  have Z_4 : n0 ≤ hp4.size := by rw [Wr.size Wr4]; exact Z_2
  have K_4 := Keep.wr K_2 Wr4 (Or.inl (List.mem_of_getElem? (i := 2) rfl))
  refine own_blk dec16 seq16 hby hx hZ hown hK hF 4 [] [.ref en] X4 eh4 ?_
  show (Fld Z hp4 a cP "end" "[I" (.ref en)) ∧ own_Aft X4 hp4 _ 25 [zA a, zI 1, zI 2, zI 1, zU] [.int 2, .int 1, .ref en]
  refine ⟨PF_4.2.2.2.2.1, fun T5 X5 eh5 => ?_⟩
  refine own_sI X5 hx hZ eh5 An_4 1 rfl (by show 1 < 3; decide) (hb hby d16_25) (fun T6 hp6 X6 eh6 Wr6 Ar6 => ?_)
  have Ar6' : own_A Z hp6 en .int [.int j0, .int 2, .int j2] := Ar6
  have Ab_6 := Ab_4.other Wr6 (own_ne (by omega))
  have Ar4'_6 := Ar4'.other Wr6 (own_ne (by omega))
  have Ea2_6 := Exa.wr Wr6 Ea2_4
  have PF_6 := own_PF.wr PF_4 Wr6 (own_ne (by omega))
  have Nf6 := Fr.snoc X6 Nf4 (by omega)
  have Z_6 : n0 ≤ hp6.size := by rw [Wr.size Wr6]; exact Z_4
  have K_6 := Keep.wr K_4 Wr6 (Or.inl (List.mem_of_getElem? (i := 3) rfl))
  refine own_blk dec16 seq16 hby hx hZ hown hK hF 12 [false] [.ref bo, .ref el, .int f1] X6 eh6 ?_
  show (¬ (((2 : Int32)).toInt ≤ ((1 : Int32)).toInt)) ∧ (Fld Z hp6 a cP "blockOf" "[I" (.ref bo)) ∧ (Fld Z hp6 a cP "elements" "[I" (.ref el)) ∧ (own_at Z hp6 el .int (1 : Int32) (.int f1)) ∧ own_Aft X6 hp6 _ 47 [zA a, zI 1, zI 2, zI 1, zI 1] [.int 1, .int f1, .ref bo]
  refine ⟨by decide, PF_6.2.2.1, PF_6.1, (Ae.keep K_6 nin_el).at (1 : Int32) 1 rfl rfl, fun T7 X7 eh7 => ?_⟩
  refine own_sI X7 hx hZ eh7 Ab_6 f1.toInt.toNat (by omega) (by omega) (hb hby d16_47) (fun T8 hp8 X8 eh8 Wr8 Ar8 => ?_)
  have Ar4'_8 := Ar4'_6.other Wr8 (own_ne (by omega))
  have Ar6'_8 := Ar6'.other Wr8 (own_ne (by omega))
  have Ea2_8 := Exa.wr Wr8 Ea2_6
  have PF_8 := own_PF.wr PF_6 Wr8 (own_ne (by omega))
  have Nf8 := Fr.snoc X8 Nf6 (by omega)
  have Z_8 : n0 ≤ hp8.size := by rw [Wr.size Wr8]; exact Z_6
  have K_8 := Keep.wr K_6 Wr8 (Or.inl (List.mem_of_getElem? (i := 1) rfl))
  refine own_blk dec16 seq16 hby hx hZ hown hK hF 5 [true] [] X8 eh8 ?_
  show (((2 : Int32)).toInt ≤ ((2 : Int32)).toInt) ∧ own_Aft X8 hp8 _ 54 [zA a, zI 1, zI 2, zI 1, zI 2] []
  refine ⟨by decide, fun T9 X9 eh9 => ?_⟩
  exact own_retV X9 hx hlk eh9 hret (hb hby d16_54) (by decide) (by decide) (⟨rfl, Nf8, K_8, PF_8, Ar8, Ar4'_8, Ar6'_8⟩)
set_option maxRecDepth 65536 in
set_option maxHeartbeats 40000000 in
theorem rm16_2_2 (l : Launch) (Z : State) (a0 : Array Value) (hw : ∀ d ∈ tables_1, d.before a0 Z = true) (ws : List Jvm.Cond) (a el po bo fi en ma we tu sk ss mk ms : Addr) (f0 f1 f2 tc i0 i1 i2 j0 j1 j2 : Int32) (Lb : List Value) (h0 : Heap) (n0 : Nat) (Z0 : n0 ≤ h0.size) (EX : Exa Z h0 a cP) (CH : own_CH n0 a el po bo fi en ma we tu sk ss mk ms) (PF : own_PF Z h0 a el po bo fi en ma we tu sk ss mk ms 2 tc) (Ae : own_A Z h0 el .int [.int f0, .int f1, .int f2]) (Ab : own_A Z h0 bo .int Lb) (hLb : Lb.length = 3) (Af : own_A Z h0 fi .int [.int i0, .int i1, .int i2]) (An : own_A Z h0 en .int [.int j0, .int j1, .int j2]) (q0 : 0 ≤ f2.toInt) (q1 : f2.toInt < 3) :
    own_MF l (⟨cP, "newBlock", "(II)V"⟩ : MethodName) prog_12_method_12_code 5 none ws ({ frames := 0, cells := 0, slots := 0, locals := 0 } : Room) #[.ref a, .int 2, .int 3] Z h0 (fun v h L => v = none ∧ Fr n0 L ∧ Keep h0 h [a, bo, fi, en] ∧ own_PF Z h a el po bo fi en ma we tu sk ss mk ms 3 tc ∧ own_A Z h bo .int (Lb.set f2.toInt.toNat (.int 2)) ∧ own_A Z h fi .int [.int i0, .int i1, .int 2] ∧ own_A Z h en .int [.int j0, .int j1, .int 3]) := by
  refine own_body pf16 (ls0 := [.val (.ref a), .val (.int 2), .val (.int 3), .unset, .unset]) (fun m => by first | (simp [entryFrame, mkF, argsToLocals, Value.category, maxLocals]; done) | rfl) ?_
  intro p e s m below meth c T0 hx hby hml hown hnm hlk hret hZ X0 eh0
  have hK := hKt1 hw; have hF := hFt1 hw
  have N0 := Fr.nil n0
  obtain ⟨c0_, c1_, c2_, c3_, c4_, c5_, c6_, c7_, c8_, c9_, c10_, c11_, c12_⟩ := CH
  have l0 : (0 : Int32).toInt = 0 := rfl
  have l1 : (1 : Int32).toInt = 1 := rfl
  have l2 : (2 : Int32).toInt = 2 := rfl
  have l3 : (3 : Int32).toInt = 3 := rfl
  have nin_el : el ∉ [a, bo, fi, en] := (own_nin (by simp only [own_out, and_true]; omega))
  have K0 := Keep.refl h0 [a, bo, fi, en]
  refine own_blk dec16 seq16 hby hx hZ hown hK hF 6 [] [.int 2] X0 eh0 ?_
  show (Fld Z h0 a cP "blocks" "I" (.int 2)) ∧ own_Aft X0 h0 _ 8 [zA a, zI 2, zI 3, zU, zU] [.int 3, .ref a, .int 2]
  refine ⟨PF.2.2.2.2.2.2.2.2.2.2.2.2.1, fun T1 X1 eh1 => ?_⟩
  refine own_putF X1 hx hZ hown (hw _ (wm 28 rfl)) eh1 PF.2.2.2.2.2.2.2.2.2.2.2.2.1 EX (Or.inl (hw _ (wm 29 rfl))) (hw _ (wm 2 rfl)) (ty := .int) (by decide) rfl rfl (hb hby d16_8) (fun T2 hp2 X2 eh2 Wr2 Fd2 Ea2 => ?_)
  have Ab_2 := Ab.other Wr2 (own_ne (by omega))
  have Af_2 := Af.other Wr2 (own_ne (by omega))
  have An_2 := An.other Wr2 (own_ne (by omega))
  have Nf2 := Fr.snoc X2 N0 (by omega)
  have Z_2 : n0 ≤ hp2.size := by rw [Wr.size Wr2]; exact Z0
  have K_2 := Keep.wr K0 Wr2 (Or.inl (List.mem_of_getElem? (i := 0) rfl))
  have PF_2 : own_PF Z hp2 a el po bo fi en ma we tu sk ss mk ms (3 : Int32) tc := ⟨own_so Wr2 PF.1 (Or.inr (hw _ (wm 12 rfl))) (Or.inl (hw _ (wm 29 rfl))), own_so Wr2 PF.2.1 (Or.inr (hw _ (wm 14 rfl))) (Or.inl (hw _ (wm 29 rfl))), own_so Wr2 PF.2.2.1 (Or.inr (hw _ (wm 16 rfl))) (Or.inl (hw _ (wm 29 rfl))), own_so Wr2 PF.2.2.2.1 (Or.inr (hw _ (wm 18 rfl))) (Or.inl (hw _ (wm 29 rfl))), own_so Wr2 PF.2.2.2.2.1 (Or.inr (hw _ (wm 20 rfl))) (Or.inl (hw _ (wm 29 rfl))), own_so Wr2 PF.2.2.2.2.2.1 (Or.inr (hw _ (wm 22 rfl))) (Or.inl (hw _ (wm 29 rfl))), own_so Wr2 PF.2.2.2.2.2.2.1 (Or.inr (hw _ (wm 25 rfl))) (Or.inl (hw _ (wm 29 rfl))), own_so Wr2 PF.2.2.2.2.2.2.2.1 (Or.inr (hw _ (wm 27 rfl))) (Or.inl (hw _ (wm 29 rfl))), own_so Wr2 PF.2.2.2.2.2.2.2.2.1 (Or.inr (hw _ (wm 31 rfl))) (Or.inl (hw _ (wm 29 rfl))), own_so Wr2 PF.2.2.2.2.2.2.2.2.2.1 (Or.inr (hw _ (wm 33 rfl))) (Or.inl (hw _ (wm 29 rfl))), own_so Wr2 PF.2.2.2.2.2.2.2.2.2.2.1 (Or.inr (hw _ (wm 35 rfl))) (Or.inl (hw _ (wm 29 rfl))), own_so Wr2 PF.2.2.2.2.2.2.2.2.2.2.2.1 (Or.inr (hw _ (wm 37 rfl))) (Or.inl (hw _ (wm 29 rfl))), Fd2, own_so Wr2 PF.2.2.2.2.2.2.2.2.2.2.2.2.2 (Or.inl (hw _ (wm 44 rfl))) (Or.inl (hw _ (wm 29 rfl)))⟩
  refine own_blk dec16 seq16 hby hx hZ hown hK hF 5 [] [.ref fi] X2 eh2 ?_
  show (Fld Z hp2 a cP "first" "[I" (.ref fi)) ∧ own_Aft X2 hp2 _ 18 [zA a, zI 2, zI 3, zI 2, zU] [.int 2, .int 2, .ref fi]
  refine ⟨PF_2.2.2.2.1, fun T3 X3 eh3 => ?_⟩
  refine own_sI X3 hx hZ eh3 Af_2 2 rfl (by show 2 < 3; decide) (hb hby d16_18) (fun T4 hp4 X4 eh4 Wr4 Ar4 => ?_)
  have Ar4' : own_A Z hp4 fi .int [.int i0, .int i1, .int 2] := Ar4
  have Ab_4 := Ab_2.other Wr4 (own_ne (by omega))
  have An_4 := An_2.other Wr4 (own_ne (by omega))
  have Ea2_4 := Exa.wr Wr4 Ea2
  have PF_4 := own_PF.wr PF_2 Wr4 (own_ne (by omega))
  have Nf4 := Fr.snoc X4 Nf2 (by omega)
  have Z_4 : n0 ≤ hp4.size := by rw [Wr.size Wr4]; exact Z_2
  have K_4 := Keep.wr K_2 Wr4 (Or.inl (List.mem_of_getElem? (i := 2) rfl))
  refine own_blk dec16 seq16 hby hx hZ hown hK hF 4 [] [.ref en] X4 eh4 ?_
  show (Fld Z hp4 a cP "end" "[I" (.ref en)) ∧ own_Aft X4 hp4 _ 25 [zA a, zI 2, zI 3, zI 2, zU] [.int 3, .int 2, .ref en]
  refine ⟨PF_4.2.2.2.2.1, fun T5 X5 eh5 => ?_⟩
  refine own_sI X5 hx hZ eh5 An_4 2 rfl (by show 2 < 3; decide) (hb hby d16_25) (fun T6 hp6 X6 eh6 Wr6 Ar6 => ?_)
  have Ar6' : own_A Z hp6 en .int [.int j0, .int j1, .int 3] := Ar6
  have Ab_6 := Ab_4.other Wr6 (own_ne (by omega))
  have Ar4'_6 := Ar4'.other Wr6 (own_ne (by omega))
  have Ea2_6 := Exa.wr Wr6 Ea2_4
  have PF_6 := own_PF.wr PF_4 Wr6 (own_ne (by omega))
  have Nf6 := Fr.snoc X6 Nf4 (by omega)
  have Z_6 : n0 ≤ hp6.size := by rw [Wr.size Wr6]; exact Z_4
  have K_6 := Keep.wr K_4 Wr6 (Or.inl (List.mem_of_getElem? (i := 3) rfl))
  refine own_blk dec16 seq16 hby hx hZ hown hK hF 12 [false] [.ref bo, .ref el, .int f2] X6 eh6 ?_
  show (¬ (((3 : Int32)).toInt ≤ ((2 : Int32)).toInt)) ∧ (Fld Z hp6 a cP "blockOf" "[I" (.ref bo)) ∧ (Fld Z hp6 a cP "elements" "[I" (.ref el)) ∧ (own_at Z hp6 el .int (2 : Int32) (.int f2)) ∧ own_Aft X6 hp6 _ 47 [zA a, zI 2, zI 3, zI 2, zI 2] [.int 2, .int f2, .ref bo]
  refine ⟨by decide, PF_6.2.2.1, PF_6.1, (Ae.keep K_6 nin_el).at (2 : Int32) 2 rfl rfl, fun T7 X7 eh7 => ?_⟩
  refine own_sI X7 hx hZ eh7 Ab_6 f2.toInt.toNat (by omega) (by omega) (hb hby d16_47) (fun T8 hp8 X8 eh8 Wr8 Ar8 => ?_)
  have Ar4'_8 := Ar4'_6.other Wr8 (own_ne (by omega))
  have Ar6'_8 := Ar6'.other Wr8 (own_ne (by omega))
  have Ea2_8 := Exa.wr Wr8 Ea2_6
  have PF_8 := own_PF.wr PF_6 Wr8 (own_ne (by omega))
  have Nf8 := Fr.snoc X8 Nf6 (by omega)
  have Z_8 : n0 ≤ hp8.size := by rw [Wr.size Wr8]; exact Z_6
  have K_8 := Keep.wr K_6 Wr8 (Or.inl (List.mem_of_getElem? (i := 1) rfl))
  refine own_blk dec16 seq16 hby hx hZ hown hK hF 5 [true] [] X8 eh8 ?_
  show (((3 : Int32)).toInt ≤ ((3 : Int32)).toInt) ∧ own_Aft X8 hp8 _ 54 [zA a, zI 2, zI 3, zI 2, zI 3] []
  refine ⟨by decide, fun T9 X9 eh9 => ?_⟩
  exact own_retV X9 hx hlk eh9 hret (hb hby d16_54) (by decide) (by decide) (⟨rfl, Nf8, K_8, PF_8, Ar8, Ar4'_8, Ar6'_8⟩)
set_option maxRecDepth 65536 in
set_option maxHeartbeats 40000000 in
theorem rm6_1 (l : Launch) (Z : State) (a0 : Array Value) (hw : ∀ d ∈ tables_1, d.before a0 Z = true) (ws : List Jvm.Cond) (a el po bo fi en ma we tu sk ss mk ms : Addr) (e0 e1 e2 : Int32) (Lp Lw Lb : List Value) (x0 : UInt64) (C0 : Int) (h0 : Heap) (n0 : Nat) (Z0 : n0 ≤ h0.size) (EX : Exa Z h0 a cP) (CH : own_CH n0 a el po bo fi en ma we tu sk ss mk ms) (PF : own_PF Z h0 a el po bo fi en ma we tu sk ss mk ms 1 1) (Ae : own_A Z h0 el .int [.int e0, .int e1, .int e2]) (Ap : own_A Z h0 po .int Lp) (hLp : Lp.length = 3) (Aw : own_A Z h0 we .double Lw) (Ak : own_A Z h0 sk .double [.double 0, .double 0, .double 0]) (As : own_A Z h0 ss .int [.int 0, .int 0, .int 0]) (Bk : own_A Z h0 mk .double [.double 0, .double 0, .double 0]) (Bs : own_A Z h0 ms .int [.int 0, .int 0, .int 0]) (Ab : own_A Z h0 bo .int Lb) (hLb : Lb.length = 3) (Af : own_A Z h0 fi .int [.int 0, .int 0, .int 0]) (An : own_A Z h0 en .int [.int 3, .int 0, .int 0]) (r00 : 0 ≤ e0.toInt) (r01 : e0.toInt < 3) (r10 : 0 ≤ e1.toInt) (r11 : e1.toInt < 3) (r20 : 0 ≤ e2.toInt) (r21 : e2.toInt < 3) (hw0 : Lw[e0.toInt.toNat]? = some (.double x0)) (hD0 : own_D 0 C0 x0) (bC0 : -3000 ≤ C0 ∧ C0 ≤ 3000) :
    own_MF l (⟨cP, "splitBlock", "(II)V"⟩ : MethodName) prog_12_method_9_code 10 none ws ({ frames := 3, cells := 0, slots := 0, locals := 72 } : Room) #[.ref a, .int 0, .int 1] Z h0 (fun v h L => v = none ∧ Fr n0 L ∧ Keep h0 h [a, el, po, bo, fi, en, sk, ss, mk, ms] ∧ ∃ (nb' : Int32) (Lb' : List Value), own_PF Z h a el po bo fi en ma we tu sk ss mk ms nb' 1 ∧ own_A Z h bo .int Lb' ∧ (nb' = 2 ∧ Lb' = (Lb).set e0.toInt.toNat (.int 1))) := by
  refine own_body pf6 (ls0 := [.val (.ref a), .val (.int 0), .val (.int 1), .unset, .unset, .unset, .unset, .unset, .unset, .unset]) (fun m => by first | (simp [entryFrame, mkF, argsToLocals, Value.category, maxLocals]; done) | rfl) ?_
  intro p e s m below meth c T0 hx hby hml hown hnm hlk hret hZ X0 eh0
  have hK := hKt1 hw; have hF := hFt1 hw
  have N0 := Fr.nil n0
  obtain ⟨c0_, c1_, c2_, c3_, c4_, c5_, c6_, c7_, c8_, c9_, c10_, c11_, c12_⟩ := CH
  have l0 : (0 : Int32).toInt = 0 := rfl
  have l1 : (1 : Int32).toInt = 1 := rfl
  have l2 : (2 : Int32).toInt = 2 := rfl
  have l3 : (3 : Int32).toInt = 3 := rfl
  have K0 := Keep.refl h0 [a, el, po, bo, fi, en, sk, ss, mk, ms]
  have CH : own_CH n0 a el po bo fi en ma we tu sk ss mk ms := ⟨c0_, c1_, c2_, c3_, c4_, c5_, c6_, c7_, c8_, c9_, c10_, c11_, c12_⟩
  refine own_blk dec6 seq6 hby hx hZ hown hK hF 13 [] [.ref fi, .int 0, .ref en, .int 3] X0 eh0 ?_
  show (Fld Z h0 a cP "first" "[I" (.ref fi)) ∧ (own_at Z h0 fi .int (0 : Int32) (.int 0)) ∧ (Fld Z h0 a cP "end" "[I" (.ref en)) ∧ (own_at Z h0 en .int (0 : Int32) (.int 3)) ∧ own_Aft X0 h0 _ 18 [zA a, zI 0, zI 1, zI 0, zI 3, zU, zU, zU, zU, zU] [.int 1, .int 0, .ref a]
  refine ⟨PF.2.2.2.1, Af.at (0 : Int32) 0 rfl rfl, PF.2.2.2.2.1, An.at (0 : Int32) 0 rfl rfl, fun T1 X1 eh1 => ?_⟩
  refine own_callPP X1 hx hZ hown (hw _ (wm 63 rfl)) (hw _ (wm 65 rfl)) (hw _ (wm 2 rfl)) (hw _ (wm 64 rfl)) (hw _ (wm 3 rfl)) (hw _ (wm 66 rfl)) (by decide) eh1 EX [.int 0, .int 1] pd7 rfl (fr := 1) (lo := 24) (rm7_1 l Z a0 hw [] a el po bo fi en ma we tu sk ss mk ms e0 e1 e2 1 1 Lw x0 C0 h0 n0 Z0 EX PF Ae Aw r00 r01 r10 r11 r20 r21 hw0 hD0 bC0) (by rw [hml]; rfl) 0 rfl (Nat.le_of_eq rfl) (hb hby d6_18) (by decide) (by decide) (by decide) (by decide) (fun T2 rv2 X2 eh2 qc2 => ?_)
  obtain ⟨ra, rfl, hra⟩ := qc2
  show own_Go p.tables e below _ (T2.setTop (mkF m 21 (Array.mk [zA a, zI 0, zI 1, zI 0, zI 3, zU, zU, zU, zU, zU]) [.int ra]))
  rcases hra with hra | hra
  · skip
    obtain ⟨rfl, hal⟩ := hra
    show own_Go p.tables e below _ (T2.setTop (mkF m 21 (Array.mk [zA a, zI 0, zI 1, zI 0, zI 3, zU, zU, zU, zU, zU]) [.int 1]))
    refine own_blk dec6 seq6 hby hx hZ hown hK hF 17 [true, false] [] X2 eh2 ?_
    show (((1 : Int32)).toInt ≠ 0) ∧ (¬ (((3 : Int32)).toInt ≤ ((0 : Int32)).toInt)) ∧ own_Aft X2 h0 _ 58 [zA a, zI 0, zI 1, zI 0, zI 3, zI 1, zI 0, zI 0, zI 0, zU] [.int 1, .int 3, .int 1, .int 0, .ref a]
    refine ⟨by decide, by decide, fun T3 X3 eh3 => ?_⟩
    refine own_callPP X3 hx hZ hown (hw _ (wm 89 rfl)) (hw _ (wm 91 rfl)) (hw _ (wm 2 rfl)) (hw _ (wm 90 rfl)) (hw _ (wm 3 rfl)) (hw _ (wm 92 rfl)) (by decide) eh3 EX [.int 0, .int 1, .int 3, .int 1] pd14 rfl (fr := 2) (lo := 40) (rm14_011 l Z a0 hw [] a el po bo fi en ma we tu sk ss mk ms e0 e1 e2 1 1 Lw 0 0 0 0 0 0 h0 n0 Z0 EX PF Ae Aw ) (by rw [hml]; rfl) 0 rfl (Nat.le_of_eq rfl) (hb hby d6_58) (by decide) (by decide) (by decide) (by decide) (fun T4 rv4 X4 eh4 qc4 => ?_)
    obtain rfl := qc4
    show own_Go p.tables e below _ (T4.setTop (mkF m 61 (Array.mk [zA a, zI 0, zI 1, zI 0, zI 3, zI 1, zI 0, zI 0, zI 0, zU]) [.int 1]))
    refine own_blk dec6 seq6 hby hx hZ hown hK hF 23 [false, false] [] X4 eh4 ?_
    show (¬ (((1 : Int32)).toInt ≤ ((0 : Int32)).toInt)) ∧ (¬ (((3 : Int32)).toInt ≤ ((1 : Int32)).toInt)) ∧ own_Aft X4 h0 _ 58 [zA a, zI 0, zI 1, zI 0, zI 3, zI 1, zI 0, zI 1, zI 1, zI 1] [.int 1, .int 3, .int 1, .int 1, .ref a]
    refine ⟨by decide, by decide, fun T5 X5 eh5 => ?_⟩
    refine own_callPP X5 hx hZ hown (hw _ (wm 89 rfl)) (hw _ (wm 91 rfl)) (hw _ (wm 2 rfl)) (hw _ (wm 90 rfl)) (hw _ (wm 3 rfl)) (hw _ (wm 92 rfl)) (by decide) eh5 EX [.int 1, .int 1, .int 3, .int 1] pd14 rfl (fr := 2) (lo := 40) (rm14_111 l Z a0 hw [] a el po bo fi en ma we tu sk ss mk ms e0 e1 e2 1 1 Lw 0 0 0 0 0 0 h0 n0 Z0 EX PF Ae Aw ) (by rw [hml]; rfl) 0 rfl (Nat.le_of_eq rfl) (hb hby d6_58) (by decide) (by decide) (by decide) (by decide) (fun T6 rv6 X6 eh6 qc6 => ?_)
    obtain rfl := qc6
    show own_Go p.tables e below _ (T6.setTop (mkF m 61 (Array.mk [zA a, zI 0, zI 1, zI 0, zI 3, zI 1, zI 0, zI 1, zI 1, zI 1]) [.int 3]))
    refine own_blk dec6 seq6 hby hx hZ hown hK hF 24 [false, true] [] X6 eh6 ?_
    show (¬ (((2 : Int32)).toInt ≤ ((1 : Int32)).toInt)) ∧ (((3 : Int32)).toInt ≤ ((3 : Int32)).toInt) ∧ own_Aft X6 h0 _ 100 [zA a, zI 0, zI 1, zI 0, zI 3, zI 1, zI 1, zI 3, zI 3, zI 3] [.int 3, .int 2]
    refine ⟨by decide, by decide, fun T7 X7 eh7 => ?_⟩
    refine own_blk dec6 seq6 hby hx hZ hown hK hF 11 [false, false] [] X7 eh7 ?_
    show (¬ (((3 : Int32)).toInt ≤ ((2 : Int32)).toInt)) ∧ (¬ (((3 : Int32)).toInt ≤ ((0 : Int32)).toInt)) ∧ own_Aft X7 h0 _ 121 [zA a, zI 0, zI 1, zI 0, zI 3, zI 1, zI 1, zI 3, zI 0, zI 3] [.int 1, .int 3, .int 1, .int 0, .ref a]
    refine ⟨by decide, by decide, fun T8 X8 eh8 => ?_⟩
    refine own_callPP X8 hx hZ hown (hw _ (wm 89 rfl)) (hw _ (wm 91 rfl)) (hw _ (wm 2 rfl)) (hw _ (wm 90 rfl)) (hw _ (wm 3 rfl)) (hw _ (wm 92 rfl)) (by decide) eh8 EX [.int 0, .int 1, .int 3, .int 1] pd14 rfl (fr := 2) (lo := 40) (rm14_011 l Z a0 hw [] a el po bo fi en ma we tu sk ss mk ms e0 e1 e2 1 1 Lw 0 0 0 0 0 0 h0 n0 Z0 EX PF Ae Aw ) (by rw [hml]; rfl) 0 rfl (Nat.le_of_eq rfl) (hb hby d6_121) (by decide) (by decide) (by decide) (by decide) (fun T9 rv9 X9 eh9 qc9 => ?_)
    obtain rfl := qc9
    show own_Go p.tables e below _ (T9.setTop (mkF m 124 (Array.mk [zA a, zI 0, zI 1, zI 0, zI 3, zI 1, zI 1, zI 3, zI 0, zI 3]) [.int 1]))
    refine own_blk dec6 seq6 hby hx hZ hown hK hF 7 [false] [] X9 eh9 ?_
    show (¬ (((0 : Int32)).toInt = ((1 : Int32)).toInt)) ∧ own_Aft X9 h0 _ 138 [zA a, zI 0, zI 1, zI 0, zI 3, zI 1, zI 1, zI 3, zI 0, zI 1] [.int 1, .int 0, .ref a]
    refine ⟨by decide, fun T10 X10 eh10 => ?_⟩
    refine own_callPV X10 hx hZ hown (hw _ (wm 96 rfl)) (hw _ (wm 98 rfl)) (hw _ (wm 2 rfl)) (hw _ (wm 97 rfl)) (hw _ (wm 3 rfl)) (hw _ (wm 99 rfl)) (by decide) eh10 EX [.int 0, .int 1] pd16 rfl (rm := ({ frames := 0, cells := 0, slots := 0, locals := 0 } : Room)) (rm16_0_1 l Z a0 hw [] a el po bo fi en ma we tu sk ss mk ms e0 e1 e2 1 (0 : Int32) (0 : Int32) (0 : Int32) (3 : Int32) (0 : Int32) (0 : Int32) Lb h0 n0 Z0 EX CH PF Ae Ab hLb Af An (by omega) (by omega)) (by rw [hml]; rfl) 0 rfl (Nat.le_of_eq rfl) (hb hby d6_138) (by decide) (by decide) (by decide) (by decide) (fun T11 rv11 Lc11 X11 qc11 => ?_)
    obtain ⟨rfl, Mb1, KKb1, PFb1, Abb1, Afb1, Anb1⟩ := qc11
    have Aeb1 := Ae.keep KKb1 (own_nin (by simp only [own_out, and_true]; omega))
    have Awb1 := Aw.keep KKb1 (own_nin (by simp only [own_out, and_true]; omega))
    have EXb1 := Exa.keep EX KKb1
    have Nb1 := Fr.app N0 Mb1
    have ZZb1 := Nat.le_trans Z0 KKb1.1
    have KLb1 := Keep.trans K0 KKb1 (fun x hx => Or.inl (by simp only [List.mem_cons, List.not_mem_nil, or_false] at hx ⊢; rcases hx with rfl | rfl | rfl | rfl <;> simp))
    show own_Go p.tables e below _ (T11.setTop (mkF m 141 (Array.mk [zA a, zI 0, zI 1, zI 0, zI 3, zI 1, zI 1, zI 3, zI 0, zI 1]) []))
    refine own_blk dec6 seq6 hby hx hZ hown hK hF 11 [false] [] X11 rfl ?_
    show (¬ (((3 : Int32)).toInt ≤ ((1 : Int32)).toInt)) ∧ own_Aft X11 T11.heap _ 121 [zA a, zI 0, zI 1, zI 0, zI 3, zI 1, zI 1, zI 3, zI 1, zI 1] [.int 1, .int 3, .int 1, .int 1, .ref a]
    refine ⟨by decide, fun T12 X12 eh12 => ?_⟩
    refine own_callPP X12 hx hZ hown (hw _ (wm 89 rfl)) (hw _ (wm 91 rfl)) (hw _ (wm 2 rfl)) (hw _ (wm 90 rfl)) (hw _ (wm 3 rfl)) (hw _ (wm 92 rfl)) (by decide) eh12 EXb1 [.int 1, .int 1, .int 3, .int 1] pd14 rfl (fr := 2) (lo := 40) (rm14_111 l Z a0 hw [] a el po bo fi en ma we tu sk ss mk ms e0 e1 e2 2 1 Lw 0 0 0 0 0 0 T11.heap n0 ZZb1 EXb1 PFb1 Aeb1 Awb1 ) (by rw [hml]; rfl) 0 rfl (Nat.le_of_eq rfl) (hb hby d6_121) (by decide) (by decide) (by decide) (by decide) (fun T13 rv13 X13 eh13 qc13 => ?_)
    obtain rfl := qc13
    show own_Go p.tables e below _ (T13.setTop (mkF m 124 (Array.mk [zA a, zI 0, zI 1, zI 0, zI 3, zI 1, zI 1, zI 3, zI 1, zI 1]) [.int 3]))
    refine own_blk dec6 seq6 hby hx hZ hown hK hF 14 [true, true] [.ref fi] X13 eh13 ?_
    show (((1 : Int32)).toInt = ((1 : Int32)).toInt) ∧ (((3 : Int32)).toInt ≤ ((3 : Int32)).toInt) ∧ (Fld Z T11.heap a cP "first" "[I" (.ref fi)) ∧ own_Aft X13 T11.heap _ 155 [zA a, zI 0, zI 1, zI 0, zI 3, zI 1, zI 1, zI 3, zI 3, zI 3] [.int 1, .int 0, .ref fi]
    refine ⟨by decide, by decide, PFb1.2.2.2.1, fun T14 X14 eh14 => ?_⟩
    refine own_sI X14 hx hZ eh14 Afb1 0 rfl (by show 0 < 3; decide) (hb hby d6_155) (fun T15 hp15 X15 eh15 Wr15 Ar15 => ?_)
    have Ar15' : own_A Z hp15 fi .int [.int 1, .int 0, .int 0] := Ar15
    have Aeb1_15 := Aeb1.other Wr15 (own_ne (by omega))
    have Awb1_15 := Awb1.other Wr15 (own_ne (by omega))
    have Abb1_15 := Abb1.other Wr15 (own_ne (by omega))
    have Anb1_15 := Anb1.other Wr15 (own_ne (by omega))
    have EXb1_15 := Exa.wr Wr15 EXb1
    have PF_15 := own_PF.wr PFb1 Wr15 (own_ne (by omega))
    have Nf15 := Fr.snoc X15 Nb1 (by omega)
    have Z_15 : n0 ≤ hp15.size := by rw [Wr.size Wr15]; exact ZZb1
    have K_15 := Keep.wr KLb1 Wr15 (Or.inl (List.mem_of_getElem? (i := 4) rfl))
    refine own_blk dec6 seq6 hby hx hZ hown hK hF 4 [] [.ref en] X15 eh15 ?_
    show (Fld Z hp15 a cP "end" "[I" (.ref en)) ∧ own_Aft X15 hp15 _ 163 [zA a, zI 0, zI 1, zI 0, zI 3, zI 1, zI 1, zI 3, zI 3, zI 3] [.int 3, .int 0, .ref en]
    refine ⟨PF_15.2.2.2.2.1, fun T16 X16 eh16 => ?_⟩
    refine own_sI X16 hx hZ eh16 Anb1_15 0 rfl (by show 0 < 3; decide) (hb hby d6_163) (fun T17 hp17 X17 eh17 Wr17 Ar17 => ?_)
    have Ar17' : own_A Z hp17 en .int [.int 3, .int 1, .int 0] := Ar17
    have Aeb1_17 := Aeb1_15.other Wr17 (own_ne (by omega))
    have Awb1_17 := Awb1_15.other Wr17 (own_ne (by omega))
    have Abb1_17 := Abb1_15.other Wr17 (own_ne (by omega))
    have Ar15'_17 := Ar15'.other Wr17 (own_ne (by omega))
    have EXb1_17 := Exa.wr Wr17 EXb1_15
    have PF_17 := own_PF.wr PF_15 Wr17 (own_ne (by omega))
    have Nf17 := Fr.snoc X17 Nf15 (by omega)
    have Z_17 : n0 ≤ hp17.size := by rw [Wr.size Wr17]; exact Z_15
    have K_17 := Keep.wr K_15 Wr17 (Or.inl (List.mem_of_getElem? (i := 5) rfl))
    exact own_retV X17 hx hlk eh17 hret (hb hby d6_164) (by decide) (by decide) (⟨rfl, Nf17, K_17, 2, _, PF_17, Abb1_17, ⟨rfl, rfl⟩⟩)
  · skip
    obtain ⟨rfl, hal⟩ := hra
    show own_Go p.tables e below _ (T2.setTop (mkF m 21 (Array.mk [zA a, zI 0, zI 1, zI 0, zI 3, zU, zU, zU, zU, zU]) [.int 0]))
    exact absurd trivial hal
set_option maxRecDepth 65536 in
set_option maxHeartbeats 40000000 in
theorem rm6_2 (l : Launch) (Z : State) (a0 : Array Value) (hw : ∀ d ∈ tables_1, d.before a0 Z = true) (ws : List Jvm.Cond) (a el po bo fi en ma we tu sk ss mk ms : Addr) (e0 e1 e2 : Int32) (Lp Lw Lb : List Value) (x0 x1 : UInt64) (C0 C1 : Int) (h0 : Heap) (n0 : Nat) (Z0 : n0 ≤ h0.size) (EX : Exa Z h0 a cP) (CH : own_CH n0 a el po bo fi en ma we tu sk ss mk ms) (PF : own_PF Z h0 a el po bo fi en ma we tu sk ss mk ms 1 1) (Ae : own_A Z h0 el .int [.int e0, .int e1, .int e2]) (Ap : own_A Z h0 po .int Lp) (hLp : Lp.length = 3) (Aw : own_A Z h0 we .double Lw) (Ak : own_A Z h0 sk .double [.double 0, .double 0, .double 0]) (As : own_A Z h0 ss .int [.int 0, .int 0, .int 0]) (Bk : own_A Z h0 mk .double [.double 0, .double 0, .double 0]) (Bs : own_A Z h0 ms .int [.int 0, .int 0, .int 0]) (Ab : own_A Z h0 bo .int Lb) (hLb : Lb.length = 3) (Af : own_A Z h0 fi .int [.int 0, .int 0, .int 0]) (An : own_A Z h0 en .int [.int 3, .int 0, .int 0]) (r00 : 0 ≤ e0.toInt) (r01 : e0.toInt < 3) (r10 : 0 ≤ e1.toInt) (r11 : e1.toInt < 3) (r20 : 0 ≤ e2.toInt) (r21 : e2.toInt < 3) (hw0 : Lw[e0.toInt.toNat]? = some (.double x0)) (hD0 : own_D 0 C0 x0) (bC0 : -3000 ≤ C0 ∧ C0 ≤ 3000) (hw1 : Lw[e1.toInt.toNat]? = some (.double x1)) (hD1 : own_D 0 C1 x1) (bC1 : -3000 ≤ C1 ∧ C1 ≤ 3000) :
    own_MF l (⟨cP, "splitBlock", "(II)V"⟩ : MethodName) prog_12_method_9_code 10 none ws ({ frames := 3, cells := 0, slots := 0, locals := 72 } : Room) #[.ref a, .int 0, .int 2] Z h0 (fun v h L => v = none ∧ Fr n0 L ∧ Keep h0 h [a, el, po, bo, fi, en, sk, ss, mk, ms] ∧ ∃ (nb' : Int32) (Lb' : List Value), own_PF Z h a el po bo fi en ma we tu sk ss mk ms nb' 1 ∧ own_A Z h bo .int Lb' ∧ ((C0 = C1 ∧ nb' = 2 ∧ Lb' = (Lb).set e2.toInt.toNat (.int 1)) ∨ (∃ (f0 f1 : Int32) (D0 D1 : Int), own_perm2 e0 e1 f0 f1 C0 C1 D0 D1 ∧ D0 < D1 ∧ nb' = 3 ∧ Lb' = ((Lb).set f1.toInt.toNat (.int 1)).set e2.toInt.toNat (.int 2)))) := by
  refine own_body pf6 (ls0 := [.val (.ref a), .val (.int 0), .val (.int 2), .unset, .unset, .unset, .unset, .unset, .unset, .unset]) (fun m => by first | (simp [entryFrame, mkF, argsToLocals, Value.category, maxLocals]; done) | rfl) ?_
  intro p e s m below meth c T0 hx hby hml hown hnm hlk hret hZ X0 eh0
  have hK := hKt1 hw; have hF := hFt1 hw
  have N0 := Fr.nil n0
  obtain ⟨c0_, c1_, c2_, c3_, c4_, c5_, c6_, c7_, c8_, c9_, c10_, c11_, c12_⟩ := CH
  have l0 : (0 : Int32).toInt = 0 := rfl
  have l1 : (1 : Int32).toInt = 1 := rfl
  have l2 : (2 : Int32).toInt = 2 := rfl
  have l3 : (3 : Int32).toInt = 3 := rfl
  have K0 := Keep.refl h0 [a, el, po, bo, fi, en, sk, ss, mk, ms]
  have CH : own_CH n0 a el po bo fi en ma we tu sk ss mk ms := ⟨c0_, c1_, c2_, c3_, c4_, c5_, c6_, c7_, c8_, c9_, c10_, c11_, c12_⟩
  refine own_blk dec6 seq6 hby hx hZ hown hK hF 13 [] [.ref fi, .int 0, .ref en, .int 3] X0 eh0 ?_
  show (Fld Z h0 a cP "first" "[I" (.ref fi)) ∧ (own_at Z h0 fi .int (0 : Int32) (.int 0)) ∧ (Fld Z h0 a cP "end" "[I" (.ref en)) ∧ (own_at Z h0 en .int (0 : Int32) (.int 3)) ∧ own_Aft X0 h0 _ 18 [zA a, zI 0, zI 2, zI 0, zI 3, zU, zU, zU, zU, zU] [.int 2, .int 0, .ref a]
  refine ⟨PF.2.2.2.1, Af.at (0 : Int32) 0 rfl rfl, PF.2.2.2.2.1, An.at (0 : Int32) 0 rfl rfl, fun T1 X1 eh1 => ?_⟩
  refine own_callPP X1 hx hZ hown (hw _ (wm 63 rfl)) (hw _ (wm 65 rfl)) (hw _ (wm 2 rfl)) (hw _ (wm 64 rfl)) (hw _ (wm 3 rfl)) (hw _ (wm 66 rfl)) (by decide) eh1 EX [.int 0, .int 2] pd7 rfl (fr := 1) (lo := 24) (rm7_2 l Z a0 hw [] a el po bo fi en ma we tu sk ss mk ms e0 e1 e2 1 1 Lw x0 x1 C0 C1 h0 n0 Z0 EX PF Ae Aw r00 r01 r10 r11 r20 r21 hw0 hD0 bC0 hw1 hD1 bC1) (by rw [hml]; rfl) 0 rfl (Nat.le_of_eq rfl) (hb hby d6_18) (by decide) (by decide) (by decide) (by decide) (fun T2 rv2 X2 eh2 qc2 => ?_)
  obtain ⟨ra, rfl, hra⟩ := qc2
  show own_Go p.tables e below _ (T2.setTop (mkF m 21 (Array.mk [zA a, zI 0, zI 2, zI 0, zI 3, zU, zU, zU, zU, zU]) [.int ra]))
  rcases hra with hra | hra
  · skip
    obtain ⟨rfl, hal⟩ := hra
    show own_Go p.tables e below _ (T2.setTop (mkF m 21 (Array.mk [zA a, zI 0, zI 2, zI 0, zI 3, zU, zU, zU, zU, zU]) [.int 1]))
    refine own_blk dec6 seq6 hby hx hZ hown hK hF 17 [true, false] [] X2 eh2 ?_
    show (((1 : Int32)).toInt ≠ 0) ∧ (¬ (((3 : Int32)).toInt ≤ ((0 : Int32)).toInt)) ∧ own_Aft X2 h0 _ 58 [zA a, zI 0, zI 2, zI 0, zI 3, zI 1, zI 0, zI 0, zI 0, zU] [.int 1, .int 3, .int 2, .int 0, .ref a]
    refine ⟨by decide, by decide, fun T3 X3 eh3 => ?_⟩
    refine own_callPP X3 hx hZ hown (hw _ (wm 89 rfl)) (hw _ (wm 91 rfl)) (hw _ (wm 2 rfl)) (hw _ (wm 90 rfl)) (hw _ (wm 3 rfl)) (hw _ (wm 92 rfl)) (by decide) eh3 EX [.int 0, .int 2, .int 3, .int 1] pd14 rfl (fr := 2) (lo := 40) (rm14_021 l Z a0 hw [] a el po bo fi en ma we tu sk ss mk ms e0 e1 e2 1 1 Lw 0 0 0 0 0 0 h0 n0 Z0 EX PF Ae Aw ) (by rw [hml]; rfl) 0 rfl (Nat.le_of_eq rfl) (hb hby d6_58) (by decide) (by decide) (by decide) (by decide) (fun T4 rv4 X4 eh4 qc4 => ?_)
    obtain rfl := qc4
    show own_Go p.tables e below _ (T4.setTop (mkF m 61 (Array.mk [zA a, zI 0, zI 2, zI 0, zI 3, zI 1, zI 0, zI 0, zI 0, zU]) [.int 2]))
    refine own_blk dec6 seq6 hby hx hZ hown hK hF 23 [false, false] [] X4 eh4 ?_
    show (¬ (((2 : Int32)).toInt ≤ ((0 : Int32)).toInt)) ∧ (¬ (((3 : Int32)).toInt ≤ ((2 : Int32)).toInt)) ∧ own_Aft X4 h0 _ 58 [zA a, zI 0, zI 2, zI 0, zI 3, zI 1, zI 0, zI 2, zI 2, zI 2] [.int 1, .int 3, .int 2, .int 2, .ref a]
    refine ⟨by decide, by decide, fun T5 X5 eh5 => ?_⟩
    refine own_callPP X5 hx hZ hown (hw _ (wm 89 rfl)) (hw _ (wm 91 rfl)) (hw _ (wm 2 rfl)) (hw _ (wm 90 rfl)) (hw _ (wm 3 rfl)) (hw _ (wm 92 rfl)) (by decide) eh5 EX [.int 2, .int 2, .int 3, .int 1] pd14 rfl (fr := 2) (lo := 40) (rm14_221 l Z a0 hw [] a el po bo fi en ma we tu sk ss mk ms e0 e1 e2 1 1 Lw 0 0 0 0 0 0 h0 n0 Z0 EX PF Ae Aw ) (by rw [hml]; rfl) 0 rfl (Nat.le_of_eq rfl) (hb hby d6_58) (by decide) (by decide) (by decide) (by decide) (fun T6 rv6 X6 eh6 qc6 => ?_)
    obtain rfl := qc6
    show own_Go p.tables e below _ (T6.setTop (mkF m 61 (Array.mk [zA a, zI 0, zI 2, zI 0, zI 3, zI 1, zI 0, zI 2, zI 2, zI 2]) [.int 3]))
    refine own_blk dec6 seq6 hby hx hZ hown hK hF 24 [true, true, false] [] X6 eh6 ?_
    show (((1 : Int32)).toInt ≤ ((2 : Int32)).toInt) ∧ (((3 : Int32)).toInt ≤ ((3 : Int32)).toInt) ∧ (¬ (((3 : Int32)).toInt ≤ ((2 : Int32)).toInt)) ∧ own_Aft X6 h0 _ 108 [zA a, zI 0, zI 2, zI 0, zI 3, zI 1, zI 0, zI 2, zI 0, zI 3] [.int 0]
    refine ⟨by decide, by decide, by decide, fun T7 X7 eh7 => ?_⟩
    refine own_blk dec6 seq6 hby hx hZ hown hK hF 7 [false] [] X7 eh7 ?_
    show (¬ (((3 : Int32)).toInt ≤ ((0 : Int32)).toInt)) ∧ own_Aft X7 h0 _ 121 [zA a, zI 0, zI 2, zI 0, zI 3, zI 1, zI 0, zI 2, zI 0, zI 3] [.int 1, .int 3, .int 2, .int 0, .ref a]
    refine ⟨by decide, fun T8 X8 eh8 => ?_⟩
    refine own_callPP X8 hx hZ hown (hw _ (wm 89 rfl)) (hw _ (wm 91 rfl)) (hw _ (wm 2 rfl)) (hw _ (wm 90 rfl)) (hw _ (wm 3 rfl)) (hw _ (wm 92 rfl)) (by decide) eh8 EX [.int 0, .int 2, .int 3, .int 1] pd14 rfl (fr := 2) (lo := 40) (rm14_021 l Z a0 hw [] a el po bo fi en ma we tu sk ss mk ms e0 e1 e2 1 1 Lw 0 0 0 0 0 0 h0 n0 Z0 EX PF Ae Aw ) (by rw [hml]; rfl) 0 rfl (Nat.le_of_eq rfl) (hb hby d6_121) (by decide) (by decide) (by decide) (by decide) (fun T9 rv9 X9 eh9 qc9 => ?_)
    obtain rfl := qc9
    show own_Go p.tables e below _ (T9.setTop (mkF m 124 (Array.mk [zA a, zI 0, zI 2, zI 0, zI 3, zI 1, zI 0, zI 2, zI 0, zI 3]) [.int 2]))
    refine own_blk dec6 seq6 hby hx hZ hown hK hF 15 [true, false] [] X9 eh9 ?_
    show (((0 : Int32)).toInt = ((0 : Int32)).toInt) ∧ (¬ (((3 : Int32)).toInt ≤ ((2 : Int32)).toInt)) ∧ own_Aft X9 h0 _ 121 [zA a, zI 0, zI 2, zI 0, zI 3, zI 1, zI 0, zI 2, zI 2, zI 2] [.int 1, .int 3, .int 2, .int 2, .ref a]
    refine ⟨by decide, by decide, fun T10 X10 eh10 => ?_⟩
    refine own_callPP X10 hx hZ hown (hw _ (wm 89 rfl)) (hw _ (wm 91 rfl)) (hw _ (wm 2 rfl)) (hw _ (wm 90 rfl)) (hw _ (wm 3 rfl)) (hw _ (wm 92 rfl)) (by decide) eh10 EX [.int 2, .int 2, .int 3, .int 1] pd14 rfl (fr := 2) (lo := 40) (rm14_221 l Z a0 hw [] a el po bo fi en ma we tu sk ss mk ms e0 e1 e2 1 1 Lw 0 0 0 0 0 0 h0 n0 Z0 EX PF Ae Aw ) (by rw [hml]; rfl) 0 rfl (Nat.le_of_eq rfl) (hb hby d6_121) (by decide) (by decide) (by decide) (by decide) (fun T11 rv11 X11 eh11 qc11 => ?_)
    obtain rfl := qc11
    show own_Go p.tables e below _ (T11.setTop (mkF m 124 (Array.mk [zA a, zI 0, zI 2, zI 0, zI 3, zI 1, zI 0, zI 2, zI 2, zI 2]) [.int 3]))
    refine own_blk dec6 seq6 hby hx hZ hown hK hF 7 [false] [] X11 eh11 ?_
    show (¬ (((2 : Int32)).toInt = ((0 : Int32)).toInt)) ∧ own_Aft X11 h0 _ 138 [zA a, zI 0, zI 2, zI 0, zI 3, zI 1, zI 0, zI 2, zI 2, zI 3] [.int 3, .int 2, .ref a]
    refine ⟨by decide, fun T12 X12 eh12 => ?_⟩
    refine own_callPV X12 hx hZ hown (hw _ (wm 96 rfl)) (hw _ (wm 98 rfl)) (hw _ (wm 2 rfl)) (hw _ (wm 97 rfl)) (hw _ (wm 3 rfl)) (hw _ (wm 99 rfl)) (by decide) eh12 EX [.int 2, .int 3] pd16 rfl (rm := ({ frames := 0, cells := 0, slots := 0, locals := 0 } : Room)) (rm16_2_1 l Z a0 hw [] a el po bo fi en ma we tu sk ss mk ms e0 e1 e2 1 (0 : Int32) (0 : Int32) (0 : Int32) (3 : Int32) (0 : Int32) (0 : Int32) Lb h0 n0 Z0 EX CH PF Ae Ab hLb Af An (by omega) (by omega)) (by rw [hml]; rfl) 0 rfl (Nat.le_of_eq rfl) (hb hby d6_138) (by decide) (by decide) (by decide) (by decide) (fun T13 rv13 Lc13 X13 qc13 => ?_)
    obtain ⟨rfl, Mb1, KKb1, PFb1, Abb1, Afb1, Anb1⟩ := qc13
    have Aeb1 := Ae.keep KKb1 (own_nin (by simp only [own_out, and_true]; omega))
    have Awb1 := Aw.keep KKb1 (own_nin (by simp only [own_out, and_true]; omega))
    have EXb1 := Exa.keep EX KKb1
    have Nb1 := Fr.app N0 Mb1
    have ZZb1 := Nat.le_trans Z0 KKb1.1
    have KLb1 := Keep.trans K0 KKb1 (fun x hx => Or.inl (by simp only [List.mem_cons, List.not_mem_nil, or_false] at hx ⊢; rcases hx with rfl | rfl | rfl | rfl <;> simp))
    show own_Go p.tables e below _ (T13.setTop (mkF m 141 (Array.mk [zA a, zI 0, zI 2, zI 0, zI 3, zI 1, zI 0, zI 2, zI 2, zI 3]) []))
    refine own_blk dec6 seq6 hby hx hZ hown hK hF 10 [true] [.ref fi] X13 rfl ?_
    show (((3 : Int32)).toInt ≤ ((3 : Int32)).toInt) ∧ (Fld Z T13.heap a cP "first" "[I" (.ref fi)) ∧ own_Aft X13 T13.heap _ 155 [zA a, zI 0, zI 2, zI 0, zI 3, zI 1, zI 0, zI 2, zI 3, zI 3] [.int 0, .int 0, .ref fi]
    refine ⟨by decide, PFb1.2.2.2.1, fun T14 X14 eh14 => ?_⟩
    refine own_sI X14 hx hZ eh14 Afb1 0 rfl (by show 0 < 3; decide) (hb hby d6_155) (fun T15 hp15 X15 eh15 Wr15 Ar15 => ?_)
    have Ar15' : own_A Z hp15 fi .int [.int 0, .int 2, .int 0] := Ar15
    have Aeb1_15 := Aeb1.other Wr15 (own_ne (by omega))
    have Awb1_15 := Awb1.other Wr15 (own_ne (by omega))
    have Abb1_15 := Abb1.other Wr15 (own_ne (by omega))
    have Anb1_15 := Anb1.other Wr15 (own_ne (by omega))
    have EXb1_15 := Exa.wr Wr15 EXb1
    have PF_15 := own_PF.wr PFb1 Wr15 (own_ne (by omega))
    have Nf15 := Fr.snoc X15 Nb1 (by omega)
    have Z_15 : n0 ≤ hp15.size := by rw [Wr.size Wr15]; exact ZZb1
    have K_15 := Keep.wr KLb1 Wr15 (Or.inl (List.mem_of_getElem? (i := 4) rfl))
    refine own_blk dec6 seq6 hby hx hZ hown hK hF 4 [] [.ref en] X15 eh15 ?_
    show (Fld Z hp15 a cP "end" "[I" (.ref en)) ∧ own_Aft X15 hp15 _ 163 [zA a, zI 0, zI 2, zI 0, zI 3, zI 1, zI 0, zI 2, zI 3, zI 3] [.int 2, .int 0, .ref en]
    refine ⟨PF_15.2.2.2.2.1, fun T16 X16 eh16 => ?_⟩
    refine own_sI X16 hx hZ eh16 Anb1_15 0 rfl (by show 0 < 3; decide) (hb hby d6_163) (fun T17 hp17 X17 eh17 Wr17 Ar17 => ?_)
    have Ar17' : own_A Z hp17 en .int [.int 2, .int 3, .int 0] := Ar17
    have Aeb1_17 := Aeb1_15.other Wr17 (own_ne (by omega))
    have Awb1_17 := Awb1_15.other Wr17 (own_ne (by omega))
    have Abb1_17 := Abb1_15.other Wr17 (own_ne (by omega))
    have Ar15'_17 := Ar15'.other Wr17 (own_ne (by omega))
    have EXb1_17 := Exa.wr Wr17 EXb1_15
    have PF_17 := own_PF.wr PF_15 Wr17 (own_ne (by omega))
    have Nf17 := Fr.snoc X17 Nf15 (by omega)
    have Z_17 : n0 ≤ hp17.size := by rw [Wr.size Wr17]; exact Z_15
    have K_17 := Keep.wr K_15 Wr17 (Or.inl (List.mem_of_getElem? (i := 5) rfl))
    exact own_retV X17 hx hlk eh17 hret (hb hby d6_164) (by decide) (by decide) (⟨rfl, Nf17, K_17, 2, _, PF_17, Abb1_17, Or.inl ⟨hal.symm, rfl, rfl⟩⟩)
  · skip
    obtain ⟨rfl, hal⟩ := hra
    show own_Go p.tables e below _ (T2.setTop (mkF m 21 (Array.mk [zA a, zI 0, zI 2, zI 0, zI 3, zU, zU, zU, zU, zU]) [.int 0]))
    refine own_blk dec6 seq6 hby hx hZ hown hK hF 6 [false] [] X2 eh2 ?_
    show (¬ (((0 : Int32)).toInt ≠ 0)) ∧ own_Aft X2 h0 _ 31 [zA a, zI 0, zI 2, zI 0, zI 3, zI 0, zU, zU, zU, zU] [.int 2, .int 0, .ref a]
    refine ⟨by decide, fun T18 X18 eh18 => ?_⟩
    refine own_callPV X18 hx hZ hown (hw _ (wm 78 rfl)) (hw _ (wm 80 rfl)) (hw _ (wm 2 rfl)) (hw _ (wm 79 rfl)) (hw _ (wm 3 rfl)) (hw _ (wm 81 rfl)) (by decide) eh18 EX [.int 0, .int 2] pd11 rfl (rm := ({ frames := 1, cells := 0, slots := 0, locals := 40 } : Room)) (rm11_2 l Z a0 hw [] a el po bo fi en ma we tu sk ss mk ms e0 e1 e2 1 1 Lp Lw x0 x1 C0 C1 h0 n0 Z0 EX CH PF Ae Ap hLp Aw Ak As Bk Bs r00 r01 r10 r11 r20 r21 hw0 hD0 bC0 hw1 hD1 bC1) (by rw [hml]; rfl) 0 rfl (Nat.le_of_eq rfl) (hb hby d6_31) (by decide) (by decide) (by decide) (by decide) (fun T19 rv19 Lc19 X19 qc19 => ?_)
    obtain ⟨rfl, Ms, KKs, f0, f1, y0, y1, D0, D1, Ae2, ⟨hv0, hE0, bD0, hv1, hE1, bD1⟩, ⟨s00, s01, s10, s11⟩, ho0, hP⟩ := qc19
    have Aws := Aw.keep KKs (own_nin (by simp only [own_out, and_true]; omega))
    have Abs := Ab.keep KKs (own_nin (by simp only [own_out, and_true]; omega))
    have Afs := Af.keep KKs (own_nin (by simp only [own_out, and_true]; omega))
    have Ans := An.keep KKs (own_nin (by simp only [own_out, and_true]; omega))
    have EXs := Exa.keep EX KKs
    have PFs := own_PF.keep PF KKs (own_nin (by simp only [own_out, and_true]; omega))
    have Ns := Fr.app N0 Ms
    have ZZs := Nat.le_trans Z0 KKs.1
    have KLs := Keep.trans K0 KKs (fun x hx => Or.inl (by simp only [List.mem_cons, List.not_mem_nil, or_false] at hx ⊢; rcases hx with rfl | rfl | rfl | rfl | rfl | rfl <;> simp))
    show own_Go p.tables e below _ (T19.setTop (mkF m 34 (Array.mk [zA a, zI 0, zI 2, zI 0, zI 3, zI 0, zU, zU, zU, zU]) []))
    have hne : D0 ≠ D1 := by rcases hP with ⟨rfl, rfl, rfl, rfl⟩ | ⟨rfl, rfl, rfl, rfl⟩ <;> omega
    refine own_blk dec6 seq6 hby hx hZ hown hK hF 14 [false] [] X19 rfl ?_
    show (¬ (((3 : Int32)).toInt ≤ ((0 : Int32)).toInt)) ∧ own_Aft X19 T19.heap _ 58 [zA a, zI 0, zI 2, zI 0, zI 3, zI 0, zI 0, zI 0, zI 0, zU] [.int 0, .int 3, .int 2, .int 0, .ref a]
    refine ⟨by decide, fun T20 X20 eh20 => ?_⟩
    refine own_callPP X20 hx hZ hown (hw _ (wm 89 rfl)) (hw _ (wm 91 rfl)) (hw _ (wm 2 rfl)) (hw _ (wm 90 rfl)) (hw _ (wm 3 rfl)) (hw _ (wm 92 rfl)) (by decide) eh20 EXs [.int 0, .int 2, .int 3, .int 0] pd14 rfl (fr := 2) (lo := 40) (rm14_020 l Z a0 hw [] a el po bo fi en ma we tu sk ss mk ms f0 f1 e2 1 1 Lw y0 y1 0 D0 D1 0 T19.heap n0 ZZs EXs PFs Ae2 Aws hv0 hE0 bD0 hv1 hE1 bD1 s00 s01 s10 s11 hne) (by rw [hml]; rfl) 0 rfl (Nat.le_of_eq rfl) (hb hby d6_58) (by decide) (by decide) (by decide) (by decide) (fun T21 rv21 X21 eh21 qc21 => ?_)
    obtain rfl := qc21
    show own_Go p.tables e below _ (T21.setTop (mkF m 61 (Array.mk [zA a, zI 0, zI 2, zI 0, zI 3, zI 0, zI 0, zI 0, zI 0, zU]) [.int 1]))
    refine own_blk dec6 seq6 hby hx hZ hown hK hF 23 [false, false] [] X21 eh21 ?_
    show (¬ (((1 : Int32)).toInt ≤ ((0 : Int32)).toInt)) ∧ (¬ (((3 : Int32)).toInt ≤ ((1 : Int32)).toInt)) ∧ own_Aft X21 T19.heap _ 58 [zA a, zI 0, zI 2, zI 0, zI 3, zI 0, zI 0, zI 1, zI 1, zI 1] [.int 0, .int 3, .int 2, .int 1, .ref a]
    refine ⟨by decide, by decide, fun T22 X22 eh22 => ?_⟩
    refine own_callPP X22 hx hZ hown (hw _ (wm 89 rfl)) (hw _ (wm 91 rfl)) (hw _ (wm 2 rfl)) (hw _ (wm 90 rfl)) (hw _ (wm 3 rfl)) (hw _ (wm 92 rfl)) (by decide) eh22 EXs [.int 1, .int 2, .int 3, .int 0] pd14 rfl (fr := 2) (lo := 40) (rm14_120 l Z a0 hw [] a el po bo fi en ma we tu sk ss mk ms f0 f1 e2 1 1 Lw y0 y1 0 D0 D1 0 T19.heap n0 ZZs EXs PFs Ae2 Aws ) (by rw [hml]; rfl) 0 rfl (Nat.le_of_eq rfl) (hb hby d6_58) (by decide) (by decide) (by decide) (by decide) (fun T23 rv23 X23 eh23 qc23 => ?_)
    obtain rfl := qc23
    show own_Go p.tables e below _ (T23.setTop (mkF m 61 (Array.mk [zA a, zI 0, zI 2, zI 0, zI 3, zI 0, zI 0, zI 1, zI 1, zI 1]) [.int 2]))
    refine own_blk dec6 seq6 hby hx hZ hown hK hF 19 [true, false] [] X23 eh23 ?_
    show (((1 : Int32)).toInt ≤ ((1 : Int32)).toInt) ∧ (¬ (((3 : Int32)).toInt ≤ ((2 : Int32)).toInt)) ∧ own_Aft X23 T19.heap _ 58 [zA a, zI 0, zI 2, zI 0, zI 3, zI 0, zI 0, zI 1, zI 2, zI 2] [.int 0, .int 3, .int 2, .int 2, .ref a]
    refine ⟨by decide, by decide, fun T24 X24 eh24 => ?_⟩
    refine own_callPP X24 hx hZ hown (hw _ (wm 89 rfl)) (hw _ (wm 91 rfl)) (hw _ (wm 2 rfl)) (hw _ (wm 90 rfl)) (hw _ (wm 3 rfl)) (hw _ (wm 92 rfl)) (by decide) eh24 EXs [.int 2, .int 2, .int 3, .int 0] pd14 rfl (fr := 2) (lo := 40) (rm14_220 l Z a0 hw [] a el po bo fi en ma we tu sk ss mk ms f0 f1 e2 1 1 Lw y0 y1 0 D0 D1 0 T19.heap n0 ZZs EXs PFs Ae2 Aws ) (by rw [hml]; rfl) 0 rfl (Nat.le_of_eq rfl) (hb hby d6_58) (by decide) (by decide) (by decide) (by decide) (fun T25 rv25 X25 eh25 qc25 => ?_)
    obtain rfl := qc25
    show own_Go p.tables e below _ (T25.setTop (mkF m 61 (Array.mk [zA a, zI 0, zI 2, zI 0, zI 3, zI 0, zI 0, zI 1, zI 2, zI 2]) [.int 3]))
    refine own_blk dec6 seq6 hby hx hZ hown hK hF 24 [true, true, false] [] X25 eh25 ?_
    show (((1 : Int32)).toInt ≤ ((1 : Int32)).toInt) ∧ (((3 : Int32)).toInt ≤ ((3 : Int32)).toInt) ∧ (¬ (((3 : Int32)).toInt ≤ ((1 : Int32)).toInt)) ∧ own_Aft X25 T19.heap _ 108 [zA a, zI 0, zI 2, zI 0, zI 3, zI 0, zI 0, zI 1, zI 0, zI 3] [.int 0]
    refine ⟨by decide, by decide, by decide, fun T26 X26 eh26 => ?_⟩
    refine own_blk dec6 seq6 hby hx hZ hown hK hF 7 [false] [] X26 eh26 ?_
    show (¬ (((3 : Int32)).toInt ≤ ((0 : Int32)).toInt)) ∧ own_Aft X26 T19.heap _ 121 [zA a, zI 0, zI 2, zI 0, zI 3, zI 0, zI 0, zI 1, zI 0, zI 3] [.int 0, .int 3, .int 2, .int 0, .ref a]
    refine ⟨by decide, fun T27 X27 eh27 => ?_⟩
    refine own_callPP X27 hx hZ hown (hw _ (wm 89 rfl)) (hw _ (wm 91 rfl)) (hw _ (wm 2 rfl)) (hw _ (wm 90 rfl)) (hw _ (wm 3 rfl)) (hw _ (wm 92 rfl)) (by decide) eh27 EXs [.int 0, .int 2, .int 3, .int 0] pd14 rfl (fr := 2) (lo := 40) (rm14_020 l Z a0 hw [] a el po bo fi en ma we tu sk ss mk ms f0 f1 e2 1 1 Lw y0 y1 0 D0 D1 0 T19.heap n0 ZZs EXs PFs Ae2 Aws hv0 hE0 bD0 hv1 hE1 bD1 s00 s01 s10 s11 hne) (by rw [hml]; rfl) 0 rfl (Nat.le_of_eq rfl) (hb hby d6_121) (by decide) (by decide) (by decide) (by decide) (fun T28 rv28 X28 eh28 qc28 => ?_)
    obtain rfl := qc28
    show own_Go p.tables e below _ (T28.setTop (mkF m 124 (Array.mk [zA a, zI 0, zI 2, zI 0, zI 3, zI 0, zI 0, zI 1, zI 0, zI 3]) [.int 1]))
    refine own_blk dec6 seq6 hby hx hZ hown hK hF 15 [true, false] [] X28 eh28 ?_
    show (((0 : Int32)).toInt = ((0 : Int32)).toInt) ∧ (¬ (((3 : Int32)).toInt ≤ ((1 : Int32)).toInt)) ∧ own_Aft X28 T19.heap _ 121 [zA a, zI 0, zI 2, zI 0, zI 3, zI 0, zI 0, zI 1, zI 1, zI 1] [.int 0, .int 3, .int 2, .int 1, .ref a]
    refine ⟨by decide, by decide, fun T29 X29 eh29 => ?_⟩
    refine own_callPP X29 hx hZ hown (hw _ (wm 89 rfl)) (hw _ (wm 91 rfl)) (hw _ (wm 2 rfl)) (hw _ (wm 90 rfl)) (hw _ (wm 3 rfl)) (hw _ (wm 92 rfl)) (by decide) eh29 EXs [.int 1, .int 2, .int 3, .int 0] pd14 rfl (fr := 2) (lo := 40) (rm14_120 l Z a0 hw [] a el po bo fi en ma we tu sk ss mk ms f0 f1 e2 1 1 Lw y0 y1 0 D0 D1 0 T19.heap n0 ZZs EXs PFs Ae2 Aws ) (by rw [hml]; rfl) 0 rfl (Nat.le_of_eq rfl) (hb hby d6_121) (by decide) (by decide) (by decide) (by decide) (fun T30 rv30 X30 eh30 qc30 => ?_)
    obtain rfl := qc30
    show own_Go p.tables e below _ (T30.setTop (mkF m 124 (Array.mk [zA a, zI 0, zI 2, zI 0, zI 3, zI 0, zI 0, zI 1, zI 1, zI 1]) [.int 2]))
    refine own_blk dec6 seq6 hby hx hZ hown hK hF 7 [false] [] X30 eh30 ?_
    show (¬ (((1 : Int32)).toInt = ((0 : Int32)).toInt)) ∧ own_Aft X30 T19.heap _ 138 [zA a, zI 0, zI 2, zI 0, zI 3, zI 0, zI 0, zI 1, zI 1, zI 2] [.int 2, .int 1, .ref a]
    refine ⟨by decide, fun T31 X31 eh31 => ?_⟩
    refine own_callPV X31 hx hZ hown (hw _ (wm 96 rfl)) (hw _ (wm 98 rfl)) (hw _ (wm 2 rfl)) (hw _ (wm 97 rfl)) (hw _ (wm 3 rfl)) (hw _ (wm 99 rfl)) (by decide) eh31 EXs [.int 1, .int 2] pd16 rfl (rm := ({ frames := 0, cells := 0, slots := 0, locals := 0 } : Room)) (rm16_1_1 l Z a0 hw [] a el po bo fi en ma we tu sk ss mk ms f0 f1 e2 1 (0 : Int32) (0 : Int32) (0 : Int32) (3 : Int32) (0 : Int32) (0 : Int32) Lb T19.heap n0 ZZs EXs CH PFs Ae2 Abs hLb Afs Ans (by omega) (by omega)) (by rw [hml]; rfl) 0 rfl (Nat.le_of_eq rfl) (hb hby d6_138) (by decide) (by decide) (by decide) (by decide) (fun T32 rv32 Lc32 X32 qc32 => ?_)
    obtain ⟨rfl, Mb2, KKb2, PFb2, Abb2, Afb2, Anb2⟩ := qc32
    have Awsb2 := Aws.keep KKb2 (own_nin (by simp only [own_out, and_true]; omega))
    have Ae2b2 := Ae2.keep KKb2 (own_nin (by simp only [own_out, and_true]; omega))
    have EXb2 := Exa.keep EXs KKb2
    have Nb2 := Fr.app Ns Mb2
    have ZZb2 := Nat.le_trans ZZs KKb2.1
    have KLb2 := Keep.trans KLs KKb2 (fun x hx => Or.inl (by simp only [List.mem_cons, List.not_mem_nil, or_false] at hx ⊢; rcases hx with rfl | rfl | rfl | rfl <;> simp))
    show own_Go p.tables e below _ (T32.setTop (mkF m 141 (Array.mk [zA a, zI 0, zI 2, zI 0, zI 3, zI 0, zI 0, zI 1, zI 1, zI 2]) []))
    refine own_blk dec6 seq6 hby hx hZ hown hK hF 11 [false] [] X32 rfl ?_
    show (¬ (((3 : Int32)).toInt ≤ ((2 : Int32)).toInt)) ∧ own_Aft X32 T32.heap _ 121 [zA a, zI 0, zI 2, zI 0, zI 3, zI 0, zI 0, zI 1, zI 2, zI 2] [.int 0, .int 3, .int 2, .int 2, .ref a]
    refine ⟨by decide, fun T33 X33 eh33 => ?_⟩
    refine own_callPP X33 hx hZ hown (hw _ (wm 89 rfl)) (hw _ (wm 91 rfl)) (hw _ (wm 2 rfl)) (hw _ (wm 90 rfl)) (hw _ (wm 3 rfl)) (hw _ (wm 92 rfl)) (by decide) eh33 EXb2 [.int 2, .int 2, .int 3, .int 0] pd14 rfl (fr := 2) (lo := 40) (rm14_220 l Z a0 hw [] a el po bo fi en ma we tu sk ss mk ms f0 f1 e2 2 1 Lw y0 y1 0 D0 D1 0 T32.heap n0 ZZb2 EXb2 PFb2 Ae2b2 Awsb2 ) (by rw [hml]; rfl) 0 rfl (Nat.le_of_eq rfl) (hb hby d6_121) (by decide) (by decide) (by decide) (by decide) (fun T34 rv34 X34 eh34 qc34 => ?_)
    obtain rfl := qc34
    show own_Go p.tables e below _ (T34.setTop (mkF m 124 (Array.mk [zA a, zI 0, zI 2, zI 0, zI 3, zI 0, zI 0, zI 1, zI 2, zI 2]) [.int 3]))
    refine own_blk dec6 seq6 hby hx hZ hown hK hF 7 [false] [] X34 eh34 ?_
    show (¬ (((2 : Int32)).toInt = ((0 : Int32)).toInt)) ∧ own_Aft X34 T32.heap _ 138 [zA a, zI 0, zI 2, zI 0, zI 3, zI 0, zI 0, zI 1, zI 2, zI 3] [.int 3, .int 2, .ref a]
    refine ⟨by decide, fun T35 X35 eh35 => ?_⟩
    refine own_callPV X35 hx hZ hown (hw _ (wm 96 rfl)) (hw _ (wm 98 rfl)) (hw _ (wm 2 rfl)) (hw _ (wm 97 rfl)) (hw _ (wm 3 rfl)) (hw _ (wm 99 rfl)) (by decide) eh35 EXb2 [.int 2, .int 3] pd16 rfl (rm := ({ frames := 0, cells := 0, slots := 0, locals := 0 } : Room)) (rm16_2_2 l Z a0 hw [] a el po bo fi en ma we tu sk ss mk ms f0 f1 e2 1 (0 : Int32) (1 : Int32) (0 : Int32) (3 : Int32) (2 : Int32) (0 : Int32) ((Lb).set f1.toInt.toNat (.int 1)) T32.heap n0 ZZb2 EXb2 CH PFb2 Ae2b2 Abb2 (by simp only [List.length_set]; omega) Afb2 Anb2 (by omega) (by omega)) (by rw [hml]; rfl) 0 rfl (Nat.le_of_eq rfl) (hb hby d6_138) (by decide) (by decide) (by decide) (by decide) (fun T36 rv36 Lc36 X36 qc36 => ?_)
    obtain ⟨rfl, Mb3, KKb3, PFb3, Abb3, Afb3, Anb3⟩ := qc36
    have Awsb2b3 := Awsb2.keep KKb3 (own_nin (by simp only [own_out, and_true]; omega))
    have Ae2b2b3 := Ae2b2.keep KKb3 (own_nin (by simp only [own_out, and_true]; omega))
    have EXb3 := Exa.keep EXb2 KKb3
    have Nb3 := Fr.app Nb2 Mb3
    have ZZb3 := Nat.le_trans ZZb2 KKb3.1
    have KLb3 := Keep.trans KLb2 KKb3 (fun x hx => Or.inl (by simp only [List.mem_cons, List.not_mem_nil, or_false] at hx ⊢; rcases hx with rfl | rfl | rfl | rfl <;> simp))
    show own_Go p.tables e below _ (T36.setTop (mkF m 141 (Array.mk [zA a, zI 0, zI 2, zI 0, zI 3, zI 0, zI 0, zI 1, zI 2, zI 3]) []))
    refine own_blk dec6 seq6 hby hx hZ hown hK hF 10 [true] [.ref fi] X36 rfl ?_
    show (((3 : Int32)).toInt ≤ ((3 : Int32)).toInt) ∧ (Fld Z T36.heap a cP "first" "[I" (.ref fi)) ∧ own_Aft X36 T36.heap _ 155 [zA a, zI 0, zI 2, zI 0, zI 3, zI 0, zI 0, zI 1, zI 3, zI 3] [.int 0, .int 0, .ref fi]
    refine ⟨by decide, PFb3.2.2.2.1, fun T37 X37 eh37 => ?_⟩
    refine own_sI X37 hx hZ eh37 Afb3 0 rfl (by show 0 < 3; decide) (hb hby d6_155) (fun T38 hp38 X38 eh38 Wr38 Ar38 => ?_)
    have Ar38' : own_A Z hp38 fi .int [.int 0, .int 1, .int 2] := Ar38
    have Awsb2b3_38 := Awsb2b3.other Wr38 (own_ne (by omega))
    have Ae2b2b3_38 := Ae2b2b3.other Wr38 (own_ne (by omega))
    have Abb3_38 := Abb3.other Wr38 (own_ne (by omega))
    have Anb3_38 := Anb3.other Wr38 (own_ne (by omega))
    have EXb3_38 := Exa.wr Wr38 EXb3
    have PF_38 := own_PF.wr PFb3 Wr38 (own_ne (by omega))
    have Nf38 := Fr.snoc X38 Nb3 (by omega)
    have Z_38 : n0 ≤ hp38.size := by rw [Wr.size Wr38]; exact ZZb3
    have K_38 := Keep.wr KLb3 Wr38 (Or.inl (List.mem_of_getElem? (i := 4) rfl))
    refine own_blk dec6 seq6 hby hx hZ hown hK hF 4 [] [.ref en] X38 eh38 ?_
    show (Fld Z hp38 a cP "end" "[I" (.ref en)) ∧ own_Aft X38 hp38 _ 163 [zA a, zI 0, zI 2, zI 0, zI 3, zI 0, zI 0, zI 1, zI 3, zI 3] [.int 1, .int 0, .ref en]
    refine ⟨PF_38.2.2.2.2.1, fun T39 X39 eh39 => ?_⟩
    refine own_sI X39 hx hZ eh39 Anb3_38 0 rfl (by show 0 < 3; decide) (hb hby d6_163) (fun T40 hp40 X40 eh40 Wr40 Ar40 => ?_)
    have Ar40' : own_A Z hp40 en .int [.int 1, .int 2, .int 3] := Ar40
    have Awsb2b3_40 := Awsb2b3_38.other Wr40 (own_ne (by omega))
    have Ae2b2b3_40 := Ae2b2b3_38.other Wr40 (own_ne (by omega))
    have Abb3_40 := Abb3_38.other Wr40 (own_ne (by omega))
    have Ar38'_40 := Ar38'.other Wr40 (own_ne (by omega))
    have EXb3_40 := Exa.wr Wr40 EXb3_38
    have PF_40 := own_PF.wr PF_38 Wr40 (own_ne (by omega))
    have Nf40 := Fr.snoc X40 Nf38 (by omega)
    have Z_40 : n0 ≤ hp40.size := by rw [Wr.size Wr40]; exact Z_38
    have K_40 := Keep.wr K_38 Wr40 (Or.inl (List.mem_of_getElem? (i := 5) rfl))
    exact own_retV X40 hx hlk eh40 hret (hb hby d6_164) (by decide) (by decide) (⟨rfl, Nf40, K_40, 3, _, PF_40, Abb3_40, Or.inr ⟨f0, f1, D0, D1, hP, by omega, rfl, rfl⟩⟩)
set_option maxRecDepth 65536 in
set_option maxHeartbeats 40000000 in
theorem rm6_3 (l : Launch) (Z : State) (a0 : Array Value) (hw : ∀ d ∈ tables_1, d.before a0 Z = true) (ws : List Jvm.Cond) (a el po bo fi en ma we tu sk ss mk ms : Addr) (e0 e1 e2 : Int32) (Lp Lw Lb : List Value) (x0 x1 x2 : UInt64) (C0 C1 C2 : Int) (h0 : Heap) (n0 : Nat) (Z0 : n0 ≤ h0.size) (EX : Exa Z h0 a cP) (CH : own_CH n0 a el po bo fi en ma we tu sk ss mk ms) (PF : own_PF Z h0 a el po bo fi en ma we tu sk ss mk ms 1 1) (Ae : own_A Z h0 el .int [.int e0, .int e1, .int e2]) (Ap : own_A Z h0 po .int Lp) (hLp : Lp.length = 3) (Aw : own_A Z h0 we .double Lw) (Ak : own_A Z h0 sk .double [.double 0, .double 0, .double 0]) (As : own_A Z h0 ss .int [.int 0, .int 0, .int 0]) (Bk : own_A Z h0 mk .double [.double 0, .double 0, .double 0]) (Bs : own_A Z h0 ms .int [.int 0, .int 0, .int 0]) (Ab : own_A Z h0 bo .int Lb) (hLb : Lb.length = 3) (Af : own_A Z h0 fi .int [.int 0, .int 0, .int 0]) (An : own_A Z h0 en .int [.int 3, .int 0, .int 0]) (r00 : 0 ≤ e0.toInt) (r01 : e0.toInt < 3) (r10 : 0 ≤ e1.toInt) (r11 : e1.toInt < 3) (r20 : 0 ≤ e2.toInt) (r21 : e2.toInt < 3) (hw0 : Lw[e0.toInt.toNat]? = some (.double x0)) (hD0 : own_D 0 C0 x0) (bC0 : -3000 ≤ C0 ∧ C0 ≤ 3000) (hw1 : Lw[e1.toInt.toNat]? = some (.double x1)) (hD1 : own_D 0 C1 x1) (bC1 : -3000 ≤ C1 ∧ C1 ≤ 3000) (hw2 : Lw[e2.toInt.toNat]? = some (.double x2)) (hD2 : own_D 0 C2 x2) (bC2 : -3000 ≤ C2 ∧ C2 ≤ 3000) :
    own_MF l (⟨cP, "splitBlock", "(II)V"⟩ : MethodName) prog_12_method_9_code 10 none ws ({ frames := 3, cells := 0, slots := 0, locals := 72 } : Room) #[.ref a, .int 0, .int 3] Z h0 (fun v h L => v = none ∧ Fr n0 L ∧ Keep h0 h [a, el, po, bo, fi, en, sk, ss, mk, ms] ∧ ∃ (nb' : Int32) (Lb' : List Value), own_PF Z h a el po bo fi en ma we tu sk ss mk ms nb' 1 ∧ own_A Z h bo .int Lb' ∧ ((C1 = C0 ∧ C2 = C0 ∧ nb' = 1 ∧ Lb' = Lb) ∨ (∃ (f0 f1 f2 : Int32) (D0 D1 D2 : Int), own_perm3 e0 e1 e2 f0 f1 f2 C0 C1 C2 D0 D1 D2 ∧ ((D0 = D1 ∧ D1 < D2 ∧ nb' = 2 ∧ Lb' = (Lb).set f2.toInt.toNat (.int 1)) ∨ (D0 < D1 ∧ D1 = D2 ∧ nb' = 2 ∧ Lb' = (Lb).set f0.toInt.toNat (.int 1)) ∨ (D0 < D1 ∧ D1 < D2 ∧ nb' = 3 ∧ Lb' = ((Lb).set f1.toInt.toNat (.int 1)).set f2.toInt.toNat (.int 2)))))) := by
  refine own_body pf6 (ls0 := [.val (.ref a), .val (.int 0), .val (.int 3), .unset, .unset, .unset, .unset, .unset, .unset, .unset]) (fun m => by first | (simp [entryFrame, mkF, argsToLocals, Value.category, maxLocals]; done) | rfl) ?_
  intro p e s m below meth c T0 hx hby hml hown hnm hlk hret hZ X0 eh0
  have hK := hKt1 hw; have hF := hFt1 hw
  have N0 := Fr.nil n0
  obtain ⟨c0_, c1_, c2_, c3_, c4_, c5_, c6_, c7_, c8_, c9_, c10_, c11_, c12_⟩ := CH
  have l0 : (0 : Int32).toInt = 0 := rfl
  have l1 : (1 : Int32).toInt = 1 := rfl
  have l2 : (2 : Int32).toInt = 2 := rfl
  have l3 : (3 : Int32).toInt = 3 := rfl
  have K0 := Keep.refl h0 [a, el, po, bo, fi, en, sk, ss, mk, ms]
  have CH : own_CH n0 a el po bo fi en ma we tu sk ss mk ms := ⟨c0_, c1_, c2_, c3_, c4_, c5_, c6_, c7_, c8_, c9_, c10_, c11_, c12_⟩
  refine own_blk dec6 seq6 hby hx hZ hown hK hF 13 [] [.ref fi, .int 0, .ref en, .int 3] X0 eh0 ?_
  show (Fld Z h0 a cP "first" "[I" (.ref fi)) ∧ (own_at Z h0 fi .int (0 : Int32) (.int 0)) ∧ (Fld Z h0 a cP "end" "[I" (.ref en)) ∧ (own_at Z h0 en .int (0 : Int32) (.int 3)) ∧ own_Aft X0 h0 _ 18 [zA a, zI 0, zI 3, zI 0, zI 3, zU, zU, zU, zU, zU] [.int 3, .int 0, .ref a]
  refine ⟨PF.2.2.2.1, Af.at (0 : Int32) 0 rfl rfl, PF.2.2.2.2.1, An.at (0 : Int32) 0 rfl rfl, fun T1 X1 eh1 => ?_⟩
  refine own_callPP X1 hx hZ hown (hw _ (wm 63 rfl)) (hw _ (wm 65 rfl)) (hw _ (wm 2 rfl)) (hw _ (wm 64 rfl)) (hw _ (wm 3 rfl)) (hw _ (wm 66 rfl)) (by decide) eh1 EX [.int 0, .int 3] pd7 rfl (fr := 1) (lo := 24) (rm7_3 l Z a0 hw [] a el po bo fi en ma we tu sk ss mk ms e0 e1 e2 1 1 Lw x0 x1 x2 C0 C1 C2 h0 n0 Z0 EX PF Ae Aw r00 r01 r10 r11 r20 r21 hw0 hD0 bC0 hw1 hD1 bC1 hw2 hD2 bC2) (by rw [hml]; rfl) 0 rfl (Nat.le_of_eq rfl) (hb hby d6_18) (by decide) (by decide) (by decide) (by decide) (fun T2 rv2 X2 eh2 qc2 => ?_)
  obtain ⟨ra, rfl, hra⟩ := qc2
  show own_Go p.tables e below _ (T2.setTop (mkF m 21 (Array.mk [zA a, zI 0, zI 3, zI 0, zI 3, zU, zU, zU, zU, zU]) [.int ra]))
  rcases hra with hra | hra
  · skip
    obtain ⟨rfl, hal⟩ := hra
    show own_Go p.tables e below _ (T2.setTop (mkF m 21 (Array.mk [zA a, zI 0, zI 3, zI 0, zI 3, zU, zU, zU, zU, zU]) [.int 1]))
    refine own_blk dec6 seq6 hby hx hZ hown hK hF 17 [true, false] [] X2 eh2 ?_
    show (((1 : Int32)).toInt ≠ 0) ∧ (¬ (((3 : Int32)).toInt ≤ ((0 : Int32)).toInt)) ∧ own_Aft X2 h0 _ 58 [zA a, zI 0, zI 3, zI 0, zI 3, zI 1, zI 0, zI 0, zI 0, zU] [.int 1, .int 3, .int 3, .int 0, .ref a]
    refine ⟨by decide, by decide, fun T3 X3 eh3 => ?_⟩
    refine own_callPP X3 hx hZ hown (hw _ (wm 89 rfl)) (hw _ (wm 91 rfl)) (hw _ (wm 2 rfl)) (hw _ (wm 90 rfl)) (hw _ (wm 3 rfl)) (hw _ (wm 92 rfl)) (by decide) eh3 EX [.int 0, .int 3, .int 3, .int 1] pd14 rfl (fr := 2) (lo := 40) (rm14_031 l Z a0 hw [] a el po bo fi en ma we tu sk ss mk ms e0 e1 e2 1 1 Lw 0 0 0 0 0 0 h0 n0 Z0 EX PF Ae Aw ) (by rw [hml]; rfl) 0 rfl (Nat.le_of_eq rfl) (hb hby d6_58) (by decide) (by decide) (by decide) (by decide) (fun T4 rv4 X4 eh4 qc4 => ?_)
    obtain rfl := qc4
    show own_Go p.tables e below _ (T4.setTop (mkF m 61 (Array.mk [zA a, zI 0, zI 3, zI 0, zI 3, zI 1, zI 0, zI 0, zI 0, zU]) [.int 3]))
    refine own_blk dec6 seq6 hby hx hZ hown hK hF 24 [false, true] [] X4 eh4 ?_
    show (¬ (((3 : Int32)).toInt ≤ ((0 : Int32)).toInt)) ∧ (((3 : Int32)).toInt ≤ ((3 : Int32)).toInt) ∧ own_Aft X4 h0 _ 100 [zA a, zI 0, zI 3, zI 0, zI 3, zI 1, zI 0, zI 3, zI 3, zI 3] [.int 3, .int 3]
    refine ⟨by decide, by decide, fun T5 X5 eh5 => ?_⟩
    refine own_blk dec6 seq6 hby hx hZ hown hK hF 1 [true] [] X5 eh5 ?_
    show (((3 : Int32)).toInt ≤ ((3 : Int32)).toInt) ∧ own_Aft X5 h0 _ 164 [zA a, zI 0, zI 3, zI 0, zI 3, zI 1, zI 0, zI 3, zI 3, zI 3] []
    refine ⟨by decide, fun T6 X6 eh6 => ?_⟩
    exact own_retV X6 hx hlk eh6 hret (hb hby d6_164) (by decide) (by decide) (⟨rfl, N0, K0, 1, _, PF, Ab, Or.inl ⟨hal.1, hal.2, rfl, rfl⟩⟩)
  · skip
    obtain ⟨rfl, hal⟩ := hra
    show own_Go p.tables e below _ (T2.setTop (mkF m 21 (Array.mk [zA a, zI 0, zI 3, zI 0, zI 3, zU, zU, zU, zU, zU]) [.int 0]))
    refine own_blk dec6 seq6 hby hx hZ hown hK hF 6 [false] [] X2 eh2 ?_
    show (¬ (((0 : Int32)).toInt ≠ 0)) ∧ own_Aft X2 h0 _ 31 [zA a, zI 0, zI 3, zI 0, zI 3, zI 0, zU, zU, zU, zU] [.int 3, .int 0, .ref a]
    refine ⟨by decide, fun T7 X7 eh7 => ?_⟩
    refine own_callPV X7 hx hZ hown (hw _ (wm 78 rfl)) (hw _ (wm 80 rfl)) (hw _ (wm 2 rfl)) (hw _ (wm 79 rfl)) (hw _ (wm 3 rfl)) (hw _ (wm 81 rfl)) (by decide) eh7 EX [.int 0, .int 3] pd11 rfl (rm := ({ frames := 1, cells := 0, slots := 0, locals := 40 } : Room)) (rm11_3 l Z a0 hw [] a el po bo fi en ma we tu sk ss mk ms e0 e1 e2 1 1 Lp Lw x0 x1 x2 C0 C1 C2 h0 n0 Z0 EX CH PF Ae Ap hLp Aw Ak As Bk Bs r00 r01 r10 r11 r20 r21 hw0 hD0 bC0 hw1 hD1 bC1 hw2 hD2 bC2) (by rw [hml]; rfl) 0 rfl (Nat.le_of_eq rfl) (hb hby d6_31) (by decide) (by decide) (by decide) (by decide) (fun T8 rv8 Lc8 X8 qc8 => ?_)
    obtain ⟨rfl, Ms, KKs, f0, f1, f2, y0, y1, y2, D0, D1, D2, Ae2, ⟨hv0, hE0, bD0, hv1, hE1, bD1, hv2, hE2, bD2⟩, ⟨s00, s01, s10, s11, s20, s21⟩, ⟨ho0, ho1⟩, hP⟩ := qc8
    have Aws := Aw.keep KKs (own_nin (by simp only [own_out, and_true]; omega))
    have Abs := Ab.keep KKs (own_nin (by simp only [own_out, and_true]; omega))
    have Afs := Af.keep KKs (own_nin (by simp only [own_out, and_true]; omega))
    have Ans := An.keep KKs (own_nin (by simp only [own_out, and_true]; omega))
    have EXs := Exa.keep EX KKs
    have PFs := own_PF.keep PF KKs (own_nin (by simp only [own_out, and_true]; omega))
    have Ns := Fr.app N0 Ms
    have ZZs := Nat.le_trans Z0 KKs.1
    have KLs := Keep.trans K0 KKs (fun x hx => Or.inl (by simp only [List.mem_cons, List.not_mem_nil, or_false] at hx ⊢; rcases hx with rfl | rfl | rfl | rfl | rfl | rfl <;> simp))
    show own_Go p.tables e below _ (T8.setTop (mkF m 34 (Array.mk [zA a, zI 0, zI 3, zI 0, zI 3, zI 0, zU, zU, zU, zU]) []))
    have hne : ¬ (D0 = D1 ∧ D1 = D2) := by rcases hP with ⟨rfl, rfl, rfl, rfl, rfl, rfl⟩ | ⟨rfl, rfl, rfl, rfl, rfl, rfl⟩ | ⟨rfl, rfl, rfl, rfl, rfl, rfl⟩ | ⟨rfl, rfl, rfl, rfl, rfl, rfl⟩ | ⟨rfl, rfl, rfl, rfl, rfl, rfl⟩ | ⟨rfl, rfl, rfl, rfl, rfl, rfl⟩ <;> omega
    obtain hc | hc | hc : (D0 = D1 ∧ D1 < D2) ∨ (D0 < D1 ∧ D1 = D2) ∨ (D0 < D1 ∧ D1 < D2) := by omega
    · skip
      refine own_blk dec6 seq6 hby hx hZ hown hK hF 14 [false] [] X8 rfl ?_
      show (¬ (((3 : Int32)).toInt ≤ ((0 : Int32)).toInt)) ∧ own_Aft X8 T8.heap _ 58 [zA a, zI 0, zI 3, zI 0, zI 3, zI 0, zI 0, zI 0, zI 0, zU] [.int 0, .int 3, .int 3, .int 0, .ref a]
      refine ⟨by decide, fun T9 X9 eh9 => ?_⟩
      refine own_callPP X9 hx hZ hown (hw _ (wm 89 rfl)) (hw _ (wm 91 rfl)) (hw _ (wm 2 rfl)) (hw _ (wm 90 rfl)) (hw _ (wm 3 rfl)) (hw _ (wm 92 rfl)) (by decide) eh9 EXs [.int 0, .int 3, .int 3, .int 0] pd14 rfl (fr := 2) (lo := 40) (rm14_030e l Z a0 hw [] a el po bo fi en ma we tu sk ss mk ms f0 f1 f2 1 1 Lw y0 y1 y2 D0 D1 D2 T8.heap n0 ZZs EXs PFs Ae2 Aws hv0 hE0 bD0 hv1 hE1 bD1 hv2 hE2 bD2 s00 s01 s10 s11 s20 s21 hc.1 (by omega)) (by rw [hml]; rfl) 0 rfl (Nat.le_of_eq rfl) (hb hby d6_58) (by decide) (by decide) (by decide) (by decide) (fun T10 rv10 X10 eh10 qc10 => ?_)
      obtain rfl := qc10
      show own_Go p.tables e below _ (T10.setTop (mkF m 61 (Array.mk [zA a, zI 0, zI 3, zI 0, zI 3, zI 0, zI 0, zI 0, zI 0, zU]) [.int 2]))
      refine own_blk dec6 seq6 hby hx hZ hown hK hF 23 [false, false] [] X10 eh10 ?_
      show (¬ (((2 : Int32)).toInt ≤ ((0 : Int32)).toInt)) ∧ (¬ (((3 : Int32)).toInt ≤ ((2 : Int32)).toInt)) ∧ own_Aft X10 T8.heap _ 58 [zA a, zI 0, zI 3, zI 0, zI 3, zI 0, zI 0, zI 2, zI 2, zI 2] [.int 0, .int 3, .int 3, .int 2, .ref a]
      refine ⟨by decide, by decide, fun T11 X11 eh11 => ?_⟩
      refine own_callPP X11 hx hZ hown (hw _ (wm 89 rfl)) (hw _ (wm 91 rfl)) (hw _ (wm 2 rfl)) (hw _ (wm 90 rfl)) (hw _ (wm 3 rfl)) (hw _ (wm 92 rfl)) (by decide) eh11 EXs [.int 2, .int 3, .int 3, .int 0] pd14 rfl (fr := 2) (lo := 40) (rm14_230 l Z a0 hw [] a el po bo fi en ma we tu sk ss mk ms f0 f1 f2 1 1 Lw y0 y1 y2 D0 D1 D2 T8.heap n0 ZZs EXs PFs Ae2 Aws ) (by rw [hml]; rfl) 0 rfl (Nat.le_of_eq rfl) (hb hby d6_58) (by decide) (by decide) (by decide) (by decide) (fun T12 rv12 X12 eh12 qc12 => ?_)
      obtain rfl := qc12
      show own_Go p.tables e below _ (T12.setTop (mkF m 61 (Array.mk [zA a, zI 0, zI 3, zI 0, zI 3, zI 0, zI 0, zI 2, zI 2, zI 2]) [.int 3]))
      refine own_blk dec6 seq6 hby hx hZ hown hK hF 24 [true, true, false] [] X12 eh12 ?_
      show (((1 : Int32)).toInt ≤ ((2 : Int32)).toInt) ∧ (((3 : Int32)).toInt ≤ ((3 : Int32)).toInt) ∧ (¬ (((3 : Int32)).toInt ≤ ((2 : Int32)).toInt)) ∧ own_Aft X12 T8.heap _ 108 [zA a, zI 0, zI 3, zI 0, zI 3, zI 0, zI 0, zI 2, zI 0, zI 3] [.int 0]
      refine ⟨by decide, by decide, by decide, fun T13 X13 eh13 => ?_⟩
      refine own_blk dec6 seq6 hby hx hZ hown hK hF 7 [false] [] X13 eh13 ?_
      show (¬ (((3 : Int32)).toInt ≤ ((0 : Int32)).toInt)) ∧ own_Aft X13 T8.heap _ 121 [zA a, zI 0, zI 3, zI 0, zI 3, zI 0, zI 0, zI 2, zI 0, zI 3] [.int 0, .int 3, .int 3, .int 0, .ref a]
      refine ⟨by decide, fun T14 X14 eh14 => ?_⟩
      refine own_callPP X14 hx hZ hown (hw _ (wm 89 rfl)) (hw _ (wm 91 rfl)) (hw _ (wm 2 rfl)) (hw _ (wm 90 rfl)) (hw _ (wm 3 rfl)) (hw _ (wm 92 rfl)) (by decide) eh14 EXs [.int 0, .int 3, .int 3, .int 0] pd14 rfl (fr := 2) (lo := 40) (rm14_030e l Z a0 hw [] a el po bo fi en ma we tu sk ss mk ms f0 f1 f2 1 1 Lw y0 y1 y2 D0 D1 D2 T8.heap n0 ZZs EXs PFs Ae2 Aws hv0 hE0 bD0 hv1 hE1 bD1 hv2 hE2 bD2 s00 s01 s10 s11 s20 s21 hc.1 (by omega)) (by rw [hml]; rfl) 0 rfl (Nat.le_of_eq rfl) (hb hby d6_121) (by decide) (by decide) (by decide) (by decide) (fun T15 rv15 X15 eh15 qc15 => ?_)
      obtain rfl := qc15
      show own_Go p.tables e below _ (T15.setTop (mkF m 124 (Array.mk [zA a, zI 0, zI 3, zI 0, zI 3, zI 0, zI 0, zI 2, zI 0, zI 3]) [.int 2]))
      refine own_blk dec6 seq6 hby hx hZ hown hK hF 15 [true, false] [] X15 eh15 ?_
      show (((0 : Int32)).toInt = ((0 : Int32)).toInt) ∧ (¬ (((3 : Int32)).toInt ≤ ((2 : Int32)).toInt)) ∧ own_Aft X15 T8.heap _ 121 [zA a, zI 0, zI 3, zI 0, zI 3, zI 0, zI 0, zI 2, zI 2, zI 2] [.int 0, .int 3, .int 3, .int 2, .ref a]
      refine ⟨by decide, by decide, fun T16 X16 eh16 => ?_⟩
      refine own_callPP X16 hx hZ hown (hw _ (wm 89 rfl)) (hw _ (wm 91 rfl)) (hw _ (wm 2 rfl)) (hw _ (wm 90 rfl)) (hw _ (wm 3 rfl)) (hw _ (wm 92 rfl)) (by decide) eh16 EXs [.int 2, .int 3, .int 3, .int 0] pd14 rfl (fr := 2) (lo := 40) (rm14_230 l Z a0 hw [] a el po bo fi en ma we tu sk ss mk ms f0 f1 f2 1 1 Lw y0 y1 y2 D0 D1 D2 T8.heap n0 ZZs EXs PFs Ae2 Aws ) (by rw [hml]; rfl) 0 rfl (Nat.le_of_eq rfl) (hb hby d6_121) (by decide) (by decide) (by decide) (by decide) (fun T17 rv17 X17 eh17 qc17 => ?_)
      obtain rfl := qc17
      show own_Go p.tables e below _ (T17.setTop (mkF m 124 (Array.mk [zA a, zI 0, zI 3, zI 0, zI 3, zI 0, zI 0, zI 2, zI 2, zI 2]) [.int 3]))
      refine own_blk dec6 seq6 hby hx hZ hown hK hF 7 [false] [] X17 eh17 ?_
      show (¬ (((2 : Int32)).toInt = ((0 : Int32)).toInt)) ∧ own_Aft X17 T8.heap _ 138 [zA a, zI 0, zI 3, zI 0, zI 3, zI 0, zI 0, zI 2, zI 2, zI 3] [.int 3, .int 2, .ref a]
      refine ⟨by decide, fun T18 X18 eh18 => ?_⟩
      refine own_callPV X18 hx hZ hown (hw _ (wm 96 rfl)) (hw _ (wm 98 rfl)) (hw _ (wm 2 rfl)) (hw _ (wm 97 rfl)) (hw _ (wm 3 rfl)) (hw _ (wm 99 rfl)) (by decide) eh18 EXs [.int 2, .int 3] pd16 rfl (rm := ({ frames := 0, cells := 0, slots := 0, locals := 0 } : Room)) (rm16_2_1 l Z a0 hw [] a el po bo fi en ma we tu sk ss mk ms f0 f1 f2 1 (0 : Int32) (0 : Int32) (0 : Int32) (3 : Int32) (0 : Int32) (0 : Int32) Lb T8.heap n0 ZZs EXs CH PFs Ae2 Abs hLb Afs Ans (by omega) (by omega)) (by rw [hml]; rfl) 0 rfl (Nat.le_of_eq rfl) (hb hby d6_138) (by decide) (by decide) (by decide) (by decide) (fun T19 rv19 Lc19 X19 qc19 => ?_)
      obtain ⟨rfl, Mb1, KKb1, PFb1, Abb1, Afb1, Anb1⟩ := qc19
      have Awsb1 := Aws.keep KKb1 (own_nin (by simp only [own_out, and_true]; omega))
      have Ae2b1 := Ae2.keep KKb1 (own_nin (by simp only [own_out, and_true]; omega))
      have EXb1 := Exa.keep EXs KKb1
      have Nb1 := Fr.app Ns Mb1
      have ZZb1 := Nat.le_trans ZZs KKb1.1
      have KLb1 := Keep.trans KLs KKb1 (fun x hx => Or.inl (by simp only [List.mem_cons, List.not_mem_nil, or_false] at hx ⊢; rcases hx with rfl | rfl | rfl | rfl <;> simp))
      show own_Go p.tables e below _ (T19.setTop (mkF m 141 (Array.mk [zA a, zI 0, zI 3, zI 0, zI 3, zI 0, zI 0, zI 2, zI 2, zI 3]) []))
      refine own_blk dec6 seq6 hby hx hZ hown hK hF 10 [true] [.ref fi] X19 rfl ?_
      show (((3 : Int32)).toInt ≤ ((3 : Int32)).toInt) ∧ (Fld Z T19.heap a cP "first" "[I" (.ref fi)) ∧ own_Aft X19 T19.heap _ 155 [zA a, zI 0, zI 3, zI 0, zI 3, zI 0, zI 0, zI 2, zI 3, zI 3] [.int 0, .int 0, .ref fi]
      refine ⟨by decide, PFb1.2.2.2.1, fun T20 X20 eh20 => ?_⟩
      refine own_sI X20 hx hZ eh20 Afb1 0 rfl (by show 0 < 3; decide) (hb hby d6_155) (fun T21 hp21 X21 eh21 Wr21 Ar21 => ?_)
      have Ar21' : own_A Z hp21 fi .int [.int 0, .int 2, .int 0] := Ar21
      have Awsb1_21 := Awsb1.other Wr21 (own_ne (by omega))
      have Ae2b1_21 := Ae2b1.other Wr21 (own_ne (by omega))
      have Abb1_21 := Abb1.other Wr21 (own_ne (by omega))
      have Anb1_21 := Anb1.other Wr21 (own_ne (by omega))
      have EXb1_21 := Exa.wr Wr21 EXb1
      have PF_21 := own_PF.wr PFb1 Wr21 (own_ne (by omega))
      have Nf21 := Fr.snoc X21 Nb1 (by omega)
      have Z_21 : n0 ≤ hp21.size := by rw [Wr.size Wr21]; exact ZZb1
      have K_21 := Keep.wr KLb1 Wr21 (Or.inl (List.mem_of_getElem? (i := 4) rfl))
      refine own_blk dec6 seq6 hby hx hZ hown hK hF 4 [] [.ref en] X21 eh21 ?_
      show (Fld Z hp21 a cP "end" "[I" (.ref en)) ∧ own_Aft X21 hp21 _ 163 [zA a, zI 0, zI 3, zI 0, zI 3, zI 0, zI 0, zI 2, zI 3, zI 3] [.int 2, .int 0, .ref en]
      refine ⟨PF_21.2.2.2.2.1, fun T22 X22 eh22 => ?_⟩
      refine own_sI X22 hx hZ eh22 Anb1_21 0 rfl (by show 0 < 3; decide) (hb hby d6_163) (fun T23 hp23 X23 eh23 Wr23 Ar23 => ?_)
      have Ar23' : own_A Z hp23 en .int [.int 2, .int 3, .int 0] := Ar23
      have Awsb1_23 := Awsb1_21.other Wr23 (own_ne (by omega))
      have Ae2b1_23 := Ae2b1_21.other Wr23 (own_ne (by omega))
      have Abb1_23 := Abb1_21.other Wr23 (own_ne (by omega))
      have Ar21'_23 := Ar21'.other Wr23 (own_ne (by omega))
      have EXb1_23 := Exa.wr Wr23 EXb1_21
      have PF_23 := own_PF.wr PF_21 Wr23 (own_ne (by omega))
      have Nf23 := Fr.snoc X23 Nf21 (by omega)
      have Z_23 : n0 ≤ hp23.size := by rw [Wr.size Wr23]; exact Z_21
      have K_23 := Keep.wr K_21 Wr23 (Or.inl (List.mem_of_getElem? (i := 5) rfl))
      exact own_retV X23 hx hlk eh23 hret (hb hby d6_164) (by decide) (by decide) (⟨rfl, Nf23, K_23, 2, _, PF_23, Abb1_23, Or.inr ⟨f0, f1, f2, D0, D1, D2, hP, Or.inl ⟨hc.1, hc.2, rfl, rfl⟩⟩⟩)
    · skip
      refine own_blk dec6 seq6 hby hx hZ hown hK hF 14 [false] [] X8 rfl ?_
      show (¬ (((3 : Int32)).toInt ≤ ((0 : Int32)).toInt)) ∧ own_Aft X8 T8.heap _ 58 [zA a, zI 0, zI 3, zI 0, zI 3, zI 0, zI 0, zI 0, zI 0, zU] [.int 0, .int 3, .int 3, .int 0, .ref a]
      refine ⟨by decide, fun T24 X24 eh24 => ?_⟩
      refine own_callPP X24 hx hZ hown (hw _ (wm 89 rfl)) (hw _ (wm 91 rfl)) (hw _ (wm 2 rfl)) (hw _ (wm 90 rfl)) (hw _ (wm 3 rfl)) (hw _ (wm 92 rfl)) (by decide) eh24 EXs [.int 0, .int 3, .int 3, .int 0] pd14 rfl (fr := 2) (lo := 40) (rm14_030n l Z a0 hw [] a el po bo fi en ma we tu sk ss mk ms f0 f1 f2 1 1 Lw y0 y1 y2 D0 D1 D2 T8.heap n0 ZZs EXs PFs Ae2 Aws hv0 hE0 bD0 hv1 hE1 bD1 hv2 hE2 bD2 s00 s01 s10 s11 s20 s21 (by omega)) (by rw [hml]; rfl) 0 rfl (Nat.le_of_eq rfl) (hb hby d6_58) (by decide) (by decide) (by decide) (by decide) (fun T25 rv25 X25 eh25 qc25 => ?_)
      obtain rfl := qc25
      show own_Go p.tables e below _ (T25.setTop (mkF m 61 (Array.mk [zA a, zI 0, zI 3, zI 0, zI 3, zI 0, zI 0, zI 0, zI 0, zU]) [.int 1]))
      refine own_blk dec6 seq6 hby hx hZ hown hK hF 23 [false, false] [] X25 eh25 ?_
      show (¬ (((1 : Int32)).toInt ≤ ((0 : Int32)).toInt)) ∧ (¬ (((3 : Int32)).toInt ≤ ((1 : Int32)).toInt)) ∧ own_Aft X25 T8.heap _ 58 [zA a, zI 0, zI 3, zI 0, zI 3, zI 0, zI 0, zI 1, zI 1, zI 1] [.int 0, .int 3, .int 3, .int 1, .ref a]
      refine ⟨by decide, by decide, fun T26 X26 eh26 => ?_⟩
      refine own_callPP X26 hx hZ hown (hw _ (wm 89 rfl)) (hw _ (wm 91 rfl)) (hw _ (wm 2 rfl)) (hw _ (wm 90 rfl)) (hw _ (wm 3 rfl)) (hw _ (wm 92 rfl)) (by decide) eh26 EXs [.int 1, .int 3, .int 3, .int 0] pd14 rfl (fr := 2) (lo := 40) (rm14_130e l Z a0 hw [] a el po bo fi en ma we tu sk ss mk ms f0 f1 f2 1 1 Lw y0 y1 y2 D0 D1 D2 T8.heap n0 ZZs EXs PFs Ae2 Aws hv0 hE0 bD0 hv1 hE1 bD1 hv2 hE2 bD2 s00 s01 s10 s11 s20 s21 hc.2) (by rw [hml]; rfl) 0 rfl (Nat.le_of_eq rfl) (hb hby d6_58) (by decide) (by decide) (by decide) (by decide) (fun T27 rv27 X27 eh27 qc27 => ?_)
      obtain rfl := qc27
      show own_Go p.tables e below _ (T27.setTop (mkF m 61 (Array.mk [zA a, zI 0, zI 3, zI 0, zI 3, zI 0, zI 0, zI 1, zI 1, zI 1]) [.int 3]))
      refine own_blk dec6 seq6 hby hx hZ hown hK hF 24 [false, true] [] X27 eh27 ?_
      show (¬ (((2 : Int32)).toInt ≤ ((1 : Int32)).toInt)) ∧ (((3 : Int32)).toInt ≤ ((3 : Int32)).toInt) ∧ own_Aft X27 T8.heap _ 100 [zA a, zI 0, zI 3, zI 0, zI 3, zI 0, zI 1, zI 3, zI 3, zI 3] [.int 3, .int 2]
      refine ⟨by decide, by decide, fun T28 X28 eh28 => ?_⟩
      refine own_blk dec6 seq6 hby hx hZ hown hK hF 11 [false, false] [] X28 eh28 ?_
      show (¬ (((3 : Int32)).toInt ≤ ((2 : Int32)).toInt)) ∧ (¬ (((3 : Int32)).toInt ≤ ((0 : Int32)).toInt)) ∧ own_Aft X28 T8.heap _ 121 [zA a, zI 0, zI 3, zI 0, zI 3, zI 0, zI 1, zI 3, zI 0, zI 3] [.int 0, .int 3, .int 3, .int 0, .ref a]
      refine ⟨by decide, by decide, fun T29 X29 eh29 => ?_⟩
      refine own_callPP X29 hx hZ hown (hw _ (wm 89 rfl)) (hw _ (wm 91 rfl)) (hw _ (wm 2 rfl)) (hw _ (wm 90 rfl)) (hw _ (wm 3 rfl)) (hw _ (wm 92 rfl)) (by decide) eh29 EXs [.int 0, .int 3, .int 3, .int 0] pd14 rfl (fr := 2) (lo := 40) (rm14_030n l Z a0 hw [] a el po bo fi en ma we tu sk ss mk ms f0 f1 f2 1 1 Lw y0 y1 y2 D0 D1 D2 T8.heap n0 ZZs EXs PFs Ae2 Aws hv0 hE0 bD0 hv1 hE1 bD1 hv2 hE2 bD2 s00 s01 s10 s11 s20 s21 (by omega)) (by rw [hml]; rfl) 0 rfl (Nat.le_of_eq rfl) (hb hby d6_121) (by decide) (by decide) (by decide) (by decide) (fun T30 rv30 X30 eh30 qc30 => ?_)
      obtain rfl := qc30
      show own_Go p.tables e below _ (T30.setTop (mkF m 124 (Array.mk [zA a, zI 0, zI 3, zI 0, zI 3, zI 0, zI 1, zI 3, zI 0, zI 3]) [.int 1]))
      refine own_blk dec6 seq6 hby hx hZ hown hK hF 7 [false] [] X30 eh30 ?_
      show (¬ (((0 : Int32)).toInt = ((1 : Int32)).toInt)) ∧ own_Aft X30 T8.heap _ 138 [zA a, zI 0, zI 3, zI 0, zI 3, zI 0, zI 1, zI 3, zI 0, zI 1] [.int 1, .int 0, .ref a]
      refine ⟨by decide, fun T31 X31 eh31 => ?_⟩
      refine own_callPV X31 hx hZ hown (hw _ (wm 96 rfl)) (hw _ (wm 98 rfl)) (hw _ (wm 2 rfl)) (hw _ (wm 97 rfl)) (hw _ (wm 3 rfl)) (hw _ (wm 99 rfl)) (by decide) eh31 EXs [.int 0, .int 1] pd16 rfl (rm := ({ frames := 0, cells := 0, slots := 0, locals := 0 } : Room)) (rm16_0_1 l Z a0 hw [] a el po bo fi en ma we tu sk ss mk ms f0 f1 f2 1 (0 : Int32) (0 : Int32) (0 : Int32) (3 : Int32) (0 : Int32) (0 : Int32) Lb T8.heap n0 ZZs EXs CH PFs Ae2 Abs hLb Afs Ans (by omega) (by omega)) (by rw [hml]; rfl) 0 rfl (Nat.le_of_eq rfl) (hb hby d6_138) (by decide) (by decide) (by decide) (by decide) (fun T32 rv32 Lc32 X32 qc32 => ?_)
      obtain ⟨rfl, Mb2, KKb2, PFb2, Abb2, Afb2, Anb2⟩ := qc32
      have Awsb2 := Aws.keep KKb2 (own_nin (by simp only [own_out, and_true]; omega))
      have Ae2b2 := Ae2.keep KKb2 (own_nin (by simp only [own_out, and_true]; omega))
      have EXb2 := Exa.keep EXs KKb2
      have Nb2 := Fr.app Ns Mb2
      have ZZb2 := Nat.le_trans ZZs KKb2.1
      have KLb2 := Keep.trans KLs KKb2 (fun x hx => Or.inl (by simp only [List.mem_cons, List.not_mem_nil, or_false] at hx ⊢; rcases hx with rfl | rfl | rfl | rfl <;> simp))
      show own_Go p.tables e below _ (T32.setTop (mkF m 141 (Array.mk [zA a, zI 0, zI 3, zI 0, zI 3, zI 0, zI 1, zI 3, zI 0, zI 1]) []))
      refine own_blk dec6 seq6 hby hx hZ hown hK hF 11 [false] [] X32 rfl ?_
      show (¬ (((3 : Int32)).toInt ≤ ((1 : Int32)).toInt)) ∧ own_Aft X32 T32.heap _ 121 [zA a, zI 0, zI 3, zI 0, zI 3, zI 0, zI 1, zI 3, zI 1, zI 1] [.int 0, .int 3, .int 3, .int 1, .ref a]
      refine ⟨by decide, fun T33 X33 eh33 => ?_⟩
      refine own_callPP X33 hx hZ hown (hw _ (wm 89 rfl)) (hw _ (wm 91 rfl)) (hw _ (wm 2 rfl)) (hw _ (wm 90 rfl)) (hw _ (wm 3 rfl)) (hw _ (wm 92 rfl)) (by decide) eh33 EXb2 [.int 1, .int 3, .int 3, .int 0] pd14 rfl (fr := 2) (lo := 40) (rm14_130e l Z a0 hw [] a el po bo fi en ma we tu sk ss mk ms f0 f1 f2 2 1 Lw y0 y1 y2 D0 D1 D2 T32.heap n0 ZZb2 EXb2 PFb2 Ae2b2 Awsb2 hv0 hE0 bD0 hv1 hE1 bD1 hv2 hE2 bD2 s00 s01 s10 s11 s20 s21 hc.2) (by rw [hml]; rfl) 0 rfl (Nat.le_of_eq rfl) (hb hby d6_121) (by decide) (by decide) (by decide) (by decide) (fun T34 rv34 X34 eh34 qc34 => ?_)
      obtain rfl := qc34
      show own_Go p.tables e below _ (T34.setTop (mkF m 124 (Array.mk [zA a, zI 0, zI 3, zI 0, zI 3, zI 0, zI 1, zI 3, zI 1, zI 1]) [.int 3]))
      refine own_blk dec6 seq6 hby hx hZ hown hK hF 14 [true, true] [.ref fi] X34 eh34 ?_
      show (((1 : Int32)).toInt = ((1 : Int32)).toInt) ∧ (((3 : Int32)).toInt ≤ ((3 : Int32)).toInt) ∧ (Fld Z T32.heap a cP "first" "[I" (.ref fi)) ∧ own_Aft X34 T32.heap _ 155 [zA a, zI 0, zI 3, zI 0, zI 3, zI 0, zI 1, zI 3, zI 3, zI 3] [.int 1, .int 0, .ref fi]
      refine ⟨by decide, by decide, PFb2.2.2.2.1, fun T35 X35 eh35 => ?_⟩
      refine own_sI X35 hx hZ eh35 Afb2 0 rfl (by show 0 < 3; decide) (hb hby d6_155) (fun T36 hp36 X36 eh36 Wr36 Ar36 => ?_)
      have Ar36' : own_A Z hp36 fi .int [.int 1, .int 0, .int 0] := Ar36
      have Awsb2_36 := Awsb2.other Wr36 (own_ne (by omega))
      have Ae2b2_36 := Ae2b2.other Wr36 (own_ne (by omega))
      have Abb2_36 := Abb2.other Wr36 (own_ne (by omega))
      have Anb2_36 := Anb2.other Wr36 (own_ne (by omega))
      have EXb2_36 := Exa.wr Wr36 EXb2
      have PF_36 := own_PF.wr PFb2 Wr36 (own_ne (by omega))
      have Nf36 := Fr.snoc X36 Nb2 (by omega)
      have Z_36 : n0 ≤ hp36.size := by rw [Wr.size Wr36]; exact ZZb2
      have K_36 := Keep.wr KLb2 Wr36 (Or.inl (List.mem_of_getElem? (i := 4) rfl))
      refine own_blk dec6 seq6 hby hx hZ hown hK hF 4 [] [.ref en] X36 eh36 ?_
      show (Fld Z hp36 a cP "end" "[I" (.ref en)) ∧ own_Aft X36 hp36 _ 163 [zA a, zI 0, zI 3, zI 0, zI 3, zI 0, zI 1, zI 3, zI 3, zI 3] [.int 3, .int 0, .ref en]
      refine ⟨PF_36.2.2.2.2.1, fun T37 X37 eh37 => ?_⟩
      refine own_sI X37 hx hZ eh37 Anb2_36 0 rfl (by show 0 < 3; decide) (hb hby d6_163) (fun T38 hp38 X38 eh38 Wr38 Ar38 => ?_)
      have Ar38' : own_A Z hp38 en .int [.int 3, .int 1, .int 0] := Ar38
      have Awsb2_38 := Awsb2_36.other Wr38 (own_ne (by omega))
      have Ae2b2_38 := Ae2b2_36.other Wr38 (own_ne (by omega))
      have Abb2_38 := Abb2_36.other Wr38 (own_ne (by omega))
      have Ar36'_38 := Ar36'.other Wr38 (own_ne (by omega))
      have EXb2_38 := Exa.wr Wr38 EXb2_36
      have PF_38 := own_PF.wr PF_36 Wr38 (own_ne (by omega))
      have Nf38 := Fr.snoc X38 Nf36 (by omega)
      have Z_38 : n0 ≤ hp38.size := by rw [Wr.size Wr38]; exact Z_36
      have K_38 := Keep.wr K_36 Wr38 (Or.inl (List.mem_of_getElem? (i := 5) rfl))
      exact own_retV X38 hx hlk eh38 hret (hb hby d6_164) (by decide) (by decide) (⟨rfl, Nf38, K_38, 2, _, PF_38, Abb2_38, Or.inr ⟨f0, f1, f2, D0, D1, D2, hP, Or.inr (Or.inl ⟨hc.1, hc.2, rfl, rfl⟩)⟩⟩)
    · skip
      refine own_blk dec6 seq6 hby hx hZ hown hK hF 14 [false] [] X8 rfl ?_
      show (¬ (((3 : Int32)).toInt ≤ ((0 : Int32)).toInt)) ∧ own_Aft X8 T8.heap _ 58 [zA a, zI 0, zI 3, zI 0, zI 3, zI 0, zI 0, zI 0, zI 0, zU] [.int 0, .int 3, .int 3, .int 0, .ref a]
      refine ⟨by decide, fun T39 X39 eh39 => ?_⟩
      refine own_callPP X39 hx hZ hown (hw _ (wm 89 rfl)) (hw _ (wm 91 rfl)) (hw _ (wm 2 rfl)) (hw _ (wm 90 rfl)) (hw _ (wm 3 rfl)) (hw _ (wm 92 rfl)) (by decide) eh39 EXs [.int 0, .int 3, .int 3, .int 0] pd14 rfl (fr := 2) (lo := 40) (rm14_030n l Z a0 hw [] a el po bo fi en ma we tu sk ss mk ms f0 f1 f2 1 1 Lw y0 y1 y2 D0 D1 D2 T8.heap n0 ZZs EXs PFs Ae2 Aws hv0 hE0 bD0 hv1 hE1 bD1 hv2 hE2 bD2 s00 s01 s10 s11 s20 s21 (by omega)) (by rw [hml]; rfl) 0 rfl (Nat.le_of_eq rfl) (hb hby d6_58) (by decide) (by decide) (by decide) (by decide) (fun T40 rv40 X40 eh40 qc40 => ?_)
      obtain rfl := qc40
      show own_Go p.tables e below _ (T40.setTop (mkF m 61 (Array.mk [zA a, zI 0, zI 3, zI 0, zI 3, zI 0, zI 0, zI 0, zI 0, zU]) [.int 1]))
      refine own_blk dec6 seq6 hby hx hZ hown hK hF 23 [false, false] [] X40 eh40 ?_
      show (¬ (((1 : Int32)).toInt ≤ ((0 : Int32)).toInt)) ∧ (¬ (((3 : Int32)).toInt ≤ ((1 : Int32)).toInt)) ∧ own_Aft X40 T8.heap _ 58 [zA a, zI 0, zI 3, zI 0, zI 3, zI 0, zI 0, zI 1, zI 1, zI 1] [.int 0, .int 3, .int 3, .int 1, .ref a]
      refine ⟨by decide, by decide, fun T41 X41 eh41 => ?_⟩
      refine own_callPP X41 hx hZ hown (hw _ (wm 89 rfl)) (hw _ (wm 91 rfl)) (hw _ (wm 2 rfl)) (hw _ (wm 90 rfl)) (hw _ (wm 3 rfl)) (hw _ (wm 92 rfl)) (by decide) eh41 EXs [.int 1, .int 3, .int 3, .int 0] pd14 rfl (fr := 2) (lo := 40) (rm14_130n l Z a0 hw [] a el po bo fi en ma we tu sk ss mk ms f0 f1 f2 1 1 Lw y0 y1 y2 D0 D1 D2 T8.heap n0 ZZs EXs PFs Ae2 Aws hv0 hE0 bD0 hv1 hE1 bD1 hv2 hE2 bD2 s00 s01 s10 s11 s20 s21 (by omega)) (by rw [hml]; rfl) 0 rfl (Nat.le_of_eq rfl) (hb hby d6_58) (by decide) (by decide) (by decide) (by decide) (fun T42 rv42 X42 eh42 qc42 => ?_)
      obtain rfl := qc42
      show own_Go p.tables e below _ (T42.setTop (mkF m 61 (Array.mk [zA a, zI 0, zI 3, zI 0, zI 3, zI 0, zI 0, zI 1, zI 1, zI 1]) [.int 2]))
      refine own_blk dec6 seq6 hby hx hZ hown hK hF 19 [true, false] [] X42 eh42 ?_
      show (((1 : Int32)).toInt ≤ ((1 : Int32)).toInt) ∧ (¬ (((3 : Int32)).toInt ≤ ((2 : Int32)).toInt)) ∧ own_Aft X42 T8.heap _ 58 [zA a, zI 0, zI 3, zI 0, zI 3, zI 0, zI 0, zI 1, zI 2, zI 2] [.int 0, .int 3, .int 3, .int 2, .ref a]
      refine ⟨by decide, by decide, fun T43 X43 eh43 => ?_⟩
      refine own_callPP X43 hx hZ hown (hw _ (wm 89 rfl)) (hw _ (wm 91 rfl)) (hw _ (wm 2 rfl)) (hw _ (wm 90 rfl)) (hw _ (wm 3 rfl)) (hw _ (wm 92 rfl)) (by decide) eh43 EXs [.int 2, .int 3, .int 3, .int 0] pd14 rfl (fr := 2) (lo := 40) (rm14_230 l Z a0 hw [] a el po bo fi en ma we tu sk ss mk ms f0 f1 f2 1 1 Lw y0 y1 y2 D0 D1 D2 T8.heap n0 ZZs EXs PFs Ae2 Aws ) (by rw [hml]; rfl) 0 rfl (Nat.le_of_eq rfl) (hb hby d6_58) (by decide) (by decide) (by decide) (by decide) (fun T44 rv44 X44 eh44 qc44 => ?_)
      obtain rfl := qc44
      show own_Go p.tables e below _ (T44.setTop (mkF m 61 (Array.mk [zA a, zI 0, zI 3, zI 0, zI 3, zI 0, zI 0, zI 1, zI 2, zI 2]) [.int 3]))
      refine own_blk dec6 seq6 hby hx hZ hown hK hF 24 [true, true, false] [] X44 eh44 ?_
      show (((1 : Int32)).toInt ≤ ((1 : Int32)).toInt) ∧ (((3 : Int32)).toInt ≤ ((3 : Int32)).toInt) ∧ (¬ (((3 : Int32)).toInt ≤ ((1 : Int32)).toInt)) ∧ own_Aft X44 T8.heap _ 108 [zA a, zI 0, zI 3, zI 0, zI 3, zI 0, zI 0, zI 1, zI 0, zI 3] [.int 0]
      refine ⟨by decide, by decide, by decide, fun T45 X45 eh45 => ?_⟩
      refine own_blk dec6 seq6 hby hx hZ hown hK hF 7 [false] [] X45 eh45 ?_
      show (¬ (((3 : Int32)).toInt ≤ ((0 : Int32)).toInt)) ∧ own_Aft X45 T8.heap _ 121 [zA a, zI 0, zI 3, zI 0, zI 3, zI 0, zI 0, zI 1, zI 0, zI 3] [.int 0, .int 3, .int 3, .int 0, .ref a]
      refine ⟨by decide, fun T46 X46 eh46 => ?_⟩
      refine own_callPP X46 hx hZ hown (hw _ (wm 89 rfl)) (hw _ (wm 91 rfl)) (hw _ (wm 2 rfl)) (hw _ (wm 90 rfl)) (hw _ (wm 3 rfl)) (hw _ (wm 92 rfl)) (by decide) eh46 EXs [.int 0, .int 3, .int 3, .int 0] pd14 rfl (fr := 2) (lo := 40) (rm14_030n l Z a0 hw [] a el po bo fi en ma we tu sk ss mk ms f0 f1 f2 1 1 Lw y0 y1 y2 D0 D1 D2 T8.heap n0 ZZs EXs PFs Ae2 Aws hv0 hE0 bD0 hv1 hE1 bD1 hv2 hE2 bD2 s00 s01 s10 s11 s20 s21 (by omega)) (by rw [hml]; rfl) 0 rfl (Nat.le_of_eq rfl) (hb hby d6_121) (by decide) (by decide) (by decide) (by decide) (fun T47 rv47 X47 eh47 qc47 => ?_)
      obtain rfl := qc47
      show own_Go p.tables e below _ (T47.setTop (mkF m 124 (Array.mk [zA a, zI 0, zI 3, zI 0, zI 3, zI 0, zI 0, zI 1, zI 0, zI 3]) [.int 1]))
      refine own_blk dec6 seq6 hby hx hZ hown hK hF 15 [true, false] [] X47 eh47 ?_
      show (((0 : Int32)).toInt = ((0 : Int32)).toInt) ∧ (¬ (((3 : Int32)).toInt ≤ ((1 : Int32)).toInt)) ∧ own_Aft X47 T8.heap _ 121 [zA a, zI 0, zI 3, zI 0, zI 3, zI 0, zI 0, zI 1, zI 1, zI 1] [.int 0, .int 3, .int 3, .int 1, .ref a]
      refine ⟨by decide, by decide, fun T48 X48 eh48 => ?_⟩
      refine own_callPP X48 hx hZ hown (hw _ (wm 89 rfl)) (hw _ (wm 91 rfl)) (hw _ (wm 2 rfl)) (hw _ (wm 90 rfl)) (hw _ (wm 3 rfl)) (hw _ (wm 92 rfl)) (by decide) eh48 EXs [.int 1, .int 3, .int 3, .int 0] pd14 rfl (fr := 2) (lo := 40) (rm14_130n l Z a0 hw [] a el po bo fi en ma we tu sk ss mk ms f0 f1 f2 1 1 Lw y0 y1 y2 D0 D1 D2 T8.heap n0 ZZs EXs PFs Ae2 Aws hv0 hE0 bD0 hv1 hE1 bD1 hv2 hE2 bD2 s00 s01 s10 s11 s20 s21 (by omega)) (by rw [hml]; rfl) 0 rfl (Nat.le_of_eq rfl) (hb hby d6_121) (by decide) (by decide) (by decide) (by decide) (fun T49 rv49 X49 eh49 qc49 => ?_)
      obtain rfl := qc49
      show own_Go p.tables e below _ (T49.setTop (mkF m 124 (Array.mk [zA a, zI 0, zI 3, zI 0, zI 3, zI 0, zI 0, zI 1, zI 1, zI 1]) [.int 2]))
      refine own_blk dec6 seq6 hby hx hZ hown hK hF 7 [false] [] X49 eh49 ?_
      show (¬ (((1 : Int32)).toInt = ((0 : Int32)).toInt)) ∧ own_Aft X49 T8.heap _ 138 [zA a, zI 0, zI 3, zI 0, zI 3, zI 0, zI 0, zI 1, zI 1, zI 2] [.int 2, .int 1, .ref a]
      refine ⟨by decide, fun T50 X50 eh50 => ?_⟩
      refine own_callPV X50 hx hZ hown (hw _ (wm 96 rfl)) (hw _ (wm 98 rfl)) (hw _ (wm 2 rfl)) (hw _ (wm 97 rfl)) (hw _ (wm 3 rfl)) (hw _ (wm 99 rfl)) (by decide) eh50 EXs [.int 1, .int 2] pd16 rfl (rm := ({ frames := 0, cells := 0, slots := 0, locals := 0 } : Room)) (rm16_1_1 l Z a0 hw [] a el po bo fi en ma we tu sk ss mk ms f0 f1 f2 1 (0 : Int32) (0 : Int32) (0 : Int32) (3 : Int32) (0 : Int32) (0 : Int32) Lb T8.heap n0 ZZs EXs CH PFs Ae2 Abs hLb Afs Ans (by omega) (by omega)) (by rw [hml]; rfl) 0 rfl (Nat.le_of_eq rfl) (hb hby d6_138) (by decide) (by decide) (by decide) (by decide) (fun T51 rv51 Lc51 X51 qc51 => ?_)
      obtain ⟨rfl, Mb3, KKb3, PFb3, Abb3, Afb3, Anb3⟩ := qc51
      have Awsb3 := Aws.keep KKb3 (own_nin (by simp only [own_out, and_true]; omega))
      have Ae2b3 := Ae2.keep KKb3 (own_nin (by simp only [own_out, and_true]; omega))
      have EXb3 := Exa.keep EXs KKb3
      have Nb3 := Fr.app Ns Mb3
      have ZZb3 := Nat.le_trans ZZs KKb3.1
      have KLb3 := Keep.trans KLs KKb3 (fun x hx => Or.inl (by simp only [List.mem_cons, List.not_mem_nil, or_false] at hx ⊢; rcases hx with rfl | rfl | rfl | rfl <;> simp))
      show own_Go p.tables e below _ (T51.setTop (mkF m 141 (Array.mk [zA a, zI 0, zI 3, zI 0, zI 3, zI 0, zI 0, zI 1, zI 1, zI 2]) []))
      refine own_blk dec6 seq6 hby hx hZ hown hK hF 11 [false] [] X51 rfl ?_
      show (¬ (((3 : Int32)).toInt ≤ ((2 : Int32)).toInt)) ∧ own_Aft X51 T51.heap _ 121 [zA a, zI 0, zI 3, zI 0, zI 3, zI 0, zI 0, zI 1, zI 2, zI 2] [.int 0, .int 3, .int 3, .int 2, .ref a]
      refine ⟨by decide, fun T52 X52 eh52 => ?_⟩
      refine own_callPP X52 hx hZ hown (hw _ (wm 89 rfl)) (hw _ (wm 91 rfl)) (hw _ (wm 2 rfl)) (hw _ (wm 90 rfl)) (hw _ (wm 3 rfl)) (hw _ (wm 92 rfl)) (by decide) eh52 EXb3 [.int 2, .int 3, .int 3, .int 0] pd14 rfl (fr := 2) (lo := 40) (rm14_230 l Z a0 hw [] a el po bo fi en ma we tu sk ss mk ms f0 f1 f2 2 1 Lw y0 y1 y2 D0 D1 D2 T51.heap n0 ZZb3 EXb3 PFb3 Ae2b3 Awsb3 ) (by rw [hml]; rfl) 0 rfl (Nat.le_of_eq rfl) (hb hby d6_121) (by decide) (by decide) (by decide) (by decide) (fun T53 rv53 X53 eh53 qc53 => ?_)
      obtain rfl := qc53
      show own_Go p.tables e below _ (T53.setTop (mkF m 124 (Array.mk [zA a, zI 0, zI 3, zI 0, zI 3, zI 0, zI 0, zI 1, zI 2, zI 2]) [.int 3]))
      refine own_blk dec6 seq6 hby hx hZ hown hK hF 7 [false] [] X53 eh53 ?_
      show (¬ (((2 : Int32)).toInt = ((0 : Int32)).toInt)) ∧ own_Aft X53 T51.heap _ 138 [zA a, zI 0, zI 3, zI 0, zI 3, zI 0, zI 0, zI 1, zI 2, zI 3] [.int 3, .int 2, .ref a]
      refine ⟨by decide, fun T54 X54 eh54 => ?_⟩
      refine own_callPV X54 hx hZ hown (hw _ (wm 96 rfl)) (hw _ (wm 98 rfl)) (hw _ (wm 2 rfl)) (hw _ (wm 97 rfl)) (hw _ (wm 3 rfl)) (hw _ (wm 99 rfl)) (by decide) eh54 EXb3 [.int 2, .int 3] pd16 rfl (rm := ({ frames := 0, cells := 0, slots := 0, locals := 0 } : Room)) (rm16_2_2 l Z a0 hw [] a el po bo fi en ma we tu sk ss mk ms f0 f1 f2 1 (0 : Int32) (1 : Int32) (0 : Int32) (3 : Int32) (2 : Int32) (0 : Int32) ((Lb).set f1.toInt.toNat (.int 1)) T51.heap n0 ZZb3 EXb3 CH PFb3 Ae2b3 Abb3 (by simp only [List.length_set]; omega) Afb3 Anb3 (by omega) (by omega)) (by rw [hml]; rfl) 0 rfl (Nat.le_of_eq rfl) (hb hby d6_138) (by decide) (by decide) (by decide) (by decide) (fun T55 rv55 Lc55 X55 qc55 => ?_)
      obtain ⟨rfl, Mb4, KKb4, PFb4, Abb4, Afb4, Anb4⟩ := qc55
      have Awsb3b4 := Awsb3.keep KKb4 (own_nin (by simp only [own_out, and_true]; omega))
      have Ae2b3b4 := Ae2b3.keep KKb4 (own_nin (by simp only [own_out, and_true]; omega))
      have EXb4 := Exa.keep EXb3 KKb4
      have Nb4 := Fr.app Nb3 Mb4
      have ZZb4 := Nat.le_trans ZZb3 KKb4.1
      have KLb4 := Keep.trans KLb3 KKb4 (fun x hx => Or.inl (by simp only [List.mem_cons, List.not_mem_nil, or_false] at hx ⊢; rcases hx with rfl | rfl | rfl | rfl <;> simp))
      show own_Go p.tables e below _ (T55.setTop (mkF m 141 (Array.mk [zA a, zI 0, zI 3, zI 0, zI 3, zI 0, zI 0, zI 1, zI 2, zI 3]) []))
      refine own_blk dec6 seq6 hby hx hZ hown hK hF 10 [true] [.ref fi] X55 rfl ?_
      show (((3 : Int32)).toInt ≤ ((3 : Int32)).toInt) ∧ (Fld Z T55.heap a cP "first" "[I" (.ref fi)) ∧ own_Aft X55 T55.heap _ 155 [zA a, zI 0, zI 3, zI 0, zI 3, zI 0, zI 0, zI 1, zI 3, zI 3] [.int 0, .int 0, .ref fi]
      refine ⟨by decide, PFb4.2.2.2.1, fun T56 X56 eh56 => ?_⟩
      refine own_sI X56 hx hZ eh56 Afb4 0 rfl (by show 0 < 3; decide) (hb hby d6_155) (fun T57 hp57 X57 eh57 Wr57 Ar57 => ?_)
      have Ar57' : own_A Z hp57 fi .int [.int 0, .int 1, .int 2] := Ar57
      have Awsb3b4_57 := Awsb3b4.other Wr57 (own_ne (by omega))
      have Ae2b3b4_57 := Ae2b3b4.other Wr57 (own_ne (by omega))
      have Abb4_57 := Abb4.other Wr57 (own_ne (by omega))
      have Anb4_57 := Anb4.other Wr57 (own_ne (by omega))
      have EXb4_57 := Exa.wr Wr57 EXb4
      have PF_57 := own_PF.wr PFb4 Wr57 (own_ne (by omega))
      have Nf57 := Fr.snoc X57 Nb4 (by omega)
      have Z_57 : n0 ≤ hp57.size := by rw [Wr.size Wr57]; exact ZZb4
      have K_57 := Keep.wr KLb4 Wr57 (Or.inl (List.mem_of_getElem? (i := 4) rfl))
      refine own_blk dec6 seq6 hby hx hZ hown hK hF 4 [] [.ref en] X57 eh57 ?_
      show (Fld Z hp57 a cP "end" "[I" (.ref en)) ∧ own_Aft X57 hp57 _ 163 [zA a, zI 0, zI 3, zI 0, zI 3, zI 0, zI 0, zI 1, zI 3, zI 3] [.int 1, .int 0, .ref en]
      refine ⟨PF_57.2.2.2.2.1, fun T58 X58 eh58 => ?_⟩
      refine own_sI X58 hx hZ eh58 Anb4_57 0 rfl (by show 0 < 3; decide) (hb hby d6_163) (fun T59 hp59 X59 eh59 Wr59 Ar59 => ?_)
      have Ar59' : own_A Z hp59 en .int [.int 1, .int 2, .int 3] := Ar59
      have Awsb3b4_59 := Awsb3b4_57.other Wr59 (own_ne (by omega))
      have Ae2b3b4_59 := Ae2b3b4_57.other Wr59 (own_ne (by omega))
      have Abb4_59 := Abb4_57.other Wr59 (own_ne (by omega))
      have Ar57'_59 := Ar57'.other Wr59 (own_ne (by omega))
      have EXb4_59 := Exa.wr Wr59 EXb4_57
      have PF_59 := own_PF.wr PF_57 Wr59 (own_ne (by omega))
      have Nf59 := Fr.snoc X59 Nf57 (by omega)
      have Z_59 : n0 ≤ hp59.size := by rw [Wr.size Wr59]; exact Z_57
      have K_59 := Keep.wr K_57 Wr59 (Or.inl (List.mem_of_getElem? (i := 5) rfl))
      exact own_retV X59 hx hlk eh59 hret (hb hby d6_164) (by decide) (by decide) (⟨rfl, Nf59, K_59, 3, _, PF_59, Abb4_59, Or.inr ⟨f0, f1, f2, D0, D1, D2, hP, Or.inr (Or.inr ⟨hc.1, hc.2, rfl, rfl⟩)⟩⟩)
set_option maxRecDepth 65536 in
set_option maxHeartbeats 40000000 in
theorem rm5_1 (l : Launch) (Z : State) (a0 : Array Value) (hw : ∀ d ∈ tables_1, d.before a0 Z = true) (ws : List Jvm.Cond) (a el po bo fi en ma we tu sk ss mk ms : Addr) (e0 e1 e2 : Int32) (Lp Lw Lb : List Value) (x0 : UInt64) (C0 : Int) (h0 : Heap) (n0 : Nat) (Z0 : n0 ≤ h0.size) (EX : Exa Z h0 a cP) (CH : own_CH n0 a el po bo fi en ma we tu sk ss mk ms) (PF : own_PF Z h0 a el po bo fi en ma we tu sk ss mk ms 1 1) (Ae : own_A Z h0 el .int [.int e0, .int e1, .int e2]) (Ap : own_A Z h0 po .int Lp) (hLp : Lp.length = 3) (Aw : own_A Z h0 we .double Lw) (Ak : own_A Z h0 sk .double [.double 0, .double 0, .double 0]) (As : own_A Z h0 ss .int [.int 0, .int 0, .int 0]) (Bk : own_A Z h0 mk .double [.double 0, .double 0, .double 0]) (Bs : own_A Z h0 ms .int [.int 0, .int 0, .int 0]) (Ab : own_A Z h0 bo .int Lb) (hLb : Lb.length = 3) (Af : own_A Z h0 fi .int [.int 0, .int 0, .int 0]) (An : own_A Z h0 en .int [.int 3, .int 0, .int 0]) (r00 : 0 ≤ e0.toInt) (r01 : e0.toInt < 3) (r10 : 0 ≤ e1.toInt) (r11 : e1.toInt < 3) (r20 : 0 ≤ e2.toInt) (r21 : e2.toInt < 3) (hw0 : Lw[e0.toInt.toNat]? = some (.double x0)) (hD0 : own_D 0 C0 x0) (bC0 : -3000 ≤ C0 ∧ C0 ≤ 3000) (Am : own_A Z h0 ma .int [.int 1, .int 0, .int 0]) (At : own_A Z h0 tu .int [.int 0, .int 0, .int 0]) :
    own_MF l (⟨cP, "split", "()V"⟩ : MethodName) prog_12_method_8_code 4 none ws ({ frames := 4, cells := 0, slots := 0, locals := 96 } : Room) #[.ref a] Z h0 (fun v h L => v = none ∧ Fr n0 L ∧ Keep h0 h [a, el, po, bo, fi, en, sk, ss, mk, ms, ma] ∧ ∃ (nb' : Int32) (Lb' : List Value), own_PF Z h a el po bo fi en ma we tu sk ss mk ms nb' 0 ∧ own_A Z h bo .int Lb' ∧ (nb' = 2 ∧ Lb' = (Lb).set e0.toInt.toNat (.int 1))) := by
  refine own_body pf5 (ls0 := [.val (.ref a), .unset, .unset, .unset]) (fun m => by first | (simp [entryFrame, mkF, argsToLocals, Value.category, maxLocals]; done) | rfl) ?_
  intro p e s m below meth c T0 hx hby hml hown hnm hlk hret hZ X0 eh0
  have hK := hKt1 hw; have hF := hFt1 hw
  have N0 := Fr.nil n0
  obtain ⟨c0_, c1_, c2_, c3_, c4_, c5_, c6_, c7_, c8_, c9_, c10_, c11_, c12_⟩ := CH
  have l0 : (0 : Int32).toInt = 0 := rfl
  have l1 : (1 : Int32).toInt = 1 := rfl
  have l2 : (2 : Int32).toInt = 2 := rfl
  have l3 : (3 : Int32).toInt = 3 := rfl
  have K0 := Keep.refl h0 [a, el, po, bo, fi, en, sk, ss, mk, ms, ma]
  have CH : own_CH n0 a el po bo fi en ma we tu sk ss mk ms := ⟨c0_, c1_, c2_, c3_, c4_, c5_, c6_, c7_, c8_, c9_, c10_, c11_, c12_⟩
  refine own_blk dec5 seq5 hby hx hZ hown hK hF 20 [false] [.int 1, .ref tu, .int 0, .ref ma, .int 1, .ref ma] X0 eh0 ?_
  show (Fld Z h0 a cP "touchedCount" "I" (.int 1)) ∧ (¬ (((1 : Int32)).toInt ≤ ((0 : Int32)).toInt)) ∧ (Fld Z h0 a cP "touched" "[I" (.ref tu)) ∧ (own_at Z h0 tu .int (0 : Int32) (.int 0)) ∧ (Fld Z h0 a cP "marked" "[I" (.ref ma)) ∧ (own_at Z h0 ma .int (0 : Int32) (.int 1)) ∧ (Fld Z h0 a cP "marked" "[I" (.ref ma)) ∧ own_Aft X0 h0 _ 30 [zA a, zI 0, zI 0, zI 1] [.int 0, .int 0, .ref ma]
  refine ⟨PF.2.2.2.2.2.2.2.2.2.2.2.2.2, by decide, PF.2.2.2.2.2.2.2.1, At.at (0 : Int32) 0 rfl rfl, PF.2.2.2.2.2.1, Am.at (0 : Int32) 0 rfl rfl, PF.2.2.2.2.2.1, fun T1 X1 eh1 => ?_⟩
  refine own_sI X1 hx hZ eh1 Am 0 rfl (by show 0 < 3; decide) (hb hby d5_30) (fun T2 hp2 X2 eh2 Wr2 Ar2 => ?_)
  have Ar2' : own_A Z hp2 ma .int [.int 0, .int 0, .int 0] := Ar2
  have Ae_2 := Ae.other Wr2 (own_ne (by omega))
  have Ap_2 := Ap.other Wr2 (own_ne (by omega))
  have Aw_2 := Aw.other Wr2 (own_ne (by omega))
  have Ak_2 := Ak.other Wr2 (own_ne (by omega))
  have As_2 := As.other Wr2 (own_ne (by omega))
  have Bk_2 := Bk.other Wr2 (own_ne (by omega))
  have Bs_2 := Bs.other Wr2 (own_ne (by omega))
  have Ab_2 := Ab.other Wr2 (own_ne (by omega))
  have Af_2 := Af.other Wr2 (own_ne (by omega))
  have An_2 := An.other Wr2 (own_ne (by omega))
  have At_2 := At.other Wr2 (own_ne (by omega))
  have EX_2 := Exa.wr Wr2 EX
  have PF_2 := own_PF.wr PF Wr2 (own_ne (by omega))
  have Nf2 := Fr.snoc X2 N0 (by omega)
  have Z_2 : n0 ≤ hp2.size := by rw [Wr.size Wr2]; exact Z0
  have K_2 := Keep.wr K0 Wr2 (Or.inl (List.mem_of_getElem? (i := 10) rfl))
  refine own_blk dec5 seq5 hby hx hZ hown hK hF 8 [] [.ref fi, .int 0] X2 eh2 ?_
  show (Fld Z hp2 a cP "first" "[I" (.ref fi)) ∧ (own_at Z hp2 fi .int (0 : Int32) (.int 0)) ∧ own_Aft X2 hp2 _ 41 [zA a, zI 0, zI 0, zI 1] [.int 1, .int 0, .ref a]
  refine ⟨PF_2.2.2.2.1, Af_2.at (0 : Int32) 0 rfl rfl, fun T3 X3 eh3 => ?_⟩
  refine own_callPV X3 hx hZ hown (hw _ (wm 59 rfl)) (hw _ (wm 61 rfl)) (hw _ (wm 2 rfl)) (hw _ (wm 60 rfl)) (hw _ (wm 3 rfl)) (hw _ (wm 62 rfl)) (by decide) eh3 EX_2 [.int 0, .int 1] pd6 rfl (rm := ({ frames := 3, cells := 0, slots := 0, locals := 72 } : Room)) (rm6_1 l Z a0 hw [] a el po bo fi en ma we tu sk ss mk ms e0 e1 e2 Lp Lw Lb x0 C0 hp2 n0 Z_2 EX_2 CH PF_2 Ae_2 Ap_2 hLp Aw_2 Ak_2 As_2 Bk_2 Bs_2 Ab_2 hLb Af_2 An_2 r00 r01 r10 r11 r20 r21 hw0 hD0 bC0) (by rw [hml]; rfl) 0 rfl (Nat.le_of_eq rfl) (hb hby d5_41) (by decide) (by decide) (by decide) (by decide) (fun T4 rv4 Lc4 X4 qc4 => ?_)
  obtain ⟨rfl, Mz, KKz, nb', Lb', PFs, Abs, hO⟩ := qc4
  have Atz := At_2.keep KKz (own_nin (by simp only [own_out, and_true]; omega))
  have EXz := Exa.keep EX_2 KKz
  have Nz := Fr.app Nf2 Mz
  have ZZz := Nat.le_trans Z_2 KKz.1
  have KLz := Keep.trans K_2 KKz (fun x hx => Or.inl (by simp only [List.mem_cons, List.not_mem_nil, or_false] at hx ⊢; rcases hx with rfl | rfl | rfl | rfl | rfl | rfl | rfl | rfl | rfl | rfl <;> simp))
  show own_Go p.tables e below _ (T4.setTop (mkF m 44 (Array.mk [zA a, zI 0, zI 0, zI 1]) []))
  refine own_blk dec5 seq5 hby hx hZ hown hK hF 8 [true] [.int 1] X4 rfl ?_
  show (Fld Z T4.heap a cP "touchedCount" "I" (.int 1)) ∧ (((1 : Int32)).toInt ≤ ((1 : Int32)).toInt) ∧ own_Aft X4 T4.heap _ 52 [zA a, zI 1, zI 0, zI 1] [.int 0, .ref a]
  refine ⟨PFs.2.2.2.2.2.2.2.2.2.2.2.2.2, by decide, fun T5 X5 eh5 => ?_⟩
  refine own_putF X5 hx hZ hown (hw _ (wm 43 rfl)) eh5 PFs.2.2.2.2.2.2.2.2.2.2.2.2.2 EXz (Or.inl (hw _ (wm 44 rfl))) (hw _ (wm 2 rfl)) (ty := .int) (by decide) rfl rfl (hb hby d5_52) (fun T6 hp6 X6 eh6 Wr6 Fd6 Ea6 => ?_)
  have Abs_6 := Abs.other Wr6 (own_ne (by omega))
  have Nf6 := Fr.snoc X6 Nz (by omega)
  have Z_6 : n0 ≤ hp6.size := by rw [Wr.size Wr6]; exact ZZz
  have K_6 := Keep.wr KLz Wr6 (Or.inl (List.mem_of_getElem? (i := 0) rfl))
  have PF_6 : own_PF Z hp6 a el po bo fi en ma we tu sk ss mk ms nb' (0 : Int32) := ⟨own_so Wr6 PFs.1 (Or.inr (hw _ (wm 12 rfl))) (Or.inl (hw _ (wm 44 rfl))), own_so Wr6 PFs.2.1 (Or.inr (hw _ (wm 14 rfl))) (Or.inl (hw _ (wm 44 rfl))), own_so Wr6 PFs.2.2.1 (Or.inr (hw _ (wm 16 rfl))) (Or.inl (hw _ (wm 44 rfl))), own_so Wr6 PFs.2.2.2.1 (Or.inr (hw _ (wm 18 rfl))) (Or.inl (hw _ (wm 44 rfl))), own_so Wr6 PFs.2.2.2.2.1 (Or.inr (hw _ (wm 20 rfl))) (Or.inl (hw _ (wm 44 rfl))), own_so Wr6 PFs.2.2.2.2.2.1 (Or.inr (hw _ (wm 22 rfl))) (Or.inl (hw _ (wm 44 rfl))), own_so Wr6 PFs.2.2.2.2.2.2.1 (Or.inr (hw _ (wm 25 rfl))) (Or.inl (hw _ (wm 44 rfl))), own_so Wr6 PFs.2.2.2.2.2.2.2.1 (Or.inr (hw _ (wm 27 rfl))) (Or.inl (hw _ (wm 44 rfl))), own_so Wr6 PFs.2.2.2.2.2.2.2.2.1 (Or.inr (hw _ (wm 31 rfl))) (Or.inl (hw _ (wm 44 rfl))), own_so Wr6 PFs.2.2.2.2.2.2.2.2.2.1 (Or.inr (hw _ (wm 33 rfl))) (Or.inl (hw _ (wm 44 rfl))), own_so Wr6 PFs.2.2.2.2.2.2.2.2.2.2.1 (Or.inr (hw _ (wm 35 rfl))) (Or.inl (hw _ (wm 44 rfl))), own_so Wr6 PFs.2.2.2.2.2.2.2.2.2.2.2.1 (Or.inr (hw _ (wm 37 rfl))) (Or.inl (hw _ (wm 44 rfl))), own_so Wr6 PFs.2.2.2.2.2.2.2.2.2.2.2.2.1 (Or.inl (hw _ (wm 29 rfl))) (Or.inl (hw _ (wm 44 rfl))), Fd6⟩
  exact own_retV X6 hx hlk eh6 hret (hb hby d5_55) (by decide) (by decide) (⟨rfl, Nf6, K_6, _, _, PF_6, Abs_6, hO⟩)
set_option maxRecDepth 65536 in
set_option maxHeartbeats 40000000 in
theorem rm5_2 (l : Launch) (Z : State) (a0 : Array Value) (hw : ∀ d ∈ tables_1, d.before a0 Z = true) (ws : List Jvm.Cond) (a el po bo fi en ma we tu sk ss mk ms : Addr) (e0 e1 e2 : Int32) (Lp Lw Lb : List Value) (x0 x1 : UInt64) (C0 C1 : Int) (h0 : Heap) (n0 : Nat) (Z0 : n0 ≤ h0.size) (EX : Exa Z h0 a cP) (CH : own_CH n0 a el po bo fi en ma we tu sk ss mk ms) (PF : own_PF Z h0 a el po bo fi en ma we tu sk ss mk ms 1 1) (Ae : own_A Z h0 el .int [.int e0, .int e1, .int e2]) (Ap : own_A Z h0 po .int Lp) (hLp : Lp.length = 3) (Aw : own_A Z h0 we .double Lw) (Ak : own_A Z h0 sk .double [.double 0, .double 0, .double 0]) (As : own_A Z h0 ss .int [.int 0, .int 0, .int 0]) (Bk : own_A Z h0 mk .double [.double 0, .double 0, .double 0]) (Bs : own_A Z h0 ms .int [.int 0, .int 0, .int 0]) (Ab : own_A Z h0 bo .int Lb) (hLb : Lb.length = 3) (Af : own_A Z h0 fi .int [.int 0, .int 0, .int 0]) (An : own_A Z h0 en .int [.int 3, .int 0, .int 0]) (r00 : 0 ≤ e0.toInt) (r01 : e0.toInt < 3) (r10 : 0 ≤ e1.toInt) (r11 : e1.toInt < 3) (r20 : 0 ≤ e2.toInt) (r21 : e2.toInt < 3) (hw0 : Lw[e0.toInt.toNat]? = some (.double x0)) (hD0 : own_D 0 C0 x0) (bC0 : -3000 ≤ C0 ∧ C0 ≤ 3000) (hw1 : Lw[e1.toInt.toNat]? = some (.double x1)) (hD1 : own_D 0 C1 x1) (bC1 : -3000 ≤ C1 ∧ C1 ≤ 3000) (Am : own_A Z h0 ma .int [.int 2, .int 0, .int 0]) (At : own_A Z h0 tu .int [.int 0, .int 0, .int 0]) :
    own_MF l (⟨cP, "split", "()V"⟩ : MethodName) prog_12_method_8_code 4 none ws ({ frames := 4, cells := 0, slots := 0, locals := 96 } : Room) #[.ref a] Z h0 (fun v h L => v = none ∧ Fr n0 L ∧ Keep h0 h [a, el, po, bo, fi, en, sk, ss, mk, ms, ma] ∧ ∃ (nb' : Int32) (Lb' : List Value), own_PF Z h a el po bo fi en ma we tu sk ss mk ms nb' 0 ∧ own_A Z h bo .int Lb' ∧ ((C0 = C1 ∧ nb' = 2 ∧ Lb' = (Lb).set e2.toInt.toNat (.int 1)) ∨ (∃ (f0 f1 : Int32) (D0 D1 : Int), own_perm2 e0 e1 f0 f1 C0 C1 D0 D1 ∧ D0 < D1 ∧ nb' = 3 ∧ Lb' = ((Lb).set f1.toInt.toNat (.int 1)).set e2.toInt.toNat (.int 2)))) := by
  refine own_body pf5 (ls0 := [.val (.ref a), .unset, .unset, .unset]) (fun m => by first | (simp [entryFrame, mkF, argsToLocals, Value.category, maxLocals]; done) | rfl) ?_
  intro p e s m below meth c T0 hx hby hml hown hnm hlk hret hZ X0 eh0
  have hK := hKt1 hw; have hF := hFt1 hw
  have N0 := Fr.nil n0
  obtain ⟨c0_, c1_, c2_, c3_, c4_, c5_, c6_, c7_, c8_, c9_, c10_, c11_, c12_⟩ := CH
  have l0 : (0 : Int32).toInt = 0 := rfl
  have l1 : (1 : Int32).toInt = 1 := rfl
  have l2 : (2 : Int32).toInt = 2 := rfl
  have l3 : (3 : Int32).toInt = 3 := rfl
  have K0 := Keep.refl h0 [a, el, po, bo, fi, en, sk, ss, mk, ms, ma]
  have CH : own_CH n0 a el po bo fi en ma we tu sk ss mk ms := ⟨c0_, c1_, c2_, c3_, c4_, c5_, c6_, c7_, c8_, c9_, c10_, c11_, c12_⟩
  refine own_blk dec5 seq5 hby hx hZ hown hK hF 20 [false] [.int 1, .ref tu, .int 0, .ref ma, .int 2, .ref ma] X0 eh0 ?_
  show (Fld Z h0 a cP "touchedCount" "I" (.int 1)) ∧ (¬ (((1 : Int32)).toInt ≤ ((0 : Int32)).toInt)) ∧ (Fld Z h0 a cP "touched" "[I" (.ref tu)) ∧ (own_at Z h0 tu .int (0 : Int32) (.int 0)) ∧ (Fld Z h0 a cP "marked" "[I" (.ref ma)) ∧ (own_at Z h0 ma .int (0 : Int32) (.int 2)) ∧ (Fld Z h0 a cP "marked" "[I" (.ref ma)) ∧ own_Aft X0 h0 _ 30 [zA a, zI 0, zI 0, zI 2] [.int 0, .int 0, .ref ma]
  refine ⟨PF.2.2.2.2.2.2.2.2.2.2.2.2.2, by decide, PF.2.2.2.2.2.2.2.1, At.at (0 : Int32) 0 rfl rfl, PF.2.2.2.2.2.1, Am.at (0 : Int32) 0 rfl rfl, PF.2.2.2.2.2.1, fun T1 X1 eh1 => ?_⟩
  refine own_sI X1 hx hZ eh1 Am 0 rfl (by show 0 < 3; decide) (hb hby d5_30) (fun T2 hp2 X2 eh2 Wr2 Ar2 => ?_)
  have Ar2' : own_A Z hp2 ma .int [.int 0, .int 0, .int 0] := Ar2
  have Ae_2 := Ae.other Wr2 (own_ne (by omega))
  have Ap_2 := Ap.other Wr2 (own_ne (by omega))
  have Aw_2 := Aw.other Wr2 (own_ne (by omega))
  have Ak_2 := Ak.other Wr2 (own_ne (by omega))
  have As_2 := As.other Wr2 (own_ne (by omega))
  have Bk_2 := Bk.other Wr2 (own_ne (by omega))
  have Bs_2 := Bs.other Wr2 (own_ne (by omega))
  have Ab_2 := Ab.other Wr2 (own_ne (by omega))
  have Af_2 := Af.other Wr2 (own_ne (by omega))
  have An_2 := An.other Wr2 (own_ne (by omega))
  have At_2 := At.other Wr2 (own_ne (by omega))
  have EX_2 := Exa.wr Wr2 EX
  have PF_2 := own_PF.wr PF Wr2 (own_ne (by omega))
  have Nf2 := Fr.snoc X2 N0 (by omega)
  have Z_2 : n0 ≤ hp2.size := by rw [Wr.size Wr2]; exact Z0
  have K_2 := Keep.wr K0 Wr2 (Or.inl (List.mem_of_getElem? (i := 10) rfl))
  refine own_blk dec5 seq5 hby hx hZ hown hK hF 8 [] [.ref fi, .int 0] X2 eh2 ?_
  show (Fld Z hp2 a cP "first" "[I" (.ref fi)) ∧ (own_at Z hp2 fi .int (0 : Int32) (.int 0)) ∧ own_Aft X2 hp2 _ 41 [zA a, zI 0, zI 0, zI 2] [.int 2, .int 0, .ref a]
  refine ⟨PF_2.2.2.2.1, Af_2.at (0 : Int32) 0 rfl rfl, fun T3 X3 eh3 => ?_⟩
  refine own_callPV X3 hx hZ hown (hw _ (wm 59 rfl)) (hw _ (wm 61 rfl)) (hw _ (wm 2 rfl)) (hw _ (wm 60 rfl)) (hw _ (wm 3 rfl)) (hw _ (wm 62 rfl)) (by decide) eh3 EX_2 [.int 0, .int 2] pd6 rfl (rm := ({ frames := 3, cells := 0, slots := 0, locals := 72 } : Room)) (rm6_2 l Z a0 hw [] a el po bo fi en ma we tu sk ss mk ms e0 e1 e2 Lp Lw Lb x0 x1 C0 C1 hp2 n0 Z_2 EX_2 CH PF_2 Ae_2 Ap_2 hLp Aw_2 Ak_2 As_2 Bk_2 Bs_2 Ab_2 hLb Af_2 An_2 r00 r01 r10 r11 r20 r21 hw0 hD0 bC0 hw1 hD1 bC1) (by rw [hml]; rfl) 0 rfl (Nat.le_of_eq rfl) (hb hby d5_41) (by decide) (by decide) (by decide) (by decide) (fun T4 rv4 Lc4 X4 qc4 => ?_)
  obtain ⟨rfl, Mz, KKz, nb', Lb', PFs, Abs, hO⟩ := qc4
  have Atz := At_2.keep KKz (own_nin (by simp only [own_out, and_true]; omega))
  have EXz := Exa.keep EX_2 KKz
  have Nz := Fr.app Nf2 Mz
  have ZZz := Nat.le_trans Z_2 KKz.1
  have KLz := Keep.trans K_2 KKz (fun x hx => Or.inl (by simp only [List.mem_cons, List.not_mem_nil, or_false] at hx ⊢; rcases hx with rfl | rfl | rfl | rfl | rfl | rfl | rfl | rfl | rfl | rfl <;> simp))
  show own_Go p.tables e below _ (T4.setTop (mkF m 44 (Array.mk [zA a, zI 0, zI 0, zI 2]) []))
  refine own_blk dec5 seq5 hby hx hZ hown hK hF 8 [true] [.int 1] X4 rfl ?_
  show (Fld Z T4.heap a cP "touchedCount" "I" (.int 1)) ∧ (((1 : Int32)).toInt ≤ ((1 : Int32)).toInt) ∧ own_Aft X4 T4.heap _ 52 [zA a, zI 1, zI 0, zI 2] [.int 0, .ref a]
  refine ⟨PFs.2.2.2.2.2.2.2.2.2.2.2.2.2, by decide, fun T5 X5 eh5 => ?_⟩
  refine own_putF X5 hx hZ hown (hw _ (wm 43 rfl)) eh5 PFs.2.2.2.2.2.2.2.2.2.2.2.2.2 EXz (Or.inl (hw _ (wm 44 rfl))) (hw _ (wm 2 rfl)) (ty := .int) (by decide) rfl rfl (hb hby d5_52) (fun T6 hp6 X6 eh6 Wr6 Fd6 Ea6 => ?_)
  have Abs_6 := Abs.other Wr6 (own_ne (by omega))
  have Nf6 := Fr.snoc X6 Nz (by omega)
  have Z_6 : n0 ≤ hp6.size := by rw [Wr.size Wr6]; exact ZZz
  have K_6 := Keep.wr KLz Wr6 (Or.inl (List.mem_of_getElem? (i := 0) rfl))
  have PF_6 : own_PF Z hp6 a el po bo fi en ma we tu sk ss mk ms nb' (0 : Int32) := ⟨own_so Wr6 PFs.1 (Or.inr (hw _ (wm 12 rfl))) (Or.inl (hw _ (wm 44 rfl))), own_so Wr6 PFs.2.1 (Or.inr (hw _ (wm 14 rfl))) (Or.inl (hw _ (wm 44 rfl))), own_so Wr6 PFs.2.2.1 (Or.inr (hw _ (wm 16 rfl))) (Or.inl (hw _ (wm 44 rfl))), own_so Wr6 PFs.2.2.2.1 (Or.inr (hw _ (wm 18 rfl))) (Or.inl (hw _ (wm 44 rfl))), own_so Wr6 PFs.2.2.2.2.1 (Or.inr (hw _ (wm 20 rfl))) (Or.inl (hw _ (wm 44 rfl))), own_so Wr6 PFs.2.2.2.2.2.1 (Or.inr (hw _ (wm 22 rfl))) (Or.inl (hw _ (wm 44 rfl))), own_so Wr6 PFs.2.2.2.2.2.2.1 (Or.inr (hw _ (wm 25 rfl))) (Or.inl (hw _ (wm 44 rfl))), own_so Wr6 PFs.2.2.2.2.2.2.2.1 (Or.inr (hw _ (wm 27 rfl))) (Or.inl (hw _ (wm 44 rfl))), own_so Wr6 PFs.2.2.2.2.2.2.2.2.1 (Or.inr (hw _ (wm 31 rfl))) (Or.inl (hw _ (wm 44 rfl))), own_so Wr6 PFs.2.2.2.2.2.2.2.2.2.1 (Or.inr (hw _ (wm 33 rfl))) (Or.inl (hw _ (wm 44 rfl))), own_so Wr6 PFs.2.2.2.2.2.2.2.2.2.2.1 (Or.inr (hw _ (wm 35 rfl))) (Or.inl (hw _ (wm 44 rfl))), own_so Wr6 PFs.2.2.2.2.2.2.2.2.2.2.2.1 (Or.inr (hw _ (wm 37 rfl))) (Or.inl (hw _ (wm 44 rfl))), own_so Wr6 PFs.2.2.2.2.2.2.2.2.2.2.2.2.1 (Or.inl (hw _ (wm 29 rfl))) (Or.inl (hw _ (wm 44 rfl))), Fd6⟩
  exact own_retV X6 hx hlk eh6 hret (hb hby d5_55) (by decide) (by decide) (⟨rfl, Nf6, K_6, _, _, PF_6, Abs_6, hO⟩)
set_option maxRecDepth 65536 in
set_option maxHeartbeats 40000000 in
theorem rm5_3 (l : Launch) (Z : State) (a0 : Array Value) (hw : ∀ d ∈ tables_1, d.before a0 Z = true) (ws : List Jvm.Cond) (a el po bo fi en ma we tu sk ss mk ms : Addr) (e0 e1 e2 : Int32) (Lp Lw Lb : List Value) (x0 x1 x2 : UInt64) (C0 C1 C2 : Int) (h0 : Heap) (n0 : Nat) (Z0 : n0 ≤ h0.size) (EX : Exa Z h0 a cP) (CH : own_CH n0 a el po bo fi en ma we tu sk ss mk ms) (PF : own_PF Z h0 a el po bo fi en ma we tu sk ss mk ms 1 1) (Ae : own_A Z h0 el .int [.int e0, .int e1, .int e2]) (Ap : own_A Z h0 po .int Lp) (hLp : Lp.length = 3) (Aw : own_A Z h0 we .double Lw) (Ak : own_A Z h0 sk .double [.double 0, .double 0, .double 0]) (As : own_A Z h0 ss .int [.int 0, .int 0, .int 0]) (Bk : own_A Z h0 mk .double [.double 0, .double 0, .double 0]) (Bs : own_A Z h0 ms .int [.int 0, .int 0, .int 0]) (Ab : own_A Z h0 bo .int Lb) (hLb : Lb.length = 3) (Af : own_A Z h0 fi .int [.int 0, .int 0, .int 0]) (An : own_A Z h0 en .int [.int 3, .int 0, .int 0]) (r00 : 0 ≤ e0.toInt) (r01 : e0.toInt < 3) (r10 : 0 ≤ e1.toInt) (r11 : e1.toInt < 3) (r20 : 0 ≤ e2.toInt) (r21 : e2.toInt < 3) (hw0 : Lw[e0.toInt.toNat]? = some (.double x0)) (hD0 : own_D 0 C0 x0) (bC0 : -3000 ≤ C0 ∧ C0 ≤ 3000) (hw1 : Lw[e1.toInt.toNat]? = some (.double x1)) (hD1 : own_D 0 C1 x1) (bC1 : -3000 ≤ C1 ∧ C1 ≤ 3000) (hw2 : Lw[e2.toInt.toNat]? = some (.double x2)) (hD2 : own_D 0 C2 x2) (bC2 : -3000 ≤ C2 ∧ C2 ≤ 3000) (Am : own_A Z h0 ma .int [.int 3, .int 0, .int 0]) (At : own_A Z h0 tu .int [.int 0, .int 0, .int 0]) :
    own_MF l (⟨cP, "split", "()V"⟩ : MethodName) prog_12_method_8_code 4 none ws ({ frames := 4, cells := 0, slots := 0, locals := 96 } : Room) #[.ref a] Z h0 (fun v h L => v = none ∧ Fr n0 L ∧ Keep h0 h [a, el, po, bo, fi, en, sk, ss, mk, ms, ma] ∧ ∃ (nb' : Int32) (Lb' : List Value), own_PF Z h a el po bo fi en ma we tu sk ss mk ms nb' 0 ∧ own_A Z h bo .int Lb' ∧ ((C1 = C0 ∧ C2 = C0 ∧ nb' = 1 ∧ Lb' = Lb) ∨ (∃ (f0 f1 f2 : Int32) (D0 D1 D2 : Int), own_perm3 e0 e1 e2 f0 f1 f2 C0 C1 C2 D0 D1 D2 ∧ ((D0 = D1 ∧ D1 < D2 ∧ nb' = 2 ∧ Lb' = (Lb).set f2.toInt.toNat (.int 1)) ∨ (D0 < D1 ∧ D1 = D2 ∧ nb' = 2 ∧ Lb' = (Lb).set f0.toInt.toNat (.int 1)) ∨ (D0 < D1 ∧ D1 < D2 ∧ nb' = 3 ∧ Lb' = ((Lb).set f1.toInt.toNat (.int 1)).set f2.toInt.toNat (.int 2)))))) := by
  refine own_body pf5 (ls0 := [.val (.ref a), .unset, .unset, .unset]) (fun m => by first | (simp [entryFrame, mkF, argsToLocals, Value.category, maxLocals]; done) | rfl) ?_
  intro p e s m below meth c T0 hx hby hml hown hnm hlk hret hZ X0 eh0
  have hK := hKt1 hw; have hF := hFt1 hw
  have N0 := Fr.nil n0
  obtain ⟨c0_, c1_, c2_, c3_, c4_, c5_, c6_, c7_, c8_, c9_, c10_, c11_, c12_⟩ := CH
  have l0 : (0 : Int32).toInt = 0 := rfl
  have l1 : (1 : Int32).toInt = 1 := rfl
  have l2 : (2 : Int32).toInt = 2 := rfl
  have l3 : (3 : Int32).toInt = 3 := rfl
  have K0 := Keep.refl h0 [a, el, po, bo, fi, en, sk, ss, mk, ms, ma]
  have CH : own_CH n0 a el po bo fi en ma we tu sk ss mk ms := ⟨c0_, c1_, c2_, c3_, c4_, c5_, c6_, c7_, c8_, c9_, c10_, c11_, c12_⟩
  refine own_blk dec5 seq5 hby hx hZ hown hK hF 20 [false] [.int 1, .ref tu, .int 0, .ref ma, .int 3, .ref ma] X0 eh0 ?_
  show (Fld Z h0 a cP "touchedCount" "I" (.int 1)) ∧ (¬ (((1 : Int32)).toInt ≤ ((0 : Int32)).toInt)) ∧ (Fld Z h0 a cP "touched" "[I" (.ref tu)) ∧ (own_at Z h0 tu .int (0 : Int32) (.int 0)) ∧ (Fld Z h0 a cP "marked" "[I" (.ref ma)) ∧ (own_at Z h0 ma .int (0 : Int32) (.int 3)) ∧ (Fld Z h0 a cP "marked" "[I" (.ref ma)) ∧ own_Aft X0 h0 _ 30 [zA a, zI 0, zI 0, zI 3] [.int 0, .int 0, .ref ma]
  refine ⟨PF.2.2.2.2.2.2.2.2.2.2.2.2.2, by decide, PF.2.2.2.2.2.2.2.1, At.at (0 : Int32) 0 rfl rfl, PF.2.2.2.2.2.1, Am.at (0 : Int32) 0 rfl rfl, PF.2.2.2.2.2.1, fun T1 X1 eh1 => ?_⟩
  refine own_sI X1 hx hZ eh1 Am 0 rfl (by show 0 < 3; decide) (hb hby d5_30) (fun T2 hp2 X2 eh2 Wr2 Ar2 => ?_)
  have Ar2' : own_A Z hp2 ma .int [.int 0, .int 0, .int 0] := Ar2
  have Ae_2 := Ae.other Wr2 (own_ne (by omega))
  have Ap_2 := Ap.other Wr2 (own_ne (by omega))
  have Aw_2 := Aw.other Wr2 (own_ne (by omega))
  have Ak_2 := Ak.other Wr2 (own_ne (by omega))
  have As_2 := As.other Wr2 (own_ne (by omega))
  have Bk_2 := Bk.other Wr2 (own_ne (by omega))
  have Bs_2 := Bs.other Wr2 (own_ne (by omega))
  have Ab_2 := Ab.other Wr2 (own_ne (by omega))
  have Af_2 := Af.other Wr2 (own_ne (by omega))
  have An_2 := An.other Wr2 (own_ne (by omega))
  have At_2 := At.other Wr2 (own_ne (by omega))
  have EX_2 := Exa.wr Wr2 EX
  have PF_2 := own_PF.wr PF Wr2 (own_ne (by omega))
  have Nf2 := Fr.snoc X2 N0 (by omega)
  have Z_2 : n0 ≤ hp2.size := by rw [Wr.size Wr2]; exact Z0
  have K_2 := Keep.wr K0 Wr2 (Or.inl (List.mem_of_getElem? (i := 10) rfl))
  refine own_blk dec5 seq5 hby hx hZ hown hK hF 8 [] [.ref fi, .int 0] X2 eh2 ?_
  show (Fld Z hp2 a cP "first" "[I" (.ref fi)) ∧ (own_at Z hp2 fi .int (0 : Int32) (.int 0)) ∧ own_Aft X2 hp2 _ 41 [zA a, zI 0, zI 0, zI 3] [.int 3, .int 0, .ref a]
  refine ⟨PF_2.2.2.2.1, Af_2.at (0 : Int32) 0 rfl rfl, fun T3 X3 eh3 => ?_⟩
  refine own_callPV X3 hx hZ hown (hw _ (wm 59 rfl)) (hw _ (wm 61 rfl)) (hw _ (wm 2 rfl)) (hw _ (wm 60 rfl)) (hw _ (wm 3 rfl)) (hw _ (wm 62 rfl)) (by decide) eh3 EX_2 [.int 0, .int 3] pd6 rfl (rm := ({ frames := 3, cells := 0, slots := 0, locals := 72 } : Room)) (rm6_3 l Z a0 hw [] a el po bo fi en ma we tu sk ss mk ms e0 e1 e2 Lp Lw Lb x0 x1 x2 C0 C1 C2 hp2 n0 Z_2 EX_2 CH PF_2 Ae_2 Ap_2 hLp Aw_2 Ak_2 As_2 Bk_2 Bs_2 Ab_2 hLb Af_2 An_2 r00 r01 r10 r11 r20 r21 hw0 hD0 bC0 hw1 hD1 bC1 hw2 hD2 bC2) (by rw [hml]; rfl) 0 rfl (Nat.le_of_eq rfl) (hb hby d5_41) (by decide) (by decide) (by decide) (by decide) (fun T4 rv4 Lc4 X4 qc4 => ?_)
  obtain ⟨rfl, Mz, KKz, nb', Lb', PFs, Abs, hO⟩ := qc4
  have Atz := At_2.keep KKz (own_nin (by simp only [own_out, and_true]; omega))
  have EXz := Exa.keep EX_2 KKz
  have Nz := Fr.app Nf2 Mz
  have ZZz := Nat.le_trans Z_2 KKz.1
  have KLz := Keep.trans K_2 KKz (fun x hx => Or.inl (by simp only [List.mem_cons, List.not_mem_nil, or_false] at hx ⊢; rcases hx with rfl | rfl | rfl | rfl | rfl | rfl | rfl | rfl | rfl | rfl <;> simp))
  show own_Go p.tables e below _ (T4.setTop (mkF m 44 (Array.mk [zA a, zI 0, zI 0, zI 3]) []))
  refine own_blk dec5 seq5 hby hx hZ hown hK hF 8 [true] [.int 1] X4 rfl ?_
  show (Fld Z T4.heap a cP "touchedCount" "I" (.int 1)) ∧ (((1 : Int32)).toInt ≤ ((1 : Int32)).toInt) ∧ own_Aft X4 T4.heap _ 52 [zA a, zI 1, zI 0, zI 3] [.int 0, .ref a]
  refine ⟨PFs.2.2.2.2.2.2.2.2.2.2.2.2.2, by decide, fun T5 X5 eh5 => ?_⟩
  refine own_putF X5 hx hZ hown (hw _ (wm 43 rfl)) eh5 PFs.2.2.2.2.2.2.2.2.2.2.2.2.2 EXz (Or.inl (hw _ (wm 44 rfl))) (hw _ (wm 2 rfl)) (ty := .int) (by decide) rfl rfl (hb hby d5_52) (fun T6 hp6 X6 eh6 Wr6 Fd6 Ea6 => ?_)
  have Abs_6 := Abs.other Wr6 (own_ne (by omega))
  have Nf6 := Fr.snoc X6 Nz (by omega)
  have Z_6 : n0 ≤ hp6.size := by rw [Wr.size Wr6]; exact ZZz
  have K_6 := Keep.wr KLz Wr6 (Or.inl (List.mem_of_getElem? (i := 0) rfl))
  have PF_6 : own_PF Z hp6 a el po bo fi en ma we tu sk ss mk ms nb' (0 : Int32) := ⟨own_so Wr6 PFs.1 (Or.inr (hw _ (wm 12 rfl))) (Or.inl (hw _ (wm 44 rfl))), own_so Wr6 PFs.2.1 (Or.inr (hw _ (wm 14 rfl))) (Or.inl (hw _ (wm 44 rfl))), own_so Wr6 PFs.2.2.1 (Or.inr (hw _ (wm 16 rfl))) (Or.inl (hw _ (wm 44 rfl))), own_so Wr6 PFs.2.2.2.1 (Or.inr (hw _ (wm 18 rfl))) (Or.inl (hw _ (wm 44 rfl))), own_so Wr6 PFs.2.2.2.2.1 (Or.inr (hw _ (wm 20 rfl))) (Or.inl (hw _ (wm 44 rfl))), own_so Wr6 PFs.2.2.2.2.2.1 (Or.inr (hw _ (wm 22 rfl))) (Or.inl (hw _ (wm 44 rfl))), own_so Wr6 PFs.2.2.2.2.2.2.1 (Or.inr (hw _ (wm 25 rfl))) (Or.inl (hw _ (wm 44 rfl))), own_so Wr6 PFs.2.2.2.2.2.2.2.1 (Or.inr (hw _ (wm 27 rfl))) (Or.inl (hw _ (wm 44 rfl))), own_so Wr6 PFs.2.2.2.2.2.2.2.2.1 (Or.inr (hw _ (wm 31 rfl))) (Or.inl (hw _ (wm 44 rfl))), own_so Wr6 PFs.2.2.2.2.2.2.2.2.2.1 (Or.inr (hw _ (wm 33 rfl))) (Or.inl (hw _ (wm 44 rfl))), own_so Wr6 PFs.2.2.2.2.2.2.2.2.2.2.1 (Or.inr (hw _ (wm 35 rfl))) (Or.inl (hw _ (wm 44 rfl))), own_so Wr6 PFs.2.2.2.2.2.2.2.2.2.2.2.1 (Or.inr (hw _ (wm 37 rfl))) (Or.inl (hw _ (wm 44 rfl))), own_so Wr6 PFs.2.2.2.2.2.2.2.2.2.2.2.2.1 (Or.inl (hw _ (wm 29 rfl))) (Or.inl (hw _ (wm 44 rfl))), Fd6⟩
  exact own_retV X6 hx hlk eh6 hret (hb hby d5_55) (by decide) (by decide) (⟨rfl, Nf6, K_6, _, _, PF_6, Abs_6, hO⟩)
set_option maxRecDepth 65536 in
set_option maxHeartbeats 40000000 in
theorem rm17 (l : Launch) (Z : State) (a0 : Array Value) (hw : ∀ d ∈ tables_1, d.before a0 Z = true) (ws : List Jvm.Cond) (a el po bo fi en ma we tu sk ss mk ms : Addr) (nb tc : Int32) (h0 : Heap) (n0 : Nat) (Z0 : n0 ≤ h0.size) (PF : own_PF Z h0 a el po bo fi en ma we tu sk ss mk ms nb tc) :
    own_MF l (⟨cP, "blockCount", "()I"⟩ : MethodName) prog_12_method_4_code 1 (some .int) ws ({ frames := 0, cells := 0, slots := 0, locals := 0 } : Room) #[.ref a] Z h0 (fun v h L => (v = some (.int nb)) ∧ L = [] ∧ h = h0) := by
  refine own_body pf17 (ls0 := [.val (.ref a)]) (fun m => by first | (simp [entryFrame, mkF, argsToLocals, Value.category, maxLocals]; done) | rfl) ?_
  intro p e s m below meth c T0 hx hby hml hown hnm hlk hret hZ X0 eh0
  have hK := hKt1 hw; have hF := hFt1 hw
  have N0 := Fr.nil n0
  have EX := PF
  have l0 : (0 : Int32).toInt = 0 := rfl
  have l1 : (1 : Int32).toInt = 1 := rfl
  have l2 : (2 : Int32).toInt = 2 := rfl
  have l3 : (3 : Int32).toInt = 3 := rfl
  refine own_blk dec17 seq17 hby hx hZ hown hK hF 2 [] [.int nb] X0 eh0 ?_
  show (Fld Z h0 a cP "blocks" "I" (.int nb)) ∧ own_Aft X0 h0 _ 4 [zA a] [.int nb]
  refine ⟨PF.2.2.2.2.2.2.2.2.2.2.2.2.1, fun T1 X1 eh1 => ?_⟩
  exact own_ret X1 hx hlk eh1 hret (by first | rfl | decide) (Or.inl ⟨rfl, by simp, _, rfl⟩) (hb hby d17_4) (by decide) (by decide) (⟨rfl, rfl, rfl⟩)
set_option maxRecDepth 65536 in
set_option maxHeartbeats 40000000 in
theorem rm18_0 (l : Launch) (Z : State) (a0 : Array Value) (hw : ∀ d ∈ tables_1, d.before a0 Z = true) (ws : List Jvm.Cond) (a el po bo fi en ma we tu sk ss mk ms : Addr) (nb tc g0 g1 g2 : Int32) (h0 : Heap) (n0 : Nat) (Z0 : n0 ≤ h0.size) (PF : own_PF Z h0 a el po bo fi en ma we tu sk ss mk ms nb tc) (Ab : own_A Z h0 bo .int [.int g0, .int g1, .int g2]) :
    own_MF l (⟨cP, "blockOf", "(I)I"⟩ : MethodName) prog_12_method_5_code 2 (some .int) ws ({ frames := 0, cells := 0, slots := 0, locals := 0 } : Room) #[.ref a, .int 0] Z h0 (fun v h L => (v = some (.int g0)) ∧ L = [] ∧ h = h0) := by
  refine own_body pf18 (ls0 := [.val (.ref a), .val (.int 0)]) (fun m => by first | (simp [entryFrame, mkF, argsToLocals, Value.category, maxLocals]; done) | rfl) ?_
  intro p e s m below meth c T0 hx hby hml hown hnm hlk hret hZ X0 eh0
  have hK := hKt1 hw; have hF := hFt1 hw
  have N0 := Fr.nil n0
  have EX := PF
  have l0 : (0 : Int32).toInt = 0 := rfl
  have l1 : (1 : Int32).toInt = 1 := rfl
  have l2 : (2 : Int32).toInt = 2 := rfl
  have l3 : (3 : Int32).toInt = 3 := rfl
  refine own_blk dec18 seq18 hby hx hZ hown hK hF 4 [] [.ref bo, .int g0] X0 eh0 ?_
  show (Fld Z h0 a cP "blockOf" "[I" (.ref bo)) ∧ (own_at Z h0 bo .int (0 : Int32) (.int g0)) ∧ own_Aft X0 h0 _ 6 [zA a, zI 0] [.int g0]
  refine ⟨PF.2.2.1, Ab.at (0 : Int32) 0 rfl rfl, fun T1 X1 eh1 => ?_⟩
  exact own_ret X1 hx hlk eh1 hret (by first | rfl | decide) (Or.inl ⟨rfl, by simp, _, rfl⟩) (hb hby d18_6) (by decide) (by decide) (⟨rfl, rfl, rfl⟩)
set_option maxRecDepth 65536 in
set_option maxHeartbeats 40000000 in
theorem rm18_1 (l : Launch) (Z : State) (a0 : Array Value) (hw : ∀ d ∈ tables_1, d.before a0 Z = true) (ws : List Jvm.Cond) (a el po bo fi en ma we tu sk ss mk ms : Addr) (nb tc g0 g1 g2 : Int32) (h0 : Heap) (n0 : Nat) (Z0 : n0 ≤ h0.size) (PF : own_PF Z h0 a el po bo fi en ma we tu sk ss mk ms nb tc) (Ab : own_A Z h0 bo .int [.int g0, .int g1, .int g2]) :
    own_MF l (⟨cP, "blockOf", "(I)I"⟩ : MethodName) prog_12_method_5_code 2 (some .int) ws ({ frames := 0, cells := 0, slots := 0, locals := 0 } : Room) #[.ref a, .int 1] Z h0 (fun v h L => (v = some (.int g1)) ∧ L = [] ∧ h = h0) := by
  refine own_body pf18 (ls0 := [.val (.ref a), .val (.int 1)]) (fun m => by first | (simp [entryFrame, mkF, argsToLocals, Value.category, maxLocals]; done) | rfl) ?_
  intro p e s m below meth c T0 hx hby hml hown hnm hlk hret hZ X0 eh0
  have hK := hKt1 hw; have hF := hFt1 hw
  have N0 := Fr.nil n0
  have EX := PF
  have l0 : (0 : Int32).toInt = 0 := rfl
  have l1 : (1 : Int32).toInt = 1 := rfl
  have l2 : (2 : Int32).toInt = 2 := rfl
  have l3 : (3 : Int32).toInt = 3 := rfl
  refine own_blk dec18 seq18 hby hx hZ hown hK hF 4 [] [.ref bo, .int g1] X0 eh0 ?_
  show (Fld Z h0 a cP "blockOf" "[I" (.ref bo)) ∧ (own_at Z h0 bo .int (1 : Int32) (.int g1)) ∧ own_Aft X0 h0 _ 6 [zA a, zI 1] [.int g1]
  refine ⟨PF.2.2.1, Ab.at (1 : Int32) 1 rfl rfl, fun T1 X1 eh1 => ?_⟩
  exact own_ret X1 hx hlk eh1 hret (by first | rfl | decide) (Or.inl ⟨rfl, by simp, _, rfl⟩) (hb hby d18_6) (by decide) (by decide) (⟨rfl, rfl, rfl⟩)
set_option maxRecDepth 65536 in
set_option maxHeartbeats 40000000 in
theorem rm18_2 (l : Launch) (Z : State) (a0 : Array Value) (hw : ∀ d ∈ tables_1, d.before a0 Z = true) (ws : List Jvm.Cond) (a el po bo fi en ma we tu sk ss mk ms : Addr) (nb tc g0 g1 g2 : Int32) (h0 : Heap) (n0 : Nat) (Z0 : n0 ≤ h0.size) (PF : own_PF Z h0 a el po bo fi en ma we tu sk ss mk ms nb tc) (Ab : own_A Z h0 bo .int [.int g0, .int g1, .int g2]) :
    own_MF l (⟨cP, "blockOf", "(I)I"⟩ : MethodName) prog_12_method_5_code 2 (some .int) ws ({ frames := 0, cells := 0, slots := 0, locals := 0 } : Room) #[.ref a, .int 2] Z h0 (fun v h L => (v = some (.int g2)) ∧ L = [] ∧ h = h0) := by
  refine own_body pf18 (ls0 := [.val (.ref a), .val (.int 2)]) (fun m => by first | (simp [entryFrame, mkF, argsToLocals, Value.category, maxLocals]; done) | rfl) ?_
  intro p e s m below meth c T0 hx hby hml hown hnm hlk hret hZ X0 eh0
  have hK := hKt1 hw; have hF := hFt1 hw
  have N0 := Fr.nil n0
  have EX := PF
  have l0 : (0 : Int32).toInt = 0 := rfl
  have l1 : (1 : Int32).toInt = 1 := rfl
  have l2 : (2 : Int32).toInt = 2 := rfl
  have l3 : (3 : Int32).toInt = 3 := rfl
  refine own_blk dec18 seq18 hby hx hZ hown hK hF 4 [] [.ref bo, .int g2] X0 eh0 ?_
  show (Fld Z h0 a cP "blockOf" "[I" (.ref bo)) ∧ (own_at Z h0 bo .int (2 : Int32) (.int g2)) ∧ own_Aft X0 h0 _ 6 [zA a, zI 2] [.int g2]
  refine ⟨PF.2.2.1, Ab.at (2 : Int32) 2 rfl rfl, fun T1 X1 eh1 => ?_⟩
  exact own_ret X1 hx hlk eh1 hret (by first | rfl | decide) (Or.inl ⟨rfl, by simp, _, rfl⟩) (hb hby d18_6) (by decide) (by decide) (⟨rfl, rfl, rfl⟩)
def own_bef (mi wi mj wj : Int) : Int := if mi ≠ 0 ∧ (mj = 0 ∨ wi < wj) then 1 else 0
def own_sam (mi wi mj wj : Int) : Int := if mi = mj ∧ (mi = 0 ∨ wi = wj) then 1 else 0
def own_rnk (mi wi mj wj mk wk : Int) : Int := own_bef mj wj mi wi + own_bef mk wk mi wi - (if own_bef mj wj mi wi = 1 ∧ own_bef mk wk mi wi = 1 ∧ own_sam mj wj mk wk = 1 then 1 else 0)
def own_blv (r rL : Int) : Int := if r = rL then 0 else if r < rL then r + 1 else r
theorem own_bef_s (mi wi mj wj : Int) : (own_bef mi wi mj wj = 1 ∧ mi ≠ 0 ∧ (mj = 0 ∨ wi < wj)) ∨ (own_bef mi wi mj wj = 0 ∧ (mi = 0 ∨ (mj ≠ 0 ∧ wj ≤ wi))) := by
  unfold own_bef; split
  · rename_i h; exact Or.inl ⟨rfl, h⟩
  · rename_i h; exact Or.inr ⟨rfl, by omega⟩
theorem own_sam_s (mi wi mj wj : Int) : (own_sam mi wi mj wj = 1 ∧ mi = mj ∧ (mi = 0 ∨ wi = wj)) ∨ (own_sam mi wi mj wj = 0 ∧ (mi ≠ mj ∨ (mi ≠ 0 ∧ wi ≠ wj))) := by
  unfold own_sam; split
  · rename_i h; exact Or.inl ⟨rfl, h⟩
  · rename_i h; exact Or.inr ⟨rfl, by omega⟩
theorem own_rnk_s (mi wi mj wj mk wk : Int) : (own_rnk mi wi mj wj mk wk = own_bef mj wj mi wi + own_bef mk wk mi wi - 1 ∧ own_bef mj wj mi wi = 1 ∧ own_bef mk wk mi wi = 1 ∧ own_sam mj wj mk wk = 1) ∨ (own_rnk mi wi mj wj mk wk = own_bef mj wj mi wi + own_bef mk wk mi wi ∧ (own_bef mj wj mi wi ≠ 1 ∨ own_bef mk wk mi wi ≠ 1 ∨ own_sam mj wj mk wk ≠ 1)) := by
  unfold own_rnk; split
  · rename_i h; exact Or.inl ⟨rfl, h⟩
  · rename_i h; exact Or.inr ⟨by omega, by omega⟩
theorem own_blv_s (r rL : Int) : (own_blv r rL = 0 ∧ r = rL) ∨ (own_blv r rL = r + 1 ∧ r < rL) ∨ (own_blv r rL = r ∧ rL < r) := by
  unfold own_blv; split
  · rename_i h; exact Or.inl ⟨rfl, h⟩
  · split
    · rename_i h; exact Or.inr (Or.inl ⟨rfl, h⟩)
    · rename_i h h'; exact Or.inr (Or.inr ⟨rfl, by omega⟩)
theorem own_sel3 {Z : State} {h : Heap} {b : Addr} {ty : FieldType} {v0 v1 v2 : Value} (A : own_A Z h b ty [v0, v1, v2]) (t : Int32) (t0 : 0 ≤ t.toInt) (t1 : t.toInt < 3) : ∃ v, own_at Z h b ty t v ∧ ((t.toInt = 0 ∧ v = v0) ∨ (t.toInt = 1 ∧ v = v1) ∨ (t.toInt = 2 ∧ v = v2)) := by
  obtain e | e | e : t.toInt = 0 ∨ t.toInt = 1 ∨ t.toInt = 2 := by omega
  · exact ⟨v0, A.at t 0 e rfl, Or.inl ⟨e, rfl⟩⟩
  · exact ⟨v1, A.at t 1 e rfl, Or.inr (Or.inl ⟨e, rfl⟩)⟩
  · exact ⟨v2, A.at t 2 e rfl, Or.inr (Or.inr ⟨e, rfl⟩)⟩
def own_M (t1 t2 t3 m0 m1 m2 : Int) : Prop := ((m0 = 1 ∧ (t1 = 0 ∨ t2 = 0 ∨ t3 = 0)) ∨ (m0 = 0 ∧ t1 ≠ 0 ∧ t2 ≠ 0 ∧ t3 ≠ 0)) ∧ ((m1 = 1 ∧ (t1 = 1 ∨ t2 = 1 ∨ t3 = 1)) ∨ (m1 = 0 ∧ t1 ≠ 1 ∧ t2 ≠ 1 ∧ t3 ≠ 1)) ∧ ((m2 = 1 ∧ (t1 = 2 ∨ t2 = 2 ∨ t3 = 2)) ∨ (m2 = 0 ∧ t1 ≠ 2 ∧ t2 ≠ 2 ∧ t3 ≠ 2))
def own_pq (t b i q : Int) : Prop := (t = i ∧ q = b) ∨ (t ≠ i ∧ q = 0)
def own_Wp (t1 b1 t2 b2 t3 b3 w0 w1 w2 : Int) : Prop := (∃ qa qb qc : Int, own_pq t1 b1 0 qa ∧ own_pq t2 b2 0 qb ∧ own_pq t3 b3 0 qc ∧ w0 = qa + qb + qc) ∧ (∃ qa qb qc : Int, own_pq t1 b1 1 qa ∧ own_pq t2 b2 1 qb ∧ own_pq t3 b3 1 qc ∧ w1 = qa + qb + qc) ∧ (∃ qa qb qc : Int, own_pq t1 b1 2 qa ∧ own_pq t2 b2 2 qb ∧ own_pq t3 b3 2 qc ∧ w2 = qa + qb + qc)
def own_is (e m0 m1 m2 v : Int) : Prop := (e = 0 ∧ m0 = v) ∨ (e = 1 ∧ m1 = v) ∨ (e = 2 ∧ m2 = v)
def own_FR (m0 m1 m2 e0 e1 e2 : Int) : Prop := ((0 < m0 + m1 + m2 ∧ own_is e0 m0 m1 m2 1) ∨ (m0 + m1 + m2 ≤ 0 ∧ own_is e0 m0 m1 m2 0)) ∧ ((1 < m0 + m1 + m2 ∧ own_is e1 m0 m1 m2 1) ∨ (m0 + m1 + m2 ≤ 1 ∧ own_is e1 m0 m1 m2 0)) ∧ ((2 < m0 + m1 + m2 ∧ own_is e2 m0 m1 m2 1) ∨ (m0 + m1 + m2 ≤ 2 ∧ own_is e2 m0 m1 m2 0))
def own_FIN (m0 m1 m2 w0 w1 w2 cn g0 g1 g2 : Int) : Prop := ∀ r0 r1 r2 z0 z1 z2 rL zL rM : Int, r0 = own_rnk m0 w0 m1 w1 m2 w2 → r1 = own_rnk m1 w1 m0 w0 m2 w2 → r2 = own_rnk m2 w2 m0 w0 m1 w1 →
  z0 = 1 + own_sam m0 w0 m1 w1 + own_sam m0 w0 m2 w2 → z1 = 1 + own_sam m1 w1 m0 w0 + own_sam m1 w1 m2 w2 → z2 = 1 + own_sam m2 w2 m0 w0 + own_sam m2 w2 m1 w1 →
  (((z0 < z1 ∨ (z1 = z0 ∧ r1 < r0)) ∧ rL = r1 ∧ zL = z1) ∨ (¬ (z0 < z1 ∨ (z1 = z0 ∧ r1 < r0)) ∧ rL = r0 ∧ zL = z0)) →
  (((zL < z2 ∨ (z2 = zL ∧ r2 < rL)) ∧ rM = r2) ∨ (¬ (zL < z2 ∨ (z2 = zL ∧ r2 < rL)) ∧ rM = rL)) →
  (r0 + 1 ≤ cn ∧ r1 + 1 ≤ cn ∧ r2 + 1 ≤ cn ∧ (cn = r0 + 1 ∨ cn = r1 + 1 ∨ cn = r2 + 1)) ∧ g0 = own_blv r0 rM ∧ g1 = own_blv r1 rM ∧ g2 = own_blv r2 rM
def own_mj (t1 t2 t3 j : Int) (m : Int32) : Prop := (m = 1 ∧ (t1 = j ∨ t2 = j ∨ t3 = j)) ∨ (m = 0 ∧ t1 ≠ j ∧ t2 ≠ j ∧ t3 ≠ j)
theorem own_mj.M {t1 t2 t3 j : Int} {m : Int32} (h : own_mj t1 t2 t3 j m) : (m.toInt = 1 ∧ (t1 = j ∨ t2 = j ∨ t3 = j)) ∨ (m.toInt = 0 ∧ t1 ≠ j ∧ t2 ≠ j ∧ t3 ≠ j) := by
  rcases h with ⟨rfl, h⟩ | ⟨rfl, h⟩
  · exact Or.inl ⟨rfl, h⟩
  · exact Or.inr ⟨rfl, h⟩
theorem own_mj.e {t1 t2 t3 j : Int} {m : Int32} (h : own_mj t1 t2 t3 j m) : m = 1 ∨ m = 0 := by
  rcases h with ⟨h, -⟩ | ⟨h, -⟩
  · exact Or.inl h
  · exact Or.inr h
theorem own_01 {m : Int32} (h : m = 1 ∨ m = 0) : 0 ≤ m.toInt ∧ m.toInt ≤ 1 := by
  rcases h with rfl | rfl <;> decide
theorem own_narZ {m : Int32} (h : m = 1 ∨ m = 0) : nar .boolean m = m := by
  rcases h with rfl | rfl <;> rfl
theorem own_pq.b {t b i q : Int} (h : own_pq t b i q) (hb : -999 ≤ b ∧ b ≤ 999) : -999 ≤ q ∧ q ≤ 999 := by
  rcases h with ⟨-, h⟩ | ⟨-, h⟩ <;> omega
theorem own_is.eq {e m0 m1 m2 u v : Int} (h : own_is e m0 m1 m2 u) (h' : own_is e m0 m1 m2 v) : u = v := by
  unfold own_is at h h'
  omega
theorem own_fu {k u e m0 m1 m2 j : Int} (hk : k = m0 + m1 + m2) (h : own_is e m0 m1 m2 u) (F : (j < m0 + m1 + m2 ∧ own_is e m0 m1 m2 1) ∨ (m0 + m1 + m2 ≤ j ∧ own_is e m0 m1 m2 0)) : (j < k ∧ u = 1) ∨ (k ≤ j ∧ u = 0) := by
  rcases F with ⟨a, b⟩ | ⟨a, b⟩
  · exact Or.inl ⟨by omega, h.eq b⟩
  · exact Or.inr ⟨by omega, h.eq b⟩
set_option maxRecDepth 65536 in
set_option maxHeartbeats 40000000 in
theorem rm19 (l : Launch) (Z : State) (a0 : Array Value) (hw : ∀ d ∈ tables_1, d.before a0 Z = true) (ws : List Jvm.Cond) (t b i : Int32) (h0 : Heap) (n0 : Nat) (Z0 : n0 ≤ h0.size)  :
    own_MF l (⟨"com/example/lumper/lumper/analysis/PartitionAddPinLaw", "part", "(III)I"⟩ : MethodName) method_3_code 3 (some .int) ws ({ frames := 0, cells := 0, slots := 0, locals := 0 } : Room) #[.int t, .int b, .int i] Z h0 (fun v h L => (∃ r : Int32, v = some (.int r) ∧ own_pq t.toInt b.toInt i.toInt r.toInt) ∧ L = [] ∧ h = h0) := by
  refine own_body pf19 (ls0 := [.val (.int t), .val (.int b), .val (.int i)]) (fun m => by first | (simp [entryFrame, mkF, argsToLocals, Value.category, maxLocals]; done) | rfl) ?_
  intro p e s m below meth c T0 hx hby hml hown hnm hlk hret hZ X0 eh0
  have hK := hKt0 hw; have hF := hFt0 hw
  have N0 := Fr.nil n0
  by_cases q : t.toInt = i.toInt
  · skip
    refine own_blk dec19 seq19 hby hx hZ hown hK hF 5 [false] [] X0 eh0 ?_
    show (¬ ((t).toInt ≠ (i).toInt)) ∧ own_Aft X0 h0 _ 10 [zI t, zI b, zI i] [.int b]
    refine ⟨fun z => z q, fun T1 X1 eh1 => ?_⟩
    exact own_ret X1 hx hlk eh1 hret (by first | rfl | decide) (Or.inl ⟨rfl, by simp, _, rfl⟩) (hb hby d19_10) (by decide) (by decide) (⟨⟨_, rfl, Or.inl ⟨q, rfl⟩⟩, rfl, rfl⟩)
  · skip
    refine own_blk dec19 seq19 hby hx hZ hown hK hF 4 [true] [] X0 eh0 ?_
    show ((t).toInt ≠ (i).toInt) ∧ own_Aft X0 h0 _ 10 [zI t, zI b, zI i] [.int 0]
    refine ⟨q, fun T2 X2 eh2 => ?_⟩
    exact own_ret X2 hx hlk eh2 hret (by first | rfl | decide) (Or.inl ⟨rfl, by simp, _, rfl⟩) (hb hby d19_10) (by decide) (by decide) (⟨⟨_, rfl, Or.inr ⟨q, rfl⟩⟩, rfl, rfl⟩)
set_option maxRecDepth 65536 in
set_option maxHeartbeats 40000000 in
theorem rm20 (l : Launch) (Z : State) (a0 : Array Value) (hw : ∀ d ∈ tables_1, d.before a0 Z = true) (ws : List Jvm.Cond) (t : Int32) (h0 : Heap) (n0 : Nat) (Z0 : n0 ≤ h0.size) (t0 : 0 ≤ t.toInt) (t1 : t.toInt < 3) :
    own_MF l (⟨"com/example/lumper/lumper/analysis/PartitionAddPinLaw", "in", "(I)Z"⟩ : MethodName) method_4_code 1 (some .boolean) ws ({ frames := 0, cells := 0, slots := 0, locals := 0 } : Room) #[.int t] Z h0 (fun v h L => (v = some (.int 1)) ∧ L = [] ∧ h = h0) := by
  refine own_body pf20 (ls0 := [.val (.int t)]) (fun m => by first | (simp [entryFrame, mkF, argsToLocals, Value.category, maxLocals]; done) | rfl) ?_
  intro p e s m below meth c T0 hx hby hml hown hnm hlk hret hZ X0 eh0
  have hK := hKt0 hw; have hF := hFt0 hw
  have N0 := Fr.nil n0
  have l3 : (3 : Int32).toInt = 3 := rfl
  refine own_blk dec20 seq20 hby hx hZ hown hK hF 7 [false, false] [] X0 eh0 ?_
  show (¬ ((t).toInt < 0)) ∧ (¬ (((3 : Int32)).toInt ≤ (t).toInt)) ∧ own_Aft X0 h0 _ 14 [zI t] [.int 1]
  refine ⟨by omega, by omega, fun T1 X1 eh1 => ?_⟩
  exact own_ret X1 hx hlk eh1 hret (by first | rfl | decide) (Or.inl ⟨rfl, by simp, _, rfl⟩) (hb hby d20_14) (by decide) (by decide) (⟨rfl, rfl, rfl⟩)
set_option maxRecDepth 65536 in
set_option maxHeartbeats 40000000 in
theorem rm22 (l : Launch) (Z : State) (a0 : Array Value) (hw : ∀ d ∈ tables_1, d.before a0 Z = true) (ws : List Jvm.Cond) (mi wi mj wj : Int32) (h0 : Heap) (n0 : Nat) (Z0 : n0 ≤ h0.size)  :
    own_MF l (⟨"com/example/lumper/lumper/analysis/PartitionAddPinLaw", "before", "(ZIZI)Z"⟩ : MethodName) method_5_code 4 (some .boolean) ws ({ frames := 0, cells := 0, slots := 0, locals := 0 } : Room) #[.int mi, .int wi, .int mj, .int wj] Z h0 (fun v h L => (∃ r : Int32, v = some (.int r) ∧ (r = 1 ∨ r = 0) ∧ r.toInt = own_bef mi.toInt wi.toInt mj.toInt wj.toInt) ∧ L = [] ∧ h = h0) := by
  refine own_body pf22 (ls0 := [.val (.int mi), .val (.int wi), .val (.int mj), .val (.int wj)]) (fun m => by first | (simp [entryFrame, mkF, argsToLocals, Value.category, maxLocals]; done) | rfl) ?_
  intro p e s m below meth c T0 hx hby hml hown hnm hlk hret hZ X0 eh0
  have hK := hKt0 hw; have hF := hFt0 hw
  have N0 := Fr.nil n0
  have z1 : (1 : Int32).toInt = 1 := rfl
  have z0 : (0 : Int32).toInt = 0 := rfl
  have sp := own_bef_s mi.toInt wi.toInt mj.toInt wj.toInt
  by_cases q1 : mi.toInt = 0
  · skip
    refine own_blk dec22 seq22 hby hx hZ hown hK hF 3 [true] [] X0 eh0 ?_
    show ((mi).toInt = 0) ∧ own_Aft X0 h0 _ 18 [zI mi, zI wi, zI mj, zI wj] [.int 0]
    refine ⟨q1, fun T1 X1 eh1 => ?_⟩
    exact own_ret X1 hx hlk eh1 hret (by first | rfl | decide) (Or.inl ⟨rfl, by simp, _, rfl⟩) (hb hby d22_18) (by decide) (by decide) (⟨⟨_, rfl, Or.inr rfl, by omega⟩, rfl, rfl⟩)
  · skip
    by_cases q2 : mj.toInt = 0
    · skip
      refine own_blk dec22 seq22 hby hx hZ hown hK hF 6 [false, true] [] X0 eh0 ?_
      show (¬ ((mi).toInt = 0)) ∧ ((mj).toInt = 0) ∧ own_Aft X0 h0 _ 18 [zI mi, zI wi, zI mj, zI wj] [.int 1]
      refine ⟨q1, q2, fun T2 X2 eh2 => ?_⟩
      exact own_ret X2 hx hlk eh2 hret (by first | rfl | decide) (Or.inl ⟨rfl, by simp, _, rfl⟩) (hb hby d22_18) (by decide) (by decide) (⟨⟨_, rfl, Or.inl rfl, by omega⟩, rfl, rfl⟩)
    · skip
      by_cases q3 : wj.toInt ≤ wi.toInt
      · skip
        refine own_blk dec22 seq22 hby hx hZ hown hK hF 8 [false, false, true] [] X0 eh0 ?_
        show (¬ ((mi).toInt = 0)) ∧ (¬ ((mj).toInt = 0)) ∧ ((wj).toInt ≤ (wi).toInt) ∧ own_Aft X0 h0 _ 18 [zI mi, zI wi, zI mj, zI wj] [.int 0]
        refine ⟨q1, q2, q3, fun T3 X3 eh3 => ?_⟩
        exact own_ret X3 hx hlk eh3 hret (by first | rfl | decide) (Or.inl ⟨rfl, by simp, _, rfl⟩) (hb hby d22_18) (by decide) (by decide) (⟨⟨_, rfl, Or.inr rfl, by omega⟩, rfl, rfl⟩)
      · skip
        refine own_blk dec22 seq22 hby hx hZ hown hK hF 9 [false, false, false] [] X0 eh0 ?_
        show (¬ ((mi).toInt = 0)) ∧ (¬ ((mj).toInt = 0)) ∧ (¬ ((wj).toInt ≤ (wi).toInt)) ∧ own_Aft X0 h0 _ 18 [zI mi, zI wi, zI mj, zI wj] [.int 1]
        refine ⟨q1, q2, q3, fun T4 X4 eh4 => ?_⟩
        exact own_ret X4 hx hlk eh4 hret (by first | rfl | decide) (Or.inl ⟨rfl, by simp, _, rfl⟩) (hb hby d22_18) (by decide) (by decide) (⟨⟨_, rfl, Or.inl rfl, by omega⟩, rfl, rfl⟩)
set_option maxRecDepth 65536 in
set_option maxHeartbeats 40000000 in
theorem rm23 (l : Launch) (Z : State) (a0 : Array Value) (hw : ∀ d ∈ tables_1, d.before a0 Z = true) (ws : List Jvm.Cond) (mi wi mj wj : Int32) (h0 : Heap) (n0 : Nat) (Z0 : n0 ≤ h0.size)  :
    own_MF l (⟨"com/example/lumper/lumper/analysis/PartitionAddPinLaw", "same", "(ZIZI)Z"⟩ : MethodName) method_6_code 4 (some .boolean) ws ({ frames := 0, cells := 0, slots := 0, locals := 0 } : Room) #[.int mi, .int wi, .int mj, .int wj] Z h0 (fun v h L => (∃ r : Int32, v = some (.int r) ∧ (r = 1 ∨ r = 0) ∧ r.toInt = own_sam mi.toInt wi.toInt mj.toInt wj.toInt) ∧ L = [] ∧ h = h0) := by
  refine own_body pf23 (ls0 := [.val (.int mi), .val (.int wi), .val (.int mj), .val (.int wj)]) (fun m => by first | (simp [entryFrame, mkF, argsToLocals, Value.category, maxLocals]; done) | rfl) ?_
  intro p e s m below meth c T0 hx hby hml hown hnm hlk hret hZ X0 eh0
  have hK := hKt0 hw; have hF := hFt0 hw
  have N0 := Fr.nil n0
  have z1 : (1 : Int32).toInt = 1 := rfl
  have z0 : (0 : Int32).toInt = 0 := rfl
  have sp := own_sam_s mi.toInt wi.toInt mj.toInt wj.toInt
  by_cases q1 : mi.toInt ≠ mj.toInt
  · skip
    refine own_blk dec23 seq23 hby hx hZ hown hK hF 4 [true] [] X0 eh0 ?_
    show ((mi).toInt ≠ (mj).toInt) ∧ own_Aft X0 h0 _ 19 [zI mi, zI wi, zI mj, zI wj] [.int 0]
    refine ⟨q1, fun T1 X1 eh1 => ?_⟩
    exact own_ret X1 hx hlk eh1 hret (by first | rfl | decide) (Or.inl ⟨rfl, by simp, _, rfl⟩) (hb hby d23_19) (by decide) (by decide) (⟨⟨_, rfl, Or.inr rfl, by omega⟩, rfl, rfl⟩)
  · skip
    by_cases q2 : mi.toInt = 0
    · skip
      refine own_blk dec23 seq23 hby hx hZ hown hK hF 7 [false, true] [] X0 eh0 ?_
      show (¬ ((mi).toInt ≠ (mj).toInt)) ∧ ((mi).toInt = 0) ∧ own_Aft X0 h0 _ 19 [zI mi, zI wi, zI mj, zI wj] [.int 1]
      refine ⟨q1, q2, fun T2 X2 eh2 => ?_⟩
      exact own_ret X2 hx hlk eh2 hret (by first | rfl | decide) (Or.inl ⟨rfl, by simp, _, rfl⟩) (hb hby d23_19) (by decide) (by decide) (⟨⟨_, rfl, Or.inl rfl, by omega⟩, rfl, rfl⟩)
    · skip
      by_cases q3 : wi.toInt ≠ wj.toInt
      · skip
        refine own_blk dec23 seq23 hby hx hZ hown hK hF 9 [false, false, true] [] X0 eh0 ?_
        show (¬ ((mi).toInt ≠ (mj).toInt)) ∧ (¬ ((mi).toInt = 0)) ∧ ((wi).toInt ≠ (wj).toInt) ∧ own_Aft X0 h0 _ 19 [zI mi, zI wi, zI mj, zI wj] [.int 0]
        refine ⟨q1, q2, q3, fun T3 X3 eh3 => ?_⟩
        exact own_ret X3 hx hlk eh3 hret (by first | rfl | decide) (Or.inl ⟨rfl, by simp, _, rfl⟩) (hb hby d23_19) (by decide) (by decide) (⟨⟨_, rfl, Or.inr rfl, by omega⟩, rfl, rfl⟩)
      · skip
        refine own_blk dec23 seq23 hby hx hZ hown hK hF 10 [false, false, false] [] X0 eh0 ?_
        show (¬ ((mi).toInt ≠ (mj).toInt)) ∧ (¬ ((mi).toInt = 0)) ∧ (¬ ((wi).toInt ≠ (wj).toInt)) ∧ own_Aft X0 h0 _ 19 [zI mi, zI wi, zI mj, zI wj] [.int 1]
        refine ⟨q1, q2, q3, fun T4 X4 eh4 => ?_⟩
        exact own_ret X4 hx hlk eh4 hret (by first | rfl | decide) (Or.inl ⟨rfl, by simp, _, rfl⟩) (hb hby d23_19) (by decide) (by decide) (⟨⟨_, rfl, Or.inl rfl, by omega⟩, rfl, rfl⟩)
set_option maxRecDepth 65536 in
set_option maxHeartbeats 40000000 in
theorem rm21 (l : Launch) (Z : State) (a0 : Array Value) (hw : ∀ d ∈ tables_1, d.before a0 Z = true) (ws : List Jvm.Cond) (mi wi mj wj mk wk : Int32) (h0 : Heap) (n0 : Nat) (Z0 : n0 ≤ h0.size)  :
    own_MF l (⟨"com/example/lumper/lumper/analysis/PartitionAddPinLaw", "rank", "(ZIZIZI)I"⟩ : MethodName) method_7_code 8 (some .int) ws ({ frames := 1, cells := 0, slots := 0, locals := 24 } : Room) #[.int mi, .int wi, .int mj, .int wj, .int mk, .int wk] Z h0 (fun v h L => (∃ r : Int32, v = some (.int r) ∧ (0 ≤ r.toInt ∧ r.toInt ≤ 2) ∧ r.toInt = own_rnk mi.toInt wi.toInt mj.toInt wj.toInt mk.toInt wk.toInt) ∧ L = [] ∧ h = h0) := by
  refine own_body pf21 (ls0 := [.val (.int mi), .val (.int wi), .val (.int mj), .val (.int wj), .val (.int mk), .val (.int wk), .unset, .unset]) (fun m => by first | (simp [entryFrame, mkF, argsToLocals, Value.category, maxLocals]; done) | rfl) ?_
  intro p e s m below meth c T0 hx hby hml hown hnm hlk hret hZ X0 eh0
  have hK := hKt0 hw; have hF := hFt0 hw
  have N0 := Fr.nil n0
  have z1 : (1 : Int32).toInt = 1 := rfl
  have z0 : (0 : Int32).toInt = 0 := rfl
  have z2 : (2 : Int32).toInt = 2 := rfl
  have sp := own_rnk_s mi.toInt wi.toInt mj.toInt wj.toInt mk.toInt wk.toInt
  refine own_blk dec21 seq21 hby hx hZ hown hK hF 4 [] [] X0 eh0 ?_
  show own_Aft X0 h0 _ 4 [zI mi, zI wi, zI mj, zI wj, zI mk, zI wk, zU, zU] [.int wi, .int mi, .int wj, .int mj]
  refine fun T1 X1 eh1 => ?_
  refine own_callSP X1 hx hZ hown (hw _ (wm 121 rfl)) (hw _ (wm 122 rfl)) (hw _ (wm 112 rfl)) (hw _ (wm 123 rfl)) (by decide) eh1 [.int mj, .int wj, .int mi, .int wi] pd22 rfl (fr := 0) (lo := 0) (rm22 l Z a0 hw [] mj wj mi wi h0 n0 Z0) (by rw [hml]; rfl) 0 rfl (Nat.le_of_eq rfl) (hb hby d21_4) (by decide) (by decide) (by decide) (by decide) (fun T2 rv2 X2 eh2 qc2 => ?_)
  obtain ⟨bj, rfl, hbj, ebj⟩ := qc2
  show own_Go p.tables e below _ (T2.setTop (mkF m 7 (Array.mk [zI mi, zI wi, zI mj, zI wj, zI mk, zI wk, zU, zU]) [.int bj]))
  refine own_blk dec21 seq21 hby hx hZ hown hK hF 5 [] [] X2 eh2 ?_
  show own_Aft X2 h0 _ 15 [zI mi, zI wi, zI mj, zI wj, zI mk, zI wk, zI bj, zU] [.int wi, .int mi, .int wk, .int mk]
  refine fun T3 X3 eh3 => ?_
  refine own_callSP X3 hx hZ hown (hw _ (wm 121 rfl)) (hw _ (wm 122 rfl)) (hw _ (wm 112 rfl)) (hw _ (wm 123 rfl)) (by decide) eh3 [.int mk, .int wk, .int mi, .int wi] pd22 rfl (fr := 0) (lo := 0) (rm22 l Z a0 hw [] mk wk mi wi h0 n0 Z0) (by rw [hml]; rfl) 0 rfl (Nat.le_of_eq rfl) (hb hby d21_15) (by decide) (by decide) (by decide) (by decide) (fun T4 rv4 X4 eh4 qc4 => ?_)
  obtain ⟨bk, rfl, hbk, ebk⟩ := qc4
  show own_Go p.tables e below _ (T4.setTop (mkF m 18 (Array.mk [zI mi, zI wi, zI mj, zI wj, zI mk, zI wk, zI bj, zU]) [.int bk]))
  refine own_blk dec21 seq21 hby hx hZ hown hK hF 1 [] [] X4 eh4 ?_
  show own_Aft X4 h0 _ 20 [zI mi, zI wi, zI mj, zI wj, zI mk, zI wk, zI bj, zI bk] []
  refine fun T5 X5 eh5 => ?_
  rcases hbj with rfl | rfl <;> rcases hbk with rfl | rfl
  · skip
    show own_Go p.tables e below _ (T5.setTop (mkF m 20 (Array.mk [zI mi, zI wi, zI mj, zI wj, zI mk, zI wk, zI 1, zI 1]) []))
    refine own_blk dec21 seq21 hby hx hZ hown hK hF 17 [false, false, false, false] [] X5 eh5 ?_
    show (¬ (((1 : Int32)).toInt = 0)) ∧ (¬ (((1 : Int32)).toInt = 0)) ∧ (¬ (((1 : Int32)).toInt = 0)) ∧ (¬ (((1 : Int32)).toInt = 0)) ∧ own_Aft X5 h0 _ 57 [zI mi, zI wi, zI mj, zI wj, zI mk, zI wk, zI 1, zI 1] [.int wk, .int mk, .int wj, .int mj, .int 2]
    refine ⟨by decide, by decide, by decide, by decide, fun T6 X6 eh6 => ?_⟩
    refine own_callSP X6 hx hZ hown (hw _ (wm 124 rfl)) (hw _ (wm 125 rfl)) (hw _ (wm 112 rfl)) (hw _ (wm 126 rfl)) (by decide) eh6 [.int mj, .int wj, .int mk, .int wk] pd23 rfl (fr := 0) (lo := 0) (rm23 l Z a0 hw [] mj wj mk wk h0 n0 Z0) (by rw [hml]; rfl) 1 rfl (Nat.le_of_eq rfl) (hb hby d21_57) (by decide) (by decide) (by decide) (by decide) (fun T7 rv7 X7 eh7 qc7 => ?_)
    obtain ⟨sj, rfl, hsj, esj⟩ := qc7
    show own_Go p.tables e below _ (T7.setTop (mkF m 60 (Array.mk [zI mi, zI wi, zI mj, zI wj, zI mk, zI wk, zI 1, zI 1]) [.int sj, .int 2]))
    rcases hsj with rfl | rfl
    · skip
      show own_Go p.tables e below _ (T7.setTop (mkF m 60 (Array.mk [zI mi, zI wi, zI mj, zI wj, zI mk, zI wk, zI 1, zI 1]) [.int 1, .int 2]))
      refine own_blk dec21 seq21 hby hx hZ hown hK hF 4 [false] [] X7 eh7 ?_
      show (¬ (((1 : Int32)).toInt = 0)) ∧ own_Aft X7 h0 _ 69 [zI mi, zI wi, zI mj, zI wj, zI mk, zI wk, zI 1, zI 1] [.int 1]
      refine ⟨by decide, fun T8 X8 eh8 => ?_⟩
      exact own_ret X8 hx hlk eh8 hret (by first | rfl | decide) (Or.inl ⟨rfl, by simp, _, rfl⟩) (hb hby d21_69) (by decide) (by decide) (⟨⟨_, rfl, by decide, by omega⟩, rfl, rfl⟩)
    · skip
      show own_Go p.tables e below _ (T7.setTop (mkF m 60 (Array.mk [zI mi, zI wi, zI mj, zI wj, zI mk, zI wk, zI 1, zI 1]) [.int 0, .int 2]))
      refine own_blk dec21 seq21 hby hx hZ hown hK hF 3 [true] [] X7 eh7 ?_
      show (((0 : Int32)).toInt = 0) ∧ own_Aft X7 h0 _ 69 [zI mi, zI wi, zI mj, zI wj, zI mk, zI wk, zI 1, zI 1] [.int 2]
      refine ⟨by decide, fun T9 X9 eh9 => ?_⟩
      exact own_ret X9 hx hlk eh9 hret (by first | rfl | decide) (Or.inl ⟨rfl, by simp, _, rfl⟩) (hb hby d21_69) (by decide) (by decide) (⟨⟨_, rfl, by decide, by omega⟩, rfl, rfl⟩)
  · skip
    show own_Go p.tables e below _ (T5.setTop (mkF m 20 (Array.mk [zI mi, zI wi, zI mj, zI wj, zI mk, zI wk, zI 1, zI 0]) []))
    refine own_blk dec21 seq21 hby hx hZ hown hK hF 14 [false, true, false, true] [] X5 eh5 ?_
    show (¬ (((1 : Int32)).toInt = 0)) ∧ (((0 : Int32)).toInt = 0) ∧ (¬ (((1 : Int32)).toInt = 0)) ∧ (((0 : Int32)).toInt = 0) ∧ own_Aft X5 h0 _ 69 [zI mi, zI wi, zI mj, zI wj, zI mk, zI wk, zI 1, zI 0] [.int 1]
    refine ⟨by decide, by decide, by decide, by decide, fun T10 X10 eh10 => ?_⟩
    exact own_ret X10 hx hlk eh10 hret (by first | rfl | decide) (Or.inl ⟨rfl, by simp, _, rfl⟩) (hb hby d21_69) (by decide) (by decide) (⟨⟨_, rfl, by decide, by omega⟩, rfl, rfl⟩)
  · skip
    show own_Go p.tables e below _ (T5.setTop (mkF m 20 (Array.mk [zI mi, zI wi, zI mj, zI wj, zI mk, zI wk, zI 0, zI 1]) []))
    refine own_blk dec21 seq21 hby hx hZ hown hK hF 12 [true, false, true] [] X5 eh5 ?_
    show (((0 : Int32)).toInt = 0) ∧ (¬ (((1 : Int32)).toInt = 0)) ∧ (((0 : Int32)).toInt = 0) ∧ own_Aft X5 h0 _ 69 [zI mi, zI wi, zI mj, zI wj, zI mk, zI wk, zI 0, zI 1] [.int 1]
    refine ⟨by decide, by decide, by decide, fun T11 X11 eh11 => ?_⟩
    exact own_ret X11 hx hlk eh11 hret (by first | rfl | decide) (Or.inl ⟨rfl, by simp, _, rfl⟩) (hb hby d21_69) (by decide) (by decide) (⟨⟨_, rfl, by decide, by omega⟩, rfl, rfl⟩)
  · skip
    show own_Go p.tables e below _ (T5.setTop (mkF m 20 (Array.mk [zI mi, zI wi, zI mj, zI wj, zI mk, zI wk, zI 0, zI 0]) []))
    refine own_blk dec21 seq21 hby hx hZ hown hK hF 11 [true, true, true] [] X5 eh5 ?_
    show (((0 : Int32)).toInt = 0) ∧ (((0 : Int32)).toInt = 0) ∧ (((0 : Int32)).toInt = 0) ∧ own_Aft X5 h0 _ 69 [zI mi, zI wi, zI mj, zI wj, zI mk, zI wk, zI 0, zI 0] [.int 0]
    refine ⟨by decide, by decide, by decide, fun T12 X12 eh12 => ?_⟩
    exact own_ret X12 hx hlk eh12 hret (by first | rfl | decide) (Or.inl ⟨rfl, by simp, _, rfl⟩) (hb hby d21_69) (by decide) (by decide) (⟨⟨_, rfl, by decide, by omega⟩, rfl, rfl⟩)
set_option maxRecDepth 65536 in
set_option maxHeartbeats 40000000 in
theorem rm24 (l : Launch) (Z : State) (a0 : Array Value) (hw : ∀ d ∈ tables_1, d.before a0 Z = true) (ws : List Jvm.Cond) (xa xb : Int32) (h0 : Heap) (n0 : Nat) (Z0 : n0 ≤ h0.size)  :
    own_MF l (⟨"java/lang/Math", "max", "(II)I"⟩ : MethodName) jdk_29_method_65_code 2 (some .int) ws ({ frames := 0, cells := 0, slots := 0, locals := 0 } : Room) #[.int xa, .int xb] Z h0 (fun v h L => (∃ r : Int32, v = some (.int r) ∧ ((r.toInt = xa.toInt ∧ xb.toInt ≤ xa.toInt) ∨ (r.toInt = xb.toInt ∧ xa.toInt < xb.toInt))) ∧ L = [] ∧ h = h0) := by
  refine own_body pf24 (ls0 := [.val (.int xa), .val (.int xb)]) (fun m => by first | (simp [entryFrame, mkF, argsToLocals, Value.category, maxLocals]; done) | rfl) ?_
  intro p e s m below meth c T0 hx hby hml hown hnm hlk hret hZ X0 eh0
  have hK := hKt12 hw; have hF := hFt12 hw
  have N0 := Fr.nil n0
  by_cases q : xa.toInt < xb.toInt
  · skip
    refine own_blk dec24 seq24 hby hx hZ hown hK hF 4 [true] [] X0 eh0 ?_
    show ((xa).toInt < (xb).toInt) ∧ own_Aft X0 h0 _ 10 [zI xa, zI xb] [.int xb]
    refine ⟨q, fun T1 X1 eh1 => ?_⟩
    exact own_ret X1 hx hlk eh1 hret (by first | rfl | decide) (Or.inl ⟨rfl, by simp, _, rfl⟩) (hb hby d24_10) (by decide) (by decide) (⟨⟨_, rfl, Or.inr ⟨rfl, q⟩⟩, rfl, rfl⟩)
  · skip
    refine own_blk dec24 seq24 hby hx hZ hown hK hF 5 [false] [] X0 eh0 ?_
    show (¬ ((xa).toInt < (xb).toInt)) ∧ own_Aft X0 h0 _ 10 [zI xa, zI xb] [.int xa]
    refine ⟨q, fun T2 X2 eh2 => ?_⟩
    exact own_ret X2 hx hlk eh2 hret (by first | rfl | decide) (Or.inl ⟨rfl, by simp, _, rfl⟩) (hb hby d24_10) (by decide) (by decide) (⟨⟨_, rfl, Or.inl ⟨rfl, by omega⟩⟩, rfl, rfl⟩)
set_option maxRecDepth 65536 in
set_option maxHeartbeats 40000000 in
theorem rm25 (l : Launch) (Z : State) (a0 : Array Value) (hw : ∀ d ∈ tables_1, d.before a0 Z = true) (ws : List Jvm.Cond) (xa xb : Int32) (h0 : Heap) (n0 : Nat) (Z0 : n0 ≤ h0.size) (u0 : 0 ≤ xa.toInt) (u1 : xa.toInt ≤ 2) :
    own_MF l (⟨"com/example/lumper/lumper/analysis/PartitionAddPinLaw", "block", "(II)I"⟩ : MethodName) method_8_code 2 (some .int) ws ({ frames := 0, cells := 0, slots := 0, locals := 0 } : Room) #[.int xa, .int xb] Z h0 (fun v h L => (∃ r : Int32, v = some (.int r) ∧ r.toInt = own_blv xa.toInt xb.toInt) ∧ L = [] ∧ h = h0) := by
  refine own_body pf25 (ls0 := [.val (.int xa), .val (.int xb)]) (fun m => by first | (simp [entryFrame, mkF, argsToLocals, Value.category, maxLocals]; done) | rfl) ?_
  intro p e s m below meth c T0 hx hby hml hown hnm hlk hret hZ X0 eh0
  have hK := hKt0 hw; have hF := hFt0 hw
  have N0 := Fr.nil n0
  have z1 : (1 : Int32).toInt = 1 := rfl
  have z0 : (0 : Int32).toInt = 0 := rfl
  have sp := own_blv_s xa.toInt xb.toInt
  have s1 : (xa + (1 : Int32)).toInt = xa.toInt + (1 : Int32).toInt := own_add32 (by omega) (by omega)
  by_cases q1 : xa.toInt ≠ xb.toInt
  · skip
    by_cases q2 : xb.toInt ≤ xa.toInt
    · skip
      refine own_blk dec25 seq25 hby hx hZ hown hK hF 7 [true, true] [] X0 eh0 ?_
      show ((xa).toInt ≠ (xb).toInt) ∧ ((xb).toInt ≤ (xa).toInt) ∧ own_Aft X0 h0 _ 19 [zI xa, zI xb] [.int xa]
      refine ⟨q1, q2, fun T1 X1 eh1 => ?_⟩
      exact own_ret X1 hx hlk eh1 hret (by first | rfl | decide) (Or.inl ⟨rfl, by simp, _, rfl⟩) (hb hby d25_19) (by decide) (by decide) (⟨⟨_, rfl, by omega⟩, rfl, rfl⟩)
    · skip
      refine own_blk dec25 seq25 hby hx hZ hown hK hF 10 [true, false] [] X0 eh0 ?_
      show ((xa).toInt ≠ (xb).toInt) ∧ (¬ ((xb).toInt ≤ (xa).toInt)) ∧ own_Aft X0 h0 _ 19 [zI xa, zI xb] [.int (xa + (1 : Int32))]
      refine ⟨q1, q2, fun T2 X2 eh2 => ?_⟩
      exact own_ret X2 hx hlk eh2 hret (by first | rfl | decide) (Or.inl ⟨rfl, by simp, _, rfl⟩) (hb hby d25_19) (by decide) (by decide) (⟨⟨_, rfl, by omega⟩, rfl, rfl⟩)
  · skip
    refine own_blk dec25 seq25 hby hx hZ hown hK hF 4 [false] [] X0 eh0 ?_
    show (¬ ((xa).toInt ≠ (xb).toInt)) ∧ own_Aft X0 h0 _ 6 [zI xa, zI xb] [.int 0]
    refine ⟨q1, fun T3 X3 eh3 => ?_⟩
    exact own_ret X3 hx hlk eh3 hret (by first | rfl | decide) (Or.inl ⟨rfl, by simp, _, rfl⟩) (hb hby d25_6) (by decide) (by decide) (⟨⟨_, rfl, by omega⟩, rfl, rfl⟩)
set_option maxRecDepth 65536 in
set_option maxHeartbeats 40000000 in
theorem tail2 {p : Program} {l : Launch} {e : Env} {s : State} {m : MethodId} {args : Array Value} {below : List Frame} {meth : Method} {c : Code} {T0 : State} {locs : List Loc} {Z : State} {a0 : Array Value} {h0 : Heap} {n0 : Nat} (X0 : Stand p l e room_1 s m args below meth c T0 locs 14 53) (hx : p.tables.exec = Jvm.exec) (hby : c.code = code) (hml : c.maxLocals = maxLocals) (hown : s.vm.findClass "com/example/lumper/lumper/analysis/PartitionAddPinLaw" = some m.cls) (hlk : meth.locks = false) (hret : meth.sig.returnType = ret) (hZ : Z.Warmed39 s.vm) (hw : ∀ d ∈ tables_1, d.before a0 Z = true) (eh0 : T0.heap = h0) (Z0 : n0 ≤ h0.size) (N0 : Fr n0 locs) (s0_ s1_ s2_ s3_ s4_ s5_ : Slot) (t1 t2 t3 b1 b2 b3 cn g0 g1 g2 e0_ e1_ e2_ : Int32) (ao mb : Addr) (Amb : own_A Z h0 mb .int [.int e0_, .int e1_, .int e2_]) (v00 : 0 ≤ e0_.toInt) (v01 : e0_.toInt < 3) (v10 : 0 ≤ e1_.toInt) (v11 : e1_.toInt < 3) (v20 : 0 ≤ e2_.toInt) (v21 : e2_.toInt < 3) (d01 : e0_.toInt ≠ e1_.toInt) (d02 : e0_.toInt ≠ e2_.toInt) (d12 : e1_.toInt ≠ e2_.toInt) (bb1 : -999 ≤ b1.toInt ∧ b1.toInt ≤ 999) (bb2 : -999 ≤ b2.toInt ∧ b2.toInt ≤ 999) (bb3 : -999 ≤ b3.toInt ∧ b3.toInt ≤ 999) (HF : ∀ m0 m1 m2 w0 w1 w2 : Int, own_M t1.toInt t2.toInt t3.toInt m0 m1 m2 → own_Wp t1.toInt b1.toInt t2.toInt b2.toInt t3.toInt b3.toInt w0 w1 w2 → own_FIN m0 m1 m2 w0 w1 w2 cn.toInt g0.toInt g1.toInt g2.toInt ∧ own_FR m0 m1 m2 e0_.toInt e1_.toInt e2_.toInt) :
    own_Go p.tables e below (own_Fin s 40 192 (fun v h L => v = some (.int 1) ∧ Fr n0 L)) (T0.setTop (mkF m 138 (Array.mk [s0_, s1_, s2_, s3_, s4_, s5_, zI t1, zI t2, zI t3, zI b1, zI b2, zI b3, zA ao, zA mb, zI 3, zI cn, zI g0, zI g1, zI g2, zU, zU, zU, zU, zU, zU, zU, zU, zU, zU, zU, zU, zU, zU, zU, zU, zU, zU]) [])) := by
  have hK := hKt0 hw; have hF := hFt0 hw
  have l0 : (0 : Int32).toInt = 0 := rfl
  have l1 : (1 : Int32).toInt = 1 := rfl
  have l2 : (2 : Int32).toInt = 2 := rfl
  have l3 : (3 : Int32).toInt = 3 := rfl
  suffices tl1 : ∀ (m0 : Int32) (hm0 : own_mj t1.toInt t2.toInt t3.toInt 0 m0), own_Aft X0 h0 (own_Fin s 40 192 (fun v h L => v = some (.int 1) ∧ Fr n0 L)) 160 [s0_, s1_, s2_, s3_, s4_, s5_, zI t1, zI t2, zI t3, zI b1, zI b2, zI b3, zA ao, zA mb, zI 3, zI cn, zI g0, zI g1, zI g2, zI m0, zU, zU, zU, zU, zU, zU, zU, zU, zU, zU, zU, zU, zU, zU, zU, zU, zU] [] by
    by_cases k1 : t1.toInt = 0
    · skip
      refine own_blk dec0 seq0 hby hx hZ hown hK hF 5 [true] [] X0 eh0 ?_
      show ((t1).toInt = 0) ∧ own_Aft X0 h0 _ 160 [s0_, s1_, s2_, s3_, s4_, s5_, zI t1, zI t2, zI t3, zI b1, zI b2, zI b3, zA ao, zA mb, zI 3, zI cn, zI g0, zI g1, zI g2, zI 1, zU, zU, zU, zU, zU, zU, zU, zU, zU, zU, zU, zU, zU, zU, zU, zU, zU] []
      refine ⟨by omega, fun T2 X2 eh2 => ?_⟩
      exact tl1 1 (Or.inl ⟨rfl, Or.inl k1⟩) T2 X2 eh2
    · skip
      by_cases k2 : t2.toInt = 0
      · skip
        refine own_blk dec0 seq0 hby hx hZ hown hK hF 7 [false, true] [] X0 eh0 ?_
        show (¬ ((t1).toInt = 0)) ∧ ((t2).toInt = 0) ∧ own_Aft X0 h0 _ 160 [s0_, s1_, s2_, s3_, s4_, s5_, zI t1, zI t2, zI t3, zI b1, zI b2, zI b3, zA ao, zA mb, zI 3, zI cn, zI g0, zI g1, zI g2, zI 1, zU, zU, zU, zU, zU, zU, zU, zU, zU, zU, zU, zU, zU, zU, zU, zU, zU] []
        refine ⟨by omega, by omega, fun T3 X3 eh3 => ?_⟩
        exact tl1 1 (Or.inl ⟨rfl, Or.inr (Or.inl k2)⟩) T3 X3 eh3
      · skip
        by_cases k3 : t3.toInt = 0
        · skip
          refine own_blk dec0 seq0 hby hx hZ hown hK hF 9 [false, false, false] [] X0 eh0 ?_
          show (¬ ((t1).toInt = 0)) ∧ (¬ ((t2).toInt = 0)) ∧ (¬ ((t3).toInt ≠ 0)) ∧ own_Aft X0 h0 _ 160 [s0_, s1_, s2_, s3_, s4_, s5_, zI t1, zI t2, zI t3, zI b1, zI b2, zI b3, zA ao, zA mb, zI 3, zI cn, zI g0, zI g1, zI g2, zI 1, zU, zU, zU, zU, zU, zU, zU, zU, zU, zU, zU, zU, zU, zU, zU, zU, zU] []
          refine ⟨by omega, by omega, by omega, fun T4 X4 eh4 => ?_⟩
          exact tl1 1 (Or.inl ⟨rfl, Or.inr (Or.inr k3)⟩) T4 X4 eh4
        · skip
          refine own_blk dec0 seq0 hby hx hZ hown hK hF 8 [false, false, true] [] X0 eh0 ?_
          show (¬ ((t1).toInt = 0)) ∧ (¬ ((t2).toInt = 0)) ∧ ((t3).toInt ≠ 0) ∧ own_Aft X0 h0 _ 160 [s0_, s1_, s2_, s3_, s4_, s5_, zI t1, zI t2, zI t3, zI b1, zI b2, zI b3, zA ao, zA mb, zI 3, zI cn, zI g0, zI g1, zI g2, zI 0, zU, zU, zU, zU, zU, zU, zU, zU, zU, zU, zU, zU, zU, zU, zU, zU, zU] []
          refine ⟨by omega, by omega, by omega, fun T5 X5 eh5 => ?_⟩
          exact tl1 0 (Or.inr ⟨rfl, k1, k2, k3⟩) T5 X5 eh5
  intro m0 hm0 T1 X1 eh1
  show own_Go p.tables e below _ (T1.setTop (mkF m 160 (Array.mk [s0_, s1_, s2_, s3_, s4_, s5_, zI t1, zI t2, zI t3, zI b1, zI b2, zI b3, zA ao, zA mb, zI 3, zI cn, zI g0, zI g1, zI g2, zI m0, zU, zU, zU, zU, zU, zU, zU, zU, zU, zU, zU, zU, zU, zU, zU, zU, zU]) []))
  suffices tl6 : ∀ (m1 : Int32) (hm1 : own_mj t1.toInt t2.toInt t3.toInt 1 m1), own_Aft X1 h0 (own_Fin s 40 192 (fun v h L => v = some (.int 1) ∧ Fr n0 L)) 185 [s0_, s1_, s2_, s3_, s4_, s5_, zI t1, zI t2, zI t3, zI b1, zI b2, zI b3, zA ao, zA mb, zI 3, zI cn, zI g0, zI g1, zI g2, zI m0, zI m1, zU, zU, zU, zU, zU, zU, zU, zU, zU, zU, zU, zU, zU, zU, zU, zU] [] by
    by_cases k1 : t1.toInt = 1
    · skip
      refine own_blk dec0 seq0 hby hx hZ hown hK hF 6 [true] [] X1 eh1 ?_
      show ((t1).toInt = ((1 : Int32)).toInt) ∧ own_Aft X1 h0 _ 185 [s0_, s1_, s2_, s3_, s4_, s5_, zI t1, zI t2, zI t3, zI b1, zI b2, zI b3, zA ao, zA mb, zI 3, zI cn, zI g0, zI g1, zI g2, zI m0, zI 1, zU, zU, zU, zU, zU, zU, zU, zU, zU, zU, zU, zU, zU, zU, zU, zU] []
      refine ⟨by omega, fun T7 X7 eh7 => ?_⟩
      exact tl6 1 (Or.inl ⟨rfl, Or.inl k1⟩) T7 X7 eh7
    · skip
      by_cases k2 : t2.toInt = 1
      · skip
        refine own_blk dec0 seq0 hby hx hZ hown hK hF 9 [false, true] [] X1 eh1 ?_
        show (¬ ((t1).toInt = ((1 : Int32)).toInt)) ∧ ((t2).toInt = ((1 : Int32)).toInt) ∧ own_Aft X1 h0 _ 185 [s0_, s1_, s2_, s3_, s4_, s5_, zI t1, zI t2, zI t3, zI b1, zI b2, zI b3, zA ao, zA mb, zI 3, zI cn, zI g0, zI g1, zI g2, zI m0, zI 1, zU, zU, zU, zU, zU, zU, zU, zU, zU, zU, zU, zU, zU, zU, zU, zU] []
        refine ⟨by omega, by omega, fun T8 X8 eh8 => ?_⟩
        exact tl6 1 (Or.inl ⟨rfl, Or.inr (Or.inl k2)⟩) T8 X8 eh8
      · skip
        by_cases k3 : t3.toInt = 1
        · skip
          refine own_blk dec0 seq0 hby hx hZ hown hK hF 12 [false, false, false] [] X1 eh1 ?_
          show (¬ ((t1).toInt = ((1 : Int32)).toInt)) ∧ (¬ ((t2).toInt = ((1 : Int32)).toInt)) ∧ (¬ ((t3).toInt ≠ ((1 : Int32)).toInt)) ∧ own_Aft X1 h0 _ 185 [s0_, s1_, s2_, s3_, s4_, s5_, zI t1, zI t2, zI t3, zI b1, zI b2, zI b3, zA ao, zA mb, zI 3, zI cn, zI g0, zI g1, zI g2, zI m0, zI 1, zU, zU, zU, zU, zU, zU, zU, zU, zU, zU, zU, zU, zU, zU, zU, zU] []
          refine ⟨by omega, by omega, by omega, fun T9 X9 eh9 => ?_⟩
          exact tl6 1 (Or.inl ⟨rfl, Or.inr (Or.inr k3)⟩) T9 X9 eh9
        · skip
          refine own_blk dec0 seq0 hby hx hZ hown hK hF 11 [false, false, true] [] X1 eh1 ?_
          show (¬ ((t1).toInt = ((1 : Int32)).toInt)) ∧ (¬ ((t2).toInt = ((1 : Int32)).toInt)) ∧ ((t3).toInt ≠ ((1 : Int32)).toInt) ∧ own_Aft X1 h0 _ 185 [s0_, s1_, s2_, s3_, s4_, s5_, zI t1, zI t2, zI t3, zI b1, zI b2, zI b3, zA ao, zA mb, zI 3, zI cn, zI g0, zI g1, zI g2, zI m0, zI 0, zU, zU, zU, zU, zU, zU, zU, zU, zU, zU, zU, zU, zU, zU, zU, zU] []
          refine ⟨by omega, by omega, by omega, fun T10 X10 eh10 => ?_⟩
          exact tl6 0 (Or.inr ⟨rfl, k1, k2, k3⟩) T10 X10 eh10
  intro m1 hm1 T6 X6 eh6
  show own_Go p.tables e below _ (T6.setTop (mkF m 185 (Array.mk [s0_, s1_, s2_, s3_, s4_, s5_, zI t1, zI t2, zI t3, zI b1, zI b2, zI b3, zA ao, zA mb, zI 3, zI cn, zI g0, zI g1, zI g2, zI m0, zI m1, zU, zU, zU, zU, zU, zU, zU, zU, zU, zU, zU, zU, zU, zU, zU, zU]) []))
  suffices tl11 : ∀ (m2 : Int32) (hm2 : own_mj t1.toInt t2.toInt t3.toInt 2 m2), own_Aft X6 h0 (own_Fin s 40 192 (fun v h L => v = some (.int 1) ∧ Fr n0 L)) 210 [s0_, s1_, s2_, s3_, s4_, s5_, zI t1, zI t2, zI t3, zI b1, zI b2, zI b3, zA ao, zA mb, zI 3, zI cn, zI g0, zI g1, zI g2, zI m0, zI m1, zI m2, zU, zU, zU, zU, zU, zU, zU, zU, zU, zU, zU, zU, zU, zU, zU] [] by
    by_cases k1 : t1.toInt = 2
    · skip
      refine own_blk dec0 seq0 hby hx hZ hown hK hF 6 [true] [] X6 eh6 ?_
      show ((t1).toInt = ((2 : Int32)).toInt) ∧ own_Aft X6 h0 _ 210 [s0_, s1_, s2_, s3_, s4_, s5_, zI t1, zI t2, zI t3, zI b1, zI b2, zI b3, zA ao, zA mb, zI 3, zI cn, zI g0, zI g1, zI g2, zI m0, zI m1, zI 1, zU, zU, zU, zU, zU, zU, zU, zU, zU, zU, zU, zU, zU, zU, zU] []
      refine ⟨by omega, fun T12 X12 eh12 => ?_⟩
      exact tl11 1 (Or.inl ⟨rfl, Or.inl k1⟩) T12 X12 eh12
    · skip
      by_cases k2 : t2.toInt = 2
      · skip
        refine own_blk dec0 seq0 hby hx hZ hown hK hF 9 [false, true] [] X6 eh6 ?_
        show (¬ ((t1).toInt = ((2 : Int32)).toInt)) ∧ ((t2).toInt = ((2 : Int32)).toInt) ∧ own_Aft X6 h0 _ 210 [s0_, s1_, s2_, s3_, s4_, s5_, zI t1, zI t2, zI t3, zI b1, zI b2, zI b3, zA ao, zA mb, zI 3, zI cn, zI g0, zI g1, zI g2, zI m0, zI m1, zI 1, zU, zU, zU, zU, zU, zU, zU, zU, zU, zU, zU, zU, zU, zU, zU] []
        refine ⟨by omega, by omega, fun T13 X13 eh13 => ?_⟩
        exact tl11 1 (Or.inl ⟨rfl, Or.inr (Or.inl k2)⟩) T13 X13 eh13
      · skip
        by_cases k3 : t3.toInt = 2
        · skip
          refine own_blk dec0 seq0 hby hx hZ hown hK hF 12 [false, false, false] [] X6 eh6 ?_
          show (¬ ((t1).toInt = ((2 : Int32)).toInt)) ∧ (¬ ((t2).toInt = ((2 : Int32)).toInt)) ∧ (¬ ((t3).toInt ≠ ((2 : Int32)).toInt)) ∧ own_Aft X6 h0 _ 210 [s0_, s1_, s2_, s3_, s4_, s5_, zI t1, zI t2, zI t3, zI b1, zI b2, zI b3, zA ao, zA mb, zI 3, zI cn, zI g0, zI g1, zI g2, zI m0, zI m1, zI 1, zU, zU, zU, zU, zU, zU, zU, zU, zU, zU, zU, zU, zU, zU, zU] []
          refine ⟨by omega, by omega, by omega, fun T14 X14 eh14 => ?_⟩
          exact tl11 1 (Or.inl ⟨rfl, Or.inr (Or.inr k3)⟩) T14 X14 eh14
        · skip
          refine own_blk dec0 seq0 hby hx hZ hown hK hF 11 [false, false, true] [] X6 eh6 ?_
          show (¬ ((t1).toInt = ((2 : Int32)).toInt)) ∧ (¬ ((t2).toInt = ((2 : Int32)).toInt)) ∧ ((t3).toInt ≠ ((2 : Int32)).toInt) ∧ own_Aft X6 h0 _ 210 [s0_, s1_, s2_, s3_, s4_, s5_, zI t1, zI t2, zI t3, zI b1, zI b2, zI b3, zA ao, zA mb, zI 3, zI cn, zI g0, zI g1, zI g2, zI m0, zI m1, zI 0, zU, zU, zU, zU, zU, zU, zU, zU, zU, zU, zU, zU, zU, zU, zU] []
          refine ⟨by omega, by omega, by omega, fun T15 X15 eh15 => ?_⟩
          exact tl11 0 (Or.inr ⟨rfl, k1, k2, k3⟩) T15 X15 eh15
  intro m2 hm2 T11 X11 eh11
  show own_Go p.tables e below _ (T11.setTop (mkF m 210 (Array.mk [s0_, s1_, s2_, s3_, s4_, s5_, zI t1, zI t2, zI t3, zI b1, zI b2, zI b3, zA ao, zA mb, zI 3, zI cn, zI g0, zI g1, zI g2, zI m0, zI m1, zI m2, zU, zU, zU, zU, zU, zU, zU, zU, zU, zU, zU, zU, zU, zU, zU]) []))
  refine own_blk dec0 seq0 hby hx hZ hown hK hF 3 [] [] X11 eh11 ?_
  show own_Aft X11 h0 _ 215 [s0_, s1_, s2_, s3_, s4_, s5_, zI t1, zI t2, zI t3, zI b1, zI b2, zI b3, zA ao, zA mb, zI 3, zI cn, zI g0, zI g1, zI g2, zI m0, zI m1, zI m2, zU, zU, zU, zU, zU, zU, zU, zU, zU, zU, zU, zU, zU, zU, zU] [.int 0, .int b1, .int t1]
  refine fun T16 X16 eh16 => ?_
  refine own_callSP X16 hx hZ hown (hw _ (wm 110 rfl)) (hw _ (wm 111 rfl)) (hw _ (wm 112 rfl)) (hw _ (wm 113 rfl)) (by decide) eh16 [.int t1, .int b1, .int 0] pd19 rfl (fr := 0) (lo := 0) (rm19 l Z a0 hw [] t1 b1 (0 : Int32) h0 n0 Z0) (by rw [hml]; rfl) 0 rfl (Nat.le_of_eq rfl) (hb hby at_215) (by decide) (by decide) (by decide) (by decide) (fun T17 rv17 X17 eh17 qc17 => ?_)
  obtain ⟨q10, rfl, hq10⟩ := qc17
  show own_Go p.tables e below _ (T17.setTop (mkF m 218 (Array.mk [s0_, s1_, s2_, s3_, s4_, s5_, zI t1, zI t2, zI t3, zI b1, zI b2, zI b3, zA ao, zA mb, zI 3, zI cn, zI g0, zI g1, zI g2, zI m0, zI m1, zI m2, zU, zU, zU, zU, zU, zU, zU, zU, zU, zU, zU, zU, zU, zU, zU]) [.int q10]))
  refine own_blk dec0 seq0 hby hx hZ hown hK hF 3 [] [] X17 eh17 ?_
  show own_Aft X17 h0 _ 223 [s0_, s1_, s2_, s3_, s4_, s5_, zI t1, zI t2, zI t3, zI b1, zI b2, zI b3, zA ao, zA mb, zI 3, zI cn, zI g0, zI g1, zI g2, zI m0, zI m1, zI m2, zU, zU, zU, zU, zU, zU, zU, zU, zU, zU, zU, zU, zU, zU, zU] [.int 0, .int b2, .int t2, .int q10]
  refine fun T18 X18 eh18 => ?_
  refine own_callSP X18 hx hZ hown (hw _ (wm 110 rfl)) (hw _ (wm 111 rfl)) (hw _ (wm 112 rfl)) (hw _ (wm 113 rfl)) (by decide) eh18 [.int t2, .int b2, .int 0] pd19 rfl (fr := 0) (lo := 0) (rm19 l Z a0 hw [] t2 b2 (0 : Int32) h0 n0 Z0) (by rw [hml]; rfl) 1 rfl (Nat.le_of_eq rfl) (hb hby at_223) (by decide) (by decide) (by decide) (by decide) (fun T19 rv19 X19 eh19 qc19 => ?_)
  obtain ⟨q20, rfl, hq20⟩ := qc19
  show own_Go p.tables e below _ (T19.setTop (mkF m 226 (Array.mk [s0_, s1_, s2_, s3_, s4_, s5_, zI t1, zI t2, zI t3, zI b1, zI b2, zI b3, zA ao, zA mb, zI 3, zI cn, zI g0, zI g1, zI g2, zI m0, zI m1, zI m2, zU, zU, zU, zU, zU, zU, zU, zU, zU, zU, zU, zU, zU, zU, zU]) [.int q20, .int q10]))
  refine own_blk dec0 seq0 hby hx hZ hown hK hF 4 [] [] X19 eh19 ?_
  show own_Aft X19 h0 _ 232 [s0_, s1_, s2_, s3_, s4_, s5_, zI t1, zI t2, zI t3, zI b1, zI b2, zI b3, zA ao, zA mb, zI 3, zI cn, zI g0, zI g1, zI g2, zI m0, zI m1, zI m2, zU, zU, zU, zU, zU, zU, zU, zU, zU, zU, zU, zU, zU, zU, zU] [.int 0, .int b3, .int t3, .int (q10 + q20)]
  refine fun T20 X20 eh20 => ?_
  refine own_callSP X20 hx hZ hown (hw _ (wm 110 rfl)) (hw _ (wm 111 rfl)) (hw _ (wm 112 rfl)) (hw _ (wm 113 rfl)) (by decide) eh20 [.int t3, .int b3, .int 0] pd19 rfl (fr := 0) (lo := 0) (rm19 l Z a0 hw [] t3 b3 (0 : Int32) h0 n0 Z0) (by rw [hml]; rfl) 1 rfl (Nat.le_of_eq rfl) (hb hby at_232) (by decide) (by decide) (by decide) (by decide) (fun T21 rv21 X21 eh21 qc21 => ?_)
  obtain ⟨q30, rfl, hq30⟩ := qc21
  show own_Go p.tables e below _ (T21.setTop (mkF m 235 (Array.mk [s0_, s1_, s2_, s3_, s4_, s5_, zI t1, zI t2, zI t3, zI b1, zI b2, zI b3, zA ao, zA mb, zI 3, zI cn, zI g0, zI g1, zI g2, zI m0, zI m1, zI m2, zU, zU, zU, zU, zU, zU, zU, zU, zU, zU, zU, zU, zU, zU, zU]) [.int q30, .int (q10 + q20)]))
  refine own_blk dec0 seq0 hby hx hZ hown hK hF 5 [] [] X21 eh21 ?_
  show own_Aft X21 h0 _ 243 [s0_, s1_, s2_, s3_, s4_, s5_, zI t1, zI t2, zI t3, zI b1, zI b2, zI b3, zA ao, zA mb, zI 3, zI cn, zI g0, zI g1, zI g2, zI m0, zI m1, zI m2, zI ((q10 + q20) + q30), zU, zU, zU, zU, zU, zU, zU, zU, zU, zU, zU, zU, zU, zU] [.int 1, .int b1, .int t1]
  refine fun T22 X22 eh22 => ?_
  refine own_callSP X22 hx hZ hown (hw _ (wm 110 rfl)) (hw _ (wm 111 rfl)) (hw _ (wm 112 rfl)) (hw _ (wm 113 rfl)) (by decide) eh22 [.int t1, .int b1, .int 1] pd19 rfl (fr := 0) (lo := 0) (rm19 l Z a0 hw [] t1 b1 (1 : Int32) h0 n0 Z0) (by rw [hml]; rfl) 0 rfl (Nat.le_of_eq rfl) (hb hby at_243) (by decide) (by decide) (by decide) (by decide) (fun T23 rv23 X23 eh23 qc23 => ?_)
  obtain ⟨q11, rfl, hq11⟩ := qc23
  show own_Go p.tables e below _ (T23.setTop (mkF m 246 (Array.mk [s0_, s1_, s2_, s3_, s4_, s5_, zI t1, zI t2, zI t3, zI b1, zI b2, zI b3, zA ao, zA mb, zI 3, zI cn, zI g0, zI g1, zI g2, zI m0, zI m1, zI m2, zI ((q10 + q20) + q30), zU, zU, zU, zU, zU, zU, zU, zU, zU, zU, zU, zU, zU, zU]) [.int q11]))
  refine own_blk dec0 seq0 hby hx hZ hown hK hF 3 [] [] X23 eh23 ?_
  show own_Aft X23 h0 _ 251 [s0_, s1_, s2_, s3_, s4_, s5_, zI t1, zI t2, zI t3, zI b1, zI b2, zI b3, zA ao, zA mb, zI 3, zI cn, zI g0, zI g1, zI g2, zI m0, zI m1, zI m2, zI ((q10 + q20) + q30), zU, zU, zU, zU, zU, zU, zU, zU, zU, zU, zU, zU, zU, zU] [.int 1, .int b2, .int t2, .int q11]
  refine fun T24 X24 eh24 => ?_
  refine own_callSP X24 hx hZ hown (hw _ (wm 110 rfl)) (hw _ (wm 111 rfl)) (hw _ (wm 112 rfl)) (hw _ (wm 113 rfl)) (by decide) eh24 [.int t2, .int b2, .int 1] pd19 rfl (fr := 0) (lo := 0) (rm19 l Z a0 hw [] t2 b2 (1 : Int32) h0 n0 Z0) (by rw [hml]; rfl) 1 rfl (Nat.le_of_eq rfl) (hb hby at_251) (by decide) (by decide) (by decide) (by decide) (fun T25 rv25 X25 eh25 qc25 => ?_)
  obtain ⟨q21, rfl, hq21⟩ := qc25
  show own_Go p.tables e below _ (T25.setTop (mkF m 254 (Array.mk [s0_, s1_, s2_, s3_, s4_, s5_, zI t1, zI t2, zI t3, zI b1, zI b2, zI b3, zA ao, zA mb, zI 3, zI cn, zI g0, zI g1, zI g2, zI m0, zI m1, zI m2, zI ((q10 + q20) + q30), zU, zU, zU, zU, zU, zU, zU, zU, zU, zU, zU, zU, zU, zU]) [.int q21, .int q11]))
  refine own_blk dec0 seq0 hby hx hZ hown hK hF 4 [] [] X25 eh25 ?_
  show own_Aft X25 h0 _ 260 [s0_, s1_, s2_, s3_, s4_, s5_, zI t1, zI t2, zI t3, zI b1, zI b2, zI b3, zA ao, zA mb, zI 3, zI cn, zI g0, zI g1, zI g2, zI m0, zI m1, zI m2, zI ((q10 + q20) + q30), zU, zU, zU, zU, zU, zU, zU, zU, zU, zU, zU, zU, zU, zU] [.int 1, .int b3, .int t3, .int (q11 + q21)]
  refine fun T26 X26 eh26 => ?_
  refine own_callSP X26 hx hZ hown (hw _ (wm 110 rfl)) (hw _ (wm 111 rfl)) (hw _ (wm 112 rfl)) (hw _ (wm 113 rfl)) (by decide) eh26 [.int t3, .int b3, .int 1] pd19 rfl (fr := 0) (lo := 0) (rm19 l Z a0 hw [] t3 b3 (1 : Int32) h0 n0 Z0) (by rw [hml]; rfl) 1 rfl (Nat.le_of_eq rfl) (hb hby at_260) (by decide) (by decide) (by decide) (by decide) (fun T27 rv27 X27 eh27 qc27 => ?_)
  obtain ⟨q31, rfl, hq31⟩ := qc27
  show own_Go p.tables e below _ (T27.setTop (mkF m 263 (Array.mk [s0_, s1_, s2_, s3_, s4_, s5_, zI t1, zI t2, zI t3, zI b1, zI b2, zI b3, zA ao, zA mb, zI 3, zI cn, zI g0, zI g1, zI g2, zI m0, zI m1, zI m2, zI ((q10 + q20) + q30), zU, zU, zU, zU, zU, zU, zU, zU, zU, zU, zU, zU, zU, zU]) [.int q31, .int (q11 + q21)]))
  refine own_blk dec0 seq0 hby hx hZ hown hK hF 5 [] [] X27 eh27 ?_
  show own_Aft X27 h0 _ 271 [s0_, s1_, s2_, s3_, s4_, s5_, zI t1, zI t2, zI t3, zI b1, zI b2, zI b3, zA ao, zA mb, zI 3, zI cn, zI g0, zI g1, zI g2, zI m0, zI m1, zI m2, zI ((q10 + q20) + q30), zI ((q11 + q21) + q31), zU, zU, zU, zU, zU, zU, zU, zU, zU, zU, zU, zU, zU] [.int 2, .int b1, .int t1]
  refine fun T28 X28 eh28 => ?_
  refine own_callSP X28 hx hZ hown (hw _ (wm 110 rfl)) (hw _ (wm 111 rfl)) (hw _ (wm 112 rfl)) (hw _ (wm 113 rfl)) (by decide) eh28 [.int t1, .int b1, .int 2] pd19 rfl (fr := 0) (lo := 0) (rm19 l Z a0 hw [] t1 b1 (2 : Int32) h0 n0 Z0) (by rw [hml]; rfl) 0 rfl (Nat.le_of_eq rfl) (hb hby at_271) (by decide) (by decide) (by decide) (by decide) (fun T29 rv29 X29 eh29 qc29 => ?_)
  obtain ⟨q12, rfl, hq12⟩ := qc29
  show own_Go p.tables e below _ (T29.setTop (mkF m 274 (Array.mk [s0_, s1_, s2_, s3_, s4_, s5_, zI t1, zI t2, zI t3, zI b1, zI b2, zI b3, zA ao, zA mb, zI 3, zI cn, zI g0, zI g1, zI g2, zI m0, zI m1, zI m2, zI ((q10 + q20) + q30), zI ((q11 + q21) + q31), zU, zU, zU, zU, zU, zU, zU, zU, zU, zU, zU, zU, zU]) [.int q12]))
  refine own_blk dec0 seq0 hby hx hZ hown hK hF 3 [] [] X29 eh29 ?_
  show own_Aft X29 h0 _ 279 [s0_, s1_, s2_, s3_, s4_, s5_, zI t1, zI t2, zI t3, zI b1, zI b2, zI b3, zA ao, zA mb, zI 3, zI cn, zI g0, zI g1, zI g2, zI m0, zI m1, zI m2, zI ((q10 + q20) + q30), zI ((q11 + q21) + q31), zU, zU, zU, zU, zU, zU, zU, zU, zU, zU, zU, zU, zU] [.int 2, .int b2, .int t2, .int q12]
  refine fun T30 X30 eh30 => ?_
  refine own_callSP X30 hx hZ hown (hw _ (wm 110 rfl)) (hw _ (wm 111 rfl)) (hw _ (wm 112 rfl)) (hw _ (wm 113 rfl)) (by decide) eh30 [.int t2, .int b2, .int 2] pd19 rfl (fr := 0) (lo := 0) (rm19 l Z a0 hw [] t2 b2 (2 : Int32) h0 n0 Z0) (by rw [hml]; rfl) 1 rfl (Nat.le_of_eq rfl) (hb hby at_279) (by decide) (by decide) (by decide) (by decide) (fun T31 rv31 X31 eh31 qc31 => ?_)
  obtain ⟨q22, rfl, hq22⟩ := qc31
  show own_Go p.tables e below _ (T31.setTop (mkF m 282 (Array.mk [s0_, s1_, s2_, s3_, s4_, s5_, zI t1, zI t2, zI t3, zI b1, zI b2, zI b3, zA ao, zA mb, zI 3, zI cn, zI g0, zI g1, zI g2, zI m0, zI m1, zI m2, zI ((q10 + q20) + q30), zI ((q11 + q21) + q31), zU, zU, zU, zU, zU, zU, zU, zU, zU, zU, zU, zU, zU]) [.int q22, .int q12]))
  refine own_blk dec0 seq0 hby hx hZ hown hK hF 4 [] [] X31 eh31 ?_
  show own_Aft X31 h0 _ 288 [s0_, s1_, s2_, s3_, s4_, s5_, zI t1, zI t2, zI t3, zI b1, zI b2, zI b3, zA ao, zA mb, zI 3, zI cn, zI g0, zI g1, zI g2, zI m0, zI m1, zI m2, zI ((q10 + q20) + q30), zI ((q11 + q21) + q31), zU, zU, zU, zU, zU, zU, zU, zU, zU, zU, zU, zU, zU] [.int 2, .int b3, .int t3, .int (q12 + q22)]
  refine fun T32 X32 eh32 => ?_
  refine own_callSP X32 hx hZ hown (hw _ (wm 110 rfl)) (hw _ (wm 111 rfl)) (hw _ (wm 112 rfl)) (hw _ (wm 113 rfl)) (by decide) eh32 [.int t3, .int b3, .int 2] pd19 rfl (fr := 0) (lo := 0) (rm19 l Z a0 hw [] t3 b3 (2 : Int32) h0 n0 Z0) (by rw [hml]; rfl) 1 rfl (Nat.le_of_eq rfl) (hb hby at_288) (by decide) (by decide) (by decide) (by decide) (fun T33 rv33 X33 eh33 qc33 => ?_)
  obtain ⟨q32, rfl, hq32⟩ := qc33
  show own_Go p.tables e below _ (T33.setTop (mkF m 291 (Array.mk [s0_, s1_, s2_, s3_, s4_, s5_, zI t1, zI t2, zI t3, zI b1, zI b2, zI b3, zA ao, zA mb, zI 3, zI cn, zI g0, zI g1, zI g2, zI m0, zI m1, zI m2, zI ((q10 + q20) + q30), zI ((q11 + q21) + q31), zU, zU, zU, zU, zU, zU, zU, zU, zU, zU, zU, zU, zU]) [.int q32, .int (q12 + q22)]))
  refine own_blk dec0 seq0 hby hx hZ hown hK hF 2 [] [] X33 eh33 ?_
  show own_Aft X33 h0 _ 294 [s0_, s1_, s2_, s3_, s4_, s5_, zI t1, zI t2, zI t3, zI b1, zI b2, zI b3, zA ao, zA mb, zI 3, zI cn, zI g0, zI g1, zI g2, zI m0, zI m1, zI m2, zI ((q10 + q20) + q30), zI ((q11 + q21) + q31), zI ((q12 + q22) + q32), zU, zU, zU, zU, zU, zU, zU, zU, zU, zU, zU, zU] []
  refine fun T34 X34 eh34 => ?_
  have bq10 := hq10.b bb1
  have bq20 := hq20.b bb2
  have bq30 := hq30.b bb3
  have sa0 : (q10 + q20).toInt = q10.toInt + q20.toInt := own_add32 (by omega) (by omega)
  have sw0 : ((q10 + q20) + q30).toInt = (q10 + q20).toInt + q30.toInt := own_add32 (by omega) (by omega)
  have eW0 : ((q10 + q20) + q30).toInt = q10.toInt + q20.toInt + q30.toInt := by omega
  have bq11 := hq11.b bb1
  have bq21 := hq21.b bb2
  have bq31 := hq31.b bb3
  have sa1 : (q11 + q21).toInt = q11.toInt + q21.toInt := own_add32 (by omega) (by omega)
  have sw1 : ((q11 + q21) + q31).toInt = (q11 + q21).toInt + q31.toInt := own_add32 (by omega) (by omega)
  have eW1 : ((q11 + q21) + q31).toInt = q11.toInt + q21.toInt + q31.toInt := by omega
  have bq12 := hq12.b bb1
  have bq22 := hq22.b bb2
  have bq32 := hq32.b bb3
  have sa2 : (q12 + q22).toInt = q12.toInt + q22.toInt := own_add32 (by omega) (by omega)
  have sw2 : ((q12 + q22) + q32).toInt = (q12 + q22).toInt + q32.toInt := own_add32 (by omega) (by omega)
  have eW2 : ((q12 + q22) + q32).toInt = q12.toInt + q22.toInt + q32.toInt := by omega
  generalize (q10 + q20) + q30 = w0_ at sw0 eW0 ⊢
  generalize (q11 + q21) + q31 = w1_ at sw1 eW1 ⊢
  generalize (q12 + q22) + q32 = w2_ at sw2 eW2 ⊢
  have mb0_ := hm0.e; have mz0 := own_01 mb0_; have nb0 := own_narZ mb0_
  have mb1_ := hm1.e; have mz1 := own_01 mb1_; have nb1 := own_narZ mb1_
  have mb2_ := hm2.e; have mz2 := own_01 mb2_; have nb2 := own_narZ mb2_
  obtain ⟨FN, FR0, FR1, FR2⟩ := HF m0.toInt m1.toInt m2.toInt w0_.toInt w1_.toInt w2_.toInt ⟨hm0.M, hm1.M, hm2.M⟩ ⟨⟨_, _, _, hq10, hq20, hq30, eW0⟩, ⟨_, _, _, hq11, hq21, hq31, eW1⟩, ⟨_, _, _, hq12, hq22, hq32, eW2⟩⟩
  clear HF
  show own_Go p.tables e below _ (T34.setTop (mkF m 294 (Array.mk [s0_, s1_, s2_, s3_, s4_, s5_, zI t1, zI t2, zI t3, zI b1, zI b2, zI b3, zA ao, zA mb, zI 3, zI cn, zI g0, zI g1, zI g2, zI m0, zI m1, zI m2, zI w0_, zI w1_, zI w2_, zU, zU, zU, zU, zU, zU, zU, zU, zU, zU, zU, zU]) []))
  refine own_blk dec0 seq0 hby hx hZ hown hK hF 1 [] [] X34 eh34 ?_
  show own_Aft X34 h0 _ 296 [s0_, s1_, s2_, s3_, s4_, s5_, zI t1, zI t2, zI t3, zI b1, zI b2, zI b3, zA ao, zA mb, zI 3, zI cn, zI g0, zI g1, zI g2, zI m0, zI m1, zI m2, zI w0_, zI w1_, zI w2_, zU, zU, zU, zU, zU, zU, zU, zU, zU, zU, zU, zU] [.int m0]
  refine fun T35 X35 eh35 => ?_
  suffices tl36 : ∀ (_u : Unit), own_Aft X35 h0 (own_Fin s 40 192 (fun v h L => v = some (.int 1) ∧ Fr n0 L)) 304 [s0_, s1_, s2_, s3_, s4_, s5_, zI t1, zI t2, zI t3, zI b1, zI b2, zI b3, zA ao, zA mb, zI 3, zI cn, zI g0, zI g1, zI g2, zI m0, zI m1, zI m2, zI w0_, zI w1_, zI w2_, zU, zU, zU, zU, zU, zU, zU, zU, zU, zU, zU, zU] [.int m0] by
    rcases mb0_ with rfl | rfl
    · skip
      show own_Go p.tables e below _ (T35.setTop (mkF m 296 (Array.mk [s0_, s1_, s2_, s3_, s4_, s5_, zI t1, zI t2, zI t3, zI b1, zI b2, zI b3, zA ao, zA mb, zI 3, zI cn, zI g0, zI g1, zI g2, zI 1, zI m1, zI m2, zI w0_, zI w1_, zI w2_, zU, zU, zU, zU, zU, zU, zU, zU, zU, zU, zU, zU]) [.int 1]))
      refine own_blk dec0 seq0 hby hx hZ hown hK hF 3 [false] [] X35 eh35 ?_
      show (¬ (((1 : Int32)).toInt = 0)) ∧ own_Aft X35 h0 _ 304 [s0_, s1_, s2_, s3_, s4_, s5_, zI t1, zI t2, zI t3, zI b1, zI b2, zI b3, zA ao, zA mb, zI 3, zI cn, zI g0, zI g1, zI g2, zI 1, zI m1, zI m2, zI w0_, zI w1_, zI w2_, zU, zU, zU, zU, zU, zU, zU, zU, zU, zU, zU, zU] [.int 1]
      refine ⟨by decide, fun T37 X37 eh37 => ?_⟩
      exact tl36 () T37 X37 eh37
    · skip
      show own_Go p.tables e below _ (T35.setTop (mkF m 296 (Array.mk [s0_, s1_, s2_, s3_, s4_, s5_, zI t1, zI t2, zI t3, zI b1, zI b2, zI b3, zA ao, zA mb, zI 3, zI cn, zI g0, zI g1, zI g2, zI 0, zI m1, zI m2, zI w0_, zI w1_, zI w2_, zU, zU, zU, zU, zU, zU, zU, zU, zU, zU, zU, zU]) [.int 0]))
      refine own_blk dec0 seq0 hby hx hZ hown hK hF 2 [true] [] X35 eh35 ?_
      show (((0 : Int32)).toInt = 0) ∧ own_Aft X35 h0 _ 304 [s0_, s1_, s2_, s3_, s4_, s5_, zI t1, zI t2, zI t3, zI b1, zI b2, zI b3, zA ao, zA mb, zI 3, zI cn, zI g0, zI g1, zI g2, zI 0, zI m1, zI m2, zI w0_, zI w1_, zI w2_, zU, zU, zU, zU, zU, zU, zU, zU, zU, zU, zU, zU] [.int 0]
      refine ⟨by decide, fun T38 X38 eh38 => ?_⟩
      exact tl36 () T38 X38 eh38
  intro _u T36 X36 eh36
  show own_Go p.tables e below _ (T36.setTop (mkF m 304 (Array.mk [s0_, s1_, s2_, s3_, s4_, s5_, zI t1, zI t2, zI t3, zI b1, zI b2, zI b3, zA ao, zA mb, zI 3, zI cn, zI g0, zI g1, zI g2, zI m0, zI m1, zI m2, zI w0_, zI w1_, zI w2_, zU, zU, zU, zU, zU, zU, zU, zU, zU, zU, zU, zU]) [.int m0]))
  refine own_blk dec0 seq0 hby hx hZ hown hK hF 1 [] [] X36 eh36 ?_
  show own_Aft X36 h0 _ 306 [s0_, s1_, s2_, s3_, s4_, s5_, zI t1, zI t2, zI t3, zI b1, zI b2, zI b3, zA ao, zA mb, zI 3, zI cn, zI g0, zI g1, zI g2, zI m0, zI m1, zI m2, zI w0_, zI w1_, zI w2_, zU, zU, zU, zU, zU, zU, zU, zU, zU, zU, zU, zU] [.int m1, .int m0]
  refine fun T39 X39 eh39 => ?_
  suffices tl40 : ∀ (_u : Unit), own_Aft X39 h0 (own_Fin s 40 192 (fun v h L => v = some (.int 1) ∧ Fr n0 L)) 314 [s0_, s1_, s2_, s3_, s4_, s5_, zI t1, zI t2, zI t3, zI b1, zI b2, zI b3, zA ao, zA mb, zI 3, zI cn, zI g0, zI g1, zI g2, zI m0, zI m1, zI m2, zI w0_, zI w1_, zI w2_, zU, zU, zU, zU, zU, zU, zU, zU, zU, zU, zU, zU] [.int m1, .int m0] by
    rcases mb1_ with rfl | rfl
    · skip
      show own_Go p.tables e below _ (T39.setTop (mkF m 306 (Array.mk [s0_, s1_, s2_, s3_, s4_, s5_, zI t1, zI t2, zI t3, zI b1, zI b2, zI b3, zA ao, zA mb, zI 3, zI cn, zI g0, zI g1, zI g2, zI m0, zI 1, zI m2, zI w0_, zI w1_, zI w2_, zU, zU, zU, zU, zU, zU, zU, zU, zU, zU, zU, zU]) [.int 1, .int m0]))
      refine own_blk dec0 seq0 hby hx hZ hown hK hF 3 [false] [] X39 eh39 ?_
      show (¬ (((1 : Int32)).toInt = 0)) ∧ own_Aft X39 h0 _ 314 [s0_, s1_, s2_, s3_, s4_, s5_, zI t1, zI t2, zI t3, zI b1, zI b2, zI b3, zA ao, zA mb, zI 3, zI cn, zI g0, zI g1, zI g2, zI m0, zI 1, zI m2, zI w0_, zI w1_, zI w2_, zU, zU, zU, zU, zU, zU, zU, zU, zU, zU, zU, zU] [.int 1, .int m0]
      refine ⟨by decide, fun T41 X41 eh41 => ?_⟩
      exact tl40 () T41 X41 eh41
    · skip
      show own_Go p.tables e below _ (T39.setTop (mkF m 306 (Array.mk [s0_, s1_, s2_, s3_, s4_, s5_, zI t1, zI t2, zI t3, zI b1, zI b2, zI b3, zA ao, zA mb, zI 3, zI cn, zI g0, zI g1, zI g2, zI m0, zI 0, zI m2, zI w0_, zI w1_, zI w2_, zU, zU, zU, zU, zU, zU, zU, zU, zU, zU, zU, zU]) [.int 0, .int m0]))
      refine own_blk dec0 seq0 hby hx hZ hown hK hF 2 [true] [] X39 eh39 ?_
      show (((0 : Int32)).toInt = 0) ∧ own_Aft X39 h0 _ 314 [s0_, s1_, s2_, s3_, s4_, s5_, zI t1, zI t2, zI t3, zI b1, zI b2, zI b3, zA ao, zA mb, zI 3, zI cn, zI g0, zI g1, zI g2, zI m0, zI 0, zI m2, zI w0_, zI w1_, zI w2_, zU, zU, zU, zU, zU, zU, zU, zU, zU, zU, zU, zU] [.int 0, .int m0]
      refine ⟨by decide, fun T42 X42 eh42 => ?_⟩
      exact tl40 () T42 X42 eh42
  intro _u T40 X40 eh40
  show own_Go p.tables e below _ (T40.setTop (mkF m 314 (Array.mk [s0_, s1_, s2_, s3_, s4_, s5_, zI t1, zI t2, zI t3, zI b1, zI b2, zI b3, zA ao, zA mb, zI 3, zI cn, zI g0, zI g1, zI g2, zI m0, zI m1, zI m2, zI w0_, zI w1_, zI w2_, zU, zU, zU, zU, zU, zU, zU, zU, zU, zU, zU, zU]) [.int m1, .int m0]))
  refine own_blk dec0 seq0 hby hx hZ hown hK hF 2 [] [] X40 eh40 ?_
  show own_Aft X40 h0 _ 317 [s0_, s1_, s2_, s3_, s4_, s5_, zI t1, zI t2, zI t3, zI b1, zI b2, zI b3, zA ao, zA mb, zI 3, zI cn, zI g0, zI g1, zI g2, zI m0, zI m1, zI m2, zI w0_, zI w1_, zI w2_, zU, zU, zU, zU, zU, zU, zU, zU, zU, zU, zU, zU] [.int m2, .int (m0 + m1)]
  refine fun T43 X43 eh43 => ?_
  suffices tl44 : ∀ (_u : Unit), own_Aft X43 h0 (own_Fin s 40 192 (fun v h L => v = some (.int 1) ∧ Fr n0 L)) 325 [s0_, s1_, s2_, s3_, s4_, s5_, zI t1, zI t2, zI t3, zI b1, zI b2, zI b3, zA ao, zA mb, zI 3, zI cn, zI g0, zI g1, zI g2, zI m0, zI m1, zI m2, zI w0_, zI w1_, zI w2_, zU, zU, zU, zU, zU, zU, zU, zU, zU, zU, zU, zU] [.int m2, .int (m0 + m1)] by
    rcases mb2_ with rfl | rfl
    · skip
      show own_Go p.tables e below _ (T43.setTop (mkF m 317 (Array.mk [s0_, s1_, s2_, s3_, s4_, s5_, zI t1, zI t2, zI t3, zI b1, zI b2, zI b3, zA ao, zA mb, zI 3, zI cn, zI g0, zI g1, zI g2, zI m0, zI m1, zI 1, zI w0_, zI w1_, zI w2_, zU, zU, zU, zU, zU, zU, zU, zU, zU, zU, zU, zU]) [.int 1, .int (m0 + m1)]))
      refine own_blk dec0 seq0 hby hx hZ hown hK hF 3 [false] [] X43 eh43 ?_
      show (¬ (((1 : Int32)).toInt = 0)) ∧ own_Aft X43 h0 _ 325 [s0_, s1_, s2_, s3_, s4_, s5_, zI t1, zI t2, zI t3, zI b1, zI b2, zI b3, zA ao, zA mb, zI 3, zI cn, zI g0, zI g1, zI g2, zI m0, zI m1, zI 1, zI w0_, zI w1_, zI w2_, zU, zU, zU, zU, zU, zU, zU, zU, zU, zU, zU, zU] [.int 1, .int (m0 + m1)]
      refine ⟨by decide, fun T45 X45 eh45 => ?_⟩
      exact tl44 () T45 X45 eh45
    · skip
      show own_Go p.tables e below _ (T43.setTop (mkF m 317 (Array.mk [s0_, s1_, s2_, s3_, s4_, s5_, zI t1, zI t2, zI t3, zI b1, zI b2, zI b3, zA ao, zA mb, zI 3, zI cn, zI g0, zI g1, zI g2, zI m0, zI m1, zI 0, zI w0_, zI w1_, zI w2_, zU, zU, zU, zU, zU, zU, zU, zU, zU, zU, zU, zU]) [.int 0, .int (m0 + m1)]))
      refine own_blk dec0 seq0 hby hx hZ hown hK hF 2 [true] [] X43 eh43 ?_
      show (((0 : Int32)).toInt = 0) ∧ own_Aft X43 h0 _ 325 [s0_, s1_, s2_, s3_, s4_, s5_, zI t1, zI t2, zI t3, zI b1, zI b2, zI b3, zA ao, zA mb, zI 3, zI cn, zI g0, zI g1, zI g2, zI m0, zI m1, zI 0, zI w0_, zI w1_, zI w2_, zU, zU, zU, zU, zU, zU, zU, zU, zU, zU, zU, zU] [.int 0, .int (m0 + m1)]
      refine ⟨by decide, fun T46 X46 eh46 => ?_⟩
      exact tl44 () T46 X46 eh46
  intro _u T44 X44 eh44
  show own_Go p.tables e below _ (T44.setTop (mkF m 325 (Array.mk [s0_, s1_, s2_, s3_, s4_, s5_, zI t1, zI t2, zI t3, zI b1, zI b2, zI b3, zA ao, zA mb, zI 3, zI cn, zI g0, zI g1, zI g2, zI m0, zI m1, zI m2, zI w0_, zI w1_, zI w2_, zU, zU, zU, zU, zU, zU, zU, zU, zU, zU, zU, zU]) [.int m2, .int (m0 + m1)]))
  refine own_blk dec0 seq0 hby hx hZ hown hK hF 2 [] [] X44 eh44 ?_
  show own_Aft X44 h0 _ 328 [s0_, s1_, s2_, s3_, s4_, s5_, zI t1, zI t2, zI t3, zI b1, zI b2, zI b3, zA ao, zA mb, zI 3, zI cn, zI g0, zI g1, zI g2, zI m0, zI m1, zI m2, zI w0_, zI w1_, zI w2_, zI ((m0 + m1) + m2), zU, zU, zU, zU, zU, zU, zU, zU, zU, zU, zU] []
  refine fun T47 X47 eh47 => ?_
  have sk1 : (m0 + m1).toInt = m0.toInt + m1.toInt := own_add32 (by omega) (by omega)
  have sk : ((m0 + m1) + m2).toInt = m0.toInt + m1.toInt + m2.toInt := by have := own_add32 (a := m0 + m1) (b := m2) (by omega) (by omega); omega
  generalize (m0 + m1) + m2 = kk at sk ⊢
  show own_Go p.tables e below _ (T47.setTop (mkF m 328 (Array.mk [s0_, s1_, s2_, s3_, s4_, s5_, zI t1, zI t2, zI t3, zI b1, zI b2, zI b3, zA ao, zA mb, zI 3, zI cn, zI g0, zI g1, zI g2, zI m0, zI m1, zI m2, zI w0_, zI w1_, zI w2_, zI kk, zU, zU, zU, zU, zU, zU, zU, zU, zU, zU, zU]) []))
  refine own_blk dec0 seq0 hby hx hZ hown hK hF 1 [] [] X47 eh47 ?_
  show own_Aft X47 h0 _ 329 [s0_, s1_, s2_, s3_, s4_, s5_, zI t1, zI t2, zI t3, zI b1, zI b2, zI b3, zA ao, zA mb, zI 3, zI cn, zI g0, zI g1, zI g2, zI m0, zI m1, zI m2, zI w0_, zI w1_, zI w2_, zI kk, zU, zU, zU, zU, zU, zU, zU, zU, zU, zU, zU] [.int 3]
  refine fun T48 X48 eh48 => ?_
  refine own_newP X48 hx hZ (hw _ (wm 114 rfl)) eh48 3 rfl (cap := 3) (by decide) (by decide) (hb hby at_329) (by decide) (by decide) (fun T49 hp49 bm ga49 X49 eh49 Ex49 Ar49 => ?_)
  have ne_mb_bm : mb ≠ bm := fun q => absurd Amb.lt (by rw [q, ga49]; exact Nat.lt_irrefl _)
  have nw_bm : n0 ≤ bm := by rw [ga49]; exact Z0
  have Amb_49 := Amb.ext Ex49
  have Z_49 : n0 ≤ hp49.size := Nat.le_trans Z0 Ex49.1
  have Ar49' : own_A Z hp49 bm .boolean [.int 0, .int 0, .int 0] := Ar49
  show own_Go p.tables e below _ (T49.setTop (mkF m 331 (Array.mk [s0_, s1_, s2_, s3_, s4_, s5_, zI t1, zI t2, zI t3, zI b1, zI b2, zI b3, zA ao, zA mb, zI 3, zI cn, zI g0, zI g1, zI g2, zI m0, zI m1, zI m2, zI w0_, zI w1_, zI w2_, zI kk, zU, zU, zU, zU, zU, zU, zU, zU, zU, zU, zU]) [.ref bm]))
  refine own_blk dec0 seq0 hby hx hZ hown hK hF 4 [] [] X49 eh49 ?_
  show own_Aft X49 hp49 _ 338 [s0_, s1_, s2_, s3_, s4_, s5_, zI t1, zI t2, zI t3, zI b1, zI b2, zI b3, zA ao, zA mb, zI 3, zI cn, zI g0, zI g1, zI g2, zI m0, zI m1, zI m2, zI w0_, zI w1_, zI w2_, zI kk, zA bm, zU, zU, zU, zU, zU, zU, zU, zU, zU, zU] [.int m0, .int 0, .ref bm]
  refine fun T50 X50 eh50 => ?_
  refine own_sZ X50 hx hZ eh50 Ar49' 0 rfl (by show 0 < 3; decide) nb0 (hb hby at_338) (fun T51 hp51 X51 eh51 Wr51 Ar51 => ?_)
  have Ar51' : own_A Z hp51 bm .boolean [.int m0, .int 0, .int 0] := Ar51
  have Amb_51 := Amb_49.other Wr51 ne_mb_bm
  have Nf51 := Fr.snoc X51 N0 nw_bm
  have Z_51 : n0 ≤ hp51.size := by rw [Wr.size Wr51]; exact Z_49
  refine own_blk dec0 seq0 hby hx hZ hown hK hF 3 [] [] X51 eh51 ?_
  show own_Aft X51 hp51 _ 344 [s0_, s1_, s2_, s3_, s4_, s5_, zI t1, zI t2, zI t3, zI b1, zI b2, zI b3, zA ao, zA mb, zI 3, zI cn, zI g0, zI g1, zI g2, zI m0, zI m1, zI m2, zI w0_, zI w1_, zI w2_, zI kk, zA bm, zU, zU, zU, zU, zU, zU, zU, zU, zU, zU] [.int m1, .int 1, .ref bm]
  refine fun T52 X52 eh52 => ?_
  refine own_sZ X52 hx hZ eh52 Ar51' 1 rfl (by show 1 < 3; decide) nb1 (hb hby at_344) (fun T53 hp53 X53 eh53 Wr53 Ar53 => ?_)
  have Ar53' : own_A Z hp53 bm .boolean [.int m0, .int m1, .int 0] := Ar53
  have Amb_53 := Amb_51.other Wr53 ne_mb_bm
  have Nf53 := Fr.snoc X53 Nf51 nw_bm
  have Z_53 : n0 ≤ hp53.size := by rw [Wr.size Wr53]; exact Z_51
  refine own_blk dec0 seq0 hby hx hZ hown hK hF 3 [] [] X53 eh53 ?_
  show own_Aft X53 hp53 _ 350 [s0_, s1_, s2_, s3_, s4_, s5_, zI t1, zI t2, zI t3, zI b1, zI b2, zI b3, zA ao, zA mb, zI 3, zI cn, zI g0, zI g1, zI g2, zI m0, zI m1, zI m2, zI w0_, zI w1_, zI w2_, zI kk, zA bm, zU, zU, zU, zU, zU, zU, zU, zU, zU, zU] [.int m2, .int 2, .ref bm]
  refine fun T54 X54 eh54 => ?_
  refine own_sZ X54 hx hZ eh54 Ar53' 2 rfl (by show 2 < 3; decide) nb2 (hb hby at_350) (fun T55 hp55 X55 eh55 Wr55 Ar55 => ?_)
  have Ar55' : own_A Z hp55 bm .boolean [.int m0, .int m1, .int m2] := Ar55
  have Amb_55 := Amb_53.other Wr55 ne_mb_bm
  have Nf55 := Fr.snoc X55 Nf53 nw_bm
  have Z_55 : n0 ≤ hp55.size := by rw [Wr.size Wr55]; exact Z_53
  refine own_blk dec0 seq0 hby hx hZ hown hK hF 6 [false] [.int e0_] X55 eh55 ?_
  show (¬ (((3 : Int32)).toInt ≠ ((3 : Int32)).toInt)) ∧ (own_at Z hp55 mb .int (0 : Int32) (.int e0_)) ∧ own_Aft X55 hp55 _ 361 [s0_, s1_, s2_, s3_, s4_, s5_, zI t1, zI t2, zI t3, zI b1, zI b2, zI b3, zA ao, zA mb, zI 3, zI cn, zI g0, zI g1, zI g2, zI m0, zI m1, zI m2, zI w0_, zI w1_, zI w2_, zI kk, zA bm, zU, zU, zU, zU, zU, zU, zU, zU, zU, zU] [.int e0_]
  refine ⟨by decide, Amb_55.at (0 : Int32) 0 rfl rfl, fun T56 X56 eh56 => ?_⟩
  refine own_callSP X56 hx hZ hown (hw _ (wm 115 rfl)) (hw _ (wm 116 rfl)) (hw _ (wm 112 rfl)) (hw _ (wm 117 rfl)) (by decide) eh56 [.int e0_] pd20 rfl (fr := 0) (lo := 0) (rm20 l Z a0 hw [] e0_ hp55 n0 Z_55 v00 v01) (by rw [hml]; rfl) 0 rfl (Nat.le_of_eq rfl) (hb hby at_361) (by decide) (by decide) (by decide) (by decide) (fun T57 rv57 X57 eh57 qc57 => ?_)
  obtain rfl := qc57
  show own_Go p.tables e below _ (T57.setTop (mkF m 364 (Array.mk [s0_, s1_, s2_, s3_, s4_, s5_, zI t1, zI t2, zI t3, zI b1, zI b2, zI b3, zA ao, zA mb, zI 3, zI cn, zI g0, zI g1, zI g2, zI m0, zI m1, zI m2, zI w0_, zI w1_, zI w2_, zI kk, zA bm, zU, zU, zU, zU, zU, zU, zU, zU, zU, zU]) [.int 1]))
  refine own_blk dec0 seq0 hby hx hZ hown hK hF 4 [false] [.int e1_] X57 eh57 ?_
  show (¬ (((1 : Int32)).toInt = 0)) ∧ (own_at Z hp55 mb .int (1 : Int32) (.int e1_)) ∧ own_Aft X57 hp55 _ 371 [s0_, s1_, s2_, s3_, s4_, s5_, zI t1, zI t2, zI t3, zI b1, zI b2, zI b3, zA ao, zA mb, zI 3, zI cn, zI g0, zI g1, zI g2, zI m0, zI m1, zI m2, zI w0_, zI w1_, zI w2_, zI kk, zA bm, zU, zU, zU, zU, zU, zU, zU, zU, zU, zU] [.int e1_]
  refine ⟨by decide, Amb_55.at (1 : Int32) 1 rfl rfl, fun T58 X58 eh58 => ?_⟩
  refine own_callSP X58 hx hZ hown (hw _ (wm 115 rfl)) (hw _ (wm 116 rfl)) (hw _ (wm 112 rfl)) (hw _ (wm 117 rfl)) (by decide) eh58 [.int e1_] pd20 rfl (fr := 0) (lo := 0) (rm20 l Z a0 hw [] e1_ hp55 n0 Z_55 v10 v11) (by rw [hml]; rfl) 0 rfl (Nat.le_of_eq rfl) (hb hby at_371) (by decide) (by decide) (by decide) (by decide) (fun T59 rv59 X59 eh59 qc59 => ?_)
  obtain rfl := qc59
  show own_Go p.tables e below _ (T59.setTop (mkF m 374 (Array.mk [s0_, s1_, s2_, s3_, s4_, s5_, zI t1, zI t2, zI t3, zI b1, zI b2, zI b3, zA ao, zA mb, zI 3, zI cn, zI g0, zI g1, zI g2, zI m0, zI m1, zI m2, zI w0_, zI w1_, zI w2_, zI kk, zA bm, zU, zU, zU, zU, zU, zU, zU, zU, zU, zU]) [.int 1]))
  refine own_blk dec0 seq0 hby hx hZ hown hK hF 4 [false] [.int e2_] X59 eh59 ?_
  show (¬ (((1 : Int32)).toInt = 0)) ∧ (own_at Z hp55 mb .int (2 : Int32) (.int e2_)) ∧ own_Aft X59 hp55 _ 381 [s0_, s1_, s2_, s3_, s4_, s5_, zI t1, zI t2, zI t3, zI b1, zI b2, zI b3, zA ao, zA mb, zI 3, zI cn, zI g0, zI g1, zI g2, zI m0, zI m1, zI m2, zI w0_, zI w1_, zI w2_, zI kk, zA bm, zU, zU, zU, zU, zU, zU, zU, zU, zU, zU] [.int e2_]
  refine ⟨by decide, Amb_55.at (2 : Int32) 2 rfl rfl, fun T60 X60 eh60 => ?_⟩
  refine own_callSP X60 hx hZ hown (hw _ (wm 115 rfl)) (hw _ (wm 116 rfl)) (hw _ (wm 112 rfl)) (hw _ (wm 117 rfl)) (by decide) eh60 [.int e2_] pd20 rfl (fr := 0) (lo := 0) (rm20 l Z a0 hw [] e2_ hp55 n0 Z_55 v20 v21) (by rw [hml]; rfl) 0 rfl (Nat.le_of_eq rfl) (hb hby at_381) (by decide) (by decide) (by decide) (by decide) (fun T61 rv61 X61 eh61 qc61 => ?_)
  obtain rfl := qc61
  show own_Go p.tables e below _ (T61.setTop (mkF m 384 (Array.mk [s0_, s1_, s2_, s3_, s4_, s5_, zI t1, zI t2, zI t3, zI b1, zI b2, zI b3, zA ao, zA mb, zI 3, zI cn, zI g0, zI g1, zI g2, zI m0, zI m1, zI m2, zI w0_, zI w1_, zI w2_, zI kk, zA bm, zU, zU, zU, zU, zU, zU, zU, zU, zU, zU]) [.int 1]))
  refine own_blk dec0 seq0 hby hx hZ hown hK hF 22 [true, false, false, true] [.int e0_, .int e1_, .int e0_, .int e2_, .int e1_, .int e2_] X61 eh61 ?_
  show (((1 : Int32)).toInt ≠ 0) ∧ (own_at Z hp55 mb .int (0 : Int32) (.int e0_)) ∧ (own_at Z hp55 mb .int (1 : Int32) (.int e1_)) ∧ (¬ ((e0_).toInt = (e1_).toInt)) ∧ (own_at Z hp55 mb .int (0 : Int32) (.int e0_)) ∧ (own_at Z hp55 mb .int (2 : Int32) (.int e2_)) ∧ (¬ ((e0_).toInt = (e2_).toInt)) ∧ (own_at Z hp55 mb .int (1 : Int32) (.int e1_)) ∧ (own_at Z hp55 mb .int (2 : Int32) (.int e2_)) ∧ ((e1_).toInt ≠ (e2_).toInt) ∧ own_Aft X61 hp55 _ 424 [s0_, s1_, s2_, s3_, s4_, s5_, zI t1, zI t2, zI t3, zI b1, zI b2, zI b3, zA ao, zA mb, zI 3, zI cn, zI g0, zI g1, zI g2, zI m0, zI m1, zI m2, zI w0_, zI w1_, zI w2_, zI kk, zA bm, zU, zU, zU, zU, zU, zU, zU, zU, zU, zU] []
  refine ⟨by decide, Amb_55.at (0 : Int32) 0 rfl rfl, Amb_55.at (1 : Int32) 1 rfl rfl, by omega, Amb_55.at (0 : Int32) 0 rfl rfl, Amb_55.at (2 : Int32) 2 rfl rfl, by omega, Amb_55.at (1 : Int32) 1 rfl rfl, Amb_55.at (2 : Int32) 2 rfl rfl, by omega, fun T62 X62 eh62 => ?_⟩
  refine own_blk dec0 seq0 hby hx hZ hown hK hF 4 [] [.int e0_] X62 eh62 ?_
  show (own_at Z hp55 mb .int (0 : Int32) (.int e0_)) ∧ own_Aft X62 hp55 _ 430 [s0_, s1_, s2_, s3_, s4_, s5_, zI t1, zI t2, zI t3, zI b1, zI b2, zI b3, zA ao, zA mb, zI 3, zI cn, zI g0, zI g1, zI g2, zI m0, zI m1, zI m2, zI w0_, zI w1_, zI w2_, zI kk, zA bm, zU, zU, zU, zU, zU, zU, zU, zU, zU, zU] [.int e0_, .ref bm]
  refine ⟨Amb_55.at (0 : Int32) 0 rfl rfl, fun T63 X63 eh63 => ?_⟩
  obtain ⟨vv0, av0, cv0⟩ := own_sel3 Ar55' e0_ v00 v01
  obtain ⟨uu0, rfl, cu0⟩ : ∃ u : Int32, vv0 = .int u ∧ own_is e0_.toInt m0.toInt m1.toInt m2.toInt u.toInt := by rcases cv0 with ⟨h, rfl⟩ | ⟨h, rfl⟩ | ⟨h, rfl⟩; exact ⟨_, rfl, Or.inl ⟨h, rfl⟩⟩; exact ⟨_, rfl, Or.inr (Or.inl ⟨h, rfl⟩)⟩; exact ⟨_, rfl, Or.inr (Or.inr ⟨h, rfl⟩)⟩
  have fu0 := own_fu sk cu0 FR0; clear FR0
  refine own_bZ X63 hx hZ eh63 av0 (hb hby at_430) ?_
  show own_Go p.tables e below _ (T63.setTop (mkF m 431 (Array.mk [s0_, s1_, s2_, s3_, s4_, s5_, zI t1, zI t2, zI t3, zI b1, zI b2, zI b3, zA ao, zA mb, zI 3, zI cn, zI g0, zI g1, zI g2, zI m0, zI m1, zI m2, zI w0_, zI w1_, zI w2_, zI kk, zA bm, zU, zU, zU, zU, zU, zU, zU, zU, zU, zU]) [.int uu0]))
  suffices tl64 : ∀ (_u : Unit), own_Aft X63 hp55 (own_Fin s 40 192 (fun v h L => v = some (.int 1) ∧ Fr n0 L)) 445 [s0_, s1_, s2_, s3_, s4_, s5_, zI t1, zI t2, zI t3, zI b1, zI b2, zI b3, zA ao, zA mb, zI 3, zI cn, zI g0, zI g1, zI g2, zI m0, zI m1, zI m2, zI w0_, zI w1_, zI w2_, zI kk, zA bm, zU, zU, zU, zU, zU, zU, zU, zU, zU, zU] [] by
    by_cases q : kk.toInt ≤ 0
    · skip
      refine own_blk dec0 seq0 hby hx hZ hown hK hF 5 [true, false] [] X63 eh63 ?_
      show ((kk).toInt ≤ ((0 : Int32)).toInt) ∧ (¬ ((uu0).toInt ≠ ((0 : Int32)).toInt)) ∧ own_Aft X63 hp55 _ 445 [s0_, s1_, s2_, s3_, s4_, s5_, zI t1, zI t2, zI t3, zI b1, zI b2, zI b3, zA ao, zA mb, zI 3, zI cn, zI g0, zI g1, zI g2, zI m0, zI m1, zI m2, zI w0_, zI w1_, zI w2_, zI kk, zA bm, zU, zU, zU, zU, zU, zU, zU, zU, zU, zU] []
      refine ⟨by omega, by omega, fun T65 X65 eh65 => ?_⟩
      exact tl64 () T65 X65 eh65
    · skip
      refine own_blk dec0 seq0 hby hx hZ hown hK hF 6 [false, false] [] X63 eh63 ?_
      show (¬ ((kk).toInt ≤ ((0 : Int32)).toInt)) ∧ (¬ ((uu0).toInt ≠ ((1 : Int32)).toInt)) ∧ own_Aft X63 hp55 _ 445 [s0_, s1_, s2_, s3_, s4_, s5_, zI t1, zI t2, zI t3, zI b1, zI b2, zI b3, zA ao, zA mb, zI 3, zI cn, zI g0, zI g1, zI g2, zI m0, zI m1, zI m2, zI w0_, zI w1_, zI w2_, zI kk, zA bm, zU, zU, zU, zU, zU, zU, zU, zU, zU, zU] []
      refine ⟨by omega, by omega, fun T66 X66 eh66 => ?_⟩
      exact tl64 () T66 X66 eh66
  intro _u T64 X64 eh64
  show own_Go p.tables e below _ (T64.setTop (mkF m 445 (Array.mk [s0_, s1_, s2_, s3_, s4_, s5_, zI t1, zI t2, zI t3, zI b1, zI b2, zI b3, zA ao, zA mb, zI 3, zI cn, zI g0, zI g1, zI g2, zI m0, zI m1, zI m2, zI w0_, zI w1_, zI w2_, zI kk, zA bm, zU, zU, zU, zU, zU, zU, zU, zU, zU, zU]) []))
  refine own_blk dec0 seq0 hby hx hZ hown hK hF 4 [] [.int e1_] X64 eh64 ?_
  show (own_at Z hp55 mb .int (1 : Int32) (.int e1_)) ∧ own_Aft X64 hp55 _ 451 [s0_, s1_, s2_, s3_, s4_, s5_, zI t1, zI t2, zI t3, zI b1, zI b2, zI b3, zA ao, zA mb, zI 3, zI cn, zI g0, zI g1, zI g2, zI m0, zI m1, zI m2, zI w0_, zI w1_, zI w2_, zI kk, zA bm, zU, zU, zU, zU, zU, zU, zU, zU, zU, zU] [.int e1_, .ref bm]
  refine ⟨Amb_55.at (1 : Int32) 1 rfl rfl, fun T67 X67 eh67 => ?_⟩
  obtain ⟨vv1, av1, cv1⟩ := own_sel3 Ar55' e1_ v10 v11
  obtain ⟨uu1, rfl, cu1⟩ : ∃ u : Int32, vv1 = .int u ∧ own_is e1_.toInt m0.toInt m1.toInt m2.toInt u.toInt := by rcases cv1 with ⟨h, rfl⟩ | ⟨h, rfl⟩ | ⟨h, rfl⟩; exact ⟨_, rfl, Or.inl ⟨h, rfl⟩⟩; exact ⟨_, rfl, Or.inr (Or.inl ⟨h, rfl⟩)⟩; exact ⟨_, rfl, Or.inr (Or.inr ⟨h, rfl⟩)⟩
  have fu1 := own_fu sk cu1 FR1; clear FR1
  refine own_bZ X67 hx hZ eh67 av1 (hb hby at_451) ?_
  show own_Go p.tables e below _ (T67.setTop (mkF m 452 (Array.mk [s0_, s1_, s2_, s3_, s4_, s5_, zI t1, zI t2, zI t3, zI b1, zI b2, zI b3, zA ao, zA mb, zI 3, zI cn, zI g0, zI g1, zI g2, zI m0, zI m1, zI m2, zI w0_, zI w1_, zI w2_, zI kk, zA bm, zU, zU, zU, zU, zU, zU, zU, zU, zU, zU]) [.int uu1]))
  suffices tl68 : ∀ (_u : Unit), own_Aft X67 hp55 (own_Fin s 40 192 (fun v h L => v = some (.int 1) ∧ Fr n0 L)) 466 [s0_, s1_, s2_, s3_, s4_, s5_, zI t1, zI t2, zI t3, zI b1, zI b2, zI b3, zA ao, zA mb, zI 3, zI cn, zI g0, zI g1, zI g2, zI m0, zI m1, zI m2, zI w0_, zI w1_, zI w2_, zI kk, zA bm, zU, zU, zU, zU, zU, zU, zU, zU, zU, zU] [] by
    by_cases q : kk.toInt ≤ 1
    · skip
      refine own_blk dec0 seq0 hby hx hZ hown hK hF 5 [true, false] [] X67 eh67 ?_
      show ((kk).toInt ≤ ((1 : Int32)).toInt) ∧ (¬ ((uu1).toInt ≠ ((0 : Int32)).toInt)) ∧ own_Aft X67 hp55 _ 466 [s0_, s1_, s2_, s3_, s4_, s5_, zI t1, zI t2, zI t3, zI b1, zI b2, zI b3, zA ao, zA mb, zI 3, zI cn, zI g0, zI g1, zI g2, zI m0, zI m1, zI m2, zI w0_, zI w1_, zI w2_, zI kk, zA bm, zU, zU, zU, zU, zU, zU, zU, zU, zU, zU] []
      refine ⟨by omega, by omega, fun T69 X69 eh69 => ?_⟩
      exact tl68 () T69 X69 eh69
    · skip
      refine own_blk dec0 seq0 hby hx hZ hown hK hF 6 [false, false] [] X67 eh67 ?_
      show (¬ ((kk).toInt ≤ ((1 : Int32)).toInt)) ∧ (¬ ((uu1).toInt ≠ ((1 : Int32)).toInt)) ∧ own_Aft X67 hp55 _ 466 [s0_, s1_, s2_, s3_, s4_, s5_, zI t1, zI t2, zI t3, zI b1, zI b2, zI b3, zA ao, zA mb, zI 3, zI cn, zI g0, zI g1, zI g2, zI m0, zI m1, zI m2, zI w0_, zI w1_, zI w2_, zI kk, zA bm, zU, zU, zU, zU, zU, zU, zU, zU, zU, zU] []
      refine ⟨by omega, by omega, fun T70 X70 eh70 => ?_⟩
      exact tl68 () T70 X70 eh70
  intro _u T68 X68 eh68
  show own_Go p.tables e below _ (T68.setTop (mkF m 466 (Array.mk [s0_, s1_, s2_, s3_, s4_, s5_, zI t1, zI t2, zI t3, zI b1, zI b2, zI b3, zA ao, zA mb, zI 3, zI cn, zI g0, zI g1, zI g2, zI m0, zI m1, zI m2, zI w0_, zI w1_, zI w2_, zI kk, zA bm, zU, zU, zU, zU, zU, zU, zU, zU, zU, zU]) []))
  refine own_blk dec0 seq0 hby hx hZ hown hK hF 4 [] [.int e2_] X68 eh68 ?_
  show (own_at Z hp55 mb .int (2 : Int32) (.int e2_)) ∧ own_Aft X68 hp55 _ 472 [s0_, s1_, s2_, s3_, s4_, s5_, zI t1, zI t2, zI t3, zI b1, zI b2, zI b3, zA ao, zA mb, zI 3, zI cn, zI g0, zI g1, zI g2, zI m0, zI m1, zI m2, zI w0_, zI w1_, zI w2_, zI kk, zA bm, zU, zU, zU, zU, zU, zU, zU, zU, zU, zU] [.int e2_, .ref bm]
  refine ⟨Amb_55.at (2 : Int32) 2 rfl rfl, fun T71 X71 eh71 => ?_⟩
  obtain ⟨vv2, av2, cv2⟩ := own_sel3 Ar55' e2_ v20 v21
  obtain ⟨uu2, rfl, cu2⟩ : ∃ u : Int32, vv2 = .int u ∧ own_is e2_.toInt m0.toInt m1.toInt m2.toInt u.toInt := by rcases cv2 with ⟨h, rfl⟩ | ⟨h, rfl⟩ | ⟨h, rfl⟩; exact ⟨_, rfl, Or.inl ⟨h, rfl⟩⟩; exact ⟨_, rfl, Or.inr (Or.inl ⟨h, rfl⟩)⟩; exact ⟨_, rfl, Or.inr (Or.inr ⟨h, rfl⟩)⟩
  have fu2 := own_fu sk cu2 FR2; clear FR2
  refine own_bZ X71 hx hZ eh71 av2 (hb hby at_472) ?_
  show own_Go p.tables e below _ (T71.setTop (mkF m 473 (Array.mk [s0_, s1_, s2_, s3_, s4_, s5_, zI t1, zI t2, zI t3, zI b1, zI b2, zI b3, zA ao, zA mb, zI 3, zI cn, zI g0, zI g1, zI g2, zI m0, zI m1, zI m2, zI w0_, zI w1_, zI w2_, zI kk, zA bm, zU, zU, zU, zU, zU, zU, zU, zU, zU, zU]) [.int uu2]))
  suffices tl72 : ∀ (_u : Unit), own_Aft X71 hp55 (own_Fin s 40 192 (fun v h L => v = some (.int 1) ∧ Fr n0 L)) 487 [s0_, s1_, s2_, s3_, s4_, s5_, zI t1, zI t2, zI t3, zI b1, zI b2, zI b3, zA ao, zA mb, zI 3, zI cn, zI g0, zI g1, zI g2, zI m0, zI m1, zI m2, zI w0_, zI w1_, zI w2_, zI kk, zA bm, zU, zU, zU, zU, zU, zU, zU, zU, zU, zU] [] by
    by_cases q : kk.toInt ≤ 2
    · skip
      refine own_blk dec0 seq0 hby hx hZ hown hK hF 5 [true, false] [] X71 eh71 ?_
      show ((kk).toInt ≤ ((2 : Int32)).toInt) ∧ (¬ ((uu2).toInt ≠ ((0 : Int32)).toInt)) ∧ own_Aft X71 hp55 _ 487 [s0_, s1_, s2_, s3_, s4_, s5_, zI t1, zI t2, zI t3, zI b1, zI b2, zI b3, zA ao, zA mb, zI 3, zI cn, zI g0, zI g1, zI g2, zI m0, zI m1, zI m2, zI w0_, zI w1_, zI w2_, zI kk, zA bm, zU, zU, zU, zU, zU, zU, zU, zU, zU, zU] []
      refine ⟨by omega, by omega, fun T73 X73 eh73 => ?_⟩
      exact tl72 () T73 X73 eh73
    · skip
      refine own_blk dec0 seq0 hby hx hZ hown hK hF 6 [false, false] [] X71 eh71 ?_
      show (¬ ((kk).toInt ≤ ((2 : Int32)).toInt)) ∧ (¬ ((uu2).toInt ≠ ((1 : Int32)).toInt)) ∧ own_Aft X71 hp55 _ 487 [s0_, s1_, s2_, s3_, s4_, s5_, zI t1, zI t2, zI t3, zI b1, zI b2, zI b3, zA ao, zA mb, zI 3, zI cn, zI g0, zI g1, zI g2, zI m0, zI m1, zI m2, zI w0_, zI w1_, zI w2_, zI kk, zA bm, zU, zU, zU, zU, zU, zU, zU, zU, zU, zU] []
      refine ⟨by omega, by omega, fun T74 X74 eh74 => ?_⟩
      exact tl72 () T74 X74 eh74
  intro _u T72 X72 eh72
  show own_Go p.tables e below _ (T72.setTop (mkF m 487 (Array.mk [s0_, s1_, s2_, s3_, s4_, s5_, zI t1, zI t2, zI t3, zI b1, zI b2, zI b3, zA ao, zA mb, zI 3, zI cn, zI g0, zI g1, zI g2, zI m0, zI m1, zI m2, zI w0_, zI w1_, zI w2_, zI kk, zA bm, zU, zU, zU, zU, zU, zU, zU, zU, zU, zU]) []))
  clear fu0 fu1 fu2
  refine own_blk dec0 seq0 hby hx hZ hown hK hF 9 [] [] X72 eh72 ?_
  show own_Aft X72 hp55 _ 506 [s0_, s1_, s2_, s3_, s4_, s5_, zI t1, zI t2, zI t3, zI b1, zI b2, zI b3, zA ao, zA mb, zI 3, zI cn, zI g0, zI g1, zI g2, zI m0, zI m1, zI m2, zI w0_, zI w1_, zI w2_, zI kk, zA bm, zI 1, zU, zU, zU, zU, zU, zU, zU, zU, zU] [.int w2_, .int m2, .int w1_, .int m1, .int w0_, .int m0]
  refine fun T75 X75 eh75 => ?_
  refine own_callSP X75 hx hZ hown (hw _ (wm 118 rfl)) (hw _ (wm 119 rfl)) (hw _ (wm 112 rfl)) (hw _ (wm 120 rfl)) (by decide) eh75 [.int m0, .int w0_, .int m1, .int w1_, .int m2, .int w2_] pd21 rfl (fr := 1) (lo := 24) (rm21 l Z a0 hw [] m0 w0_ m1 w1_ m2 w2_ hp55 n0 Z_55) (by rw [hml]; rfl) 0 rfl (Nat.le_of_eq rfl) (hb hby at_506) (by decide) (by decide) (by decide) (by decide) (fun T76 rv76 X76 eh76 qc76 => ?_)
  obtain ⟨r0_, rfl, br0_, er0_⟩ := qc76
  show own_Go p.tables e below _ (T76.setTop (mkF m 509 (Array.mk [s0_, s1_, s2_, s3_, s4_, s5_, zI t1, zI t2, zI t3, zI b1, zI b2, zI b3, zA ao, zA mb, zI 3, zI cn, zI g0, zI g1, zI g2, zI m0, zI m1, zI m2, zI w0_, zI w1_, zI w2_, zI kk, zA bm, zI 1, zU, zU, zU, zU, zU, zU, zU, zU, zU]) [.int r0_]))
  refine own_blk dec0 seq0 hby hx hZ hown hK hF 7 [] [] X76 eh76 ?_
  show own_Aft X76 hp55 _ 523 [s0_, s1_, s2_, s3_, s4_, s5_, zI t1, zI t2, zI t3, zI b1, zI b2, zI b3, zA ao, zA mb, zI 3, zI cn, zI g0, zI g1, zI g2, zI m0, zI m1, zI m2, zI w0_, zI w1_, zI w2_, zI kk, zA bm, zI 1, zI r0_, zU, zU, zU, zU, zU, zU, zU, zU] [.int w2_, .int m2, .int w0_, .int m0, .int w1_, .int m1]
  refine fun T77 X77 eh77 => ?_
  refine own_callSP X77 hx hZ hown (hw _ (wm 118 rfl)) (hw _ (wm 119 rfl)) (hw _ (wm 112 rfl)) (hw _ (wm 120 rfl)) (by decide) eh77 [.int m1, .int w1_, .int m0, .int w0_, .int m2, .int w2_] pd21 rfl (fr := 1) (lo := 24) (rm21 l Z a0 hw [] m1 w1_ m0 w0_ m2 w2_ hp55 n0 Z_55) (by rw [hml]; rfl) 0 rfl (Nat.le_of_eq rfl) (hb hby at_523) (by decide) (by decide) (by decide) (by decide) (fun T78 rv78 X78 eh78 qc78 => ?_)
  obtain ⟨r1_, rfl, br1_, er1_⟩ := qc78
  show own_Go p.tables e below _ (T78.setTop (mkF m 526 (Array.mk [s0_, s1_, s2_, s3_, s4_, s5_, zI t1, zI t2, zI t3, zI b1, zI b2, zI b3, zA ao, zA mb, zI 3, zI cn, zI g0, zI g1, zI g2, zI m0, zI m1, zI m2, zI w0_, zI w1_, zI w2_, zI kk, zA bm, zI 1, zI r0_, zU, zU, zU, zU, zU, zU, zU, zU]) [.int r1_]))
  refine own_blk dec0 seq0 hby hx hZ hown hK hF 7 [] [] X78 eh78 ?_
  show own_Aft X78 hp55 _ 540 [s0_, s1_, s2_, s3_, s4_, s5_, zI t1, zI t2, zI t3, zI b1, zI b2, zI b3, zA ao, zA mb, zI 3, zI cn, zI g0, zI g1, zI g2, zI m0, zI m1, zI m2, zI w0_, zI w1_, zI w2_, zI kk, zA bm, zI 1, zI r0_, zI r1_, zU, zU, zU, zU, zU, zU, zU] [.int w1_, .int m1, .int w0_, .int m0, .int w2_, .int m2]
  refine fun T79 X79 eh79 => ?_
  refine own_callSP X79 hx hZ hown (hw _ (wm 118 rfl)) (hw _ (wm 119 rfl)) (hw _ (wm 112 rfl)) (hw _ (wm 120 rfl)) (by decide) eh79 [.int m2, .int w2_, .int m0, .int w0_, .int m1, .int w1_] pd21 rfl (fr := 1) (lo := 24) (rm21 l Z a0 hw [] m2 w2_ m0 w0_ m1 w1_ hp55 n0 Z_55) (by rw [hml]; rfl) 0 rfl (Nat.le_of_eq rfl) (hb hby at_540) (by decide) (by decide) (by decide) (by decide) (fun T80 rv80 X80 eh80 qc80 => ?_)
  obtain ⟨r2_, rfl, br2_, er2_⟩ := qc80
  show own_Go p.tables e below _ (T80.setTop (mkF m 543 (Array.mk [s0_, s1_, s2_, s3_, s4_, s5_, zI t1, zI t2, zI t3, zI b1, zI b2, zI b3, zA ao, zA mb, zI 3, zI cn, zI g0, zI g1, zI g2, zI m0, zI m1, zI m2, zI w0_, zI w1_, zI w2_, zI kk, zA bm, zI 1, zI r0_, zI r1_, zU, zU, zU, zU, zU, zU, zU]) [.int r2_]))
  refine own_blk dec0 seq0 hby hx hZ hown hK hF 6 [] [] X80 eh80 ?_
  show own_Aft X80 hp55 _ 554 [s0_, s1_, s2_, s3_, s4_, s5_, zI t1, zI t2, zI t3, zI b1, zI b2, zI b3, zA ao, zA mb, zI 3, zI cn, zI g0, zI g1, zI g2, zI m0, zI m1, zI m2, zI w0_, zI w1_, zI w2_, zI kk, zA bm, zI 1, zI r0_, zI r1_, zI r2_, zU, zU, zU, zU, zU, zU] [.int w1_, .int m1, .int w0_, .int m0, .int 1]
  refine fun T81 X81 eh81 => ?_
  refine own_callSP X81 hx hZ hown (hw _ (wm 124 rfl)) (hw _ (wm 125 rfl)) (hw _ (wm 112 rfl)) (hw _ (wm 126 rfl)) (by decide) eh81 [.int m0, .int w0_, .int m1, .int w1_] pd23 rfl (fr := 0) (lo := 0) (rm23 l Z a0 hw [] m0 w0_ m1 w1_ hp55 n0 Z_55) (by rw [hml]; rfl) 1 rfl (Nat.le_of_eq rfl) (hb hby at_554) (by decide) (by decide) (by decide) (by decide) (fun T82 rv82 X82 eh82 qc82 => ?_)
  obtain ⟨y01, rfl, hy01, ey01⟩ := qc82
  show own_Go p.tables e below _ (T82.setTop (mkF m 557 (Array.mk [s0_, s1_, s2_, s3_, s4_, s5_, zI t1, zI t2, zI t3, zI b1, zI b2, zI b3, zA ao, zA mb, zI 3, zI cn, zI g0, zI g1, zI g2, zI m0, zI m1, zI m2, zI w0_, zI w1_, zI w2_, zI kk, zA bm, zI 1, zI r0_, zI r1_, zI r2_, zU, zU, zU, zU, zU, zU]) [.int y01, .int 1]))
  suffices tl83 : ∀ (_u : Unit), own_Aft X82 hp55 (own_Fin s 40 192 (fun v h L => v = some (.int 1) ∧ Fr n0 L)) 565 [s0_, s1_, s2_, s3_, s4_, s5_, zI t1, zI t2, zI t3, zI b1, zI b2, zI b3, zA ao, zA mb, zI 3, zI cn, zI g0, zI g1, zI g2, zI m0, zI m1, zI m2, zI w0_, zI w1_, zI w2_, zI kk, zA bm, zI 1, zI r0_, zI r1_, zI r2_, zU, zU, zU, zU, zU, zU] [.int y01, .int 1] by
    rcases hy01 with rfl | rfl
    · skip
      show own_Go p.tables e below _ (T82.setTop (mkF m 557 (Array.mk [s0_, s1_, s2_, s3_, s4_, s5_, zI t1, zI t2, zI t3, zI b1, zI b2, zI b3, zA ao, zA mb, zI 3, zI cn, zI g0, zI g1, zI g2, zI m0, zI m1, zI m2, zI w0_, zI w1_, zI w2_, zI kk, zA bm, zI 1, zI r0_, zI r1_, zI r2_, zU, zU, zU, zU, zU, zU]) [.int 1, .int 1]))
      refine own_blk dec0 seq0 hby hx hZ hown hK hF 3 [false] [] X82 eh82 ?_
      show (¬ (((1 : Int32)).toInt = 0)) ∧ own_Aft X82 hp55 _ 565 [s0_, s1_, s2_, s3_, s4_, s5_, zI t1, zI t2, zI t3, zI b1, zI b2, zI b3, zA ao, zA mb, zI 3, zI cn, zI g0, zI g1, zI g2, zI m0, zI m1, zI m2, zI w0_, zI w1_, zI w2_, zI kk, zA bm, zI 1, zI r0_, zI r1_, zI r2_, zU, zU, zU, zU, zU, zU] [.int 1, .int 1]
      refine ⟨by decide, fun T84 X84 eh84 => ?_⟩
      exact tl83 () T84 X84 eh84
    · skip
      show own_Go p.tables e below _ (T82.setTop (mkF m 557 (Array.mk [s0_, s1_, s2_, s3_, s4_, s5_, zI t1, zI t2, zI t3, zI b1, zI b2, zI b3, zA ao, zA mb, zI 3, zI cn, zI g0, zI g1, zI g2, zI m0, zI m1, zI m2, zI w0_, zI w1_, zI w2_, zI kk, zA bm, zI 1, zI r0_, zI r1_, zI r2_, zU, zU, zU, zU, zU, zU]) [.int 0, .int 1]))
      refine own_blk dec0 seq0 hby hx hZ hown hK hF 2 [true] [] X82 eh82 ?_
      show (((0 : Int32)).toInt = 0) ∧ own_Aft X82 hp55 _ 565 [s0_, s1_, s2_, s3_, s4_, s5_, zI t1, zI t2, zI t3, zI b1, zI b2, zI b3, zA ao, zA mb, zI 3, zI cn, zI g0, zI g1, zI g2, zI m0, zI m1, zI m2, zI w0_, zI w1_, zI w2_, zI kk, zA bm, zI 1, zI r0_, zI r1_, zI r2_, zU, zU, zU, zU, zU, zU] [.int 0, .int 1]
      refine ⟨by decide, fun T85 X85 eh85 => ?_⟩
      exact tl83 () T85 X85 eh85
  intro _u T83 X83 eh83
  show own_Go p.tables e below _ (T83.setTop (mkF m 565 (Array.mk [s0_, s1_, s2_, s3_, s4_, s5_, zI t1, zI t2, zI t3, zI b1, zI b2, zI b3, zA ao, zA mb, zI 3, zI cn, zI g0, zI g1, zI g2, zI m0, zI m1, zI m2, zI w0_, zI w1_, zI w2_, zI kk, zA bm, zI 1, zI r0_, zI r1_, zI r2_, zU, zU, zU, zU, zU, zU]) [.int y01, .int 1]))
  refine own_blk dec0 seq0 hby hx hZ hown hK hF 5 [] [] X83 eh83 ?_
  show own_Aft X83 hp55 _ 574 [s0_, s1_, s2_, s3_, s4_, s5_, zI t1, zI t2, zI t3, zI b1, zI b2, zI b3, zA ao, zA mb, zI 3, zI cn, zI g0, zI g1, zI g2, zI m0, zI m1, zI m2, zI w0_, zI w1_, zI w2_, zI kk, zA bm, zI 1, zI r0_, zI r1_, zI r2_, zU, zU, zU, zU, zU, zU] [.int w2_, .int m2, .int w0_, .int m0, .int ((1 : Int32) + y01)]
  refine fun T86 X86 eh86 => ?_
  refine own_callSP X86 hx hZ hown (hw _ (wm 124 rfl)) (hw _ (wm 125 rfl)) (hw _ (wm 112 rfl)) (hw _ (wm 126 rfl)) (by decide) eh86 [.int m0, .int w0_, .int m2, .int w2_] pd23 rfl (fr := 0) (lo := 0) (rm23 l Z a0 hw [] m0 w0_ m2 w2_ hp55 n0 Z_55) (by rw [hml]; rfl) 1 rfl (Nat.le_of_eq rfl) (hb hby at_574) (by decide) (by decide) (by decide) (by decide) (fun T87 rv87 X87 eh87 qc87 => ?_)
  obtain ⟨y02, rfl, hy02, ey02⟩ := qc87
  show own_Go p.tables e below _ (T87.setTop (mkF m 577 (Array.mk [s0_, s1_, s2_, s3_, s4_, s5_, zI t1, zI t2, zI t3, zI b1, zI b2, zI b3, zA ao, zA mb, zI 3, zI cn, zI g0, zI g1, zI g2, zI m0, zI m1, zI m2, zI w0_, zI w1_, zI w2_, zI kk, zA bm, zI 1, zI r0_, zI r1_, zI r2_, zU, zU, zU, zU, zU, zU]) [.int y02, .int ((1 : Int32) + y01)]))
  suffices tl88 : ∀ (_u : Unit), own_Aft X87 hp55 (own_Fin s 40 192 (fun v h L => v = some (.int 1) ∧ Fr n0 L)) 585 [s0_, s1_, s2_, s3_, s4_, s5_, zI t1, zI t2, zI t3, zI b1, zI b2, zI b3, zA ao, zA mb, zI 3, zI cn, zI g0, zI g1, zI g2, zI m0, zI m1, zI m2, zI w0_, zI w1_, zI w2_, zI kk, zA bm, zI 1, zI r0_, zI r1_, zI r2_, zU, zU, zU, zU, zU, zU] [.int y02, .int ((1 : Int32) + y01)] by
    rcases hy02 with rfl | rfl
    · skip
      show own_Go p.tables e below _ (T87.setTop (mkF m 577 (Array.mk [s0_, s1_, s2_, s3_, s4_, s5_, zI t1, zI t2, zI t3, zI b1, zI b2, zI b3, zA ao, zA mb, zI 3, zI cn, zI g0, zI g1, zI g2, zI m0, zI m1, zI m2, zI w0_, zI w1_, zI w2_, zI kk, zA bm, zI 1, zI r0_, zI r1_, zI r2_, zU, zU, zU, zU, zU, zU]) [.int 1, .int ((1 : Int32) + y01)]))
      refine own_blk dec0 seq0 hby hx hZ hown hK hF 3 [false] [] X87 eh87 ?_
      show (¬ (((1 : Int32)).toInt = 0)) ∧ own_Aft X87 hp55 _ 585 [s0_, s1_, s2_, s3_, s4_, s5_, zI t1, zI t2, zI t3, zI b1, zI b2, zI b3, zA ao, zA mb, zI 3, zI cn, zI g0, zI g1, zI g2, zI m0, zI m1, zI m2, zI w0_, zI w1_, zI w2_, zI kk, zA bm, zI 1, zI r0_, zI r1_, zI r2_, zU, zU, zU, zU, zU, zU] [.int 1, .int ((1 : Int32) + y01)]
      refine ⟨by decide, fun T89 X89 eh89 => ?_⟩
      exact tl88 () T89 X89 eh89
    · skip
      show own_Go p.tables e below _ (T87.setTop (mkF m 577 (Array.mk [s0_, s1_, s2_, s3_, s4_, s5_, zI t1, zI t2, zI t3, zI b1, zI b2, zI b3, zA ao, zA mb, zI 3, zI cn, zI g0, zI g1, zI g2, zI m0, zI m1, zI m2, zI w0_, zI w1_, zI w2_, zI kk, zA bm, zI 1, zI r0_, zI r1_, zI r2_, zU, zU, zU, zU, zU, zU]) [.int 0, .int ((1 : Int32) + y01)]))
      refine own_blk dec0 seq0 hby hx hZ hown hK hF 2 [true] [] X87 eh87 ?_
      show (((0 : Int32)).toInt = 0) ∧ own_Aft X87 hp55 _ 585 [s0_, s1_, s2_, s3_, s4_, s5_, zI t1, zI t2, zI t3, zI b1, zI b2, zI b3, zA ao, zA mb, zI 3, zI cn, zI g0, zI g1, zI g2, zI m0, zI m1, zI m2, zI w0_, zI w1_, zI w2_, zI kk, zA bm, zI 1, zI r0_, zI r1_, zI r2_, zU, zU, zU, zU, zU, zU] [.int 0, .int ((1 : Int32) + y01)]
      refine ⟨by decide, fun T90 X90 eh90 => ?_⟩
      exact tl88 () T90 X90 eh90
  intro _u T88 X88 eh88
  show own_Go p.tables e below _ (T88.setTop (mkF m 585 (Array.mk [s0_, s1_, s2_, s3_, s4_, s5_, zI t1, zI t2, zI t3, zI b1, zI b2, zI b3, zA ao, zA mb, zI 3, zI cn, zI g0, zI g1, zI g2, zI m0, zI m1, zI m2, zI w0_, zI w1_, zI w2_, zI kk, zA bm, zI 1, zI r0_, zI r1_, zI r2_, zU, zU, zU, zU, zU, zU]) [.int y02, .int ((1 : Int32) + y01)]))
  refine own_blk dec0 seq0 hby hx hZ hown hK hF 7 [] [] X88 eh88 ?_
  show own_Aft X88 hp55 _ 597 [s0_, s1_, s2_, s3_, s4_, s5_, zI t1, zI t2, zI t3, zI b1, zI b2, zI b3, zA ao, zA mb, zI 3, zI cn, zI g0, zI g1, zI g2, zI m0, zI m1, zI m2, zI w0_, zI w1_, zI w2_, zI kk, zA bm, zI 1, zI r0_, zI r1_, zI r2_, zI (((1 : Int32) + y01) + y02), zU, zU, zU, zU, zU] [.int w0_, .int m0, .int w1_, .int m1, .int 1]
  refine fun T91 X91 eh91 => ?_
  refine own_callSP X91 hx hZ hown (hw _ (wm 124 rfl)) (hw _ (wm 125 rfl)) (hw _ (wm 112 rfl)) (hw _ (wm 126 rfl)) (by decide) eh91 [.int m1, .int w1_, .int m0, .int w0_] pd23 rfl (fr := 0) (lo := 0) (rm23 l Z a0 hw [] m1 w1_ m0 w0_ hp55 n0 Z_55) (by rw [hml]; rfl) 1 rfl (Nat.le_of_eq rfl) (hb hby at_597) (by decide) (by decide) (by decide) (by decide) (fun T92 rv92 X92 eh92 qc92 => ?_)
  obtain ⟨y10, rfl, hy10, ey10⟩ := qc92
  show own_Go p.tables e below _ (T92.setTop (mkF m 600 (Array.mk [s0_, s1_, s2_, s3_, s4_, s5_, zI t1, zI t2, zI t3, zI b1, zI b2, zI b3, zA ao, zA mb, zI 3, zI cn, zI g0, zI g1, zI g2, zI m0, zI m1, zI m2, zI w0_, zI w1_, zI w2_, zI kk, zA bm, zI 1, zI r0_, zI r1_, zI r2_, zI (((1 : Int32) + y01) + y02), zU, zU, zU, zU, zU]) [.int y10, .int 1]))
  suffices tl93 : ∀ (_u : Unit), own_Aft X92 hp55 (own_Fin s 40 192 (fun v h L => v = some (.int 1) ∧ Fr n0 L)) 608 [s0_, s1_, s2_, s3_, s4_, s5_, zI t1, zI t2, zI t3, zI b1, zI b2, zI b3, zA ao, zA mb, zI 3, zI cn, zI g0, zI g1, zI g2, zI m0, zI m1, zI m2, zI w0_, zI w1_, zI w2_, zI kk, zA bm, zI 1, zI r0_, zI r1_, zI r2_, zI (((1 : Int32) + y01) + y02), zU, zU, zU, zU, zU] [.int y10, .int 1] by
    rcases hy10 with rfl | rfl
    · skip
      show own_Go p.tables e below _ (T92.setTop (mkF m 600 (Array.mk [s0_, s1_, s2_, s3_, s4_, s5_, zI t1, zI t2, zI t3, zI b1, zI b2, zI b3, zA ao, zA mb, zI 3, zI cn, zI g0, zI g1, zI g2, zI m0, zI m1, zI m2, zI w0_, zI w1_, zI w2_, zI kk, zA bm, zI 1, zI r0_, zI r1_, zI r2_, zI (((1 : Int32) + y01) + y02), zU, zU, zU, zU, zU]) [.int 1, .int 1]))
      refine own_blk dec0 seq0 hby hx hZ hown hK hF 3 [false] [] X92 eh92 ?_
      show (¬ (((1 : Int32)).toInt = 0)) ∧ own_Aft X92 hp55 _ 608 [s0_, s1_, s2_, s3_, s4_, s5_, zI t1, zI t2, zI t3, zI b1, zI b2, zI b3, zA ao, zA mb, zI 3, zI cn, zI g0, zI g1, zI g2, zI m0, zI m1, zI m2, zI w0_, zI w1_, zI w2_, zI kk, zA bm, zI 1, zI r0_, zI r1_, zI r2_, zI (((1 : Int32) + y01) + y02), zU, zU, zU, zU, zU] [.int 1, .int 1]
      refine ⟨by decide, fun T94 X94 eh94 => ?_⟩
      exact tl93 () T94 X94 eh94
    · skip
      show own_Go p.tables e below _ (T92.setTop (mkF m 600 (Array.mk [s0_, s1_, s2_, s3_, s4_, s5_, zI t1, zI t2, zI t3, zI b1, zI b2, zI b3, zA ao, zA mb, zI 3, zI cn, zI g0, zI g1, zI g2, zI m0, zI m1, zI m2, zI w0_, zI w1_, zI w2_, zI kk, zA bm, zI 1, zI r0_, zI r1_, zI r2_, zI (((1 : Int32) + y01) + y02), zU, zU, zU, zU, zU]) [.int 0, .int 1]))
      refine own_blk dec0 seq0 hby hx hZ hown hK hF 2 [true] [] X92 eh92 ?_
      show (((0 : Int32)).toInt = 0) ∧ own_Aft X92 hp55 _ 608 [s0_, s1_, s2_, s3_, s4_, s5_, zI t1, zI t2, zI t3, zI b1, zI b2, zI b3, zA ao, zA mb, zI 3, zI cn, zI g0, zI g1, zI g2, zI m0, zI m1, zI m2, zI w0_, zI w1_, zI w2_, zI kk, zA bm, zI 1, zI r0_, zI r1_, zI r2_, zI (((1 : Int32) + y01) + y02), zU, zU, zU, zU, zU] [.int 0, .int 1]
      refine ⟨by decide, fun T95 X95 eh95 => ?_⟩
      exact tl93 () T95 X95 eh95
  intro _u T93 X93 eh93
  show own_Go p.tables e below _ (T93.setTop (mkF m 608 (Array.mk [s0_, s1_, s2_, s3_, s4_, s5_, zI t1, zI t2, zI t3, zI b1, zI b2, zI b3, zA ao, zA mb, zI 3, zI cn, zI g0, zI g1, zI g2, zI m0, zI m1, zI m2, zI w0_, zI w1_, zI w2_, zI kk, zA bm, zI 1, zI r0_, zI r1_, zI r2_, zI (((1 : Int32) + y01) + y02), zU, zU, zU, zU, zU]) [.int y10, .int 1]))
  refine own_blk dec0 seq0 hby hx hZ hown hK hF 5 [] [] X93 eh93 ?_
  show own_Aft X93 hp55 _ 617 [s0_, s1_, s2_, s3_, s4_, s5_, zI t1, zI t2, zI t3, zI b1, zI b2, zI b3, zA ao, zA mb, zI 3, zI cn, zI g0, zI g1, zI g2, zI m0, zI m1, zI m2, zI w0_, zI w1_, zI w2_, zI kk, zA bm, zI 1, zI r0_, zI r1_, zI r2_, zI (((1 : Int32) + y01) + y02), zU, zU, zU, zU, zU] [.int w2_, .int m2, .int w1_, .int m1, .int ((1 : Int32) + y10)]
  refine fun T96 X96 eh96 => ?_
  refine own_callSP X96 hx hZ hown (hw _ (wm 124 rfl)) (hw _ (wm 125 rfl)) (hw _ (wm 112 rfl)) (hw _ (wm 126 rfl)) (by decide) eh96 [.int m1, .int w1_, .int m2, .int w2_] pd23 rfl (fr := 0) (lo := 0) (rm23 l Z a0 hw [] m1 w1_ m2 w2_ hp55 n0 Z_55) (by rw [hml]; rfl) 1 rfl (Nat.le_of_eq rfl) (hb hby at_617) (by decide) (by decide) (by decide) (by decide) (fun T97 rv97 X97 eh97 qc97 => ?_)
  obtain ⟨y12, rfl, hy12, ey12⟩ := qc97
  show own_Go p.tables e below _ (T97.setTop (mkF m 620 (Array.mk [s0_, s1_, s2_, s3_, s4_, s5_, zI t1, zI t2, zI t3, zI b1, zI b2, zI b3, zA ao, zA mb, zI 3, zI cn, zI g0, zI g1, zI g2, zI m0, zI m1, zI m2, zI w0_, zI w1_, zI w2_, zI kk, zA bm, zI 1, zI r0_, zI r1_, zI r2_, zI (((1 : Int32) + y01) + y02), zU, zU, zU, zU, zU]) [.int y12, .int ((1 : Int32) + y10)]))
  suffices tl98 : ∀ (_u : Unit), own_Aft X97 hp55 (own_Fin s 40 192 (fun v h L => v = some (.int 1) ∧ Fr n0 L)) 628 [s0_, s1_, s2_, s3_, s4_, s5_, zI t1, zI t2, zI t3, zI b1, zI b2, zI b3, zA ao, zA mb, zI 3, zI cn, zI g0, zI g1, zI g2, zI m0, zI m1, zI m2, zI w0_, zI w1_, zI w2_, zI kk, zA bm, zI 1, zI r0_, zI r1_, zI r2_, zI (((1 : Int32) + y01) + y02), zU, zU, zU, zU, zU] [.int y12, .int ((1 : Int32) + y10)] by
    rcases hy12 with rfl | rfl
    · skip
      show own_Go p.tables e below _ (T97.setTop (mkF m 620 (Array.mk [s0_, s1_, s2_, s3_, s4_, s5_, zI t1, zI t2, zI t3, zI b1, zI b2, zI b3, zA ao, zA mb, zI 3, zI cn, zI g0, zI g1, zI g2, zI m0, zI m1, zI m2, zI w0_, zI w1_, zI w2_, zI kk, zA bm, zI 1, zI r0_, zI r1_, zI r2_, zI (((1 : Int32) + y01) + y02), zU, zU, zU, zU, zU]) [.int 1, .int ((1 : Int32) + y10)]))
      refine own_blk dec0 seq0 hby hx hZ hown hK hF 3 [false] [] X97 eh97 ?_
      show (¬ (((1 : Int32)).toInt = 0)) ∧ own_Aft X97 hp55 _ 628 [s0_, s1_, s2_, s3_, s4_, s5_, zI t1, zI t2, zI t3, zI b1, zI b2, zI b3, zA ao, zA mb, zI 3, zI cn, zI g0, zI g1, zI g2, zI m0, zI m1, zI m2, zI w0_, zI w1_, zI w2_, zI kk, zA bm, zI 1, zI r0_, zI r1_, zI r2_, zI (((1 : Int32) + y01) + y02), zU, zU, zU, zU, zU] [.int 1, .int ((1 : Int32) + y10)]
      refine ⟨by decide, fun T99 X99 eh99 => ?_⟩
      exact tl98 () T99 X99 eh99
    · skip
      show own_Go p.tables e below _ (T97.setTop (mkF m 620 (Array.mk [s0_, s1_, s2_, s3_, s4_, s5_, zI t1, zI t2, zI t3, zI b1, zI b2, zI b3, zA ao, zA mb, zI 3, zI cn, zI g0, zI g1, zI g2, zI m0, zI m1, zI m2, zI w0_, zI w1_, zI w2_, zI kk, zA bm, zI 1, zI r0_, zI r1_, zI r2_, zI (((1 : Int32) + y01) + y02), zU, zU, zU, zU, zU]) [.int 0, .int ((1 : Int32) + y10)]))
      refine own_blk dec0 seq0 hby hx hZ hown hK hF 2 [true] [] X97 eh97 ?_
      show (((0 : Int32)).toInt = 0) ∧ own_Aft X97 hp55 _ 628 [s0_, s1_, s2_, s3_, s4_, s5_, zI t1, zI t2, zI t3, zI b1, zI b2, zI b3, zA ao, zA mb, zI 3, zI cn, zI g0, zI g1, zI g2, zI m0, zI m1, zI m2, zI w0_, zI w1_, zI w2_, zI kk, zA bm, zI 1, zI r0_, zI r1_, zI r2_, zI (((1 : Int32) + y01) + y02), zU, zU, zU, zU, zU] [.int 0, .int ((1 : Int32) + y10)]
      refine ⟨by decide, fun T100 X100 eh100 => ?_⟩
      exact tl98 () T100 X100 eh100
  intro _u T98 X98 eh98
  show own_Go p.tables e below _ (T98.setTop (mkF m 628 (Array.mk [s0_, s1_, s2_, s3_, s4_, s5_, zI t1, zI t2, zI t3, zI b1, zI b2, zI b3, zA ao, zA mb, zI 3, zI cn, zI g0, zI g1, zI g2, zI m0, zI m1, zI m2, zI w0_, zI w1_, zI w2_, zI kk, zA bm, zI 1, zI r0_, zI r1_, zI r2_, zI (((1 : Int32) + y01) + y02), zU, zU, zU, zU, zU]) [.int y12, .int ((1 : Int32) + y10)]))
  refine own_blk dec0 seq0 hby hx hZ hown hK hF 7 [] [] X98 eh98 ?_
  show own_Aft X98 hp55 _ 640 [s0_, s1_, s2_, s3_, s4_, s5_, zI t1, zI t2, zI t3, zI b1, zI b2, zI b3, zA ao, zA mb, zI 3, zI cn, zI g0, zI g1, zI g2, zI m0, zI m1, zI m2, zI w0_, zI w1_, zI w2_, zI kk, zA bm, zI 1, zI r0_, zI r1_, zI r2_, zI (((1 : Int32) + y01) + y02), zI (((1 : Int32) + y10) + y12), zU, zU, zU, zU] [.int w0_, .int m0, .int w2_, .int m2, .int 1]
  refine fun T101 X101 eh101 => ?_
  refine own_callSP X101 hx hZ hown (hw _ (wm 124 rfl)) (hw _ (wm 125 rfl)) (hw _ (wm 112 rfl)) (hw _ (wm 126 rfl)) (by decide) eh101 [.int m2, .int w2_, .int m0, .int w0_] pd23 rfl (fr := 0) (lo := 0) (rm23 l Z a0 hw [] m2 w2_ m0 w0_ hp55 n0 Z_55) (by rw [hml]; rfl) 1 rfl (Nat.le_of_eq rfl) (hb hby at_640) (by decide) (by decide) (by decide) (by decide) (fun T102 rv102 X102 eh102 qc102 => ?_)
  obtain ⟨y20, rfl, hy20, ey20⟩ := qc102
  show own_Go p.tables e below _ (T102.setTop (mkF m 643 (Array.mk [s0_, s1_, s2_, s3_, s4_, s5_, zI t1, zI t2, zI t3, zI b1, zI b2, zI b3, zA ao, zA mb, zI 3, zI cn, zI g0, zI g1, zI g2, zI m0, zI m1, zI m2, zI w0_, zI w1_, zI w2_, zI kk, zA bm, zI 1, zI r0_, zI r1_, zI r2_, zI (((1 : Int32) + y01) + y02), zI (((1 : Int32) + y10) + y12), zU, zU, zU, zU]) [.int y20, .int 1]))
  suffices tl103 : ∀ (_u : Unit), own_Aft X102 hp55 (own_Fin s 40 192 (fun v h L => v = some (.int 1) ∧ Fr n0 L)) 651 [s0_, s1_, s2_, s3_, s4_, s5_, zI t1, zI t2, zI t3, zI b1, zI b2, zI b3, zA ao, zA mb, zI 3, zI cn, zI g0, zI g1, zI g2, zI m0, zI m1, zI m2, zI w0_, zI w1_, zI w2_, zI kk, zA bm, zI 1, zI r0_, zI r1_, zI r2_, zI (((1 : Int32) + y01) + y02), zI (((1 : Int32) + y10) + y12), zU, zU, zU, zU] [.int y20, .int 1] by
    rcases hy20 with rfl | rfl
    · skip
      show own_Go p.tables e below _ (T102.setTop (mkF m 643 (Array.mk [s0_, s1_, s2_, s3_, s4_, s5_, zI t1, zI t2, zI t3, zI b1, zI b2, zI b3, zA ao, zA mb, zI 3, zI cn, zI g0, zI g1, zI g2, zI m0, zI m1, zI m2, zI w0_, zI w1_, zI w2_, zI kk, zA bm, zI 1, zI r0_, zI r1_, zI r2_, zI (((1 : Int32) + y01) + y02), zI (((1 : Int32) + y10) + y12), zU, zU, zU, zU]) [.int 1, .int 1]))
      refine own_blk dec0 seq0 hby hx hZ hown hK hF 3 [false] [] X102 eh102 ?_
      show (¬ (((1 : Int32)).toInt = 0)) ∧ own_Aft X102 hp55 _ 651 [s0_, s1_, s2_, s3_, s4_, s5_, zI t1, zI t2, zI t3, zI b1, zI b2, zI b3, zA ao, zA mb, zI 3, zI cn, zI g0, zI g1, zI g2, zI m0, zI m1, zI m2, zI w0_, zI w1_, zI w2_, zI kk, zA bm, zI 1, zI r0_, zI r1_, zI r2_, zI (((1 : Int32) + y01) + y02), zI (((1 : Int32) + y10) + y12), zU, zU, zU, zU] [.int 1, .int 1]
      refine ⟨by decide, fun T104 X104 eh104 => ?_⟩
      exact tl103 () T104 X104 eh104
    · skip
      show own_Go p.tables e below _ (T102.setTop (mkF m 643 (Array.mk [s0_, s1_, s2_, s3_, s4_, s5_, zI t1, zI t2, zI t3, zI b1, zI b2, zI b3, zA ao, zA mb, zI 3, zI cn, zI g0, zI g1, zI g2, zI m0, zI m1, zI m2, zI w0_, zI w1_, zI w2_, zI kk, zA bm, zI 1, zI r0_, zI r1_, zI r2_, zI (((1 : Int32) + y01) + y02), zI (((1 : Int32) + y10) + y12), zU, zU, zU, zU]) [.int 0, .int 1]))
      refine own_blk dec0 seq0 hby hx hZ hown hK hF 2 [true] [] X102 eh102 ?_
      show (((0 : Int32)).toInt = 0) ∧ own_Aft X102 hp55 _ 651 [s0_, s1_, s2_, s3_, s4_, s5_, zI t1, zI t2, zI t3, zI b1, zI b2, zI b3, zA ao, zA mb, zI 3, zI cn, zI g0, zI g1, zI g2, zI m0, zI m1, zI m2, zI w0_, zI w1_, zI w2_, zI kk, zA bm, zI 1, zI r0_, zI r1_, zI r2_, zI (((1 : Int32) + y01) + y02), zI (((1 : Int32) + y10) + y12), zU, zU, zU, zU] [.int 0, .int 1]
      refine ⟨by decide, fun T105 X105 eh105 => ?_⟩
      exact tl103 () T105 X105 eh105
  intro _u T103 X103 eh103
  show own_Go p.tables e below _ (T103.setTop (mkF m 651 (Array.mk [s0_, s1_, s2_, s3_, s4_, s5_, zI t1, zI t2, zI t3, zI b1, zI b2, zI b3, zA ao, zA mb, zI 3, zI cn, zI g0, zI g1, zI g2, zI m0, zI m1, zI m2, zI w0_, zI w1_, zI w2_, zI kk, zA bm, zI 1, zI r0_, zI r1_, zI r2_, zI (((1 : Int32) + y01) + y02), zI (((1 : Int32) + y10) + y12), zU, zU, zU, zU]) [.int y20, .int 1]))
  refine own_blk dec0 seq0 hby hx hZ hown hK hF 5 [] [] X103 eh103 ?_
  show own_Aft X103 hp55 _ 660 [s0_, s1_, s2_, s3_, s4_, s5_, zI t1, zI t2, zI t3, zI b1, zI b2, zI b3, zA ao, zA mb, zI 3, zI cn, zI g0, zI g1, zI g2, zI m0, zI m1, zI m2, zI w0_, zI w1_, zI w2_, zI kk, zA bm, zI 1, zI r0_, zI r1_, zI r2_, zI (((1 : Int32) + y01) + y02), zI (((1 : Int32) + y10) + y12), zU, zU, zU, zU] [.int w1_, .int m1, .int w2_, .int m2, .int ((1 : Int32) + y20)]
  refine fun T106 X106 eh106 => ?_
  refine own_callSP X106 hx hZ hown (hw _ (wm 124 rfl)) (hw _ (wm 125 rfl)) (hw _ (wm 112 rfl)) (hw _ (wm 126 rfl)) (by decide) eh106 [.int m2, .int w2_, .int m1, .int w1_] pd23 rfl (fr := 0) (lo := 0) (rm23 l Z a0 hw [] m2 w2_ m1 w1_ hp55 n0 Z_55) (by rw [hml]; rfl) 1 rfl (Nat.le_of_eq rfl) (hb hby at_660) (by decide) (by decide) (by decide) (by decide) (fun T107 rv107 X107 eh107 qc107 => ?_)
  obtain ⟨y21, rfl, hy21, ey21⟩ := qc107
  show own_Go p.tables e below _ (T107.setTop (mkF m 663 (Array.mk [s0_, s1_, s2_, s3_, s4_, s5_, zI t1, zI t2, zI t3, zI b1, zI b2, zI b3, zA ao, zA mb, zI 3, zI cn, zI g0, zI g1, zI g2, zI m0, zI m1, zI m2, zI w0_, zI w1_, zI w2_, zI kk, zA bm, zI 1, zI r0_, zI r1_, zI r2_, zI (((1 : Int32) + y01) + y02), zI (((1 : Int32) + y10) + y12), zU, zU, zU, zU]) [.int y21, .int ((1 : Int32) + y20)]))
  suffices tl108 : ∀ (_u : Unit), own_Aft X107 hp55 (own_Fin s 40 192 (fun v h L => v = some (.int 1) ∧ Fr n0 L)) 671 [s0_, s1_, s2_, s3_, s4_, s5_, zI t1, zI t2, zI t3, zI b1, zI b2, zI b3, zA ao, zA mb, zI 3, zI cn, zI g0, zI g1, zI g2, zI m0, zI m1, zI m2, zI w0_, zI w1_, zI w2_, zI kk, zA bm, zI 1, zI r0_, zI r1_, zI r2_, zI (((1 : Int32) + y01) + y02), zI (((1 : Int32) + y10) + y12), zU, zU, zU, zU] [.int y21, .int ((1 : Int32) + y20)] by
    rcases hy21 with rfl | rfl
    · skip
      show own_Go p.tables e below _ (T107.setTop (mkF m 663 (Array.mk [s0_, s1_, s2_, s3_, s4_, s5_, zI t1, zI t2, zI t3, zI b1, zI b2, zI b3, zA ao, zA mb, zI 3, zI cn, zI g0, zI g1, zI g2, zI m0, zI m1, zI m2, zI w0_, zI w1_, zI w2_, zI kk, zA bm, zI 1, zI r0_, zI r1_, zI r2_, zI (((1 : Int32) + y01) + y02), zI (((1 : Int32) + y10) + y12), zU, zU, zU, zU]) [.int 1, .int ((1 : Int32) + y20)]))
      refine own_blk dec0 seq0 hby hx hZ hown hK hF 3 [false] [] X107 eh107 ?_
      show (¬ (((1 : Int32)).toInt = 0)) ∧ own_Aft X107 hp55 _ 671 [s0_, s1_, s2_, s3_, s4_, s5_, zI t1, zI t2, zI t3, zI b1, zI b2, zI b3, zA ao, zA mb, zI 3, zI cn, zI g0, zI g1, zI g2, zI m0, zI m1, zI m2, zI w0_, zI w1_, zI w2_, zI kk, zA bm, zI 1, zI r0_, zI r1_, zI r2_, zI (((1 : Int32) + y01) + y02), zI (((1 : Int32) + y10) + y12), zU, zU, zU, zU] [.int 1, .int ((1 : Int32) + y20)]
      refine ⟨by decide, fun T109 X109 eh109 => ?_⟩
      exact tl108 () T109 X109 eh109
    · skip
      show own_Go p.tables e below _ (T107.setTop (mkF m 663 (Array.mk [s0_, s1_, s2_, s3_, s4_, s5_, zI t1, zI t2, zI t3, zI b1, zI b2, zI b3, zA ao, zA mb, zI 3, zI cn, zI g0, zI g1, zI g2, zI m0, zI m1, zI m2, zI w0_, zI w1_, zI w2_, zI kk, zA bm, zI 1, zI r0_, zI r1_, zI r2_, zI (((1 : Int32) + y01) + y02), zI (((1 : Int32) + y10) + y12), zU, zU, zU, zU]) [.int 0, .int ((1 : Int32) + y20)]))
      refine own_blk dec0 seq0 hby hx hZ hown hK hF 2 [true] [] X107 eh107 ?_
      show (((0 : Int32)).toInt = 0) ∧ own_Aft X107 hp55 _ 671 [s0_, s1_, s2_, s3_, s4_, s5_, zI t1, zI t2, zI t3, zI b1, zI b2, zI b3, zA ao, zA mb, zI 3, zI cn, zI g0, zI g1, zI g2, zI m0, zI m1, zI m2, zI w0_, zI w1_, zI w2_, zI kk, zA bm, zI 1, zI r0_, zI r1_, zI r2_, zI (((1 : Int32) + y01) + y02), zI (((1 : Int32) + y10) + y12), zU, zU, zU, zU] [.int 0, .int ((1 : Int32) + y20)]
      refine ⟨by decide, fun T110 X110 eh110 => ?_⟩
      exact tl108 () T110 X110 eh110
  intro _u T108 X108 eh108
  show own_Go p.tables e below _ (T108.setTop (mkF m 671 (Array.mk [s0_, s1_, s2_, s3_, s4_, s5_, zI t1, zI t2, zI t3, zI b1, zI b2, zI b3, zA ao, zA mb, zI 3, zI cn, zI g0, zI g1, zI g2, zI m0, zI m1, zI m2, zI w0_, zI w1_, zI w2_, zI kk, zA bm, zI 1, zI r0_, zI r1_, zI r2_, zI (((1 : Int32) + y01) + y02), zI (((1 : Int32) + y10) + y12), zU, zU, zU, zU]) [.int y21, .int ((1 : Int32) + y20)]))
  refine own_blk dec0 seq0 hby hx hZ hown hK hF 2 [] [] X108 eh108 ?_
  show own_Aft X108 hp55 _ 674 [s0_, s1_, s2_, s3_, s4_, s5_, zI t1, zI t2, zI t3, zI b1, zI b2, zI b3, zA ao, zA mb, zI 3, zI cn, zI g0, zI g1, zI g2, zI m0, zI m1, zI m2, zI w0_, zI w1_, zI w2_, zI kk, zA bm, zI 1, zI r0_, zI r1_, zI r2_, zI (((1 : Int32) + y01) + y02), zI (((1 : Int32) + y10) + y12), zI (((1 : Int32) + y20) + y21), zU, zU, zU] []
  refine fun T111 X111 eh111 => ?_
  have zy01 := own_01 hy01
  have zy02 := own_01 hy02
  have ty01 : ((1 : Int32) + y01).toInt = (1 : Int32).toInt + y01.toInt := own_add32 (by omega) (by omega)
  have ez0 : (((1 : Int32) + y01) + y02).toInt = 1 + y01.toInt + y02.toInt := by have := own_add32 (a := (1 : Int32) + y01) (b := y02) (by omega) (by omega); omega
  generalize ((1 : Int32) + y01) + y02 = z0_ at ez0 ⊢
  have zy10 := own_01 hy10
  have zy12 := own_01 hy12
  have ty10 : ((1 : Int32) + y10).toInt = (1 : Int32).toInt + y10.toInt := own_add32 (by omega) (by omega)
  have ez1 : (((1 : Int32) + y10) + y12).toInt = 1 + y10.toInt + y12.toInt := by have := own_add32 (a := (1 : Int32) + y10) (b := y12) (by omega) (by omega); omega
  generalize ((1 : Int32) + y10) + y12 = z1_ at ez1 ⊢
  have zy20 := own_01 hy20
  have zy21 := own_01 hy21
  have ty20 : ((1 : Int32) + y20).toInt = (1 : Int32).toInt + y20.toInt := own_add32 (by omega) (by omega)
  have ez2 : (((1 : Int32) + y20) + y21).toInt = 1 + y20.toInt + y21.toInt := by have := own_add32 (a := (1 : Int32) + y20) (b := y21) (by omega) (by omega); omega
  generalize ((1 : Int32) + y20) + y21 = z2_ at ez2 ⊢
  show own_Go p.tables e below _ (T111.setTop (mkF m 674 (Array.mk [s0_, s1_, s2_, s3_, s4_, s5_, zI t1, zI t2, zI t3, zI b1, zI b2, zI b3, zA ao, zA mb, zI 3, zI cn, zI g0, zI g1, zI g2, zI m0, zI m1, zI m2, zI w0_, zI w1_, zI w2_, zI kk, zA bm, zI 1, zI r0_, zI r1_, zI r2_, zI z0_, zI z1_, zI z2_, zU, zU, zU]) []))
  refine own_blk dec0 seq0 hby hx hZ hown hK hF 4 [] [] X111 eh111 ?_
  show own_Aft X111 hp55 _ 682 [s0_, s1_, s2_, s3_, s4_, s5_, zI t1, zI t2, zI t3, zI b1, zI b2, zI b3, zA ao, zA mb, zI 3, zI cn, zI g0, zI g1, zI g2, zI m0, zI m1, zI m2, zI w0_, zI w1_, zI w2_, zI kk, zA bm, zI 1, zI r0_, zI r1_, zI r2_, zI z0_, zI z1_, zI z2_, zI r0_, zI z0_, zU] []
  refine fun T112 X112 eh112 => ?_
  suffices tl113 : ∀ (rlA zlA : Int32) (hA : ((z0_.toInt < z1_.toInt ∨ (z1_.toInt = z0_.toInt ∧ r1_.toInt < r0_.toInt)) ∧ rlA = r1_ ∧ zlA = z1_) ∨ (¬ (z0_.toInt < z1_.toInt ∨ (z1_.toInt = z0_.toInt ∧ r1_.toInt < r0_.toInt)) ∧ rlA = r0_ ∧ zlA = z0_)), own_Aft X112 hp55 (own_Fin s 40 192 (fun v h L => v = some (.int 1) ∧ Fr n0 L)) 711 [s0_, s1_, s2_, s3_, s4_, s5_, zI t1, zI t2, zI t3, zI b1, zI b2, zI b3, zA ao, zA mb, zI 3, zI cn, zI g0, zI g1, zI g2, zI m0, zI m1, zI m2, zI w0_, zI w1_, zI w2_, zI kk, zA bm, zI 1, zI r0_, zI r1_, zI r2_, zI z0_, zI z1_, zI z2_, zI rlA, zI zlA, zU] [] by
    by_cases q1 : z0_.toInt < z1_.toInt
    · skip
      refine own_blk dec0 seq0 hby hx hZ hown hK hF 7 [true] [] X112 eh112 ?_
      show ((z0_).toInt < (z1_).toInt) ∧ own_Aft X112 hp55 _ 711 [s0_, s1_, s2_, s3_, s4_, s5_, zI t1, zI t2, zI t3, zI b1, zI b2, zI b3, zA ao, zA mb, zI 3, zI cn, zI g0, zI g1, zI g2, zI m0, zI m1, zI m2, zI w0_, zI w1_, zI w2_, zI kk, zA bm, zI 1, zI r0_, zI r1_, zI r2_, zI z0_, zI z1_, zI z2_, zI r1_, zI z1_, zU] []
      refine ⟨q1, fun T114 X114 eh114 => ?_⟩
      exact tl113 r1_ z1_ (Or.inl ⟨by omega, rfl, rfl⟩) T114 X114 eh114
    · skip
      by_cases q2 : z1_.toInt = z0_.toInt
      · skip
        by_cases q3 : r0_.toInt ≤ r1_.toInt
        · skip
          refine own_blk dec0 seq0 hby hx hZ hown hK hF 9 [false, false, true] [] X112 eh112 ?_
          show (¬ ((z0_).toInt < (z1_).toInt)) ∧ (¬ ((z1_).toInt ≠ (z0_).toInt)) ∧ ((r0_).toInt ≤ (r1_).toInt) ∧ own_Aft X112 hp55 _ 711 [s0_, s1_, s2_, s3_, s4_, s5_, zI t1, zI t2, zI t3, zI b1, zI b2, zI b3, zA ao, zA mb, zI 3, zI cn, zI g0, zI g1, zI g2, zI m0, zI m1, zI m2, zI w0_, zI w1_, zI w2_, zI kk, zA bm, zI 1, zI r0_, zI r1_, zI r2_, zI z0_, zI z1_, zI z2_, zI r0_, zI z0_, zU] []
          refine ⟨q1, fun h => h q2, q3, fun T115 X115 eh115 => ?_⟩
          exact tl113 r0_ z0_ (Or.inr ⟨by omega, rfl, rfl⟩) T115 X115 eh115
        · skip
          refine own_blk dec0 seq0 hby hx hZ hown hK hF 13 [false, false, false] [] X112 eh112 ?_
          show (¬ ((z0_).toInt < (z1_).toInt)) ∧ (¬ ((z1_).toInt ≠ (z0_).toInt)) ∧ (¬ ((r0_).toInt ≤ (r1_).toInt)) ∧ own_Aft X112 hp55 _ 711 [s0_, s1_, s2_, s3_, s4_, s5_, zI t1, zI t2, zI t3, zI b1, zI b2, zI b3, zA ao, zA mb, zI 3, zI cn, zI g0, zI g1, zI g2, zI m0, zI m1, zI m2, zI w0_, zI w1_, zI w2_, zI kk, zA bm, zI 1, zI r0_, zI r1_, zI r2_, zI z0_, zI z1_, zI z2_, zI r1_, zI z1_, zU] []
          refine ⟨q1, fun h => h q2, q3, fun T116 X116 eh116 => ?_⟩
          exact tl113 r1_ z1_ (Or.inl ⟨by omega, rfl, rfl⟩) T116 X116 eh116
      · skip
        refine own_blk dec0 seq0 hby hx hZ hown hK hF 6 [false, true] [] X112 eh112 ?_
        show (¬ ((z0_).toInt < (z1_).toInt)) ∧ ((z1_).toInt ≠ (z0_).toInt) ∧ own_Aft X112 hp55 _ 711 [s0_, s1_, s2_, s3_, s4_, s5_, zI t1, zI t2, zI t3, zI b1, zI b2, zI b3, zA ao, zA mb, zI 3, zI cn, zI g0, zI g1, zI g2, zI m0, zI m1, zI m2, zI w0_, zI w1_, zI w2_, zI kk, zA bm, zI 1, zI r0_, zI r1_, zI r2_, zI z0_, zI z1_, zI z2_, zI r0_, zI z0_, zU] []
        refine ⟨q1, q2, fun T117 X117 eh117 => ?_⟩
        exact tl113 r0_ z0_ (Or.inr ⟨by omega, rfl, rfl⟩) T117 X117 eh117
  intro rlA zlA hA T113 X113 eh113
  show own_Go p.tables e below _ (T113.setTop (mkF m 711 (Array.mk [s0_, s1_, s2_, s3_, s4_, s5_, zI t1, zI t2, zI t3, zI b1, zI b2, zI b3, zA ao, zA mb, zI 3, zI cn, zI g0, zI g1, zI g2, zI m0, zI m1, zI m2, zI w0_, zI w1_, zI w2_, zI kk, zA bm, zI 1, zI r0_, zI r1_, zI r2_, zI z0_, zI z1_, zI z2_, zI rlA, zI zlA, zU]) []))
  suffices tl118 : ∀ (rlB zlB : Int32) (hB : ((zlA.toInt < z2_.toInt ∨ (z2_.toInt = zlA.toInt ∧ r2_.toInt < rlA.toInt)) ∧ rlB = r2_ ∧ zlB = z2_) ∨ (¬ (zlA.toInt < z2_.toInt ∨ (z2_.toInt = zlA.toInt ∧ r2_.toInt < rlA.toInt)) ∧ rlB = rlA ∧ zlB = zlA)), own_Aft X113 hp55 (own_Fin s 40 192 (fun v h L => v = some (.int 1) ∧ Fr n0 L)) 740 [s0_, s1_, s2_, s3_, s4_, s5_, zI t1, zI t2, zI t3, zI b1, zI b2, zI b3, zA ao, zA mb, zI 3, zI cn, zI g0, zI g1, zI g2, zI m0, zI m1, zI m2, zI w0_, zI w1_, zI w2_, zI kk, zA bm, zI 1, zI r0_, zI r1_, zI r2_, zI z0_, zI z1_, zI z2_, zI rlB, zI zlB, zU] [] by
    by_cases q1 : zlA.toInt < z2_.toInt
    · skip
      refine own_blk dec0 seq0 hby hx hZ hown hK hF 7 [true] [] X113 eh113 ?_
      show ((zlA).toInt < (z2_).toInt) ∧ own_Aft X113 hp55 _ 740 [s0_, s1_, s2_, s3_, s4_, s5_, zI t1, zI t2, zI t3, zI b1, zI b2, zI b3, zA ao, zA mb, zI 3, zI cn, zI g0, zI g1, zI g2, zI m0, zI m1, zI m2, zI w0_, zI w1_, zI w2_, zI kk, zA bm, zI 1, zI r0_, zI r1_, zI r2_, zI z0_, zI z1_, zI z2_, zI r2_, zI z2_, zU] []
      refine ⟨q1, fun T119 X119 eh119 => ?_⟩
      exact tl118 r2_ z2_ (Or.inl ⟨by omega, rfl, rfl⟩) T119 X119 eh119
    · skip
      by_cases q2 : z2_.toInt = zlA.toInt
      · skip
        by_cases q3 : rlA.toInt ≤ r2_.toInt
        · skip
          refine own_blk dec0 seq0 hby hx hZ hown hK hF 9 [false, false, true] [] X113 eh113 ?_
          show (¬ ((zlA).toInt < (z2_).toInt)) ∧ (¬ ((z2_).toInt ≠ (zlA).toInt)) ∧ ((rlA).toInt ≤ (r2_).toInt) ∧ own_Aft X113 hp55 _ 740 [s0_, s1_, s2_, s3_, s4_, s5_, zI t1, zI t2, zI t3, zI b1, zI b2, zI b3, zA ao, zA mb, zI 3, zI cn, zI g0, zI g1, zI g2, zI m0, zI m1, zI m2, zI w0_, zI w1_, zI w2_, zI kk, zA bm, zI 1, zI r0_, zI r1_, zI r2_, zI z0_, zI z1_, zI z2_, zI rlA, zI zlA, zU] []
          refine ⟨q1, fun h => h q2, q3, fun T120 X120 eh120 => ?_⟩
          exact tl118 rlA zlA (Or.inr ⟨by omega, rfl, rfl⟩) T120 X120 eh120
        · skip
          refine own_blk dec0 seq0 hby hx hZ hown hK hF 13 [false, false, false] [] X113 eh113 ?_
          show (¬ ((zlA).toInt < (z2_).toInt)) ∧ (¬ ((z2_).toInt ≠ (zlA).toInt)) ∧ (¬ ((rlA).toInt ≤ (r2_).toInt)) ∧ own_Aft X113 hp55 _ 740 [s0_, s1_, s2_, s3_, s4_, s5_, zI t1, zI t2, zI t3, zI b1, zI b2, zI b3, zA ao, zA mb, zI 3, zI cn, zI g0, zI g1, zI g2, zI m0, zI m1, zI m2, zI w0_, zI w1_, zI w2_, zI kk, zA bm, zI 1, zI r0_, zI r1_, zI r2_, zI z0_, zI z1_, zI z2_, zI r2_, zI z2_, zU] []
          refine ⟨q1, fun h => h q2, q3, fun T121 X121 eh121 => ?_⟩
          exact tl118 r2_ z2_ (Or.inl ⟨by omega, rfl, rfl⟩) T121 X121 eh121
      · skip
        refine own_blk dec0 seq0 hby hx hZ hown hK hF 6 [false, true] [] X113 eh113 ?_
        show (¬ ((zlA).toInt < (z2_).toInt)) ∧ ((z2_).toInt ≠ (zlA).toInt) ∧ own_Aft X113 hp55 _ 740 [s0_, s1_, s2_, s3_, s4_, s5_, zI t1, zI t2, zI t3, zI b1, zI b2, zI b3, zA ao, zA mb, zI 3, zI cn, zI g0, zI g1, zI g2, zI m0, zI m1, zI m2, zI w0_, zI w1_, zI w2_, zI kk, zA bm, zI 1, zI r0_, zI r1_, zI r2_, zI z0_, zI z1_, zI z2_, zI rlA, zI zlA, zU] []
        refine ⟨q1, q2, fun T122 X122 eh122 => ?_⟩
        exact tl118 rlA zlA (Or.inr ⟨by omega, rfl, rfl⟩) T122 X122 eh122
  intro rlB zlB hB T118 X118 eh118
  show own_Go p.tables e below _ (T118.setTop (mkF m 740 (Array.mk [s0_, s1_, s2_, s3_, s4_, s5_, zI t1, zI t2, zI t3, zI b1, zI b2, zI b3, zA ao, zA mb, zI 3, zI cn, zI g0, zI g1, zI g2, zI m0, zI m1, zI m2, zI w0_, zI w1_, zI w2_, zI kk, zA bm, zI 1, zI r0_, zI r1_, zI r2_, zI z0_, zI z1_, zI z2_, zI rlB, zI zlB, zU]) []))
  obtain ⟨⟨n1, n2, n3, n4⟩, n5, n6, n7⟩ := FN r0_.toInt r1_.toInt r2_.toInt z0_.toInt z1_.toInt z2_.toInt rlA.toInt zlA.toInt rlB.toInt er0_ er1_ er2_ (by rw [ez0, ey01, ey02]) (by rw [ez1, ey10, ey12]) (by rw [ez2, ey20, ey21]) (by rcases hA with ⟨h, rfl, rfl⟩ | ⟨h, rfl, rfl⟩; exact Or.inl ⟨h, rfl, rfl⟩; exact Or.inr ⟨h, rfl, rfl⟩) (by rcases hB with ⟨h, rfl, rfl⟩ | ⟨h, rfl, rfl⟩; exact Or.inl ⟨h, rfl⟩; exact Or.inr ⟨h, rfl⟩)
  clear hA hB FN
  refine own_blk dec0 seq0 hby hx hZ hown hK hF 3 [] [] X118 eh118 ?_
  show own_Aft X118 hp55 _ 746 [s0_, s1_, s2_, s3_, s4_, s5_, zI t1, zI t2, zI t3, zI b1, zI b2, zI b3, zA ao, zA mb, zI 3, zI cn, zI g0, zI g1, zI g2, zI m0, zI m1, zI m2, zI w0_, zI w1_, zI w2_, zI kk, zA bm, zI 1, zI r0_, zI r1_, zI r2_, zI z0_, zI z1_, zI z2_, zI rlB, zI zlB, zU] [.int r2_, .int r1_, .int r0_]
  refine fun T123 X123 eh123 => ?_
  refine own_callSP X123 hx hZ hown (hw _ (wm 127 rfl)) (hw _ (wm 128 rfl)) (hw _ (wm 69 rfl)) (hw _ (wm 129 rfl)) (by decide) eh123 [.int r1_, .int r2_] pd24 rfl (fr := 0) (lo := 0) (rm24 l Z a0 hw [] r1_ r2_ hp55 n0 Z_55) (by rw [hml]; rfl) 1 rfl (Nat.le_of_eq rfl) (hb hby at_746) (by decide) (by decide) (by decide) (by decide) (fun T124 rv124 X124 eh124 qc124 => ?_)
  obtain ⟨x1_, rfl, hx1⟩ := qc124
  show own_Go p.tables e below _ (T124.setTop (mkF m 749 (Array.mk [s0_, s1_, s2_, s3_, s4_, s5_, zI t1, zI t2, zI t3, zI b1, zI b2, zI b3, zA ao, zA mb, zI 3, zI cn, zI g0, zI g1, zI g2, zI m0, zI m1, zI m2, zI w0_, zI w1_, zI w2_, zI kk, zA bm, zI 1, zI r0_, zI r1_, zI r2_, zI z0_, zI z1_, zI z2_, zI rlB, zI zlB, zU]) [.int x1_, .int r0_]))
  refine own_callSP X124 hx hZ hown (hw _ (wm 127 rfl)) (hw _ (wm 128 rfl)) (hw _ (wm 69 rfl)) (hw _ (wm 129 rfl)) (by decide) eh124 [.int r0_, .int x1_] pd24 rfl (fr := 0) (lo := 0) (rm24 l Z a0 hw [] r0_ x1_ hp55 n0 Z_55) (by rw [hml]; rfl) 0 rfl (Nat.le_of_eq rfl) (hb hby at_749) (by decide) (by decide) (by decide) (by decide) (fun T125 rv125 X125 eh125 qc125 => ?_)
  obtain ⟨x2_, rfl, hx2⟩ := qc125
  show own_Go p.tables e below _ (T125.setTop (mkF m 752 (Array.mk [s0_, s1_, s2_, s3_, s4_, s5_, zI t1, zI t2, zI t3, zI b1, zI b2, zI b3, zA ao, zA mb, zI 3, zI cn, zI g0, zI g1, zI g2, zI m0, zI m1, zI m2, zI w0_, zI w1_, zI w2_, zI kk, zA bm, zI 1, zI r0_, zI r1_, zI r2_, zI z0_, zI z1_, zI z2_, zI rlB, zI zlB, zU]) [.int x2_]))
  have sx : (x2_ + (1 : Int32)).toInt = x2_.toInt + (1 : Int32).toInt := own_add32 (by omega) (by omega)
  refine own_blk dec0 seq0 hby hx hZ hown hK hF 11 [false, false] [] X125 eh125 ?_
  show (¬ (((1 : Int32)).toInt = 0)) ∧ (¬ ((cn).toInt ≠ (x2_ + (1 : Int32)).toInt)) ∧ own_Aft X125 hp55 _ 774 [s0_, s1_, s2_, s3_, s4_, s5_, zI t1, zI t2, zI t3, zI b1, zI b2, zI b3, zA ao, zA mb, zI 3, zI cn, zI g0, zI g1, zI g2, zI m0, zI m1, zI m2, zI w0_, zI w1_, zI w2_, zI kk, zA bm, zI 1, zI r0_, zI r1_, zI r2_, zI z0_, zI z1_, zI z2_, zI rlB, zI zlB, zI (x2_ + (1 : Int32))] [.int rlB, .int r0_, .int g0]
  refine ⟨by decide, by omega, fun T126 X126 eh126 => ?_⟩
  refine own_callSP X126 hx hZ hown (hw _ (wm 130 rfl)) (hw _ (wm 131 rfl)) (hw _ (wm 112 rfl)) (hw _ (wm 132 rfl)) (by decide) eh126 [.int r0_, .int rlB] pd25 rfl (fr := 0) (lo := 0) (rm25 l Z a0 hw [] r0_ rlB hp55 n0 Z_55 br0_.1 br0_.2) (by rw [hml]; rfl) 1 rfl (Nat.le_of_eq rfl) (hb hby at_774) (by decide) (by decide) (by decide) (by decide) (fun T127 rv127 X127 eh127 qc127 => ?_)
  obtain ⟨k0_, rfl, hk0⟩ := qc127
  show own_Go p.tables e below _ (T127.setTop (mkF m 777 (Array.mk [s0_, s1_, s2_, s3_, s4_, s5_, zI t1, zI t2, zI t3, zI b1, zI b2, zI b3, zA ao, zA mb, zI 3, zI cn, zI g0, zI g1, zI g2, zI m0, zI m1, zI m2, zI w0_, zI w1_, zI w2_, zI kk, zA bm, zI 1, zI r0_, zI r1_, zI r2_, zI z0_, zI z1_, zI z2_, zI rlB, zI zlB, zI (x2_ + (1 : Int32))]) [.int k0_, .int g0]))
  refine own_blk dec0 seq0 hby hx hZ hown hK hF 4 [false] [] X127 eh127 ?_
  show (¬ ((g0).toInt ≠ (k0_).toInt)) ∧ own_Aft X127 hp55 _ 786 [s0_, s1_, s2_, s3_, s4_, s5_, zI t1, zI t2, zI t3, zI b1, zI b2, zI b3, zA ao, zA mb, zI 3, zI cn, zI g0, zI g1, zI g2, zI m0, zI m1, zI m2, zI w0_, zI w1_, zI w2_, zI kk, zA bm, zI 1, zI r0_, zI r1_, zI r2_, zI z0_, zI z1_, zI z2_, zI rlB, zI zlB, zI (x2_ + (1 : Int32))] [.int rlB, .int r1_, .int g1]
  refine ⟨by omega, fun T128 X128 eh128 => ?_⟩
  refine own_callSP X128 hx hZ hown (hw _ (wm 130 rfl)) (hw _ (wm 131 rfl)) (hw _ (wm 112 rfl)) (hw _ (wm 132 rfl)) (by decide) eh128 [.int r1_, .int rlB] pd25 rfl (fr := 0) (lo := 0) (rm25 l Z a0 hw [] r1_ rlB hp55 n0 Z_55 br1_.1 br1_.2) (by rw [hml]; rfl) 1 rfl (Nat.le_of_eq rfl) (hb hby at_786) (by decide) (by decide) (by decide) (by decide) (fun T129 rv129 X129 eh129 qc129 => ?_)
  obtain ⟨k1_, rfl, hk1⟩ := qc129
  show own_Go p.tables e below _ (T129.setTop (mkF m 789 (Array.mk [s0_, s1_, s2_, s3_, s4_, s5_, zI t1, zI t2, zI t3, zI b1, zI b2, zI b3, zA ao, zA mb, zI 3, zI cn, zI g0, zI g1, zI g2, zI m0, zI m1, zI m2, zI w0_, zI w1_, zI w2_, zI kk, zA bm, zI 1, zI r0_, zI r1_, zI r2_, zI z0_, zI z1_, zI z2_, zI rlB, zI zlB, zI (x2_ + (1 : Int32))]) [.int k1_, .int g1]))
  refine own_blk dec0 seq0 hby hx hZ hown hK hF 4 [false] [] X129 eh129 ?_
  show (¬ ((g1).toInt ≠ (k1_).toInt)) ∧ own_Aft X129 hp55 _ 798 [s0_, s1_, s2_, s3_, s4_, s5_, zI t1, zI t2, zI t3, zI b1, zI b2, zI b3, zA ao, zA mb, zI 3, zI cn, zI g0, zI g1, zI g2, zI m0, zI m1, zI m2, zI w0_, zI w1_, zI w2_, zI kk, zA bm, zI 1, zI r0_, zI r1_, zI r2_, zI z0_, zI z1_, zI z2_, zI rlB, zI zlB, zI (x2_ + (1 : Int32))] [.int rlB, .int r2_, .int g2]
  refine ⟨by omega, fun T130 X130 eh130 => ?_⟩
  refine own_callSP X130 hx hZ hown (hw _ (wm 130 rfl)) (hw _ (wm 131 rfl)) (hw _ (wm 112 rfl)) (hw _ (wm 132 rfl)) (by decide) eh130 [.int r2_, .int rlB] pd25 rfl (fr := 0) (lo := 0) (rm25 l Z a0 hw [] r2_ rlB hp55 n0 Z_55 br2_.1 br2_.2) (by rw [hml]; rfl) 1 rfl (Nat.le_of_eq rfl) (hb hby at_798) (by decide) (by decide) (by decide) (by decide) (fun T131 rv131 X131 eh131 qc131 => ?_)
  obtain ⟨k2_, rfl, hk2⟩ := qc131
  show own_Go p.tables e below _ (T131.setTop (mkF m 801 (Array.mk [s0_, s1_, s2_, s3_, s4_, s5_, zI t1, zI t2, zI t3, zI b1, zI b2, zI b3, zA ao, zA mb, zI 3, zI cn, zI g0, zI g1, zI g2, zI m0, zI m1, zI m2, zI w0_, zI w1_, zI w2_, zI kk, zA bm, zI 1, zI r0_, zI r1_, zI r2_, zI z0_, zI z1_, zI z2_, zI rlB, zI zlB, zI (x2_ + (1 : Int32))]) [.int k2_, .int g2]))
  refine own_blk dec0 seq0 hby hx hZ hown hK hF 3 [false] [] X131 eh131 ?_
  show (¬ ((g2).toInt ≠ (k2_).toInt)) ∧ own_Aft X131 hp55 _ 809 [s0_, s1_, s2_, s3_, s4_, s5_, zI t1, zI t2, zI t3, zI b1, zI b2, zI b3, zA ao, zA mb, zI 3, zI cn, zI g0, zI g1, zI g2, zI m0, zI m1, zI m2, zI w0_, zI w1_, zI w2_, zI kk, zA bm, zI 1, zI r0_, zI r1_, zI r2_, zI z0_, zI z1_, zI z2_, zI rlB, zI zlB, zI (x2_ + (1 : Int32))] [.int 1]
  refine ⟨by omega, fun T132 X132 eh132 => ?_⟩
  exact own_ret X132 hx hlk eh132 hret (by first | rfl | decide) (Or.inl ⟨rfl, by simp, _, rfl⟩) (hb hby at_809) (by decide) (by decide) (⟨rfl, Nf55⟩)
theorem own_bef_y {mi wi mj wj : Int} (h : mi ≠ 0 ∧ (mj = 0 ∨ wi < wj)) : own_bef mi wi mj wj = 1 := if_pos h
theorem own_bef_n {mi wi mj wj : Int} (h : ¬ (mi ≠ 0 ∧ (mj = 0 ∨ wi < wj))) : own_bef mi wi mj wj = 0 := if_neg h
theorem own_sam_y {mi wi mj wj : Int} (h : mi = mj ∧ (mi = 0 ∨ wi = wj)) : own_sam mi wi mj wj = 1 := if_pos h
theorem own_sam_n {mi wi mj wj : Int} (h : ¬ (mi = mj ∧ (mi = 0 ∨ wi = wj))) : own_sam mi wi mj wj = 0 := if_neg h
theorem own_fin {m0 w0 m1 w1 m2 w2 f01 f02 f10 f12 f20 f21 s01 s02 s10 s12 s20 s21 cn g0 g1 g2 : Int} (rL zL rM : Int) (F01 : own_bef m0 w0 m1 w1 = f01) (F02 : own_bef m0 w0 m2 w2 = f02) (F10 : own_bef m1 w1 m0 w0 = f10) (F12 : own_bef m1 w1 m2 w2 = f12) (F20 : own_bef m2 w2 m0 w0 = f20) (F21 : own_bef m2 w2 m1 w1 = f21)
    (S01 : own_sam m0 w0 m1 w1 = s01) (S02 : own_sam m0 w0 m2 w2 = s02) (S10 : own_sam m1 w1 m0 w0 = s10) (S12 : own_sam m1 w1 m2 w2 = s12) (S20 : own_sam m2 w2 m0 w0 = s20) (S21 : own_sam m2 w2 m1 w1 = s21) {r0 r1 r2 z0 z1 z2 : Int}
    (R0 : f10 + f20 - (if f10 = 1 ∧ f20 = 1 ∧ s12 = 1 then 1 else 0) = r0) (R1 : f01 + f21 - (if f01 = 1 ∧ f21 = 1 ∧ s02 = 1 then 1 else 0) = r1) (R2 : f02 + f12 - (if f02 = 1 ∧ f12 = 1 ∧ s01 = 1 then 1 else 0) = r2) (Y0 : 1 + s01 + s02 = z0) (Y1 : 1 + s10 + s12 = z1) (Y2 : 1 + s20 + s21 = z2)
    (hA : ((z0 < z1 ∨ (z1 = z0 ∧ r1 < r0)) ∧ rL = r1 ∧ zL = z1) ∨ (¬ (z0 < z1 ∨ (z1 = z0 ∧ r1 < r0)) ∧ rL = r0 ∧ zL = z0)) (hB : ((zL < z2 ∨ (z2 = zL ∧ r2 < rL)) ∧ rM = r2) ∨ (¬ (zL < z2 ∨ (z2 = zL ∧ r2 < rL)) ∧ rM = rL))
    (hC : (r0 + 1 ≤ cn ∧ r1 + 1 ≤ cn ∧ r2 + 1 ≤ cn ∧ (cn = r0 + 1 ∨ cn = r1 + 1 ∨ cn = r2 + 1)) ∧ g0 = own_blv r0 rM ∧ g1 = own_blv r1 rM ∧ g2 = own_blv r2 rM) : own_FIN m0 m1 m2 w0 w1 w2 cn g0 g1 g2 := by
  intro r0' r1' r2' z0' z1' z2' rL' zL' rM' er0 er1 er2 ez0 ez1 ez2 hA' hB'
  unfold own_rnk at er0 er1 er2
  rw [F10, F20, S12, R0] at er0
  rw [F01, F21, S02, R1] at er1
  rw [F02, F12, S01, R2] at er2
  rw [S01, S02, Y0] at ez0
  rw [S10, S12, Y1] at ez1
  rw [S20, S21, Y2] at ez2
  subst er0 er1 er2 ez0 ez1 ez2
  have e1 : rL' = rL ∧ zL' = zL := by clear hB hB' hC R0 R1 R2 Y0 Y1 Y2; omega
  obtain ⟨rfl, rfl⟩ := e1
  have e2 : rM' = rM := by clear hA hA' hC R0 R1 R2 Y0 Y1 Y2; omega
  subst e2
  exact hC
theorem own_is0 {m0 m1 m2 v : Int} (h : own_is 0 m0 m1 m2 v) : m0 = v := by unfold own_is at h; omega
theorem own_is1 {m0 m1 m2 v : Int} (h : own_is 1 m0 m1 m2 v) : m1 = v := by unfold own_is at h; omega
theorem own_is2 {m0 m1 m2 v : Int} (h : own_is 2 m0 m1 m2 v) : m2 = v := by unfold own_is at h; omega
theorem cf0 (w0 w1 w2 : Int)  : own_FIN 1 0 0 w0 w1 w2 2 1 0 0 := own_fin 1 2 1 (own_bef_y (by omega)) (own_bef_y (by omega)) (own_bef_n (by omega)) (own_bef_n (by omega)) (own_bef_n (by omega)) (own_bef_n (by omega)) (own_sam_n (by omega)) (own_sam_n (by omega)) (own_sam_n (by omega)) (own_sam_y (by omega)) (own_sam_n (by omega)) (own_sam_y (by omega)) rfl rfl rfl rfl rfl rfl (by decide) (by decide) (by decide)
theorem cf1 (w0 w1 w2 : Int)  : own_FIN 0 1 0 w0 w1 w2 2 0 1 0 := own_fin 1 2 1 (own_bef_n (by omega)) (own_bef_n (by omega)) (own_bef_y (by omega)) (own_bef_y (by omega)) (own_bef_n (by omega)) (own_bef_n (by omega)) (own_sam_n (by omega)) (own_sam_y (by omega)) (own_sam_n (by omega)) (own_sam_n (by omega)) (own_sam_y (by omega)) (own_sam_n (by omega)) rfl rfl rfl rfl rfl rfl (by decide) (by decide) (by decide)
theorem cf2 (w0 w1 w2 : Int)  : own_FIN 0 0 1 w0 w1 w2 2 0 0 1 := own_fin 1 2 1 (own_bef_n (by omega)) (own_bef_n (by omega)) (own_bef_n (by omega)) (own_bef_n (by omega)) (own_bef_y (by omega)) (own_bef_y (by omega)) (own_sam_y (by omega)) (own_sam_n (by omega)) (own_sam_y (by omega)) (own_sam_n (by omega)) (own_sam_n (by omega)) (own_sam_n (by omega)) rfl rfl rfl rfl rfl rfl (by decide) (by decide) (by decide)
set_option maxHeartbeats 8000000 in
theorem own_f1 (e0 e1 e2 : Int32) (t1 b1 t2 b2 t3 b3 : Int) (C0 : Int) (v00 : 0 ≤ e0.toInt) (v01 : e0.toInt < 3) (v10 : 0 ≤ e1.toInt) (v11 : e1.toInt < 3) (v20 : 0 ≤ e2.toInt) (v21 : e2.toInt < 3) (d01 : e0.toInt ≠ e1.toInt) (d02 : e0.toInt ≠ e2.toInt) (d12 : e1.toInt ≠ e2.toInt)  (HM : ∀ m0 m1 m2 w0 w1 w2 : Int, own_M t1 t2 t3 m0 m1 m2 → own_Wp t1 b1 t2 b2 t3 b3 w0 w1 w2 → own_is e0.toInt m0 m1 m2 1 ∧ own_is e1.toInt m0 m1 m2 0 ∧ own_is e2.toInt m0 m1 m2 0 ∧ own_is e0.toInt w0 w1 w2 C0) : ∃ g0 g1 g2 : Int32, (([.int 0, .int 0, .int 0] : List Value).set e0.toInt.toNat (.int 1)) = [.int g0, .int g1, .int g2] ∧ ∀ m0 m1 m2 w0 w1 w2 : Int, own_M t1 t2 t3 m0 m1 m2 → own_Wp t1 b1 t2 b2 t3 b3 w0 w1 w2 → own_FIN m0 m1 m2 w0 w1 w2 (2 : Int32).toInt g0.toInt g1.toInt g2.toInt := by
  obtain ⟨p0, p1, p2⟩ | ⟨p0, p1, p2⟩ | ⟨p0, p1, p2⟩ | ⟨p0, p1, p2⟩ | ⟨p0, p1, p2⟩ | ⟨p0, p1, p2⟩ : (e0.toInt = 0 ∧ e1.toInt = 1 ∧ e2.toInt = 2) ∨ (e0.toInt = 0 ∧ e1.toInt = 2 ∧ e2.toInt = 1) ∨ (e0.toInt = 1 ∧ e1.toInt = 0 ∧ e2.toInt = 2) ∨ (e0.toInt = 1 ∧ e1.toInt = 2 ∧ e2.toInt = 0) ∨ (e0.toInt = 2 ∧ e1.toInt = 0 ∧ e2.toInt = 1) ∨ (e0.toInt = 2 ∧ e1.toInt = 1 ∧ e2.toInt = 0) := by omega
  · rw [p0, p1, p2] at HM
    rw [show e0.toInt.toNat = 0 by omega]
    refine ⟨_, _, _, rfl, fun m0 m1 m2 w0 w1 w2 hM hW => ?_⟩
    obtain ⟨k0, k1, k2, k3⟩ := HM m0 m1 m2 w0 w1 w2 hM hW
    obtain rfl : m0 = 1 := own_is0 k0
    obtain rfl : m1 = 0 := own_is1 k1
    obtain rfl : m2 = 0 := own_is2 k2
    obtain rfl : w0 = C0 := own_is0 k3
    exact cf0 _ _ _ 
  · rw [p0, p1, p2] at HM
    rw [show e0.toInt.toNat = 0 by omega]
    refine ⟨_, _, _, rfl, fun m0 m1 m2 w0 w1 w2 hM hW => ?_⟩
    obtain ⟨k0, k1, k2, k3⟩ := HM m0 m1 m2 w0 w1 w2 hM hW
    obtain rfl : m0 = 1 := own_is0 k0
    obtain rfl : m2 = 0 := own_is2 k1
    obtain rfl : m1 = 0 := own_is1 k2
    obtain rfl : w0 = C0 := own_is0 k3
    exact cf0 _ _ _ 
  · rw [p0, p1, p2] at HM
    rw [show e0.toInt.toNat = 1 by omega]
    refine ⟨_, _, _, rfl, fun m0 m1 m2 w0 w1 w2 hM hW => ?_⟩
    obtain ⟨k0, k1, k2, k3⟩ := HM m0 m1 m2 w0 w1 w2 hM hW
    obtain rfl : m1 = 1 := own_is1 k0
    obtain rfl : m0 = 0 := own_is0 k1
    obtain rfl : m2 = 0 := own_is2 k2
    obtain rfl : w1 = C0 := own_is1 k3
    exact cf1 _ _ _ 
  · rw [p0, p1, p2] at HM
    rw [show e0.toInt.toNat = 1 by omega]
    refine ⟨_, _, _, rfl, fun m0 m1 m2 w0 w1 w2 hM hW => ?_⟩
    obtain ⟨k0, k1, k2, k3⟩ := HM m0 m1 m2 w0 w1 w2 hM hW
    obtain rfl : m1 = 1 := own_is1 k0
    obtain rfl : m2 = 0 := own_is2 k1
    obtain rfl : m0 = 0 := own_is0 k2
    obtain rfl : w1 = C0 := own_is1 k3
    exact cf1 _ _ _ 
  · rw [p0, p1, p2] at HM
    rw [show e0.toInt.toNat = 2 by omega]
    refine ⟨_, _, _, rfl, fun m0 m1 m2 w0 w1 w2 hM hW => ?_⟩
    obtain ⟨k0, k1, k2, k3⟩ := HM m0 m1 m2 w0 w1 w2 hM hW
    obtain rfl : m2 = 1 := own_is2 k0
    obtain rfl : m0 = 0 := own_is0 k1
    obtain rfl : m1 = 0 := own_is1 k2
    obtain rfl : w2 = C0 := own_is2 k3
    exact cf2 _ _ _ 
  · rw [p0, p1, p2] at HM
    rw [show e0.toInt.toNat = 2 by omega]
    refine ⟨_, _, _, rfl, fun m0 m1 m2 w0 w1 w2 hM hW => ?_⟩
    obtain ⟨k0, k1, k2, k3⟩ := HM m0 m1 m2 w0 w1 w2 hM hW
    obtain rfl : m2 = 1 := own_is2 k0
    obtain rfl : m1 = 0 := own_is1 k1
    obtain rfl : m0 = 0 := own_is0 k2
    obtain rfl : w2 = C0 := own_is2 k3
    exact cf2 _ _ _ 
theorem cf3 (w0 w1 w2 : Int) (h0 : w0 = w1) : own_FIN 1 1 0 w0 w1 w2 2 0 0 1 := own_fin 0 2 0 (own_bef_n (by omega)) (own_bef_y (by omega)) (own_bef_n (by omega)) (own_bef_y (by omega)) (own_bef_n (by omega)) (own_bef_n (by omega)) (own_sam_y (by omega)) (own_sam_n (by omega)) (own_sam_y (by omega)) (own_sam_n (by omega)) (own_sam_n (by omega)) (own_sam_n (by omega)) rfl rfl rfl rfl rfl rfl (by decide) (by decide) (by decide)
theorem cf4 (w0 w1 w2 : Int) (h0 : w0 = w2) : own_FIN 1 0 1 w0 w1 w2 2 0 1 0 := own_fin 0 2 0 (own_bef_y (by omega)) (own_bef_n (by omega)) (own_bef_n (by omega)) (own_bef_n (by omega)) (own_bef_n (by omega)) (own_bef_y (by omega)) (own_sam_n (by omega)) (own_sam_y (by omega)) (own_sam_n (by omega)) (own_sam_n (by omega)) (own_sam_y (by omega)) (own_sam_n (by omega)) rfl rfl rfl rfl rfl rfl (by decide) (by decide) (by decide)
theorem cf5 (w0 w1 w2 : Int) (h0 : w1 = w2) : own_FIN 0 1 1 w0 w1 w2 2 1 0 0 := own_fin 0 2 0 (own_bef_n (by omega)) (own_bef_n (by omega)) (own_bef_y (by omega)) (own_bef_n (by omega)) (own_bef_y (by omega)) (own_bef_n (by omega)) (own_sam_n (by omega)) (own_sam_n (by omega)) (own_sam_n (by omega)) (own_sam_y (by omega)) (own_sam_n (by omega)) (own_sam_y (by omega)) rfl rfl rfl rfl rfl rfl (by decide) (by decide) (by decide)
set_option maxHeartbeats 8000000 in
theorem own_f2a (e0 e1 e2 : Int32) (t1 b1 t2 b2 t3 b3 : Int) (C0 C1 : Int) (v00 : 0 ≤ e0.toInt) (v01 : e0.toInt < 3) (v10 : 0 ≤ e1.toInt) (v11 : e1.toInt < 3) (v20 : 0 ≤ e2.toInt) (v21 : e2.toInt < 3) (d01 : e0.toInt ≠ e1.toInt) (d02 : e0.toInt ≠ e2.toInt) (d12 : e1.toInt ≠ e2.toInt) (hc : C0 = C1) (HM : ∀ m0 m1 m2 w0 w1 w2 : Int, own_M t1 t2 t3 m0 m1 m2 → own_Wp t1 b1 t2 b2 t3 b3 w0 w1 w2 → own_is e0.toInt m0 m1 m2 1 ∧ own_is e1.toInt m0 m1 m2 1 ∧ own_is e2.toInt m0 m1 m2 0 ∧ own_is e0.toInt w0 w1 w2 C0 ∧ own_is e1.toInt w0 w1 w2 C1) : ∃ g0 g1 g2 : Int32, (([.int 0, .int 0, .int 0] : List Value).set e2.toInt.toNat (.int 1)) = [.int g0, .int g1, .int g2] ∧ ∀ m0 m1 m2 w0 w1 w2 : Int, own_M t1 t2 t3 m0 m1 m2 → own_Wp t1 b1 t2 b2 t3 b3 w0 w1 w2 → own_FIN m0 m1 m2 w0 w1 w2 (2 : Int32).toInt g0.toInt g1.toInt g2.toInt := by
  obtain ⟨p0, p1, p2⟩ | ⟨p0, p1, p2⟩ | ⟨p0, p1, p2⟩ | ⟨p0, p1, p2⟩ | ⟨p0, p1, p2⟩ | ⟨p0, p1, p2⟩ : (e0.toInt = 0 ∧ e1.toInt = 1 ∧ e2.toInt = 2) ∨ (e0.toInt = 0 ∧ e1.toInt = 2 ∧ e2.toInt = 1) ∨ (e0.toInt = 1 ∧ e1.toInt = 0 ∧ e2.toInt = 2) ∨ (e0.toInt = 1 ∧ e1.toInt = 2 ∧ e2.toInt = 0) ∨ (e0.toInt = 2 ∧ e1.toInt = 0 ∧ e2.toInt = 1) ∨ (e0.toInt = 2 ∧ e1.toInt = 1 ∧ e2.toInt = 0) := by omega
  · rw [p0, p1, p2] at HM
    rw [show e2.toInt.toNat = 2 by omega]
    refine ⟨_, _, _, rfl, fun m0 m1 m2 w0 w1 w2 hM hW => ?_⟩
    obtain ⟨k0, k1, k2, k3, k4⟩ := HM m0 m1 m2 w0 w1 w2 hM hW
    obtain rfl : m0 = 1 := own_is0 k0
    obtain rfl : m1 = 1 := own_is1 k1
    obtain rfl : m2 = 0 := own_is2 k2
    obtain rfl : w0 = C0 := own_is0 k3
    obtain rfl : w1 = C1 := own_is1 k4
    exact cf3 _ _ _ (by omega)
  · rw [p0, p1, p2] at HM
    rw [show e2.toInt.toNat = 1 by omega]
    refine ⟨_, _, _, rfl, fun m0 m1 m2 w0 w1 w2 hM hW => ?_⟩
    obtain ⟨k0, k1, k2, k3, k4⟩ := HM m0 m1 m2 w0 w1 w2 hM hW
    obtain rfl : m0 = 1 := own_is0 k0
    obtain rfl : m2 = 1 := own_is2 k1
    obtain rfl : m1 = 0 := own_is1 k2
    obtain rfl : w0 = C0 := own_is0 k3
    obtain rfl : w2 = C1 := own_is2 k4
    exact cf4 _ _ _ (by omega)
  · rw [p0, p1, p2] at HM
    rw [show e2.toInt.toNat = 2 by omega]
    refine ⟨_, _, _, rfl, fun m0 m1 m2 w0 w1 w2 hM hW => ?_⟩
    obtain ⟨k0, k1, k2, k3, k4⟩ := HM m0 m1 m2 w0 w1 w2 hM hW
    obtain rfl : m1 = 1 := own_is1 k0
    obtain rfl : m0 = 1 := own_is0 k1
    obtain rfl : m2 = 0 := own_is2 k2
    obtain rfl : w1 = C0 := own_is1 k3
    obtain rfl : w0 = C1 := own_is0 k4
    exact cf3 _ _ _ (by omega)
  · rw [p0, p1, p2] at HM
    rw [show e2.toInt.toNat = 0 by omega]
    refine ⟨_, _, _, rfl, fun m0 m1 m2 w0 w1 w2 hM hW => ?_⟩
    obtain ⟨k0, k1, k2, k3, k4⟩ := HM m0 m1 m2 w0 w1 w2 hM hW
    obtain rfl : m1 = 1 := own_is1 k0
    obtain rfl : m2 = 1 := own_is2 k1
    obtain rfl : m0 = 0 := own_is0 k2
    obtain rfl : w1 = C0 := own_is1 k3
    obtain rfl : w2 = C1 := own_is2 k4
    exact cf5 _ _ _ (by omega)
  · rw [p0, p1, p2] at HM
    rw [show e2.toInt.toNat = 1 by omega]
    refine ⟨_, _, _, rfl, fun m0 m1 m2 w0 w1 w2 hM hW => ?_⟩
    obtain ⟨k0, k1, k2, k3, k4⟩ := HM m0 m1 m2 w0 w1 w2 hM hW
    obtain rfl : m2 = 1 := own_is2 k0
    obtain rfl : m0 = 1 := own_is0 k1
    obtain rfl : m1 = 0 := own_is1 k2
    obtain rfl : w2 = C0 := own_is2 k3
    obtain rfl : w0 = C1 := own_is0 k4
    exact cf4 _ _ _ (by omega)
  · rw [p0, p1, p2] at HM
    rw [show e2.toInt.toNat = 0 by omega]
    refine ⟨_, _, _, rfl, fun m0 m1 m2 w0 w1 w2 hM hW => ?_⟩
    obtain ⟨k0, k1, k2, k3, k4⟩ := HM m0 m1 m2 w0 w1 w2 hM hW
    obtain rfl : m2 = 1 := own_is2 k0
    obtain rfl : m1 = 1 := own_is1 k1
    obtain rfl : m0 = 0 := own_is0 k2
    obtain rfl : w2 = C0 := own_is2 k3
    obtain rfl : w1 = C1 := own_is1 k4
    exact cf5 _ _ _ (by omega)
theorem cf6 (w0 w1 w2 : Int) (h0 : w0 < w1) : own_FIN 1 1 0 w0 w1 w2 3 0 1 2 := own_fin 0 1 0 (own_bef_y (by omega)) (own_bef_y (by omega)) (own_bef_n (by omega)) (own_bef_y (by omega)) (own_bef_n (by omega)) (own_bef_n (by omega)) (own_sam_n (by omega)) (own_sam_n (by omega)) (own_sam_n (by omega)) (own_sam_n (by omega)) (own_sam_n (by omega)) (own_sam_n (by omega)) rfl rfl rfl rfl rfl rfl (by decide) (by decide) (by decide)
theorem cf7 (w0 w1 w2 : Int) (h0 : w0 < w2) : own_FIN 1 0 1 w0 w1 w2 3 0 2 1 := own_fin 0 1 0 (own_bef_y (by omega)) (own_bef_y (by omega)) (own_bef_n (by omega)) (own_bef_n (by omega)) (own_bef_n (by omega)) (own_bef_y (by omega)) (own_sam_n (by omega)) (own_sam_n (by omega)) (own_sam_n (by omega)) (own_sam_n (by omega)) (own_sam_n (by omega)) (own_sam_n (by omega)) rfl rfl rfl rfl rfl rfl (by decide) (by decide) (by decide)
theorem cf8 (w0 w1 w2 : Int) (h0 : w1 < w0) : own_FIN 1 1 0 w0 w1 w2 3 1 0 2 := own_fin 0 1 0 (own_bef_n (by omega)) (own_bef_y (by omega)) (own_bef_y (by omega)) (own_bef_y (by omega)) (own_bef_n (by omega)) (own_bef_n (by omega)) (own_sam_n (by omega)) (own_sam_n (by omega)) (own_sam_n (by omega)) (own_sam_n (by omega)) (own_sam_n (by omega)) (own_sam_n (by omega)) rfl rfl rfl rfl rfl rfl (by decide) (by decide) (by decide)
theorem cf9 (w0 w1 w2 : Int) (h0 : w1 < w2) : own_FIN 0 1 1 w0 w1 w2 3 2 0 1 := own_fin 0 1 0 (own_bef_n (by omega)) (own_bef_n (by omega)) (own_bef_y (by omega)) (own_bef_y (by omega)) (own_bef_y (by omega)) (own_bef_n (by omega)) (own_sam_n (by omega)) (own_sam_n (by omega)) (own_sam_n (by omega)) (own_sam_n (by omega)) (own_sam_n (by omega)) (own_sam_n (by omega)) rfl rfl rfl rfl rfl rfl (by decide) (by decide) (by decide)
theorem cf10 (w0 w1 w2 : Int) (h0 : w2 < w0) : own_FIN 1 0 1 w0 w1 w2 3 1 2 0 := own_fin 1 1 0 (own_bef_y (by omega)) (own_bef_n (by omega)) (own_bef_n (by omega)) (own_bef_n (by omega)) (own_bef_y (by omega)) (own_bef_y (by omega)) (own_sam_n (by omega)) (own_sam_n (by omega)) (own_sam_n (by omega)) (own_sam_n (by omega)) (own_sam_n (by omega)) (own_sam_n (by omega)) rfl rfl rfl rfl rfl rfl (by decide) (by decide) (by decide)
theorem cf11 (w0 w1 w2 : Int) (h0 : w2 < w1) : own_FIN 0 1 1 w0 w1 w2 3 2 1 0 := own_fin 1 1 0 (own_bef_n (by omega)) (own_bef_n (by omega)) (own_bef_y (by omega)) (own_bef_n (by omega)) (own_bef_y (by omega)) (own_bef_y (by omega)) (own_sam_n (by omega)) (own_sam_n (by omega)) (own_sam_n (by omega)) (own_sam_n (by omega)) (own_sam_n (by omega)) (own_sam_n (by omega)) rfl rfl rfl rfl rfl rfl (by decide) (by decide) (by decide)
set_option maxHeartbeats 8000000 in
theorem own_f2b (e0 e1 e2 : Int32) (t1 b1 t2 b2 t3 b3 : Int) (C0 C1 : Int) (v00 : 0 ≤ e0.toInt) (v01 : e0.toInt < 3) (v10 : 0 ≤ e1.toInt) (v11 : e1.toInt < 3) (v20 : 0 ≤ e2.toInt) (v21 : e2.toInt < 3) (d01 : e0.toInt ≠ e1.toInt) (d02 : e0.toInt ≠ e2.toInt) (d12 : e1.toInt ≠ e2.toInt) (hc : C0 < C1) (HM : ∀ m0 m1 m2 w0 w1 w2 : Int, own_M t1 t2 t3 m0 m1 m2 → own_Wp t1 b1 t2 b2 t3 b3 w0 w1 w2 → own_is e0.toInt m0 m1 m2 1 ∧ own_is e1.toInt m0 m1 m2 1 ∧ own_is e2.toInt m0 m1 m2 0 ∧ own_is e0.toInt w0 w1 w2 C0 ∧ own_is e1.toInt w0 w1 w2 C1) : ∃ g0 g1 g2 : Int32, ((([.int 0, .int 0, .int 0] : List Value).set e1.toInt.toNat (.int 1)).set e2.toInt.toNat (.int 2)) = [.int g0, .int g1, .int g2] ∧ ∀ m0 m1 m2 w0 w1 w2 : Int, own_M t1 t2 t3 m0 m1 m2 → own_Wp t1 b1 t2 b2 t3 b3 w0 w1 w2 → own_FIN m0 m1 m2 w0 w1 w2 (3 : Int32).toInt g0.toInt g1.toInt g2.toInt := by
  obtain ⟨p0, p1, p2⟩ | ⟨p0, p1, p2⟩ | ⟨p0, p1, p2⟩ | ⟨p0, p1, p2⟩ | ⟨p0, p1, p2⟩ | ⟨p0, p1, p2⟩ : (e0.toInt = 0 ∧ e1.toInt = 1 ∧ e2.toInt = 2) ∨ (e0.toInt = 0 ∧ e1.toInt = 2 ∧ e2.toInt = 1) ∨ (e0.toInt = 1 ∧ e1.toInt = 0 ∧ e2.toInt = 2) ∨ (e0.toInt = 1 ∧ e1.toInt = 2 ∧ e2.toInt = 0) ∨ (e0.toInt = 2 ∧ e1.toInt = 0 ∧ e2.toInt = 1) ∨ (e0.toInt = 2 ∧ e1.toInt = 1 ∧ e2.toInt = 0) := by omega
  · rw [p0, p1, p2] at HM
    rw [show e1.toInt.toNat = 1 by omega, show e2.toInt.toNat = 2 by omega]
    refine ⟨_, _, _, rfl, fun m0 m1 m2 w0 w1 w2 hM hW => ?_⟩
    obtain ⟨k0, k1, k2, k3, k4⟩ := HM m0 m1 m2 w0 w1 w2 hM hW
    obtain rfl : m0 = 1 := own_is0 k0
    obtain rfl : m1 = 1 := own_is1 k1
    obtain rfl : m2 = 0 := own_is2 k2
    obtain rfl : w0 = C0 := own_is0 k3
    obtain rfl : w1 = C1 := own_is1 k4
    exact cf6 _ _ _ (by omega)
  · rw [p0, p1, p2] at HM
    rw [show e1.toInt.toNat = 2 by omega, show e2.toInt.toNat = 1 by omega]
    refine ⟨_, _, _, rfl, fun m0 m1 m2 w0 w1 w2 hM hW => ?_⟩
    obtain ⟨k0, k1, k2, k3, k4⟩ := HM m0 m1 m2 w0 w1 w2 hM hW
    obtain rfl : m0 = 1 := own_is0 k0
    obtain rfl : m2 = 1 := own_is2 k1
    obtain rfl : m1 = 0 := own_is1 k2
    obtain rfl : w0 = C0 := own_is0 k3
    obtain rfl : w2 = C1 := own_is2 k4
    exact cf7 _ _ _ (by omega)
  · rw [p0, p1, p2] at HM
    rw [show e1.toInt.toNat = 0 by omega, show e2.toInt.toNat = 2 by omega]
    refine ⟨_, _, _, rfl, fun m0 m1 m2 w0 w1 w2 hM hW => ?_⟩
    obtain ⟨k0, k1, k2, k3, k4⟩ := HM m0 m1 m2 w0 w1 w2 hM hW
    obtain rfl : m1 = 1 := own_is1 k0
    obtain rfl : m0 = 1 := own_is0 k1
    obtain rfl : m2 = 0 := own_is2 k2
    obtain rfl : w1 = C0 := own_is1 k3
    obtain rfl : w0 = C1 := own_is0 k4
    exact cf8 _ _ _ (by omega)
  · rw [p0, p1, p2] at HM
    rw [show e1.toInt.toNat = 2 by omega, show e2.toInt.toNat = 0 by omega]
    refine ⟨_, _, _, rfl, fun m0 m1 m2 w0 w1 w2 hM hW => ?_⟩
    obtain ⟨k0, k1, k2, k3, k4⟩ := HM m0 m1 m2 w0 w1 w2 hM hW
    obtain rfl : m1 = 1 := own_is1 k0
    obtain rfl : m2 = 1 := own_is2 k1
    obtain rfl : m0 = 0 := own_is0 k2
    obtain rfl : w1 = C0 := own_is1 k3
    obtain rfl : w2 = C1 := own_is2 k4
    exact cf9 _ _ _ (by omega)
  · rw [p0, p1, p2] at HM
    rw [show e1.toInt.toNat = 0 by omega, show e2.toInt.toNat = 1 by omega]
    refine ⟨_, _, _, rfl, fun m0 m1 m2 w0 w1 w2 hM hW => ?_⟩
    obtain ⟨k0, k1, k2, k3, k4⟩ := HM m0 m1 m2 w0 w1 w2 hM hW
    obtain rfl : m2 = 1 := own_is2 k0
    obtain rfl : m0 = 1 := own_is0 k1
    obtain rfl : m1 = 0 := own_is1 k2
    obtain rfl : w2 = C0 := own_is2 k3
    obtain rfl : w0 = C1 := own_is0 k4
    exact cf10 _ _ _ (by omega)
  · rw [p0, p1, p2] at HM
    rw [show e1.toInt.toNat = 1 by omega, show e2.toInt.toNat = 0 by omega]
    refine ⟨_, _, _, rfl, fun m0 m1 m2 w0 w1 w2 hM hW => ?_⟩
    obtain ⟨k0, k1, k2, k3, k4⟩ := HM m0 m1 m2 w0 w1 w2 hM hW
    obtain rfl : m2 = 1 := own_is2 k0
    obtain rfl : m1 = 1 := own_is1 k1
    obtain rfl : m0 = 0 := own_is0 k2
    obtain rfl : w2 = C0 := own_is2 k3
    obtain rfl : w1 = C1 := own_is1 k4
    exact cf11 _ _ _ (by omega)
theorem cf12 (w0 w1 w2 : Int) (h0 : w0 = w1) (h1 : w0 = w2) (h2 : w1 = w2) : own_FIN 1 1 1 w0 w1 w2 1 0 0 0 := own_fin 0 3 0 (own_bef_n (by omega)) (own_bef_n (by omega)) (own_bef_n (by omega)) (own_bef_n (by omega)) (own_bef_n (by omega)) (own_bef_n (by omega)) (own_sam_y (by omega)) (own_sam_y (by omega)) (own_sam_y (by omega)) (own_sam_y (by omega)) (own_sam_y (by omega)) (own_sam_y (by omega)) rfl rfl rfl rfl rfl rfl (by decide) (by decide) (by decide)
set_option maxHeartbeats 8000000 in
theorem own_f3a (e0 e1 e2 : Int32) (t1 b1 t2 b2 t3 b3 : Int) (C0 C1 C2 : Int) (v00 : 0 ≤ e0.toInt) (v01 : e0.toInt < 3) (v10 : 0 ≤ e1.toInt) (v11 : e1.toInt < 3) (v20 : 0 ≤ e2.toInt) (v21 : e2.toInt < 3) (d01 : e0.toInt ≠ e1.toInt) (d02 : e0.toInt ≠ e2.toInt) (d12 : e1.toInt ≠ e2.toInt) (hc : C1 = C0) (hd : C2 = C0) (HM : ∀ m0 m1 m2 w0 w1 w2 : Int, own_M t1 t2 t3 m0 m1 m2 → own_Wp t1 b1 t2 b2 t3 b3 w0 w1 w2 → own_is e0.toInt m0 m1 m2 1 ∧ own_is e1.toInt m0 m1 m2 1 ∧ own_is e2.toInt m0 m1 m2 1 ∧ own_is e0.toInt w0 w1 w2 C0 ∧ own_is e1.toInt w0 w1 w2 C1 ∧ own_is e2.toInt w0 w1 w2 C2) : ∃ g0 g1 g2 : Int32, ([.int 0, .int 0, .int 0] : List Value) = [.int g0, .int g1, .int g2] ∧ ∀ m0 m1 m2 w0 w1 w2 : Int, own_M t1 t2 t3 m0 m1 m2 → own_Wp t1 b1 t2 b2 t3 b3 w0 w1 w2 → own_FIN m0 m1 m2 w0 w1 w2 (1 : Int32).toInt g0.toInt g1.toInt g2.toInt := by
  obtain ⟨p0, p1, p2⟩ | ⟨p0, p1, p2⟩ | ⟨p0, p1, p2⟩ | ⟨p0, p1, p2⟩ | ⟨p0, p1, p2⟩ | ⟨p0, p1, p2⟩ : (e0.toInt = 0 ∧ e1.toInt = 1 ∧ e2.toInt = 2) ∨ (e0.toInt = 0 ∧ e1.toInt = 2 ∧ e2.toInt = 1) ∨ (e0.toInt = 1 ∧ e1.toInt = 0 ∧ e2.toInt = 2) ∨ (e0.toInt = 1 ∧ e1.toInt = 2 ∧ e2.toInt = 0) ∨ (e0.toInt = 2 ∧ e1.toInt = 0 ∧ e2.toInt = 1) ∨ (e0.toInt = 2 ∧ e1.toInt = 1 ∧ e2.toInt = 0) := by omega
  · rw [p0, p1, p2] at HM
    skip
    refine ⟨_, _, _, rfl, fun m0 m1 m2 w0 w1 w2 hM hW => ?_⟩
    obtain ⟨k0, k1, k2, k3, k4, k5⟩ := HM m0 m1 m2 w0 w1 w2 hM hW
    obtain rfl : m0 = 1 := own_is0 k0
    obtain rfl : m1 = 1 := own_is1 k1
    obtain rfl : m2 = 1 := own_is2 k2
    obtain rfl : w0 = C0 := own_is0 k3
    obtain rfl : w1 = C1 := own_is1 k4
    obtain rfl : w2 = C2 := own_is2 k5
    exact cf12 _ _ _ (by omega) (by omega) (by omega)
  · rw [p0, p1, p2] at HM
    skip
    refine ⟨_, _, _, rfl, fun m0 m1 m2 w0 w1 w2 hM hW => ?_⟩
    obtain ⟨k0, k1, k2, k3, k4, k5⟩ := HM m0 m1 m2 w0 w1 w2 hM hW
    obtain rfl : m0 = 1 := own_is0 k0
    obtain rfl : m2 = 1 := own_is2 k1
    obtain rfl : m1 = 1 := own_is1 k2
    obtain rfl : w0 = C0 := own_is0 k3
    obtain rfl : w2 = C1 := own_is2 k4
    obtain rfl : w1 = C2 := own_is1 k5
    exact cf12 _ _ _ (by omega) (by omega) (by omega)
  · rw [p0, p1, p2] at HM
    skip
    refine ⟨_, _, _, rfl, fun m0 m1 m2 w0 w1 w2 hM hW => ?_⟩
    obtain ⟨k0, k1, k2, k3, k4, k5⟩ := HM m0 m1 m2 w0 w1 w2 hM hW
    obtain rfl : m1 = 1 := own_is1 k0
    obtain rfl : m0 = 1 := own_is0 k1
    obtain rfl : m2 = 1 := own_is2 k2
    obtain rfl : w1 = C0 := own_is1 k3
    obtain rfl : w0 = C1 := own_is0 k4
    obtain rfl : w2 = C2 := own_is2 k5
    exact cf12 _ _ _ (by omega) (by omega) (by omega)
  · rw [p0, p1, p2] at HM
    skip
    refine ⟨_, _, _, rfl, fun m0 m1 m2 w0 w1 w2 hM hW => ?_⟩
    obtain ⟨k0, k1, k2, k3, k4, k5⟩ := HM m0 m1 m2 w0 w1 w2 hM hW
    obtain rfl : m1 = 1 := own_is1 k0
    obtain rfl : m2 = 1 := own_is2 k1
    obtain rfl : m0 = 1 := own_is0 k2
    obtain rfl : w1 = C0 := own_is1 k3
    obtain rfl : w2 = C1 := own_is2 k4
    obtain rfl : w0 = C2 := own_is0 k5
    exact cf12 _ _ _ (by omega) (by omega) (by omega)
  · rw [p0, p1, p2] at HM
    skip
    refine ⟨_, _, _, rfl, fun m0 m1 m2 w0 w1 w2 hM hW => ?_⟩
    obtain ⟨k0, k1, k2, k3, k4, k5⟩ := HM m0 m1 m2 w0 w1 w2 hM hW
    obtain rfl : m2 = 1 := own_is2 k0
    obtain rfl : m0 = 1 := own_is0 k1
    obtain rfl : m1 = 1 := own_is1 k2
    obtain rfl : w2 = C0 := own_is2 k3
    obtain rfl : w0 = C1 := own_is0 k4
    obtain rfl : w1 = C2 := own_is1 k5
    exact cf12 _ _ _ (by omega) (by omega) (by omega)
  · rw [p0, p1, p2] at HM
    skip
    refine ⟨_, _, _, rfl, fun m0 m1 m2 w0 w1 w2 hM hW => ?_⟩
    obtain ⟨k0, k1, k2, k3, k4, k5⟩ := HM m0 m1 m2 w0 w1 w2 hM hW
    obtain rfl : m2 = 1 := own_is2 k0
    obtain rfl : m1 = 1 := own_is1 k1
    obtain rfl : m0 = 1 := own_is0 k2
    obtain rfl : w2 = C0 := own_is2 k3
    obtain rfl : w1 = C1 := own_is1 k4
    obtain rfl : w0 = C2 := own_is0 k5
    exact cf12 _ _ _ (by omega) (by omega) (by omega)
theorem cf13 (w0 w1 w2 : Int) (h0 : w0 = w1) (h1 : w0 < w2) (h2 : w1 < w2) : own_FIN 1 1 1 w0 w1 w2 2 0 0 1 := own_fin 0 2 0 (own_bef_n (by omega)) (own_bef_y (by omega)) (own_bef_n (by omega)) (own_bef_y (by omega)) (own_bef_n (by omega)) (own_bef_n (by omega)) (own_sam_y (by omega)) (own_sam_n (by omega)) (own_sam_y (by omega)) (own_sam_n (by omega)) (own_sam_n (by omega)) (own_sam_n (by omega)) rfl rfl rfl rfl rfl rfl (by decide) (by decide) (by decide)
theorem cf14 (w0 w1 w2 : Int) (h0 : w0 < w1) (h1 : w0 = w2) (h2 : w2 < w1) : own_FIN 1 1 1 w0 w1 w2 2 0 1 0 := own_fin 0 2 0 (own_bef_y (by omega)) (own_bef_n (by omega)) (own_bef_n (by omega)) (own_bef_n (by omega)) (own_bef_n (by omega)) (own_bef_y (by omega)) (own_sam_n (by omega)) (own_sam_y (by omega)) (own_sam_n (by omega)) (own_sam_n (by omega)) (own_sam_y (by omega)) (own_sam_n (by omega)) rfl rfl rfl rfl rfl rfl (by decide) (by decide) (by decide)
theorem cf15 (w0 w1 w2 : Int) (h0 : w1 < w0) (h1 : w2 < w0) (h2 : w1 = w2) : own_FIN 1 1 1 w0 w1 w2 2 1 0 0 := own_fin 0 2 0 (own_bef_n (by omega)) (own_bef_n (by omega)) (own_bef_y (by omega)) (own_bef_n (by omega)) (own_bef_y (by omega)) (own_bef_n (by omega)) (own_sam_n (by omega)) (own_sam_n (by omega)) (own_sam_n (by omega)) (own_sam_y (by omega)) (own_sam_n (by omega)) (own_sam_y (by omega)) rfl rfl rfl rfl rfl rfl (by decide) (by decide) (by decide)
set_option maxHeartbeats 8000000 in
theorem own_f3b (e0 e1 e2 : Int32) (t1 b1 t2 b2 t3 b3 : Int) (C0 C1 C2 : Int) (v00 : 0 ≤ e0.toInt) (v01 : e0.toInt < 3) (v10 : 0 ≤ e1.toInt) (v11 : e1.toInt < 3) (v20 : 0 ≤ e2.toInt) (v21 : e2.toInt < 3) (d01 : e0.toInt ≠ e1.toInt) (d02 : e0.toInt ≠ e2.toInt) (d12 : e1.toInt ≠ e2.toInt) (hc : C0 = C1) (hd : C1 < C2) (HM : ∀ m0 m1 m2 w0 w1 w2 : Int, own_M t1 t2 t3 m0 m1 m2 → own_Wp t1 b1 t2 b2 t3 b3 w0 w1 w2 → own_is e0.toInt m0 m1 m2 1 ∧ own_is e1.toInt m0 m1 m2 1 ∧ own_is e2.toInt m0 m1 m2 1 ∧ own_is e0.toInt w0 w1 w2 C0 ∧ own_is e1.toInt w0 w1 w2 C1 ∧ own_is e2.toInt w0 w1 w2 C2) : ∃ g0 g1 g2 : Int32, (([.int 0, .int 0, .int 0] : List Value).set e2.toInt.toNat (.int 1)) = [.int g0, .int g1, .int g2] ∧ ∀ m0 m1 m2 w0 w1 w2 : Int, own_M t1 t2 t3 m0 m1 m2 → own_Wp t1 b1 t2 b2 t3 b3 w0 w1 w2 → own_FIN m0 m1 m2 w0 w1 w2 (2 : Int32).toInt g0.toInt g1.toInt g2.toInt := by
  obtain ⟨p0, p1, p2⟩ | ⟨p0, p1, p2⟩ | ⟨p0, p1, p2⟩ | ⟨p0, p1, p2⟩ | ⟨p0, p1, p2⟩ | ⟨p0, p1, p2⟩ : (e0.toInt = 0 ∧ e1.toInt = 1 ∧ e2.toInt = 2) ∨ (e0.toInt = 0 ∧ e1.toInt = 2 ∧ e2.toInt = 1) ∨ (e0.toInt = 1 ∧ e1.toInt = 0 ∧ e2.toInt = 2) ∨ (e0.toInt = 1 ∧ e1.toInt = 2 ∧ e2.toInt = 0) ∨ (e0.toInt = 2 ∧ e1.toInt = 0 ∧ e2.toInt = 1) ∨ (e0.toInt = 2 ∧ e1.toInt = 1 ∧ e2.toInt = 0) := by omega
  · rw [p0, p1, p2] at HM
    rw [show e2.toInt.toNat = 2 by omega]
    refine ⟨_, _, _, rfl, fun m0 m1 m2 w0 w1 w2 hM hW => ?_⟩
    obtain ⟨k0, k1, k2, k3, k4, k5⟩ := HM m0 m1 m2 w0 w1 w2 hM hW
    obtain rfl : m0 = 1 := own_is0 k0
    obtain rfl : m1 = 1 := own_is1 k1
    obtain rfl : m2 = 1 := own_is2 k2
    obtain rfl : w0 = C0 := own_is0 k3
    obtain rfl : w1 = C1 := own_is1 k4
    obtain rfl : w2 = C2 := own_is2 k5
    exact cf13 _ _ _ (by omega) (by omega) (by omega)
  · rw [p0, p1, p2] at HM
    rw [show e2.toInt.toNat = 1 by omega]
    refine ⟨_, _, _, rfl, fun m0 m1 m2 w0 w1 w2 hM hW => ?_⟩
    obtain ⟨k0, k1, k2, k3, k4, k5⟩ := HM m0 m1 m2 w0 w1 w2 hM hW
    obtain rfl : m0 = 1 := own_is0 k0
    obtain rfl : m2 = 1 := own_is2 k1
    obtain rfl : m1 = 1 := own_is1 k2
    obtain rfl : w0 = C0 := own_is0 k3
    obtain rfl : w2 = C1 := own_is2 k4
    obtain rfl : w1 = C2 := own_is1 k5
    exact cf14 _ _ _ (by omega) (by omega) (by omega)
  · rw [p0, p1, p2] at HM
    rw [show e2.toInt.toNat = 2 by omega]
    refine ⟨_, _, _, rfl, fun m0 m1 m2 w0 w1 w2 hM hW => ?_⟩
    obtain ⟨k0, k1, k2, k3, k4, k5⟩ := HM m0 m1 m2 w0 w1 w2 hM hW
    obtain rfl : m1 = 1 := own_is1 k0
    obtain rfl : m0 = 1 := own_is0 k1
    obtain rfl : m2 = 1 := own_is2 k2
    obtain rfl : w1 = C0 := own_is1 k3
    obtain rfl : w0 = C1 := own_is0 k4
    obtain rfl : w2 = C2 := own_is2 k5
    exact cf13 _ _ _ (by omega) (by omega) (by omega)
  · rw [p0, p1, p2] at HM
    rw [show e2.toInt.toNat = 0 by omega]
    refine ⟨_, _, _, rfl, fun m0 m1 m2 w0 w1 w2 hM hW => ?_⟩
    obtain ⟨k0, k1, k2, k3, k4, k5⟩ := HM m0 m1 m2 w0 w1 w2 hM hW
    obtain rfl : m1 = 1 := own_is1 k0
    obtain rfl : m2 = 1 := own_is2 k1
    obtain rfl : m0 = 1 := own_is0 k2
    obtain rfl : w1 = C0 := own_is1 k3
    obtain rfl : w2 = C1 := own_is2 k4
    obtain rfl : w0 = C2 := own_is0 k5
    exact cf15 _ _ _ (by omega) (by omega) (by omega)
  · rw [p0, p1, p2] at HM
    rw [show e2.toInt.toNat = 1 by omega]
    refine ⟨_, _, _, rfl, fun m0 m1 m2 w0 w1 w2 hM hW => ?_⟩
    obtain ⟨k0, k1, k2, k3, k4, k5⟩ := HM m0 m1 m2 w0 w1 w2 hM hW
    obtain rfl : m2 = 1 := own_is2 k0
    obtain rfl : m0 = 1 := own_is0 k1
    obtain rfl : m1 = 1 := own_is1 k2
    obtain rfl : w2 = C0 := own_is2 k3
    obtain rfl : w0 = C1 := own_is0 k4
    obtain rfl : w1 = C2 := own_is1 k5
    exact cf14 _ _ _ (by omega) (by omega) (by omega)
  · rw [p0, p1, p2] at HM
    rw [show e2.toInt.toNat = 0 by omega]
    refine ⟨_, _, _, rfl, fun m0 m1 m2 w0 w1 w2 hM hW => ?_⟩
    obtain ⟨k0, k1, k2, k3, k4, k5⟩ := HM m0 m1 m2 w0 w1 w2 hM hW
    obtain rfl : m2 = 1 := own_is2 k0
    obtain rfl : m1 = 1 := own_is1 k1
    obtain rfl : m0 = 1 := own_is0 k2
    obtain rfl : w2 = C0 := own_is2 k3
    obtain rfl : w1 = C1 := own_is1 k4
    obtain rfl : w0 = C2 := own_is0 k5
    exact cf15 _ _ _ (by omega) (by omega) (by omega)
theorem cf16 (w0 w1 w2 : Int) (h0 : w0 < w1) (h1 : w0 < w2) (h2 : w1 = w2) : own_FIN 1 1 1 w0 w1 w2 2 1 0 0 := own_fin 1 2 1 (own_bef_y (by omega)) (own_bef_y (by omega)) (own_bef_n (by omega)) (own_bef_n (by omega)) (own_bef_n (by omega)) (own_bef_n (by omega)) (own_sam_n (by omega)) (own_sam_n (by omega)) (own_sam_n (by omega)) (own_sam_y (by omega)) (own_sam_n (by omega)) (own_sam_y (by omega)) rfl rfl rfl rfl rfl rfl (by decide) (by decide) (by decide)
theorem cf17 (w0 w1 w2 : Int) (h0 : w1 < w0) (h1 : w0 = w2) (h2 : w1 < w2) : own_FIN 1 1 1 w0 w1 w2 2 0 1 0 := own_fin 1 2 1 (own_bef_n (by omega)) (own_bef_n (by omega)) (own_bef_y (by omega)) (own_bef_y (by omega)) (own_bef_n (by omega)) (own_bef_n (by omega)) (own_sam_n (by omega)) (own_sam_y (by omega)) (own_sam_n (by omega)) (own_sam_n (by omega)) (own_sam_y (by omega)) (own_sam_n (by omega)) rfl rfl rfl rfl rfl rfl (by decide) (by decide) (by decide)
theorem cf18 (w0 w1 w2 : Int) (h0 : w0 = w1) (h1 : w2 < w0) (h2 : w2 < w1) : own_FIN 1 1 1 w0 w1 w2 2 0 0 1 := own_fin 1 2 1 (own_bef_n (by omega)) (own_bef_n (by omega)) (own_bef_n (by omega)) (own_bef_n (by omega)) (own_bef_y (by omega)) (own_bef_y (by omega)) (own_sam_y (by omega)) (own_sam_n (by omega)) (own_sam_y (by omega)) (own_sam_n (by omega)) (own_sam_n (by omega)) (own_sam_n (by omega)) rfl rfl rfl rfl rfl rfl (by decide) (by decide) (by decide)
set_option maxHeartbeats 8000000 in
theorem own_f3c (e0 e1 e2 : Int32) (t1 b1 t2 b2 t3 b3 : Int) (C0 C1 C2 : Int) (v00 : 0 ≤ e0.toInt) (v01 : e0.toInt < 3) (v10 : 0 ≤ e1.toInt) (v11 : e1.toInt < 3) (v20 : 0 ≤ e2.toInt) (v21 : e2.toInt < 3) (d01 : e0.toInt ≠ e1.toInt) (d02 : e0.toInt ≠ e2.toInt) (d12 : e1.toInt ≠ e2.toInt) (hc : C0 < C1) (hd : C1 = C2) (HM : ∀ m0 m1 m2 w0 w1 w2 : Int, own_M t1 t2 t3 m0 m1 m2 → own_Wp t1 b1 t2 b2 t3 b3 w0 w1 w2 → own_is e0.toInt m0 m1 m2 1 ∧ own_is e1.toInt m0 m1 m2 1 ∧ own_is e2.toInt m0 m1 m2 1 ∧ own_is e0.toInt w0 w1 w2 C0 ∧ own_is e1.toInt w0 w1 w2 C1 ∧ own_is e2.toInt w0 w1 w2 C2) : ∃ g0 g1 g2 : Int32, (([.int 0, .int 0, .int 0] : List Value).set e0.toInt.toNat (.int 1)) = [.int g0, .int g1, .int g2] ∧ ∀ m0 m1 m2 w0 w1 w2 : Int, own_M t1 t2 t3 m0 m1 m2 → own_Wp t1 b1 t2 b2 t3 b3 w0 w1 w2 → own_FIN m0 m1 m2 w0 w1 w2 (2 : Int32).toInt g0.toInt g1.toInt g2.toInt := by
  obtain ⟨p0, p1, p2⟩ | ⟨p0, p1, p2⟩ | ⟨p0, p1, p2⟩ | ⟨p0, p1, p2⟩ | ⟨p0, p1, p2⟩ | ⟨p0, p1, p2⟩ : (e0.toInt = 0 ∧ e1.toInt = 1 ∧ e2.toInt = 2) ∨ (e0.toInt = 0 ∧ e1.toInt = 2 ∧ e2.toInt = 1) ∨ (e0.toInt = 1 ∧ e1.toInt = 0 ∧ e2.toInt = 2) ∨ (e0.toInt = 1 ∧ e1.toInt = 2 ∧ e2.toInt = 0) ∨ (e0.toInt = 2 ∧ e1.toInt = 0 ∧ e2.toInt = 1) ∨ (e0.toInt = 2 ∧ e1.toInt = 1 ∧ e2.toInt = 0) := by omega
  · rw [p0, p1, p2] at HM
    rw [show e0.toInt.toNat = 0 by omega]
    refine ⟨_, _, _, rfl, fun m0 m1 m2 w0 w1 w2 hM hW => ?_⟩
    obtain ⟨k0, k1, k2, k3, k4, k5⟩ := HM m0 m1 m2 w0 w1 w2 hM hW
    obtain rfl : m0 = 1 := own_is0 k0
    obtain rfl : m1 = 1 := own_is1 k1
    obtain rfl : m2 = 1 := own_is2 k2
    obtain rfl : w0 = C0 := own_is0 k3
    obtain rfl : w1 = C1 := own_is1 k4
    obtain rfl : w2 = C2 := own_is2 k5
    exact cf16 _ _ _ (by omega) (by omega) (by omega)
  · rw [p0, p1, p2] at HM
    rw [show e0.toInt.toNat = 0 by omega]
    refine ⟨_, _, _, rfl, fun m0 m1 m2 w0 w1 w2 hM hW => ?_⟩
    obtain ⟨k0, k1, k2, k3, k4, k5⟩ := HM m0 m1 m2 w0 w1 w2 hM hW
    obtain rfl : m0 = 1 := own_is0 k0
    obtain rfl : m2 = 1 := own_is2 k1
    obtain rfl : m1 = 1 := own_is1 k2
    obtain rfl : w0 = C0 := own_is0 k3
    obtain rfl : w2 = C1 := own_is2 k4
    obtain rfl : w1 = C2 := own_is1 k5
    exact cf16 _ _ _ (by omega) (by omega) (by omega)
  · rw [p0, p1, p2] at HM
    rw [show e0.toInt.toNat = 1 by omega]
    refine ⟨_, _, _, rfl, fun m0 m1 m2 w0 w1 w2 hM hW => ?_⟩
    obtain ⟨k0, k1, k2, k3, k4, k5⟩ := HM m0 m1 m2 w0 w1 w2 hM hW
    obtain rfl : m1 = 1 := own_is1 k0
    obtain rfl : m0 = 1 := own_is0 k1
    obtain rfl : m2 = 1 := own_is2 k2
    obtain rfl : w1 = C0 := own_is1 k3
    obtain rfl : w0 = C1 := own_is0 k4
    obtain rfl : w2 = C2 := own_is2 k5
    exact cf17 _ _ _ (by omega) (by omega) (by omega)
  · rw [p0, p1, p2] at HM
    rw [show e0.toInt.toNat = 1 by omega]
    refine ⟨_, _, _, rfl, fun m0 m1 m2 w0 w1 w2 hM hW => ?_⟩
    obtain ⟨k0, k1, k2, k3, k4, k5⟩ := HM m0 m1 m2 w0 w1 w2 hM hW
    obtain rfl : m1 = 1 := own_is1 k0
    obtain rfl : m2 = 1 := own_is2 k1
    obtain rfl : m0 = 1 := own_is0 k2
    obtain rfl : w1 = C0 := own_is1 k3
    obtain rfl : w2 = C1 := own_is2 k4
    obtain rfl : w0 = C2 := own_is0 k5
    exact cf17 _ _ _ (by omega) (by omega) (by omega)
  · rw [p0, p1, p2] at HM
    rw [show e0.toInt.toNat = 2 by omega]
    refine ⟨_, _, _, rfl, fun m0 m1 m2 w0 w1 w2 hM hW => ?_⟩
    obtain ⟨k0, k1, k2, k3, k4, k5⟩ := HM m0 m1 m2 w0 w1 w2 hM hW
    obtain rfl : m2 = 1 := own_is2 k0
    obtain rfl : m0 = 1 := own_is0 k1
    obtain rfl : m1 = 1 := own_is1 k2
    obtain rfl : w2 = C0 := own_is2 k3
    obtain rfl : w0 = C1 := own_is0 k4
    obtain rfl : w1 = C2 := own_is1 k5
    exact cf18 _ _ _ (by omega) (by omega) (by omega)
  · rw [p0, p1, p2] at HM
    rw [show e0.toInt.toNat = 2 by omega]
    refine ⟨_, _, _, rfl, fun m0 m1 m2 w0 w1 w2 hM hW => ?_⟩
    obtain ⟨k0, k1, k2, k3, k4, k5⟩ := HM m0 m1 m2 w0 w1 w2 hM hW
    obtain rfl : m2 = 1 := own_is2 k0
    obtain rfl : m1 = 1 := own_is1 k1
    obtain rfl : m0 = 1 := own_is0 k2
    obtain rfl : w2 = C0 := own_is2 k3
    obtain rfl : w1 = C1 := own_is1 k4
    obtain rfl : w0 = C2 := own_is0 k5
    exact cf18 _ _ _ (by omega) (by omega) (by omega)
theorem cf19 (w0 w1 w2 : Int) (h0 : w0 < w1) (h1 : w0 < w2) (h2 : w1 < w2) : own_FIN 1 1 1 w0 w1 w2 3 0 1 2 := own_fin 0 1 0 (own_bef_y (by omega)) (own_bef_y (by omega)) (own_bef_n (by omega)) (own_bef_y (by omega)) (own_bef_n (by omega)) (own_bef_n (by omega)) (own_sam_n (by omega)) (own_sam_n (by omega)) (own_sam_n (by omega)) (own_sam_n (by omega)) (own_sam_n (by omega)) (own_sam_n (by omega)) rfl rfl rfl rfl rfl rfl (by decide) (by decide) (by decide)
theorem cf20 (w0 w1 w2 : Int) (h0 : w0 < w1) (h1 : w0 < w2) (h2 : w2 < w1) : own_FIN 1 1 1 w0 w1 w2 3 0 2 1 := own_fin 0 1 0 (own_bef_y (by omega)) (own_bef_y (by omega)) (own_bef_n (by omega)) (own_bef_n (by omega)) (own_bef_n (by omega)) (own_bef_y (by omega)) (own_sam_n (by omega)) (own_sam_n (by omega)) (own_sam_n (by omega)) (own_sam_n (by omega)) (own_sam_n (by omega)) (own_sam_n (by omega)) rfl rfl rfl rfl rfl rfl (by decide) (by decide) (by decide)
theorem cf21 (w0 w1 w2 : Int) (h0 : w1 < w0) (h1 : w0 < w2) (h2 : w1 < w2) : own_FIN 1 1 1 w0 w1 w2 3 1 0 2 := own_fin 0 1 0 (own_bef_n (by omega)) (own_bef_y (by omega)) (own_bef_y (by omega)) (own_bef_y (by omega)) (own_bef_n (by omega)) (own_bef_n (by omega)) (own_sam_n (by omega)) (own_sam_n (by omega)) (own_sam_n (by omega)) (own_sam_n (by omega)) (own_sam_n (by omega)) (own_sam_n (by omega)) rfl rfl rfl rfl rfl rfl (by decide) (by decide) (by decide)
theorem cf22 (w0 w1 w2 : Int) (h0 : w1 < w0) (h1 : w2 < w0) (h2 : w1 < w2) : own_FIN 1 1 1 w0 w1 w2 3 2 0 1 := own_fin 0 1 0 (own_bef_n (by omega)) (own_bef_n (by omega)) (own_bef_y (by omega)) (own_bef_y (by omega)) (own_bef_y (by omega)) (own_bef_n (by omega)) (own_sam_n (by omega)) (own_sam_n (by omega)) (own_sam_n (by omega)) (own_sam_n (by omega)) (own_sam_n (by omega)) (own_sam_n (by omega)) rfl rfl rfl rfl rfl rfl (by decide) (by decide) (by decide)
theorem cf23 (w0 w1 w2 : Int) (h0 : w0 < w1) (h1 : w2 < w0) (h2 : w2 < w1) : own_FIN 1 1 1 w0 w1 w2 3 1 2 0 := own_fin 1 1 0 (own_bef_y (by omega)) (own_bef_n (by omega)) (own_bef_n (by omega)) (own_bef_n (by omega)) (own_bef_y (by omega)) (own_bef_y (by omega)) (own_sam_n (by omega)) (own_sam_n (by omega)) (own_sam_n (by omega)) (own_sam_n (by omega)) (own_sam_n (by omega)) (own_sam_n (by omega)) rfl rfl rfl rfl rfl rfl (by decide) (by decide) (by decide)
theorem cf24 (w0 w1 w2 : Int) (h0 : w1 < w0) (h1 : w2 < w0) (h2 : w2 < w1) : own_FIN 1 1 1 w0 w1 w2 3 2 1 0 := own_fin 1 1 0 (own_bef_n (by omega)) (own_bef_n (by omega)) (own_bef_y (by omega)) (own_bef_n (by omega)) (own_bef_y (by omega)) (own_bef_y (by omega)) (own_sam_n (by omega)) (own_sam_n (by omega)) (own_sam_n (by omega)) (own_sam_n (by omega)) (own_sam_n (by omega)) (own_sam_n (by omega)) rfl rfl rfl rfl rfl rfl (by decide) (by decide) (by decide)
set_option maxHeartbeats 8000000 in
theorem own_f3d (e0 e1 e2 : Int32) (t1 b1 t2 b2 t3 b3 : Int) (C0 C1 C2 : Int) (v00 : 0 ≤ e0.toInt) (v01 : e0.toInt < 3) (v10 : 0 ≤ e1.toInt) (v11 : e1.toInt < 3) (v20 : 0 ≤ e2.toInt) (v21 : e2.toInt < 3) (d01 : e0.toInt ≠ e1.toInt) (d02 : e0.toInt ≠ e2.toInt) (d12 : e1.toInt ≠ e2.toInt) (hc : C0 < C1) (hd : C1 < C2) (HM : ∀ m0 m1 m2 w0 w1 w2 : Int, own_M t1 t2 t3 m0 m1 m2 → own_Wp t1 b1 t2 b2 t3 b3 w0 w1 w2 → own_is e0.toInt m0 m1 m2 1 ∧ own_is e1.toInt m0 m1 m2 1 ∧ own_is e2.toInt m0 m1 m2 1 ∧ own_is e0.toInt w0 w1 w2 C0 ∧ own_is e1.toInt w0 w1 w2 C1 ∧ own_is e2.toInt w0 w1 w2 C2) : ∃ g0 g1 g2 : Int32, ((([.int 0, .int 0, .int 0] : List Value).set e1.toInt.toNat (.int 1)).set e2.toInt.toNat (.int 2)) = [.int g0, .int g1, .int g2] ∧ ∀ m0 m1 m2 w0 w1 w2 : Int, own_M t1 t2 t3 m0 m1 m2 → own_Wp t1 b1 t2 b2 t3 b3 w0 w1 w2 → own_FIN m0 m1 m2 w0 w1 w2 (3 : Int32).toInt g0.toInt g1.toInt g2.toInt := by
  obtain ⟨p0, p1, p2⟩ | ⟨p0, p1, p2⟩ | ⟨p0, p1, p2⟩ | ⟨p0, p1, p2⟩ | ⟨p0, p1, p2⟩ | ⟨p0, p1, p2⟩ : (e0.toInt = 0 ∧ e1.toInt = 1 ∧ e2.toInt = 2) ∨ (e0.toInt = 0 ∧ e1.toInt = 2 ∧ e2.toInt = 1) ∨ (e0.toInt = 1 ∧ e1.toInt = 0 ∧ e2.toInt = 2) ∨ (e0.toInt = 1 ∧ e1.toInt = 2 ∧ e2.toInt = 0) ∨ (e0.toInt = 2 ∧ e1.toInt = 0 ∧ e2.toInt = 1) ∨ (e0.toInt = 2 ∧ e1.toInt = 1 ∧ e2.toInt = 0) := by omega
  · rw [p0, p1, p2] at HM
    rw [show e1.toInt.toNat = 1 by omega, show e2.toInt.toNat = 2 by omega]
    refine ⟨_, _, _, rfl, fun m0 m1 m2 w0 w1 w2 hM hW => ?_⟩
    obtain ⟨k0, k1, k2, k3, k4, k5⟩ := HM m0 m1 m2 w0 w1 w2 hM hW
    obtain rfl : m0 = 1 := own_is0 k0
    obtain rfl : m1 = 1 := own_is1 k1
    obtain rfl : m2 = 1 := own_is2 k2
    obtain rfl : w0 = C0 := own_is0 k3
    obtain rfl : w1 = C1 := own_is1 k4
    obtain rfl : w2 = C2 := own_is2 k5
    exact cf19 _ _ _ (by omega) (by omega) (by omega)
  · rw [p0, p1, p2] at HM
    rw [show e1.toInt.toNat = 2 by omega, show e2.toInt.toNat = 1 by omega]
    refine ⟨_, _, _, rfl, fun m0 m1 m2 w0 w1 w2 hM hW => ?_⟩
    obtain ⟨k0, k1, k2, k3, k4, k5⟩ := HM m0 m1 m2 w0 w1 w2 hM hW
    obtain rfl : m0 = 1 := own_is0 k0
    obtain rfl : m2 = 1 := own_is2 k1
    obtain rfl : m1 = 1 := own_is1 k2
    obtain rfl : w0 = C0 := own_is0 k3
    obtain rfl : w2 = C1 := own_is2 k4
    obtain rfl : w1 = C2 := own_is1 k5
    exact cf20 _ _ _ (by omega) (by omega) (by omega)
  · rw [p0, p1, p2] at HM
    rw [show e1.toInt.toNat = 0 by omega, show e2.toInt.toNat = 2 by omega]
    refine ⟨_, _, _, rfl, fun m0 m1 m2 w0 w1 w2 hM hW => ?_⟩
    obtain ⟨k0, k1, k2, k3, k4, k5⟩ := HM m0 m1 m2 w0 w1 w2 hM hW
    obtain rfl : m1 = 1 := own_is1 k0
    obtain rfl : m0 = 1 := own_is0 k1
    obtain rfl : m2 = 1 := own_is2 k2
    obtain rfl : w1 = C0 := own_is1 k3
    obtain rfl : w0 = C1 := own_is0 k4
    obtain rfl : w2 = C2 := own_is2 k5
    exact cf21 _ _ _ (by omega) (by omega) (by omega)
  · rw [p0, p1, p2] at HM
    rw [show e1.toInt.toNat = 2 by omega, show e2.toInt.toNat = 0 by omega]
    refine ⟨_, _, _, rfl, fun m0 m1 m2 w0 w1 w2 hM hW => ?_⟩
    obtain ⟨k0, k1, k2, k3, k4, k5⟩ := HM m0 m1 m2 w0 w1 w2 hM hW
    obtain rfl : m1 = 1 := own_is1 k0
    obtain rfl : m2 = 1 := own_is2 k1
    obtain rfl : m0 = 1 := own_is0 k2
    obtain rfl : w1 = C0 := own_is1 k3
    obtain rfl : w2 = C1 := own_is2 k4
    obtain rfl : w0 = C2 := own_is0 k5
    exact cf22 _ _ _ (by omega) (by omega) (by omega)
  · rw [p0, p1, p2] at HM
    rw [show e1.toInt.toNat = 0 by omega, show e2.toInt.toNat = 1 by omega]
    refine ⟨_, _, _, rfl, fun m0 m1 m2 w0 w1 w2 hM hW => ?_⟩
    obtain ⟨k0, k1, k2, k3, k4, k5⟩ := HM m0 m1 m2 w0 w1 w2 hM hW
    obtain rfl : m2 = 1 := own_is2 k0
    obtain rfl : m0 = 1 := own_is0 k1
    obtain rfl : m1 = 1 := own_is1 k2
    obtain rfl : w2 = C0 := own_is2 k3
    obtain rfl : w0 = C1 := own_is0 k4
    obtain rfl : w1 = C2 := own_is1 k5
    exact cf23 _ _ _ (by omega) (by omega) (by omega)
  · rw [p0, p1, p2] at HM
    rw [show e1.toInt.toNat = 1 by omega, show e2.toInt.toNat = 0 by omega]
    refine ⟨_, _, _, rfl, fun m0 m1 m2 w0 w1 w2 hM hW => ?_⟩
    obtain ⟨k0, k1, k2, k3, k4, k5⟩ := HM m0 m1 m2 w0 w1 w2 hM hW
    obtain rfl : m2 = 1 := own_is2 k0
    obtain rfl : m1 = 1 := own_is1 k1
    obtain rfl : m0 = 1 := own_is0 k2
    obtain rfl : w2 = C0 := own_is2 k3
    obtain rfl : w1 = C1 := own_is1 k4
    obtain rfl : w0 = C2 := own_is0 k5
    exact cf24 _ _ _ (by omega) (by omega) (by omega)
theorem own_fr1 {m0 m1 m2 e0 e1 e2 : Int} (d01 : e0 ≠ e1) (d02 : e0 ≠ e2) (d12 : e1 ≠ e2) (k0 : own_is e0 m0 m1 m2 1) (k1 : own_is e1 m0 m1 m2 0) (k2 : own_is e2 m0 m1 m2 0) : own_FR m0 m1 m2 e0 e1 e2 := by
  have s : m0 + m1 + m2 = 1 := by unfold own_is at k0 k1 k2; omega
  exact ⟨Or.inl ⟨by omega, k0⟩, Or.inr ⟨by omega, k1⟩, Or.inr ⟨by omega, k2⟩⟩
theorem own_fr2 {m0 m1 m2 e0 e1 e2 : Int} (d01 : e0 ≠ e1) (d02 : e0 ≠ e2) (d12 : e1 ≠ e2) (k0 : own_is e0 m0 m1 m2 1) (k1 : own_is e1 m0 m1 m2 1) (k2 : own_is e2 m0 m1 m2 0) : own_FR m0 m1 m2 e0 e1 e2 := by
  have s : m0 + m1 + m2 = 2 := by unfold own_is at k0 k1 k2; omega
  exact ⟨Or.inl ⟨by omega, k0⟩, Or.inl ⟨by omega, k1⟩, Or.inr ⟨by omega, k2⟩⟩
theorem own_fr3 {m0 m1 m2 e0 e1 e2 : Int} (d01 : e0 ≠ e1) (d02 : e0 ≠ e2) (d12 : e1 ≠ e2) (k0 : own_is e0 m0 m1 m2 1) (k1 : own_is e1 m0 m1 m2 1) (k2 : own_is e2 m0 m1 m2 1) : own_FR m0 m1 m2 e0 e1 e2 := by
  have s : m0 + m1 + m2 = 3 := by unfold own_is at k0 k1 k2; omega
  exact ⟨Or.inl ⟨by omega, k0⟩, Or.inl ⟨by omega, k1⟩, Or.inl ⟨by omega, k2⟩⟩
set_option maxRecDepth 65536 in
set_option maxHeartbeats 40000000 in
theorem tail1_1 {p : Program} {l : Launch} {e : Env} {s : State} {m : MethodId} {args : Array Value} {below : List Frame} {meth : Method} {c : Code} {T0 : State} {locs : List Loc} {Z : State} {a0 : Array Value} {h0 : Heap} {n0 : Nat} (X0 : Stand p l e room_1 s m args below meth c T0 locs 14 53) (hx : p.tables.exec = Jvm.exec) (hby : c.code = code) (hml : c.maxLocals = maxLocals) (hown : s.vm.findClass "com/example/lumper/lumper/analysis/PartitionAddPinLaw" = some m.cls) (hlk : meth.locks = false) (hret : meth.sig.returnType = ret) (hZ : Z.Warmed39 s.vm) (hw : ∀ d ∈ tables_1, d.before a0 Z = true) (eh0 : T0.heap = h0) (Z0 : n0 ≤ h0.size) (N0 : Fr n0 locs) (s0_ s1_ s2_ s3_ s4_ s5_ : Slot) (t1 t2 t3 b1 b2 b3 e0 e1 e2 : Int32) (ao el po bo fi en ma we tu sk ss mk ms mb : Addr) (Lp Lw : List Value) (x0 : UInt64) (C0 : Int) (EX : Exa Z h0 ao cP) (CH : own_CH n0 ao el po bo fi en ma we tu sk ss mk ms) (nmb : @LT.lt Nat _ ms mb) (PF : own_PF Z h0 ao el po bo fi en ma we tu sk ss mk ms 1 1) (Ae : own_A Z h0 el .int [.int e0, .int e1, .int e2]) (Ap : own_A Z h0 po .int Lp) (hLp : Lp.length = 3) (Aw : own_A Z h0 we .double Lw) (Ak : own_A Z h0 sk .double [.double 0, .double 0, .double 0]) (As : own_A Z h0 ss .int [.int 0, .int 0, .int 0]) (Bk : own_A Z h0 mk .double [.double 0, .double 0, .double 0]) (Bs : own_A Z h0 ms .int [.int 0, .int 0, .int 0]) (Ab : own_A Z h0 bo .int [.int 0, .int 0, .int 0]) (Af : own_A Z h0 fi .int [.int 0, .int 0, .int 0]) (An : own_A Z h0 en .int [.int 3, .int 0, .int 0]) (Am : own_A Z h0 ma .int [.int 1, .int 0, .int 0]) (At : own_A Z h0 tu .int [.int 0, .int 0, .int 0]) (Amb : own_A Z h0 mb .int [.int 0, .int 0, .int 0]) (r00 : 0 ≤ e0.toInt) (r01 : e0.toInt < 3) (r10 : 0 ≤ e1.toInt) (r11 : e1.toInt < 3) (r20 : 0 ≤ e2.toInt) (r21 : e2.toInt < 3) (d01 : e0.toInt ≠ e1.toInt) (d02 : e0.toInt ≠ e2.toInt) (d12 : e1.toInt ≠ e2.toInt) (hw0 : Lw[e0.toInt.toNat]? = some (.double x0)) (hD0 : own_D 0 C0 x0) (bC0 : -3000 ≤ C0 ∧ C0 ≤ 3000) (bb1 : -999 ≤ b1.toInt ∧ b1.toInt ≤ 999) (bb2 : -999 ≤ b2.toInt ∧ b2.toInt ≤ 999) (bb3 : -999 ≤ b3.toInt ∧ b3.toInt ≤ 999) (HM : ∀ m0 m1 m2 w0 w1 w2 : Int, own_M t1.toInt t2.toInt t3.toInt m0 m1 m2 → own_Wp t1.toInt b1.toInt t2.toInt b2.toInt t3.toInt b3.toInt w0 w1 w2 → own_is e0.toInt m0 m1 m2 1 ∧ own_is e1.toInt m0 m1 m2 0 ∧ own_is e2.toInt m0 m1 m2 0 ∧ own_is e0.toInt w0 w1 w2 C0) :
    own_Go p.tables e below (own_Fin s 40 192 (fun v h L => v = some (.int 1) ∧ Fr n0 L)) (T0.setTop (mkF m 92 (Array.mk [s0_, s1_, s2_, s3_, s4_, s5_, zI t1, zI t2, zI t3, zI b1, zI b2, zI b3, zA ao, zA mb, zU, zU, zU, zU, zU, zU, zU, zU, zU, zU, zU, zU, zU, zU, zU, zU, zU, zU, zU, zU, zU, zU, zU]) [])) := by
  have hK := hKt0 hw; have hF := hFt0 hw
  have CH_ := CH
  obtain ⟨c0_, c1_, c2_, c3_, c4_, c5_, c6_, c7_, c8_, c9_, c10_, c11_, c12_⟩ := CH
  refine own_blk dec0 seq0 hby hx hZ hown hK hF 3 [] [] X0 eh0 ?_
  show own_Aft X0 h0 _ 97 [s0_, s1_, s2_, s3_, s4_, s5_, zI t1, zI t2, zI t3, zI b1, zI b2, zI b3, zA ao, zA mb, zU, zU, zU, zU, zU, zU, zU, zU, zU, zU, zU, zU, zU, zU, zU, zU, zU, zU, zU, zU, zU, zU, zU] [.ref mb, .int 0, .ref ao]
  refine fun T1 X1 eh1 => ?_
  refine own_callV X1 hx hZ hown (hw _ (wm 45 rfl)) (hw _ (wm 46 rfl)) (hw _ (wm 48 rfl)) (hw _ (wm 47 rfl)) (hw _ (wm 3 rfl)) (hw _ (wm 49 rfl)) (by decide) eh1 EX [.int 0, .ref mb] pd4 rfl (rm := ({ frames := 1, cells := 0, slots := 0, locals := 24 } : Room)) (rm4 l Z a0 hw [] ao el po bo fi en ma we tu sk ss mk ms mb e0 e1 e2 1 1 h0 n0 Z0 EX PF (by omega) Ae Af An Amb) (by rw [hml]; rfl) 0 rfl (Nat.le_of_eq rfl) (hb hby at_97) (by decide) (by decide) (by decide) (by decide) (fun T2 rv2 Lc2 X2 qc2 => ?_)
  obtain ⟨rfl, M1, K1, Amb1⟩ := qc2
  have Ae1 := Ae.keep K1 (own_nin (by simp only [own_out, and_true]; omega))
  have Ap1 := Ap.keep K1 (own_nin (by simp only [own_out, and_true]; omega))
  have Aw1 := Aw.keep K1 (own_nin (by simp only [own_out, and_true]; omega))
  have Ak1 := Ak.keep K1 (own_nin (by simp only [own_out, and_true]; omega))
  have As1 := As.keep K1 (own_nin (by simp only [own_out, and_true]; omega))
  have Bk1 := Bk.keep K1 (own_nin (by simp only [own_out, and_true]; omega))
  have Bs1 := Bs.keep K1 (own_nin (by simp only [own_out, and_true]; omega))
  have Ab1 := Ab.keep K1 (own_nin (by simp only [own_out, and_true]; omega))
  have Af1 := Af.keep K1 (own_nin (by simp only [own_out, and_true]; omega))
  have An1 := An.keep K1 (own_nin (by simp only [own_out, and_true]; omega))
  have Am1 := Am.keep K1 (own_nin (by simp only [own_out, and_true]; omega))
  have At1 := At.keep K1 (own_nin (by simp only [own_out, and_true]; omega))
  have EX1 := Exa.keep EX K1
  have PF1 := own_PF.keep PF K1 (own_nin (by simp only [own_out, and_true]; omega))
  have N1 := Fr.app N0 M1
  have Z1 := Nat.le_trans Z0 K1.1
  show own_Go p.tables e below _ (T2.setTop (mkF m 100 (Array.mk [s0_, s1_, s2_, s3_, s4_, s5_, zI t1, zI t2, zI t3, zI b1, zI b2, zI b3, zA ao, zA mb, zU, zU, zU, zU, zU, zU, zU, zU, zU, zU, zU, zU, zU, zU, zU, zU, zU, zU, zU, zU, zU, zU, zU]) [.int 3]))
  refine own_blk dec0 seq0 hby hx hZ hown hK hF 2 [] [] X2 rfl ?_
  show own_Aft X2 T2.heap _ 104 [s0_, s1_, s2_, s3_, s4_, s5_, zI t1, zI t2, zI t3, zI b1, zI b2, zI b3, zA ao, zA mb, zI 3, zU, zU, zU, zU, zU, zU, zU, zU, zU, zU, zU, zU, zU, zU, zU, zU, zU, zU, zU, zU, zU, zU] [.ref ao]
  refine fun T3 X3 eh3 => ?_
  refine own_callV X3 hx hZ hown (hw _ (wm 54 rfl)) (hw _ (wm 55 rfl)) (hw _ (wm 57 rfl)) (hw _ (wm 56 rfl)) (hw _ (wm 3 rfl)) (hw _ (wm 58 rfl)) (by decide) eh3 EX1 [] pd5 rfl (rm := ({ frames := 4, cells := 0, slots := 0, locals := 96 } : Room)) (rm5_1 l Z a0 hw [] ao el po bo fi en ma we tu sk ss mk ms e0 e1 e2 Lp Lw ([.int 0, .int 0, .int 0] : List Value) x0 C0 T2.heap n0 Z1 EX1 CH_ PF1 Ae1 Ap1 hLp Aw1 Ak1 As1 Bk1 Bs1 Ab1 rfl Af1 An1 r00 r01 r10 r11 r20 r21 hw0 hD0 bC0 Am1 At1) (by rw [hml]; rfl) 0 rfl (Nat.le_of_eq rfl) (hb hby at_104) (by decide) (by decide) (by decide) (by decide) (fun T4 rv4 Lc4 X4 qc4 => ?_)
  obtain ⟨rfl, M2, K2, nb_, Lb_, PF2, Ab2, hO⟩ := qc4
  have EX2 := Exa.keep EX1 K2
  have Amb2 := Amb1.keep K2 (own_nin (by simp only [own_out, and_true]; omega))
  have N2 := Fr.app N1 M2
  have Z2 := Nat.le_trans Z1 K2.1
  obtain ⟨g0, g1, g2, rfl, HF⟩ : ∃ g0 g1 g2 : Int32, Lb_ = [.int g0, .int g1, .int g2] ∧ ∀ m0 m1 m2 w0 w1 w2 : Int, own_M t1.toInt t2.toInt t3.toInt m0 m1 m2 → own_Wp t1.toInt b1.toInt t2.toInt b2.toInt t3.toInt b3.toInt w0 w1 w2 → own_FIN m0 m1 m2 w0 w1 w2 nb_.toInt g0.toInt g1.toInt g2.toInt := by
    obtain ⟨rfl, rfl⟩ := hO
    exact own_f1 e0 e1 e2 t1.toInt b1.toInt t2.toInt b2.toInt t3.toInt b3.toInt C0 r00 r01 r10 r11 r20 r21 d01 d02 d12 HM
  show own_Go p.tables e below _ (T4.setTop (mkF m 107 (Array.mk [s0_, s1_, s2_, s3_, s4_, s5_, zI t1, zI t2, zI t3, zI b1, zI b2, zI b3, zA ao, zA mb, zI 3, zU, zU, zU, zU, zU, zU, zU, zU, zU, zU, zU, zU, zU, zU, zU, zU, zU, zU, zU, zU, zU, zU]) []))
  refine own_blk dec0 seq0 hby hx hZ hown hK hF 1 [] [] X4 rfl ?_
  show own_Aft X4 T4.heap _ 109 [s0_, s1_, s2_, s3_, s4_, s5_, zI t1, zI t2, zI t3, zI b1, zI b2, zI b3, zA ao, zA mb, zI 3, zU, zU, zU, zU, zU, zU, zU, zU, zU, zU, zU, zU, zU, zU, zU, zU, zU, zU, zU, zU, zU, zU] [.ref ao]
  refine fun T5 X5 eh5 => ?_
  refine own_callVP X5 hx hZ hown (hw _ (wm 100 rfl)) (hw _ (wm 101 rfl)) (hw _ (wm 103 rfl)) (hw _ (wm 102 rfl)) (hw _ (wm 3 rfl)) (hw _ (wm 104 rfl)) (by decide) eh5 EX2 [] pd17 rfl (fr := 0) (lo := 0) (rm17 l Z a0 hw [] ao el po bo fi en ma we tu sk ss mk ms nb_ 0 T4.heap n0 Z2 PF2) (by rw [hml]; rfl) 0 rfl (Nat.le_of_eq rfl) (hb hby at_109) (by decide) (by decide) (by decide) (by decide) (fun T6 rv6 X6 eh6 qc6 => ?_)
  obtain rfl := qc6
  show own_Go p.tables e below _ (T6.setTop (mkF m 112 (Array.mk [s0_, s1_, s2_, s3_, s4_, s5_, zI t1, zI t2, zI t3, zI b1, zI b2, zI b3, zA ao, zA mb, zI 3, zU, zU, zU, zU, zU, zU, zU, zU, zU, zU, zU, zU, zU, zU, zU, zU, zU, zU, zU, zU, zU, zU]) [.int nb_]))
  refine own_blk dec0 seq0 hby hx hZ hown hK hF 3 [] [] X6 eh6 ?_
  show own_Aft X6 T4.heap _ 117 [s0_, s1_, s2_, s3_, s4_, s5_, zI t1, zI t2, zI t3, zI b1, zI b2, zI b3, zA ao, zA mb, zI 3, zI nb_, zU, zU, zU, zU, zU, zU, zU, zU, zU, zU, zU, zU, zU, zU, zU, zU, zU, zU, zU, zU, zU] [.int 0, .ref ao]
  refine fun T7 X7 eh7 => ?_
  refine own_callVP X7 hx hZ hown (hw _ (wm 105 rfl)) (hw _ (wm 106 rfl)) (hw _ (wm 108 rfl)) (hw _ (wm 107 rfl)) (hw _ (wm 3 rfl)) (hw _ (wm 109 rfl)) (by decide) eh7 EX2 [.int 0] pd18 rfl (fr := 0) (lo := 0) (rm18_0 l Z a0 hw [] ao el po bo fi en ma we tu sk ss mk ms nb_ 0 g0 g1 g2 T4.heap n0 Z2 PF2 Ab2) (by rw [hml]; rfl) 0 rfl (Nat.le_of_eq rfl) (hb hby at_117) (by decide) (by decide) (by decide) (by decide) (fun T8 rv8 X8 eh8 qc8 => ?_)
  obtain rfl := qc8
  show own_Go p.tables e below _ (T8.setTop (mkF m 120 (Array.mk [s0_, s1_, s2_, s3_, s4_, s5_, zI t1, zI t2, zI t3, zI b1, zI b2, zI b3, zA ao, zA mb, zI 3, zI nb_, zU, zU, zU, zU, zU, zU, zU, zU, zU, zU, zU, zU, zU, zU, zU, zU, zU, zU, zU, zU, zU]) [.int g0]))
  refine own_blk dec0 seq0 hby hx hZ hown hK hF 3 [] [] X8 eh8 ?_
  show own_Aft X8 T4.heap _ 125 [s0_, s1_, s2_, s3_, s4_, s5_, zI t1, zI t2, zI t3, zI b1, zI b2, zI b3, zA ao, zA mb, zI 3, zI nb_, zI g0, zU, zU, zU, zU, zU, zU, zU, zU, zU, zU, zU, zU, zU, zU, zU, zU, zU, zU, zU, zU] [.int 1, .ref ao]
  refine fun T9 X9 eh9 => ?_
  refine own_callVP X9 hx hZ hown (hw _ (wm 105 rfl)) (hw _ (wm 106 rfl)) (hw _ (wm 108 rfl)) (hw _ (wm 107 rfl)) (hw _ (wm 3 rfl)) (hw _ (wm 109 rfl)) (by decide) eh9 EX2 [.int 1] pd18 rfl (fr := 0) (lo := 0) (rm18_1 l Z a0 hw [] ao el po bo fi en ma we tu sk ss mk ms nb_ 0 g0 g1 g2 T4.heap n0 Z2 PF2 Ab2) (by rw [hml]; rfl) 0 rfl (Nat.le_of_eq rfl) (hb hby at_125) (by decide) (by decide) (by decide) (by decide) (fun T10 rv10 X10 eh10 qc10 => ?_)
  obtain rfl := qc10
  show own_Go p.tables e below _ (T10.setTop (mkF m 128 (Array.mk [s0_, s1_, s2_, s3_, s4_, s5_, zI t1, zI t2, zI t3, zI b1, zI b2, zI b3, zA ao, zA mb, zI 3, zI nb_, zI g0, zU, zU, zU, zU, zU, zU, zU, zU, zU, zU, zU, zU, zU, zU, zU, zU, zU, zU, zU, zU]) [.int g1]))
  refine own_blk dec0 seq0 hby hx hZ hown hK hF 3 [] [] X10 eh10 ?_
  show own_Aft X10 T4.heap _ 133 [s0_, s1_, s2_, s3_, s4_, s5_, zI t1, zI t2, zI t3, zI b1, zI b2, zI b3, zA ao, zA mb, zI 3, zI nb_, zI g0, zI g1, zU, zU, zU, zU, zU, zU, zU, zU, zU, zU, zU, zU, zU, zU, zU, zU, zU, zU, zU] [.int 2, .ref ao]
  refine fun T11 X11 eh11 => ?_
  refine own_callVP X11 hx hZ hown (hw _ (wm 105 rfl)) (hw _ (wm 106 rfl)) (hw _ (wm 108 rfl)) (hw _ (wm 107 rfl)) (hw _ (wm 3 rfl)) (hw _ (wm 109 rfl)) (by decide) eh11 EX2 [.int 2] pd18 rfl (fr := 0) (lo := 0) (rm18_2 l Z a0 hw [] ao el po bo fi en ma we tu sk ss mk ms nb_ 0 g0 g1 g2 T4.heap n0 Z2 PF2 Ab2) (by rw [hml]; rfl) 0 rfl (Nat.le_of_eq rfl) (hb hby at_133) (by decide) (by decide) (by decide) (by decide) (fun T12 rv12 X12 eh12 qc12 => ?_)
  obtain rfl := qc12
  show own_Go p.tables e below _ (T12.setTop (mkF m 136 (Array.mk [s0_, s1_, s2_, s3_, s4_, s5_, zI t1, zI t2, zI t3, zI b1, zI b2, zI b3, zA ao, zA mb, zI 3, zI nb_, zI g0, zI g1, zU, zU, zU, zU, zU, zU, zU, zU, zU, zU, zU, zU, zU, zU, zU, zU, zU, zU, zU]) [.int g2]))
  refine own_blk dec0 seq0 hby hx hZ hown hK hF 1 [] [] X12 eh12 ?_
  show own_Aft X12 T4.heap _ 138 [s0_, s1_, s2_, s3_, s4_, s5_, zI t1, zI t2, zI t3, zI b1, zI b2, zI b3, zA ao, zA mb, zI 3, zI nb_, zI g0, zI g1, zI g2, zU, zU, zU, zU, zU, zU, zU, zU, zU, zU, zU, zU, zU, zU, zU, zU, zU, zU] []
  refine fun T13 X13 eh13 => ?_
  have HF2 : ∀ m0 m1 m2 w0 w1 w2 : Int, own_M t1.toInt t2.toInt t3.toInt m0 m1 m2 → own_Wp t1.toInt b1.toInt t2.toInt b2.toInt t3.toInt b3.toInt w0 w1 w2 → own_FIN m0 m1 m2 w0 w1 w2 nb_.toInt g0.toInt g1.toInt g2.toInt ∧ own_FR m0 m1 m2 e0.toInt e1.toInt e2.toInt := by
    intro m0 m1 m2 w0 w1 w2 hM hW
    refine ⟨HF m0 m1 m2 w0 w1 w2 hM hW, ?_⟩
    obtain ⟨k0, k1, k2, -⟩ := HM m0 m1 m2 w0 w1 w2 hM hW
    exact own_fr1 d01 d02 d12 k0 k1 k2
  exact tail2 X13 hx hby hml hown hlk hret hZ hw eh13 Z2 N2 s0_ s1_ s2_ s3_ s4_ s5_ t1 t2 t3 b1 b2 b3 nb_ g0 g1 g2 e0 e1 e2 ao mb Amb2 r00 r01 r10 r11 r20 r21 d01 d02 d12 bb1 bb2 bb3 HF2
set_option maxRecDepth 65536 in
set_option maxHeartbeats 40000000 in
theorem tail1_2 {p : Program} {l : Launch} {e : Env} {s : State} {m : MethodId} {args : Array Value} {below : List Frame} {meth : Method} {c : Code} {T0 : State} {locs : List Loc} {Z : State} {a0 : Array Value} {h0 : Heap} {n0 : Nat} (X0 : Stand p l e room_1 s m args below meth c T0 locs 14 53) (hx : p.tables.exec = Jvm.exec) (hby : c.code = code) (hml : c.maxLocals = maxLocals) (hown : s.vm.findClass "com/example/lumper/lumper/analysis/PartitionAddPinLaw" = some m.cls) (hlk : meth.locks = false) (hret : meth.sig.returnType = ret) (hZ : Z.Warmed39 s.vm) (hw : ∀ d ∈ tables_1, d.before a0 Z = true) (eh0 : T0.heap = h0) (Z0 : n0 ≤ h0.size) (N0 : Fr n0 locs) (s0_ s1_ s2_ s3_ s4_ s5_ : Slot) (t1 t2 t3 b1 b2 b3 e0 e1 e2 : Int32) (ao el po bo fi en ma we tu sk ss mk ms mb : Addr) (Lp Lw : List Value) (x0 x1 : UInt64) (C0 C1 : Int) (EX : Exa Z h0 ao cP) (CH : own_CH n0 ao el po bo fi en ma we tu sk ss mk ms) (nmb : @LT.lt Nat _ ms mb) (PF : own_PF Z h0 ao el po bo fi en ma we tu sk ss mk ms 1 1) (Ae : own_A Z h0 el .int [.int e0, .int e1, .int e2]) (Ap : own_A Z h0 po .int Lp) (hLp : Lp.length = 3) (Aw : own_A Z h0 we .double Lw) (Ak : own_A Z h0 sk .double [.double 0, .double 0, .double 0]) (As : own_A Z h0 ss .int [.int 0, .int 0, .int 0]) (Bk : own_A Z h0 mk .double [.double 0, .double 0, .double 0]) (Bs : own_A Z h0 ms .int [.int 0, .int 0, .int 0]) (Ab : own_A Z h0 bo .int [.int 0, .int 0, .int 0]) (Af : own_A Z h0 fi .int [.int 0, .int 0, .int 0]) (An : own_A Z h0 en .int [.int 3, .int 0, .int 0]) (Am : own_A Z h0 ma .int [.int 2, .int 0, .int 0]) (At : own_A Z h0 tu .int [.int 0, .int 0, .int 0]) (Amb : own_A Z h0 mb .int [.int 0, .int 0, .int 0]) (r00 : 0 ≤ e0.toInt) (r01 : e0.toInt < 3) (r10 : 0 ≤ e1.toInt) (r11 : e1.toInt < 3) (r20 : 0 ≤ e2.toInt) (r21 : e2.toInt < 3) (d01 : e0.toInt ≠ e1.toInt) (d02 : e0.toInt ≠ e2.toInt) (d12 : e1.toInt ≠ e2.toInt) (hw0 : Lw[e0.toInt.toNat]? = some (.double x0)) (hD0 : own_D 0 C0 x0) (bC0 : -3000 ≤ C0 ∧ C0 ≤ 3000) (hw1 : Lw[e1.toInt.toNat]? = some (.double x1)) (hD1 : own_D 0 C1 x1) (bC1 : -3000 ≤ C1 ∧ C1 ≤ 3000) (bb1 : -999 ≤ b1.toInt ∧ b1.toInt ≤ 999) (bb2 : -999 ≤ b2.toInt ∧ b2.toInt ≤ 999) (bb3 : -999 ≤ b3.toInt ∧ b3.toInt ≤ 999) (HM : ∀ m0 m1 m2 w0 w1 w2 : Int, own_M t1.toInt t2.toInt t3.toInt m0 m1 m2 → own_Wp t1.toInt b1.toInt t2.toInt b2.toInt t3.toInt b3.toInt w0 w1 w2 → own_is e0.toInt m0 m1 m2 1 ∧ own_is e1.toInt m0 m1 m2 1 ∧ own_is e2.toInt m0 m1 m2 0 ∧ own_is e0.toInt w0 w1 w2 C0 ∧ own_is e1.toInt w0 w1 w2 C1) :
    own_Go p.tables e below (own_Fin s 40 192 (fun v h L => v = some (.int 1) ∧ Fr n0 L)) (T0.setTop (mkF m 92 (Array.mk [s0_, s1_, s2_, s3_, s4_, s5_, zI t1, zI t2, zI t3, zI b1, zI b2, zI b3, zA ao, zA mb, zU, zU, zU, zU, zU, zU, zU, zU, zU, zU, zU, zU, zU, zU, zU, zU, zU, zU, zU, zU, zU, zU, zU]) [])) := by
  have hK := hKt0 hw; have hF := hFt0 hw
  have CH_ := CH
  obtain ⟨c0_, c1_, c2_, c3_, c4_, c5_, c6_, c7_, c8_, c9_, c10_, c11_, c12_⟩ := CH
  refine own_blk dec0 seq0 hby hx hZ hown hK hF 3 [] [] X0 eh0 ?_
  show own_Aft X0 h0 _ 97 [s0_, s1_, s2_, s3_, s4_, s5_, zI t1, zI t2, zI t3, zI b1, zI b2, zI b3, zA ao, zA mb, zU, zU, zU, zU, zU, zU, zU, zU, zU, zU, zU, zU, zU, zU, zU, zU, zU, zU, zU, zU, zU, zU, zU] [.ref mb, .int 0, .ref ao]
  refine fun T1 X1 eh1 => ?_
  refine own_callV X1 hx hZ hown (hw _ (wm 45 rfl)) (hw _ (wm 46 rfl)) (hw _ (wm 48 rfl)) (hw _ (wm 47 rfl)) (hw _ (wm 3 rfl)) (hw _ (wm 49 rfl)) (by decide) eh1 EX [.int 0, .ref mb] pd4 rfl (rm := ({ frames := 1, cells := 0, slots := 0, locals := 24 } : Room)) (rm4 l Z a0 hw [] ao el po bo fi en ma we tu sk ss mk ms mb e0 e1 e2 1 1 h0 n0 Z0 EX PF (by omega) Ae Af An Amb) (by rw [hml]; rfl) 0 rfl (Nat.le_of_eq rfl) (hb hby at_97) (by decide) (by decide) (by decide) (by decide) (fun T2 rv2 Lc2 X2 qc2 => ?_)
  obtain ⟨rfl, M1, K1, Amb1⟩ := qc2
  have Ae1 := Ae.keep K1 (own_nin (by simp only [own_out, and_true]; omega))
  have Ap1 := Ap.keep K1 (own_nin (by simp only [own_out, and_true]; omega))
  have Aw1 := Aw.keep K1 (own_nin (by simp only [own_out, and_true]; omega))
  have Ak1 := Ak.keep K1 (own_nin (by simp only [own_out, and_true]; omega))
  have As1 := As.keep K1 (own_nin (by simp only [own_out, and_true]; omega))
  have Bk1 := Bk.keep K1 (own_nin (by simp only [own_out, and_true]; omega))
  have Bs1 := Bs.keep K1 (own_nin (by simp only [own_out, and_true]; omega))
  have Ab1 := Ab.keep K1 (own_nin (by simp only [own_out, and_true]; omega))
  have Af1 := Af.keep K1 (own_nin (by simp only [own_out, and_true]; omega))
  have An1 := An.keep K1 (own_nin (by simp only [own_out, and_true]; omega))
  have Am1 := Am.keep K1 (own_nin (by simp only [own_out, and_true]; omega))
  have At1 := At.keep K1 (own_nin (by simp only [own_out, and_true]; omega))
  have EX1 := Exa.keep EX K1
  have PF1 := own_PF.keep PF K1 (own_nin (by simp only [own_out, and_true]; omega))
  have N1 := Fr.app N0 M1
  have Z1 := Nat.le_trans Z0 K1.1
  show own_Go p.tables e below _ (T2.setTop (mkF m 100 (Array.mk [s0_, s1_, s2_, s3_, s4_, s5_, zI t1, zI t2, zI t3, zI b1, zI b2, zI b3, zA ao, zA mb, zU, zU, zU, zU, zU, zU, zU, zU, zU, zU, zU, zU, zU, zU, zU, zU, zU, zU, zU, zU, zU, zU, zU]) [.int 3]))
  refine own_blk dec0 seq0 hby hx hZ hown hK hF 2 [] [] X2 rfl ?_
  show own_Aft X2 T2.heap _ 104 [s0_, s1_, s2_, s3_, s4_, s5_, zI t1, zI t2, zI t3, zI b1, zI b2, zI b3, zA ao, zA mb, zI 3, zU, zU, zU, zU, zU, zU, zU, zU, zU, zU, zU, zU, zU, zU, zU, zU, zU, zU, zU, zU, zU, zU] [.ref ao]
  refine fun T3 X3 eh3 => ?_
  refine own_callV X3 hx hZ hown (hw _ (wm 54 rfl)) (hw _ (wm 55 rfl)) (hw _ (wm 57 rfl)) (hw _ (wm 56 rfl)) (hw _ (wm 3 rfl)) (hw _ (wm 58 rfl)) (by decide) eh3 EX1 [] pd5 rfl (rm := ({ frames := 4, cells := 0, slots := 0, locals := 96 } : Room)) (rm5_2 l Z a0 hw [] ao el po bo fi en ma we tu sk ss mk ms e0 e1 e2 Lp Lw ([.int 0, .int 0, .int 0] : List Value) x0 x1 C0 C1 T2.heap n0 Z1 EX1 CH_ PF1 Ae1 Ap1 hLp Aw1 Ak1 As1 Bk1 Bs1 Ab1 rfl Af1 An1 r00 r01 r10 r11 r20 r21 hw0 hD0 bC0 hw1 hD1 bC1 Am1 At1) (by rw [hml]; rfl) 0 rfl (Nat.le_of_eq rfl) (hb hby at_104) (by decide) (by decide) (by decide) (by decide) (fun T4 rv4 Lc4 X4 qc4 => ?_)
  obtain ⟨rfl, M2, K2, nb_, Lb_, PF2, Ab2, hO⟩ := qc4
  have EX2 := Exa.keep EX1 K2
  have Amb2 := Amb1.keep K2 (own_nin (by simp only [own_out, and_true]; omega))
  have N2 := Fr.app N1 M2
  have Z2 := Nat.le_trans Z1 K2.1
  obtain ⟨g0, g1, g2, rfl, HF⟩ : ∃ g0 g1 g2 : Int32, Lb_ = [.int g0, .int g1, .int g2] ∧ ∀ m0 m1 m2 w0 w1 w2 : Int, own_M t1.toInt t2.toInt t3.toInt m0 m1 m2 → own_Wp t1.toInt b1.toInt t2.toInt b2.toInt t3.toInt b3.toInt w0 w1 w2 → own_FIN m0 m1 m2 w0 w1 w2 nb_.toInt g0.toInt g1.toInt g2.toInt := by
    rcases hO with ⟨hc, rfl, rfl⟩ | ⟨f0, f1, D0, D1, hP, hc, rfl, rfl⟩
    · exact own_f2a e0 e1 e2 t1.toInt b1.toInt t2.toInt b2.toInt t3.toInt b3.toInt C0 C1 r00 r01 r10 r11 r20 r21 d01 d02 d12 hc HM
    · rcases hP with ⟨rfl, rfl, rfl, rfl⟩ | ⟨rfl, rfl, rfl, rfl⟩
      · exact own_f2b _ _ e2 t1.toInt b1.toInt t2.toInt b2.toInt t3.toInt b3.toInt _ _ r00 r01 r10 r11 r20 r21 d01 d02 d12 hc HM
      · exact own_f2b _ _ e2 t1.toInt b1.toInt t2.toInt b2.toInt t3.toInt b3.toInt _ _ r10 r11 r00 r01 r20 r21 (Ne.symm d01) d12 d02 hc (fun m0 m1 m2 w0 w1 w2 hM hW => by obtain ⟨a, b, c, d, e⟩ := HM m0 m1 m2 w0 w1 w2 hM hW; exact ⟨b, a, c, e, d⟩)
  show own_Go p.tables e below _ (T4.setTop (mkF m 107 (Array.mk [s0_, s1_, s2_, s3_, s4_, s5_, zI t1, zI t2, zI t3, zI b1, zI b2, zI b3, zA ao, zA mb, zI 3, zU, zU, zU, zU, zU, zU, zU, zU, zU, zU, zU, zU, zU, zU, zU, zU, zU, zU, zU, zU, zU, zU]) []))
  refine own_blk dec0 seq0 hby hx hZ hown hK hF 1 [] [] X4 rfl ?_
  show own_Aft X4 T4.heap _ 109 [s0_, s1_, s2_, s3_, s4_, s5_, zI t1, zI t2, zI t3, zI b1, zI b2, zI b3, zA ao, zA mb, zI 3, zU, zU, zU, zU, zU, zU, zU, zU, zU, zU, zU, zU, zU, zU, zU, zU, zU, zU, zU, zU, zU, zU] [.ref ao]
  refine fun T5 X5 eh5 => ?_
  refine own_callVP X5 hx hZ hown (hw _ (wm 100 rfl)) (hw _ (wm 101 rfl)) (hw _ (wm 103 rfl)) (hw _ (wm 102 rfl)) (hw _ (wm 3 rfl)) (hw _ (wm 104 rfl)) (by decide) eh5 EX2 [] pd17 rfl (fr := 0) (lo := 0) (rm17 l Z a0 hw [] ao el po bo fi en ma we tu sk ss mk ms nb_ 0 T4.heap n0 Z2 PF2) (by rw [hml]; rfl) 0 rfl (Nat.le_of_eq rfl) (hb hby at_109) (by decide) (by decide) (by decide) (by decide) (fun T6 rv6 X6 eh6 qc6 => ?_)
  obtain rfl := qc6
  show own_Go p.tables e below _ (T6.setTop (mkF m 112 (Array.mk [s0_, s1_, s2_, s3_, s4_, s5_, zI t1, zI t2, zI t3, zI b1, zI b2, zI b3, zA ao, zA mb, zI 3, zU, zU, zU, zU, zU, zU, zU, zU, zU, zU, zU, zU, zU, zU, zU, zU, zU, zU, zU, zU, zU, zU]) [.int nb_]))
  refine own_blk dec0 seq0 hby hx hZ hown hK hF 3 [] [] X6 eh6 ?_
  show own_Aft X6 T4.heap _ 117 [s0_, s1_, s2_, s3_, s4_, s5_, zI t1, zI t2, zI t3, zI b1, zI b2, zI b3, zA ao, zA mb, zI 3, zI nb_, zU, zU, zU, zU, zU, zU, zU, zU, zU, zU, zU, zU, zU, zU, zU, zU, zU, zU, zU, zU, zU] [.int 0, .ref ao]
  refine fun T7 X7 eh7 => ?_
  refine own_callVP X7 hx hZ hown (hw _ (wm 105 rfl)) (hw _ (wm 106 rfl)) (hw _ (wm 108 rfl)) (hw _ (wm 107 rfl)) (hw _ (wm 3 rfl)) (hw _ (wm 109 rfl)) (by decide) eh7 EX2 [.int 0] pd18 rfl (fr := 0) (lo := 0) (rm18_0 l Z a0 hw [] ao el po bo fi en ma we tu sk ss mk ms nb_ 0 g0 g1 g2 T4.heap n0 Z2 PF2 Ab2) (by rw [hml]; rfl) 0 rfl (Nat.le_of_eq rfl) (hb hby at_117) (by decide) (by decide) (by decide) (by decide) (fun T8 rv8 X8 eh8 qc8 => ?_)
  obtain rfl := qc8
  show own_Go p.tables e below _ (T8.setTop (mkF m 120 (Array.mk [s0_, s1_, s2_, s3_, s4_, s5_, zI t1, zI t2, zI t3, zI b1, zI b2, zI b3, zA ao, zA mb, zI 3, zI nb_, zU, zU, zU, zU, zU, zU, zU, zU, zU, zU, zU, zU, zU, zU, zU, zU, zU, zU, zU, zU, zU]) [.int g0]))
  refine own_blk dec0 seq0 hby hx hZ hown hK hF 3 [] [] X8 eh8 ?_
  show own_Aft X8 T4.heap _ 125 [s0_, s1_, s2_, s3_, s4_, s5_, zI t1, zI t2, zI t3, zI b1, zI b2, zI b3, zA ao, zA mb, zI 3, zI nb_, zI g0, zU, zU, zU, zU, zU, zU, zU, zU, zU, zU, zU, zU, zU, zU, zU, zU, zU, zU, zU, zU] [.int 1, .ref ao]
  refine fun T9 X9 eh9 => ?_
  refine own_callVP X9 hx hZ hown (hw _ (wm 105 rfl)) (hw _ (wm 106 rfl)) (hw _ (wm 108 rfl)) (hw _ (wm 107 rfl)) (hw _ (wm 3 rfl)) (hw _ (wm 109 rfl)) (by decide) eh9 EX2 [.int 1] pd18 rfl (fr := 0) (lo := 0) (rm18_1 l Z a0 hw [] ao el po bo fi en ma we tu sk ss mk ms nb_ 0 g0 g1 g2 T4.heap n0 Z2 PF2 Ab2) (by rw [hml]; rfl) 0 rfl (Nat.le_of_eq rfl) (hb hby at_125) (by decide) (by decide) (by decide) (by decide) (fun T10 rv10 X10 eh10 qc10 => ?_)
  obtain rfl := qc10
  show own_Go p.tables e below _ (T10.setTop (mkF m 128 (Array.mk [s0_, s1_, s2_, s3_, s4_, s5_, zI t1, zI t2, zI t3, zI b1, zI b2, zI b3, zA ao, zA mb, zI 3, zI nb_, zI g0, zU, zU, zU, zU, zU, zU, zU, zU, zU, zU, zU, zU, zU, zU, zU, zU, zU, zU, zU, zU]) [.int g1]))
  refine own_blk dec0 seq0 hby hx hZ hown hK hF 3 [] [] X10 eh10 ?_
  show own_Aft X10 T4.heap _ 133 [s0_, s1_, s2_, s3_, s4_, s5_, zI t1, zI t2, zI t3, zI b1, zI b2, zI b3, zA ao, zA mb, zI 3, zI nb_, zI g0, zI g1, zU, zU, zU, zU, zU, zU, zU, zU, zU, zU, zU, zU, zU, zU, zU, zU, zU, zU, zU] [.int 2, .ref ao]
  refine fun T11 X11 eh11 => ?_
  refine own_callVP X11 hx hZ hown (hw _ (wm 105 rfl)) (hw _ (wm 106 rfl)) (hw _ (wm 108 rfl)) (hw _ (wm 107 rfl)) (hw _ (wm 3 rfl)) (hw _ (wm 109 rfl)) (by decide) eh11 EX2 [.int 2] pd18 rfl (fr := 0) (lo := 0) (rm18_2 l Z a0 hw [] ao el po bo fi en ma we tu sk ss mk ms nb_ 0 g0 g1 g2 T4.heap n0 Z2 PF2 Ab2) (by rw [hml]; rfl) 0 rfl (Nat.le_of_eq rfl) (hb hby at_133) (by decide) (by decide) (by decide) (by decide) (fun T12 rv12 X12 eh12 qc12 => ?_)
  obtain rfl := qc12
  show own_Go p.tables e below _ (T12.setTop (mkF m 136 (Array.mk [s0_, s1_, s2_, s3_, s4_, s5_, zI t1, zI t2, zI t3, zI b1, zI b2, zI b3, zA ao, zA mb, zI 3, zI nb_, zI g0, zI g1, zU, zU, zU, zU, zU, zU, zU, zU, zU, zU, zU, zU, zU, zU, zU, zU, zU, zU, zU]) [.int g2]))
  refine own_blk dec0 seq0 hby hx hZ hown hK hF 1 [] [] X12 eh12 ?_
  show own_Aft X12 T4.heap _ 138 [s0_, s1_, s2_, s3_, s4_, s5_, zI t1, zI t2, zI t3, zI b1, zI b2, zI b3, zA ao, zA mb, zI 3, zI nb_, zI g0, zI g1, zI g2, zU, zU, zU, zU, zU, zU, zU, zU, zU, zU, zU, zU, zU, zU, zU, zU, zU, zU] []
  refine fun T13 X13 eh13 => ?_
  have HF2 : ∀ m0 m1 m2 w0 w1 w2 : Int, own_M t1.toInt t2.toInt t3.toInt m0 m1 m2 → own_Wp t1.toInt b1.toInt t2.toInt b2.toInt t3.toInt b3.toInt w0 w1 w2 → own_FIN m0 m1 m2 w0 w1 w2 nb_.toInt g0.toInt g1.toInt g2.toInt ∧ own_FR m0 m1 m2 e0.toInt e1.toInt e2.toInt := by
    intro m0 m1 m2 w0 w1 w2 hM hW
    refine ⟨HF m0 m1 m2 w0 w1 w2 hM hW, ?_⟩
    obtain ⟨k0, k1, k2, -⟩ := HM m0 m1 m2 w0 w1 w2 hM hW
    exact own_fr2 d01 d02 d12 k0 k1 k2
  exact tail2 X13 hx hby hml hown hlk hret hZ hw eh13 Z2 N2 s0_ s1_ s2_ s3_ s4_ s5_ t1 t2 t3 b1 b2 b3 nb_ g0 g1 g2 e0 e1 e2 ao mb Amb2 r00 r01 r10 r11 r20 r21 d01 d02 d12 bb1 bb2 bb3 HF2
set_option maxRecDepth 65536 in
set_option maxHeartbeats 40000000 in
theorem tail1_3 {p : Program} {l : Launch} {e : Env} {s : State} {m : MethodId} {args : Array Value} {below : List Frame} {meth : Method} {c : Code} {T0 : State} {locs : List Loc} {Z : State} {a0 : Array Value} {h0 : Heap} {n0 : Nat} (X0 : Stand p l e room_1 s m args below meth c T0 locs 14 53) (hx : p.tables.exec = Jvm.exec) (hby : c.code = code) (hml : c.maxLocals = maxLocals) (hown : s.vm.findClass "com/example/lumper/lumper/analysis/PartitionAddPinLaw" = some m.cls) (hlk : meth.locks = false) (hret : meth.sig.returnType = ret) (hZ : Z.Warmed39 s.vm) (hw : ∀ d ∈ tables_1, d.before a0 Z = true) (eh0 : T0.heap = h0) (Z0 : n0 ≤ h0.size) (N0 : Fr n0 locs) (s0_ s1_ s2_ s3_ s4_ s5_ : Slot) (t1 t2 t3 b1 b2 b3 e0 e1 e2 : Int32) (ao el po bo fi en ma we tu sk ss mk ms mb : Addr) (Lp Lw : List Value) (x0 x1 x2 : UInt64) (C0 C1 C2 : Int) (EX : Exa Z h0 ao cP) (CH : own_CH n0 ao el po bo fi en ma we tu sk ss mk ms) (nmb : @LT.lt Nat _ ms mb) (PF : own_PF Z h0 ao el po bo fi en ma we tu sk ss mk ms 1 1) (Ae : own_A Z h0 el .int [.int e0, .int e1, .int e2]) (Ap : own_A Z h0 po .int Lp) (hLp : Lp.length = 3) (Aw : own_A Z h0 we .double Lw) (Ak : own_A Z h0 sk .double [.double 0, .double 0, .double 0]) (As : own_A Z h0 ss .int [.int 0, .int 0, .int 0]) (Bk : own_A Z h0 mk .double [.double 0, .double 0, .double 0]) (Bs : own_A Z h0 ms .int [.int 0, .int 0, .int 0]) (Ab : own_A Z h0 bo .int [.int 0, .int 0, .int 0]) (Af : own_A Z h0 fi .int [.int 0, .int 0, .int 0]) (An : own_A Z h0 en .int [.int 3, .int 0, .int 0]) (Am : own_A Z h0 ma .int [.int 3, .int 0, .int 0]) (At : own_A Z h0 tu .int [.int 0, .int 0, .int 0]) (Amb : own_A Z h0 mb .int [.int 0, .int 0, .int 0]) (r00 : 0 ≤ e0.toInt) (r01 : e0.toInt < 3) (r10 : 0 ≤ e1.toInt) (r11 : e1.toInt < 3) (r20 : 0 ≤ e2.toInt) (r21 : e2.toInt < 3) (d01 : e0.toInt ≠ e1.toInt) (d02 : e0.toInt ≠ e2.toInt) (d12 : e1.toInt ≠ e2.toInt) (hw0 : Lw[e0.toInt.toNat]? = some (.double x0)) (hD0 : own_D 0 C0 x0) (bC0 : -3000 ≤ C0 ∧ C0 ≤ 3000) (hw1 : Lw[e1.toInt.toNat]? = some (.double x1)) (hD1 : own_D 0 C1 x1) (bC1 : -3000 ≤ C1 ∧ C1 ≤ 3000) (hw2 : Lw[e2.toInt.toNat]? = some (.double x2)) (hD2 : own_D 0 C2 x2) (bC2 : -3000 ≤ C2 ∧ C2 ≤ 3000) (bb1 : -999 ≤ b1.toInt ∧ b1.toInt ≤ 999) (bb2 : -999 ≤ b2.toInt ∧ b2.toInt ≤ 999) (bb3 : -999 ≤ b3.toInt ∧ b3.toInt ≤ 999) (HM : ∀ m0 m1 m2 w0 w1 w2 : Int, own_M t1.toInt t2.toInt t3.toInt m0 m1 m2 → own_Wp t1.toInt b1.toInt t2.toInt b2.toInt t3.toInt b3.toInt w0 w1 w2 → own_is e0.toInt m0 m1 m2 1 ∧ own_is e1.toInt m0 m1 m2 1 ∧ own_is e2.toInt m0 m1 m2 1 ∧ own_is e0.toInt w0 w1 w2 C0 ∧ own_is e1.toInt w0 w1 w2 C1 ∧ own_is e2.toInt w0 w1 w2 C2) :
    own_Go p.tables e below (own_Fin s 40 192 (fun v h L => v = some (.int 1) ∧ Fr n0 L)) (T0.setTop (mkF m 92 (Array.mk [s0_, s1_, s2_, s3_, s4_, s5_, zI t1, zI t2, zI t3, zI b1, zI b2, zI b3, zA ao, zA mb, zU, zU, zU, zU, zU, zU, zU, zU, zU, zU, zU, zU, zU, zU, zU, zU, zU, zU, zU, zU, zU, zU, zU]) [])) := by
  have hK := hKt0 hw; have hF := hFt0 hw
  have CH_ := CH
  obtain ⟨c0_, c1_, c2_, c3_, c4_, c5_, c6_, c7_, c8_, c9_, c10_, c11_, c12_⟩ := CH
  refine own_blk dec0 seq0 hby hx hZ hown hK hF 3 [] [] X0 eh0 ?_
  show own_Aft X0 h0 _ 97 [s0_, s1_, s2_, s3_, s4_, s5_, zI t1, zI t2, zI t3, zI b1, zI b2, zI b3, zA ao, zA mb, zU, zU, zU, zU, zU, zU, zU, zU, zU, zU, zU, zU, zU, zU, zU, zU, zU, zU, zU, zU, zU, zU, zU] [.ref mb, .int 0, .ref ao]
  refine fun T1 X1 eh1 => ?_
  refine own_callV X1 hx hZ hown (hw _ (wm 45 rfl)) (hw _ (wm 46 rfl)) (hw _ (wm 48 rfl)) (hw _ (wm 47 rfl)) (hw _ (wm 3 rfl)) (hw _ (wm 49 rfl)) (by decide) eh1 EX [.int 0, .ref mb] pd4 rfl (rm := ({ frames := 1, cells := 0, slots := 0, locals := 24 } : Room)) (rm4 l Z a0 hw [] ao el po bo fi en ma we tu sk ss mk ms mb e0 e1 e2 1 1 h0 n0 Z0 EX PF (by omega) Ae Af An Amb) (by rw [hml]; rfl) 0 rfl (Nat.le_of_eq rfl) (hb hby at_97) (by decide) (by decide) (by decide) (by decide) (fun T2 rv2 Lc2 X2 qc2 => ?_)
  obtain ⟨rfl, M1, K1, Amb1⟩ := qc2
  have Ae1 := Ae.keep K1 (own_nin (by simp only [own_out, and_true]; omega))
  have Ap1 := Ap.keep K1 (own_nin (by simp only [own_out, and_true]; omega))
  have Aw1 := Aw.keep K1 (own_nin (by simp only [own_out, and_true]; omega))
  have Ak1 := Ak.keep K1 (own_nin (by simp only [own_out, and_true]; omega))
  have As1 := As.keep K1 (own_nin (by simp only [own_out, and_true]; omega))
  have Bk1 := Bk.keep K1 (own_nin (by simp only [own_out, and_true]; omega))
  have Bs1 := Bs.keep K1 (own_nin (by simp only [own_out, and_true]; omega))
  have Ab1 := Ab.keep K1 (own_nin (by simp only [own_out, and_true]; omega))
  have Af1 := Af.keep K1 (own_nin (by simp only [own_out, and_true]; omega))
  have An1 := An.keep K1 (own_nin (by simp only [own_out, and_true]; omega))
  have Am1 := Am.keep K1 (own_nin (by simp only [own_out, and_true]; omega))
  have At1 := At.keep K1 (own_nin (by simp only [own_out, and_true]; omega))
  have EX1 := Exa.keep EX K1
  have PF1 := own_PF.keep PF K1 (own_nin (by simp only [own_out, and_true]; omega))
  have N1 := Fr.app N0 M1
  have Z1 := Nat.le_trans Z0 K1.1
  show own_Go p.tables e below _ (T2.setTop (mkF m 100 (Array.mk [s0_, s1_, s2_, s3_, s4_, s5_, zI t1, zI t2, zI t3, zI b1, zI b2, zI b3, zA ao, zA mb, zU, zU, zU, zU, zU, zU, zU, zU, zU, zU, zU, zU, zU, zU, zU, zU, zU, zU, zU, zU, zU, zU, zU]) [.int 3]))
  refine own_blk dec0 seq0 hby hx hZ hown hK hF 2 [] [] X2 rfl ?_
  show own_Aft X2 T2.heap _ 104 [s0_, s1_, s2_, s3_, s4_, s5_, zI t1, zI t2, zI t3, zI b1, zI b2, zI b3, zA ao, zA mb, zI 3, zU, zU, zU, zU, zU, zU, zU, zU, zU, zU, zU, zU, zU, zU, zU, zU, zU, zU, zU, zU, zU, zU] [.ref ao]
  refine fun T3 X3 eh3 => ?_
  refine own_callV X3 hx hZ hown (hw _ (wm 54 rfl)) (hw _ (wm 55 rfl)) (hw _ (wm 57 rfl)) (hw _ (wm 56 rfl)) (hw _ (wm 3 rfl)) (hw _ (wm 58 rfl)) (by decide) eh3 EX1 [] pd5 rfl (rm := ({ frames := 4, cells := 0, slots := 0, locals := 96 } : Room)) (rm5_3 l Z a0 hw [] ao el po bo fi en ma we tu sk ss mk ms e0 e1 e2 Lp Lw ([.int 0, .int 0, .int 0] : List Value) x0 x1 x2 C0 C1 C2 T2.heap n0 Z1 EX1 CH_ PF1 Ae1 Ap1 hLp Aw1 Ak1 As1 Bk1 Bs1 Ab1 rfl Af1 An1 r00 r01 r10 r11 r20 r21 hw0 hD0 bC0 hw1 hD1 bC1 hw2 hD2 bC2 Am1 At1) (by rw [hml]; rfl) 0 rfl (Nat.le_of_eq rfl) (hb hby at_104) (by decide) (by decide) (by decide) (by decide) (fun T4 rv4 Lc4 X4 qc4 => ?_)
  obtain ⟨rfl, M2, K2, nb_, Lb_, PF2, Ab2, hO⟩ := qc4
  have EX2 := Exa.keep EX1 K2
  have Amb2 := Amb1.keep K2 (own_nin (by simp only [own_out, and_true]; omega))
  have N2 := Fr.app N1 M2
  have Z2 := Nat.le_trans Z1 K2.1
  obtain ⟨g0, g1, g2, rfl, HF⟩ : ∃ g0 g1 g2 : Int32, Lb_ = [.int g0, .int g1, .int g2] ∧ ∀ m0 m1 m2 w0 w1 w2 : Int, own_M t1.toInt t2.toInt t3.toInt m0 m1 m2 → own_Wp t1.toInt b1.toInt t2.toInt b2.toInt t3.toInt b3.toInt w0 w1 w2 → own_FIN m0 m1 m2 w0 w1 w2 nb_.toInt g0.toInt g1.toInt g2.toInt := by
    rcases hO with ⟨hc, hd, rfl, rfl⟩ | ⟨f0, f1, f2, D0, D1, D2, hP, hO⟩
    · exact own_f3a e0 e1 e2 t1.toInt b1.toInt t2.toInt b2.toInt t3.toInt b3.toInt C0 C1 C2 r00 r01 r10 r11 r20 r21 d01 d02 d12 hc hd HM
    · have HMf : (0 ≤ f0.toInt ∧ f0.toInt < 3 ∧ 0 ≤ f1.toInt ∧ f1.toInt < 3 ∧ 0 ≤ f2.toInt ∧ f2.toInt < 3) ∧ (f0.toInt ≠ f1.toInt ∧ f0.toInt ≠ f2.toInt ∧ f1.toInt ≠ f2.toInt) ∧ (∀ m0 m1 m2 w0 w1 w2 : Int, own_M t1.toInt t2.toInt t3.toInt m0 m1 m2 → own_Wp t1.toInt b1.toInt t2.toInt b2.toInt t3.toInt b3.toInt w0 w1 w2 → own_is f0.toInt m0 m1 m2 1 ∧ own_is f1.toInt m0 m1 m2 1 ∧ own_is f2.toInt m0 m1 m2 1 ∧ own_is f0.toInt w0 w1 w2 D0 ∧ own_is f1.toInt w0 w1 w2 D1 ∧ own_is f2.toInt w0 w1 w2 D2) := by
        rcases hP with ⟨rfl, rfl, rfl, rfl, rfl, rfl⟩ | ⟨rfl, rfl, rfl, rfl, rfl, rfl⟩ | ⟨rfl, rfl, rfl, rfl, rfl, rfl⟩ | ⟨rfl, rfl, rfl, rfl, rfl, rfl⟩ | ⟨rfl, rfl, rfl, rfl, rfl, rfl⟩ | ⟨rfl, rfl, rfl, rfl, rfl, rfl⟩
        · exact ⟨⟨r00, r01, r10, r11, r20, r21⟩, ⟨by omega, by omega, by omega⟩, fun m0 m1 m2 w0 w1 w2 hM hW => by obtain ⟨a, b, c, d, e, f⟩ := HM m0 m1 m2 w0 w1 w2 hM hW; exact ⟨a, b, c, d, e, f⟩⟩
        · exact ⟨⟨r00, r01, r20, r21, r10, r11⟩, ⟨by omega, by omega, by omega⟩, fun m0 m1 m2 w0 w1 w2 hM hW => by obtain ⟨a, b, c, d, e, f⟩ := HM m0 m1 m2 w0 w1 w2 hM hW; exact ⟨a, c, b, d, f, e⟩⟩
        · exact ⟨⟨r10, r11, r00, r01, r20, r21⟩, ⟨by omega, by omega, by omega⟩, fun m0 m1 m2 w0 w1 w2 hM hW => by obtain ⟨a, b, c, d, e, f⟩ := HM m0 m1 m2 w0 w1 w2 hM hW; exact ⟨b, a, c, e, d, f⟩⟩
        · exact ⟨⟨r10, r11, r20, r21, r00, r01⟩, ⟨by omega, by omega, by omega⟩, fun m0 m1 m2 w0 w1 w2 hM hW => by obtain ⟨a, b, c, d, e, f⟩ := HM m0 m1 m2 w0 w1 w2 hM hW; exact ⟨b, c, a, e, f, d⟩⟩
        · exact ⟨⟨r20, r21, r00, r01, r10, r11⟩, ⟨by omega, by omega, by omega⟩, fun m0 m1 m2 w0 w1 w2 hM hW => by obtain ⟨a, b, c, d, e, f⟩ := HM m0 m1 m2 w0 w1 w2 hM hW; exact ⟨c, a, b, f, d, e⟩⟩
        · exact ⟨⟨r20, r21, r10, r11, r00, r01⟩, ⟨by omega, by omega, by omega⟩, fun m0 m1 m2 w0 w1 w2 hM hW => by obtain ⟨a, b, c, d, e, f⟩ := HM m0 m1 m2 w0 w1 w2 hM hW; exact ⟨c, b, a, f, e, d⟩⟩
      obtain ⟨⟨a0_, a1_, a2_, a3_, a4_, a5_⟩, ⟨a6_, a7_, a8_⟩, HMf⟩ := HMf
      rcases hO with ⟨hc, hd, rfl, rfl⟩ | ⟨hc, hd, rfl, rfl⟩ | ⟨hc, hd, rfl, rfl⟩
      · exact own_f3b f0 f1 f2 t1.toInt b1.toInt t2.toInt b2.toInt t3.toInt b3.toInt D0 D1 D2 a0_ a1_ a2_ a3_ a4_ a5_ a6_ a7_ a8_ hc hd HMf
      · exact own_f3c f0 f1 f2 t1.toInt b1.toInt t2.toInt b2.toInt t3.toInt b3.toInt D0 D1 D2 a0_ a1_ a2_ a3_ a4_ a5_ a6_ a7_ a8_ hc hd HMf
      · exact own_f3d f0 f1 f2 t1.toInt b1.toInt t2.toInt b2.toInt t3.toInt b3.toInt D0 D1 D2 a0_ a1_ a2_ a3_ a4_ a5_ a6_ a7_ a8_ hc hd HMf
  show own_Go p.tables e below _ (T4.setTop (mkF m 107 (Array.mk [s0_, s1_, s2_, s3_, s4_, s5_, zI t1, zI t2, zI t3, zI b1, zI b2, zI b3, zA ao, zA mb, zI 3, zU, zU, zU, zU, zU, zU, zU, zU, zU, zU, zU, zU, zU, zU, zU, zU, zU, zU, zU, zU, zU, zU]) []))
  refine own_blk dec0 seq0 hby hx hZ hown hK hF 1 [] [] X4 rfl ?_
  show own_Aft X4 T4.heap _ 109 [s0_, s1_, s2_, s3_, s4_, s5_, zI t1, zI t2, zI t3, zI b1, zI b2, zI b3, zA ao, zA mb, zI 3, zU, zU, zU, zU, zU, zU, zU, zU, zU, zU, zU, zU, zU, zU, zU, zU, zU, zU, zU, zU, zU, zU] [.ref ao]
  refine fun T5 X5 eh5 => ?_
  refine own_callVP X5 hx hZ hown (hw _ (wm 100 rfl)) (hw _ (wm 101 rfl)) (hw _ (wm 103 rfl)) (hw _ (wm 102 rfl)) (hw _ (wm 3 rfl)) (hw _ (wm 104 rfl)) (by decide) eh5 EX2 [] pd17 rfl (fr := 0) (lo := 0) (rm17 l Z a0 hw [] ao el po bo fi en ma we tu sk ss mk ms nb_ 0 T4.heap n0 Z2 PF2) (by rw [hml]; rfl) 0 rfl (Nat.le_of_eq rfl) (hb hby at_109) (by decide) (by decide) (by decide) (by decide) (fun T6 rv6 X6 eh6 qc6 => ?_)
  obtain rfl := qc6
  show own_Go p.tables e below _ (T6.setTop (mkF m 112 (Array.mk [s0_, s1_, s2_, s3_, s4_, s5_, zI t1, zI t2, zI t3, zI b1, zI b2, zI b3, zA ao, zA mb, zI 3, zU, zU, zU, zU, zU, zU, zU, zU, zU, zU, zU, zU, zU, zU, zU, zU, zU, zU, zU, zU, zU, zU]) [.int nb_]))
  refine own_blk dec0 seq0 hby hx hZ hown hK hF 3 [] [] X6 eh6 ?_
  show own_Aft X6 T4.heap _ 117 [s0_, s1_, s2_, s3_, s4_, s5_, zI t1, zI t2, zI t3, zI b1, zI b2, zI b3, zA ao, zA mb, zI 3, zI nb_, zU, zU, zU, zU, zU, zU, zU, zU, zU, zU, zU, zU, zU, zU, zU, zU, zU, zU, zU, zU, zU] [.int 0, .ref ao]
  refine fun T7 X7 eh7 => ?_
  refine own_callVP X7 hx hZ hown (hw _ (wm 105 rfl)) (hw _ (wm 106 rfl)) (hw _ (wm 108 rfl)) (hw _ (wm 107 rfl)) (hw _ (wm 3 rfl)) (hw _ (wm 109 rfl)) (by decide) eh7 EX2 [.int 0] pd18 rfl (fr := 0) (lo := 0) (rm18_0 l Z a0 hw [] ao el po bo fi en ma we tu sk ss mk ms nb_ 0 g0 g1 g2 T4.heap n0 Z2 PF2 Ab2) (by rw [hml]; rfl) 0 rfl (Nat.le_of_eq rfl) (hb hby at_117) (by decide) (by decide) (by decide) (by decide) (fun T8 rv8 X8 eh8 qc8 => ?_)
  obtain rfl := qc8
  show own_Go p.tables e below _ (T8.setTop (mkF m 120 (Array.mk [s0_, s1_, s2_, s3_, s4_, s5_, zI t1, zI t2, zI t3, zI b1, zI b2, zI b3, zA ao, zA mb, zI 3, zI nb_, zU, zU, zU, zU, zU, zU, zU, zU, zU, zU, zU, zU, zU, zU, zU, zU, zU, zU, zU, zU, zU]) [.int g0]))
  refine own_blk dec0 seq0 hby hx hZ hown hK hF 3 [] [] X8 eh8 ?_
  show own_Aft X8 T4.heap _ 125 [s0_, s1_, s2_, s3_, s4_, s5_, zI t1, zI t2, zI t3, zI b1, zI b2, zI b3, zA ao, zA mb, zI 3, zI nb_, zI g0, zU, zU, zU, zU, zU, zU, zU, zU, zU, zU, zU, zU, zU, zU, zU, zU, zU, zU, zU, zU] [.int 1, .ref ao]
  refine fun T9 X9 eh9 => ?_
  refine own_callVP X9 hx hZ hown (hw _ (wm 105 rfl)) (hw _ (wm 106 rfl)) (hw _ (wm 108 rfl)) (hw _ (wm 107 rfl)) (hw _ (wm 3 rfl)) (hw _ (wm 109 rfl)) (by decide) eh9 EX2 [.int 1] pd18 rfl (fr := 0) (lo := 0) (rm18_1 l Z a0 hw [] ao el po bo fi en ma we tu sk ss mk ms nb_ 0 g0 g1 g2 T4.heap n0 Z2 PF2 Ab2) (by rw [hml]; rfl) 0 rfl (Nat.le_of_eq rfl) (hb hby at_125) (by decide) (by decide) (by decide) (by decide) (fun T10 rv10 X10 eh10 qc10 => ?_)
  obtain rfl := qc10
  show own_Go p.tables e below _ (T10.setTop (mkF m 128 (Array.mk [s0_, s1_, s2_, s3_, s4_, s5_, zI t1, zI t2, zI t3, zI b1, zI b2, zI b3, zA ao, zA mb, zI 3, zI nb_, zI g0, zU, zU, zU, zU, zU, zU, zU, zU, zU, zU, zU, zU, zU, zU, zU, zU, zU, zU, zU, zU]) [.int g1]))
  refine own_blk dec0 seq0 hby hx hZ hown hK hF 3 [] [] X10 eh10 ?_
  show own_Aft X10 T4.heap _ 133 [s0_, s1_, s2_, s3_, s4_, s5_, zI t1, zI t2, zI t3, zI b1, zI b2, zI b3, zA ao, zA mb, zI 3, zI nb_, zI g0, zI g1, zU, zU, zU, zU, zU, zU, zU, zU, zU, zU, zU, zU, zU, zU, zU, zU, zU, zU, zU] [.int 2, .ref ao]
  refine fun T11 X11 eh11 => ?_
  refine own_callVP X11 hx hZ hown (hw _ (wm 105 rfl)) (hw _ (wm 106 rfl)) (hw _ (wm 108 rfl)) (hw _ (wm 107 rfl)) (hw _ (wm 3 rfl)) (hw _ (wm 109 rfl)) (by decide) eh11 EX2 [.int 2] pd18 rfl (fr := 0) (lo := 0) (rm18_2 l Z a0 hw [] ao el po bo fi en ma we tu sk ss mk ms nb_ 0 g0 g1 g2 T4.heap n0 Z2 PF2 Ab2) (by rw [hml]; rfl) 0 rfl (Nat.le_of_eq rfl) (hb hby at_133) (by decide) (by decide) (by decide) (by decide) (fun T12 rv12 X12 eh12 qc12 => ?_)
  obtain rfl := qc12
  show own_Go p.tables e below _ (T12.setTop (mkF m 136 (Array.mk [s0_, s1_, s2_, s3_, s4_, s5_, zI t1, zI t2, zI t3, zI b1, zI b2, zI b3, zA ao, zA mb, zI 3, zI nb_, zI g0, zI g1, zU, zU, zU, zU, zU, zU, zU, zU, zU, zU, zU, zU, zU, zU, zU, zU, zU, zU, zU]) [.int g2]))
  refine own_blk dec0 seq0 hby hx hZ hown hK hF 1 [] [] X12 eh12 ?_
  show own_Aft X12 T4.heap _ 138 [s0_, s1_, s2_, s3_, s4_, s5_, zI t1, zI t2, zI t3, zI b1, zI b2, zI b3, zA ao, zA mb, zI 3, zI nb_, zI g0, zI g1, zI g2, zU, zU, zU, zU, zU, zU, zU, zU, zU, zU, zU, zU, zU, zU, zU, zU, zU, zU] []
  refine fun T13 X13 eh13 => ?_
  have HF2 : ∀ m0 m1 m2 w0 w1 w2 : Int, own_M t1.toInt t2.toInt t3.toInt m0 m1 m2 → own_Wp t1.toInt b1.toInt t2.toInt b2.toInt t3.toInt b3.toInt w0 w1 w2 → own_FIN m0 m1 m2 w0 w1 w2 nb_.toInt g0.toInt g1.toInt g2.toInt ∧ own_FR m0 m1 m2 e0.toInt e1.toInt e2.toInt := by
    intro m0 m1 m2 w0 w1 w2 hM hW
    refine ⟨HF m0 m1 m2 w0 w1 w2 hM hW, ?_⟩
    obtain ⟨k0, k1, k2, -⟩ := HM m0 m1 m2 w0 w1 w2 hM hW
    exact own_fr3 d01 d02 d12 k0 k1 k2
  exact tail2 X13 hx hby hml hown hlk hret hZ hw eh13 Z2 N2 s0_ s1_ s2_ s3_ s4_ s5_ t1 t2 t3 b1 b2 b3 nb_ g0 g1 g2 e0 e1 e2 ao mb Amb2 r00 r01 r10 r11 r20 r21 d01 d02 d12 bb1 bb2 bb3 HF2
theorem own_m1000 (a : Int32) : -999 ≤ (a % (1000 : Int32)).toInt ∧ (a % (1000 : Int32)).toInt ≤ 999 := by
  rw [own_rem32, show (1000 : Int32).toInt = 1000 from rfl]
  have h1 := Int.tmod_lt_of_pos a.toInt (show (0 : Int) < 1000 by omega)
  have h2 := Int.lt_tmod_of_pos a.toInt (show (0 : Int) < 1000 by omega)
  omega
def own_QF (Z : State) (h : Heap) (bo fi en sk ss mk ms mb : Addr) : Prop := own_A Z h bo .int [.int 0, .int 0, .int 0] ∧ own_A Z h fi .int [.int 0, .int 0, .int 0] ∧ own_A Z h en .int [.int 3, .int 0, .int 0] ∧ own_A Z h sk .double [.double 0, .double 0, .double 0] ∧ own_A Z h ss .int [.int 0, .int 0, .int 0] ∧ own_A Z h mk .double [.double 0, .double 0, .double 0] ∧ own_A Z h ms .int [.int 0, .int 0, .int 0] ∧ own_A Z h mb .int [.int 0, .int 0, .int 0]
theorem own_QF.keep {Z : State} {h h' : Heap} {n0 : Nat} {ao el po bo fi en ma we tu sk ss mk ms mb : Addr} {ws : List Addr} (F : own_QF Z h bo fi en sk ss mk ms mb) (K : Keep h h' ws) (CH : own_CH n0 ao el po bo fi en ma we tu sk ss mk ms) (hm : @LT.lt Nat _ ms mb) (hs : ∀ x ∈ ws, x = ao ∨ x = el ∨ x = po ∨ x = ma ∨ x = we ∨ x = tu) : own_QF Z h' bo fi en sk ss mk ms mb := by
  obtain ⟨c0_, c1_, c2_, c3_, c4_, c5_, c6_, c7_, c8_, c9_, c10_, c11_, c12_⟩ := CH
  obtain ⟨q0, q1, q2, q3, q4, q5, q6, q7⟩ := F
  have nn : ∀ y : Addr, own_out y [ao, el, po, ma, we, tu] → y ∉ ws := fun y hy q => by
    have := own_nin (L := [ao, el, po, ma, we, tu]) hy
    exact this (by have := hs y q; simp only [List.mem_cons, List.not_mem_nil, or_false]; exact this)
  exact ⟨q0.keep K (nn _ (by simp only [own_out, and_true]; omega)), q1.keep K (nn _ (by simp only [own_out, and_true]; omega)), q2.keep K (nn _ (by simp only [own_out, and_true]; omega)), q3.keep K (nn _ (by simp only [own_out, and_true]; omega)), q4.keep K (nn _ (by simp only [own_out, and_true]; omega)), q5.keep K (nn _ (by simp only [own_out, and_true]; omega)), q6.keep K (nn _ (by simp only [own_out, and_true]; omega)), q7.keep K (nn _ (by simp only [own_out, and_true]; omega))⟩
set_option maxRecDepth 65536 in
set_option maxHeartbeats 40000000 in
theorem rm0 (l : Launch) (Z : State) (a0 : Array Value) (hw : ∀ d ∈ tables_1, d.before a0 Z = true) (ws : List Jvm.Cond) (s1 a1 s2 a2 s3 a3 : Int32) (h0 : Heap) (n0 : Nat) (Z0 : n0 ≤ h0.size)  :
    MetFree l x (head1 (Jvm.Cond.code x code maxLocals ret :: ws) room_1) (fun as_ U => as_ = #[.int s1, .int a1, .int s2, .int a2, .int s3, .int a3] ∧ Z.Warmed39 U.vm ∧ U.heap = h0) (fun _ _ _ _ _ => True) (fun _ U o U' => own_Fin U 40 192 (fun v h L => v = some (.int 1) ∧ Fr n0 L) o U') := by
  refine own_body pf0 (ls0 := [.val (.int s1), .val (.int a1), .val (.int s2), .val (.int a2), .val (.int s3), .val (.int a3), .unset, .unset, .unset, .unset, .unset, .unset, .unset, .unset, .unset, .unset, .unset, .unset, .unset, .unset, .unset, .unset, .unset, .unset, .unset, .unset, .unset, .unset, .unset, .unset, .unset, .unset, .unset, .unset, .unset, .unset, .unset]) (fun m => by first | (simp [entryFrame, mkF, argsToLocals, Value.category, maxLocals]; done) | rfl) ?_
  intro p e s m below meth c T0 hx hby hml hown hnm hlk hret hZ X0 eh0
  have hK := hKt0 hw; have hF := hFt0 hw
  have N0 := Fr.nil n0
  refine own_blk dec0 seq0 hby hx hZ hown hK hF 24 [] [.int 1000, .int 1000] X0 eh0 ?_
  show ((3 : Int32) ≠ 0) ∧ ((3 : Int32) ≠ 0) ∧ ((3 : Int32) ≠ 0) ∧ ((Int16.ofInt 1000).toInt32 = (1000 : Int32)) ∧ ((1000 : Int32) ≠ 0) ∧ ((Int16.ofInt 1000).toInt32 = (1000 : Int32)) ∧ own_Aft X0 h0 _ 36 [zI s1, zI a1, zI s2, zI a2, zI s3, zI a3, zI ((s1 &&& (2147483647 : Int32)) % (3 : Int32)), zI ((s2 &&& (2147483647 : Int32)) % (3 : Int32)), zI ((s3 &&& (2147483647 : Int32)) % (3 : Int32)), zI (a1 % (1000 : Int32)), zU, zU, zU, zU, zU, zU, zU, zU, zU, zU, zU, zU, zU, zU, zU, zU, zU, zU, zU, zU, zU, zU, zU, zU, zU, zU, zU] [.int 1000, .int a2]
  refine ⟨by decide, by decide, by decide, by decide +kernel, by decide, by decide +kernel, fun T1 X1 eh1 => ?_⟩
  refine own_blk dec0 seq0 hby hx hZ hown hK hF 6 [] [.int 1000] X1 eh1 ?_
  show ((1000 : Int32) ≠ 0) ∧ ((Int16.ofInt 1000).toInt32 = (1000 : Int32)) ∧ ((1000 : Int32) ≠ 0) ∧ own_Aft X1 h0 _ 47 [zI s1, zI a1, zI s2, zI a2, zI s3, zI a3, zI ((s1 &&& (2147483647 : Int32)) % (3 : Int32)), zI ((s2 &&& (2147483647 : Int32)) % (3 : Int32)), zI ((s3 &&& (2147483647 : Int32)) % (3 : Int32)), zI (a1 % (1000 : Int32)), zI (a2 % (1000 : Int32)), zI (a3 % (1000 : Int32)), zU, zU, zU, zU, zU, zU, zU, zU, zU, zU, zU, zU, zU, zU, zU, zU, zU, zU, zU, zU, zU, zU, zU, zU, zU] []
  refine ⟨by decide, by decide +kernel, by decide, fun T2 X2 eh2 => ?_⟩
  have l0 : (0 : Int32).toInt = 0 := rfl
  have l1 : (1 : Int32).toInt = 1 := rfl
  have l2 : (2 : Int32).toInt = 2 := rfl
  have l3 : (3 : Int32).toInt = 3 := rfl
  have lk : (1000 : Int32).toInt = 1000 := rfl
  have st1 : 0 ≤ ((s1 &&& (2147483647 : Int32)) % (3 : Int32)).toInt ∧ ((s1 &&& (2147483647 : Int32)) % (3 : Int32)).toInt < 3 := own_rem_pos (own_and32 _ 2147483647 (by decide)).1 (b := 3) (by decide)
  have bb1 : -999 ≤ (a1 % (1000 : Int32)).toInt ∧ (a1 % (1000 : Int32)).toInt ≤ 999 := own_m1000 _
  have st2 : 0 ≤ ((s2 &&& (2147483647 : Int32)) % (3 : Int32)).toInt ∧ ((s2 &&& (2147483647 : Int32)) % (3 : Int32)).toInt < 3 := own_rem_pos (own_and32 _ 2147483647 (by decide)).1 (b := 3) (by decide)
  have bb2 : -999 ≤ (a2 % (1000 : Int32)).toInt ∧ (a2 % (1000 : Int32)).toInt ≤ 999 := own_m1000 _
  have st3 : 0 ≤ ((s3 &&& (2147483647 : Int32)) % (3 : Int32)).toInt ∧ ((s3 &&& (2147483647 : Int32)) % (3 : Int32)).toInt < 3 := own_rem_pos (own_and32 _ 2147483647 (by decide)).1 (b := 3) (by decide)
  have bb3 : -999 ≤ (a3 % (1000 : Int32)).toInt ∧ (a3 % (1000 : Int32)).toInt ≤ 999 := own_m1000 _
  generalize (s1 &&& (2147483647 : Int32)) % (3 : Int32) = t1 at st1 ⊢
  generalize a1 % (1000 : Int32) = b1 at bb1 ⊢
  generalize (s2 &&& (2147483647 : Int32)) % (3 : Int32) = t2 at st2 ⊢
  generalize a2 % (1000 : Int32) = b2 at bb2 ⊢
  generalize (s3 &&& (2147483647 : Int32)) % (3 : Int32) = t3 at st3 ⊢
  generalize a3 % (1000 : Int32) = b3 at bb3 ⊢
  show own_Go p.tables e below _ (T2.setTop (mkF m 47 (Array.mk [zI s1, zI a1, zI s2, zI a2, zI s3, zI a3, zI t1, zI t2, zI t3, zI b1, zI b2, zI b3, zU, zU, zU, zU, zU, zU, zU, zU, zU, zU, zU, zU, zU, zU, zU, zU, zU, zU, zU, zU, zU, zU, zU, zU, zU]) []))
  refine own_new X2 hx hZ hown (hw _ (wm 1 rfl)) (hw _ (wm 2 rfl)) (hw _ (wm 3 rfl)) eh2 (hb hby at_47) (by decide) (by decide) (fun T3 hp3 ao ga3 X3 eh3 Ex3 Ea3 Dn3 => ?_)
  have nw_ao : n0 ≤ ao := by rw [ga3]; exact Z0
  have Z_3 : n0 ≤ hp3.size := Nat.le_trans Z0 Ex3.1
  have Fn3_elements : Fld Z hp3 ao cP "elements" "[I" (.null) := Dn3 (Or.inr (hw _ (wm 12 rfl))) (ty := (.array .int)) (by decide)
  have Fn3_position : Fld Z hp3 ao cP "position" "[I" (.null) := Dn3 (Or.inr (hw _ (wm 14 rfl))) (ty := (.array .int)) (by decide)
  have Fn3_blockOf : Fld Z hp3 ao cP "blockOf" "[I" (.null) := Dn3 (Or.inr (hw _ (wm 16 rfl))) (ty := (.array .int)) (by decide)
  have Fn3_first : Fld Z hp3 ao cP "first" "[I" (.null) := Dn3 (Or.inr (hw _ (wm 18 rfl))) (ty := (.array .int)) (by decide)
  have Fn3_end : Fld Z hp3 ao cP "end" "[I" (.null) := Dn3 (Or.inr (hw _ (wm 20 rfl))) (ty := (.array .int)) (by decide)
  have Fn3_marked : Fld Z hp3 ao cP "marked" "[I" (.null) := Dn3 (Or.inr (hw _ (wm 22 rfl))) (ty := (.array .int)) (by decide)
  have Fn3_weight : Fld Z hp3 ao cP "weight" "[D" (.null) := Dn3 (Or.inr (hw _ (wm 25 rfl))) (ty := (.array .double)) (by decide)
  have Fn3_touched : Fld Z hp3 ao cP "touched" "[I" (.null) := Dn3 (Or.inr (hw _ (wm 27 rfl))) (ty := (.array .int)) (by decide)
  have Fn3_blocks : Fld Z hp3 ao cP "blocks" "I" (.int 0) := Dn3 (Or.inl (hw _ (wm 29 rfl))) (ty := .int) (by decide)
  have Fn3_sortKeys : Fld Z hp3 ao cP "sortKeys" "[D" (.null) := Dn3 (Or.inr (hw _ (wm 31 rfl))) (ty := (.array .double)) (by decide)
  have Fn3_sortStates : Fld Z hp3 ao cP "sortStates" "[I" (.null) := Dn3 (Or.inr (hw _ (wm 33 rfl))) (ty := (.array .int)) (by decide)
  have Fn3_mergedKeys : Fld Z hp3 ao cP "mergedKeys" "[D" (.null) := Dn3 (Or.inr (hw _ (wm 35 rfl))) (ty := (.array .double)) (by decide)
  have Fn3_mergedStates : Fld Z hp3 ao cP "mergedStates" "[I" (.null) := Dn3 (Or.inr (hw _ (wm 37 rfl))) (ty := (.array .int)) (by decide)
  have Fn3_touchedCount : Fld Z hp3 ao cP "touchedCount" "I" (.int 0) := Dn3 (Or.inl (hw _ (wm 44 rfl))) (ty := .int) (by decide)
  show own_Go p.tables e below _ (T3.setTop (mkF m 50 (Array.mk [zI s1, zI a1, zI s2, zI a2, zI s3, zI a3, zI t1, zI t2, zI t3, zI b1, zI b2, zI b3, zU, zU, zU, zU, zU, zU, zU, zU, zU, zU, zU, zU, zU, zU, zU, zU, zU, zU, zU, zU, zU, zU, zU, zU, zU]) [.ref ao]))
  refine own_blk dec0 seq0 hby hx hZ hown hK hF 2 [] [] X3 eh3 ?_
  show own_Aft X3 hp3 _ 52 [zI s1, zI a1, zI s2, zI a2, zI s3, zI a3, zI t1, zI t2, zI t3, zI b1, zI b2, zI b3, zU, zU, zU, zU, zU, zU, zU, zU, zU, zU, zU, zU, zU, zU, zU, zU, zU, zU, zU, zU, zU, zU, zU, zU, zU] [.int 3, .ref ao, .ref ao]
  refine fun T4 X4 eh4 => ?_
  refine own_callI X4 hx hZ hown rfl (hw _ (wm 4 rfl)) (hw _ (wm 5 rfl)) (hw _ (wm 3 rfl)) (hw _ (wm 6 rfl)) (by decide) eh4 ao [.int 3] pd1 rfl (rm := ({ frames := 1, cells := 12, slots := 36, locals := 24 } : Room)) (rm1 l Z a0 hw [] ao hp3 n0 Z_3 Ea3 nw_ao Fn3_elements Fn3_position Fn3_blockOf Fn3_first Fn3_end Fn3_marked Fn3_weight Fn3_touched Fn3_sortKeys Fn3_sortStates Fn3_mergedKeys Fn3_mergedStates Fn3_blocks Fn3_touchedCount) (by rw [hml]; rfl) 1 rfl (Nat.le_of_eq rfl) (hb hby at_52) (by decide) (by decide) (by decide) (by decide) (fun T5 rv5 Lc5 X5 qc5 => ?_)
  obtain ⟨rfl, M1, EX, el, po, bo, fi, en, ma, we, tu, sk, ss, mk, ms, CH, PF, A_el, A_po, A_bo, A_fi, A_en, A_ma, A_we, A_tu, A_sk, A_ss, A_mk, A_ms⟩ := qc5
  have CH_ := CH
  obtain ⟨c0_, c1_, c2_, c3_, c4_, c5_, c6_, c7_, c8_, c9_, c10_, c11_, c12_⟩ := CH
  have N1_ := Fr.app N0 M1
  have Zz1 : n0 ≤ T5.heap.size := Nat.le_trans c0_ (Nat.le_of_lt EX.lt)
  show own_Go p.tables e below _ (T5.setTop (mkF m 55 (Array.mk [zI s1, zI a1, zI s2, zI a2, zI s3, zI a3, zI t1, zI t2, zI t3, zI b1, zI b2, zI b3, zU, zU, zU, zU, zU, zU, zU, zU, zU, zU, zU, zU, zU, zU, zU, zU, zU, zU, zU, zU, zU, zU, zU, zU, zU]) [.ref ao]))
  refine own_blk dec0 seq0 hby hx hZ hown hK hF 2 [] [] X5 rfl ?_
  show own_Aft X5 T5.heap _ 58 [zI s1, zI a1, zI s2, zI a2, zI s3, zI a3, zI t1, zI t2, zI t3, zI b1, zI b2, zI b3, zA ao, zU, zU, zU, zU, zU, zU, zU, zU, zU, zU, zU, zU, zU, zU, zU, zU, zU, zU, zU, zU, zU, zU, zU, zU] [.int 3]
  refine fun T6 X6 eh6 => ?_
  refine own_newP X6 hx hZ (hw _ (wm 10 rfl)) eh6 3 rfl (cap := 3) (by decide) (by decide) (hb hby at_58) (by decide) (by decide) (fun T7 hp7 mb ga7 X7 eh7 Ex7 Ar7 => ?_)
  have ch_mb : @LT.lt Nat _ ms mb := by rw [ga7]; exact A_ms.lt
  have A_el_7 := A_el.ext Ex7
  have A_po_7 := A_po.ext Ex7
  have A_bo_7 := A_bo.ext Ex7
  have A_fi_7 := A_fi.ext Ex7
  have A_en_7 := A_en.ext Ex7
  have A_ma_7 := A_ma.ext Ex7
  have A_we_7 := A_we.ext Ex7
  have A_tu_7 := A_tu.ext Ex7
  have A_sk_7 := A_sk.ext Ex7
  have A_ss_7 := A_ss.ext Ex7
  have A_mk_7 := A_mk.ext Ex7
  have A_ms_7 := A_ms.ext Ex7
  have EX_7 := Exa.ext Ex7 EX
  have PF_7 := own_PF.ext PF Ex7
  have Z_7 : n0 ≤ hp7.size := Nat.le_trans Zz1 Ex7.1
  have Ar7' : own_A Z hp7 mb .int [.int 0, .int 0, .int 0] := Ar7
  show own_Go p.tables e below _ (T7.setTop (mkF m 60 (Array.mk [zI s1, zI a1, zI s2, zI a2, zI s3, zI a3, zI t1, zI t2, zI t3, zI b1, zI b2, zI b3, zA ao, zU, zU, zU, zU, zU, zU, zU, zU, zU, zU, zU, zU, zU, zU, zU, zU, zU, zU, zU, zU, zU, zU, zU, zU]) [.ref mb]))
  refine own_blk dec0 seq0 hby hx hZ hown hK hF 1 [] [] X7 eh7 ?_
  show own_Aft X7 hp7 _ 62 [zI s1, zI a1, zI s2, zI a2, zI s3, zI a3, zI t1, zI t2, zI t3, zI b1, zI b2, zI b3, zA ao, zA mb, zU, zU, zU, zU, zU, zU, zU, zU, zU, zU, zU, zU, zU, zU, zU, zU, zU, zU, zU, zU, zU, zU, zU] []
  refine fun T8 X8 eh8 => ?_
  have QF : own_QF Z hp7 bo fi en sk ss mk ms mb := ⟨A_bo_7, A_fi_7, A_en_7, A_sk_7, A_ss_7, A_mk_7, A_ms_7, Ar7'⟩
  obtain ht | ht | ht : t1.toInt = (0 : Int) ∨ t1.toInt = (1 : Int) ∨ t1.toInt = (2 : Int) := by omega
  · skip
    obtain rfl : t1 = (0 : Int32) := Int32.toInt_inj.mp ht
    show own_Go p.tables e below _ (T8.setTop (mkF m 62 (Array.mk [zI s1, zI a1, zI s2, zI a2, zI s3, zI a3, zI 0, zI t2, zI t3, zI b1, zI b2, zI b3, zA ao, zA mb, zU, zU, zU, zU, zU, zU, zU, zU, zU, zU, zU, zU, zU, zU, zU, zU, zU, zU, zU, zU, zU, zU, zU]) []))
    refine own_blk dec0 seq0 hby hx hZ hown hK hF 4 [] [] X8 eh8 ?_
    show own_Aft X8 hp7 _ 69 [zI s1, zI a1, zI s2, zI a2, zI s3, zI a3, zI 0, zI t2, zI t3, zI b1, zI b2, zI b3, zA ao, zA mb, zU, zU, zU, zU, zU, zU, zU, zU, zU, zU, zU, zU, zU, zU, zU, zU, zU, zU, zU, zU, zU, zU, zU] [.double (FP.i2d b1), .int 0, .ref ao]
    refine fun T9 X9 eh9 => ?_
    refine own_callV X9 hx hZ hown (hw _ (wm 38 rfl)) (hw _ (wm 39 rfl)) (hw _ (wm 41 rfl)) (hw _ (wm 40 rfl)) (hw _ (wm 3 rfl)) (hw _ (wm 42 rfl)) (by decide) eh9 EX_7 [.int 0, .double (FP.i2d b1)] pd3 rfl (rm := ({ frames := 0, cells := 0, slots := 0, locals := 0 } : Room)) (rm3_n0 l Z a0 hw [] ao el po bo fi en ma we tu sk ss mk ms  0 0 0 [.int 0, .int 1, .int 2] [.int 0, .int 1, .int 2] [.double 0, .double 0, .double 0] (FP.i2d b1) b1.toInt hp7 n0 Z_7 EX_7 CH_ PF_7 A_el_7 A_po_7 QF.1 QF.2.1 A_ma_7 A_tu_7 A_we_7 rfl rfl rfl (by decide) (by decide) rfl (by decide) (by decide) rfl (by decide) (by decide) (own_D.i2d b1) (by omega)) (by rw [hml]; rfl) 0 rfl (Nat.le_of_eq rfl) (hb hby at_69) (by decide) (by decide) (by decide) (by decide) (fun T10 rv10 Lc10 X10 qc10 => ?_)
    obtain ⟨rfl, Ma1, Ka1, PFa1, Aea1, Apa1, Ama1, Ata1, xa1, hxa1, Awa1⟩ := qc10
    have Bea1 : own_A Z T10.heap el .int [.int 0, .int 1, .int 2] := Aea1
    have Bpa1 : own_A Z T10.heap po .int [.int 0, .int 1, .int 2] := Apa1
    have Bwa1 : own_A Z T10.heap we .double [.double xa1, .double 0, .double 0] := Awa1
    have QFa1 := own_QF.keep QF Ka1 CH_ ch_mb (by simp)
    have EXa1 := Exa.keep EX_7 Ka1
    have Na1_ := Fr.app N1_ Ma1
    have Za1 := Nat.le_trans Z_7 Ka1.1
    show own_Go p.tables e below _ (T10.setTop (mkF m 72 (Array.mk [zI s1, zI a1, zI s2, zI a2, zI s3, zI a3, zI 0, zI t2, zI t3, zI b1, zI b2, zI b3, zA ao, zA mb, zU, zU, zU, zU, zU, zU, zU, zU, zU, zU, zU, zU, zU, zU, zU, zU, zU, zU, zU, zU, zU, zU, zU]) []))
    obtain ht | ht | ht : t2.toInt = (0 : Int) ∨ t2.toInt = (1 : Int) ∨ t2.toInt = (2 : Int) := by omega
    · skip
      obtain rfl : t2 = (0 : Int32) := Int32.toInt_inj.mp ht
      show own_Go p.tables e below _ (T10.setTop (mkF m 72 (Array.mk [zI s1, zI a1, zI s2, zI a2, zI s3, zI a3, zI 0, zI 0, zI t3, zI b1, zI b2, zI b3, zA ao, zA mb, zU, zU, zU, zU, zU, zU, zU, zU, zU, zU, zU, zU, zU, zU, zU, zU, zU, zU, zU, zU, zU, zU, zU]) []))
      refine own_blk dec0 seq0 hby hx hZ hown hK hF 4 [] [] X10 rfl ?_
      show own_Aft X10 T10.heap _ 79 [zI s1, zI a1, zI s2, zI a2, zI s3, zI a3, zI 0, zI 0, zI t3, zI b1, zI b2, zI b3, zA ao, zA mb, zU, zU, zU, zU, zU, zU, zU, zU, zU, zU, zU, zU, zU, zU, zU, zU, zU, zU, zU, zU, zU, zU, zU] [.double (FP.i2d b2), .int 0, .ref ao]
      refine fun T11 X11 eh11 => ?_
      refine own_callV X11 hx hZ hown (hw _ (wm 38 rfl)) (hw _ (wm 39 rfl)) (hw _ (wm 41 rfl)) (hw _ (wm 40 rfl)) (hw _ (wm 3 rfl)) (hw _ (wm 42 rfl)) (by decide) eh11 EXa1 [.int 0, .double (FP.i2d b2)] pd3 rfl (rm := ({ frames := 0, cells := 0, slots := 0, locals := 0 } : Room)) (rm3_o1 l Z a0 hw [] ao el po bo fi en ma we tu sk ss mk ms  0 0 [.int 0, .int 1, .int 2] [.double xa1, .double 0, .double 0] (FP.i2d b2) xa1 b2.toInt (b1.toInt) T10.heap n0 Za1 EXa1 CH_ PFa1 Bpa1 QFa1.1 QFa1.2.1 Ama1 Bwa1 rfl (by decide) (by decide) rfl (by decide) rfl hxa1 (by omega) (own_D.i2d b2) (by omega)) (by rw [hml]; rfl) 0 rfl (Nat.le_of_eq rfl) (hb hby at_79) (by decide) (by decide) (by decide) (by decide) (fun T12 rv12 Lc12 X12 qc12 => ?_)
      obtain ⟨rfl, Ma2, Ka2, xa2, hxa2, Awa2⟩ := qc12
      have PFa2 := own_PF.keep PFa1 Ka2 (own_nin (by simp only [own_out, and_true]; omega))
      have Bwa2 : own_A Z T12.heap we .double [.double xa2, .double 0, .double 0] := Awa2
      have QFa2 := own_QF.keep QFa1 Ka2 CH_ ch_mb (by simp)
      have Bea1a2 := Bea1.keep Ka2 (own_nin (by simp only [own_out, and_true]; omega))
      have Bpa1a2 := Bpa1.keep Ka2 (own_nin (by simp only [own_out, and_true]; omega))
      have Ama1a2 := Ama1.keep Ka2 (own_nin (by simp only [own_out, and_true]; omega))
      have Ata1a2 := Ata1.keep Ka2 (own_nin (by simp only [own_out, and_true]; omega))
      have EXa2 := Exa.keep EXa1 Ka2
      have Na2_ := Fr.app Na1_ Ma2
      have Za2 := Nat.le_trans Za1 Ka2.1
      show own_Go p.tables e below _ (T12.setTop (mkF m 82 (Array.mk [zI s1, zI a1, zI s2, zI a2, zI s3, zI a3, zI 0, zI 0, zI t3, zI b1, zI b2, zI b3, zA ao, zA mb, zU, zU, zU, zU, zU, zU, zU, zU, zU, zU, zU, zU, zU, zU, zU, zU, zU, zU, zU, zU, zU, zU, zU]) []))
      obtain ht | ht | ht : t3.toInt = (0 : Int) ∨ t3.toInt = (1 : Int) ∨ t3.toInt = (2 : Int) := by omega
      · skip
        obtain rfl : t3 = (0 : Int32) := Int32.toInt_inj.mp ht
        show own_Go p.tables e below _ (T12.setTop (mkF m 82 (Array.mk [zI s1, zI a1, zI s2, zI a2, zI s3, zI a3, zI 0, zI 0, zI 0, zI b1, zI b2, zI b3, zA ao, zA mb, zU, zU, zU, zU, zU, zU, zU, zU, zU, zU, zU, zU, zU, zU, zU, zU, zU, zU, zU, zU, zU, zU, zU]) []))
        refine own_blk dec0 seq0 hby hx hZ hown hK hF 4 [] [] X12 rfl ?_
        show own_Aft X12 T12.heap _ 89 [zI s1, zI a1, zI s2, zI a2, zI s3, zI a3, zI 0, zI 0, zI 0, zI b1, zI b2, zI b3, zA ao, zA mb, zU, zU, zU, zU, zU, zU, zU, zU, zU, zU, zU, zU, zU, zU, zU, zU, zU, zU, zU, zU, zU, zU, zU] [.double (FP.i2d b3), .int 0, .ref ao]
        refine fun T13 X13 eh13 => ?_
        refine own_callV X13 hx hZ hown (hw _ (wm 38 rfl)) (hw _ (wm 39 rfl)) (hw _ (wm 41 rfl)) (hw _ (wm 40 rfl)) (hw _ (wm 3 rfl)) (hw _ (wm 42 rfl)) (by decide) eh13 EXa2 [.int 0, .double (FP.i2d b3)] pd3 rfl (rm := ({ frames := 0, cells := 0, slots := 0, locals := 0 } : Room)) (rm3_o1 l Z a0 hw [] ao el po bo fi en ma we tu sk ss mk ms  0 0 [.int 0, .int 1, .int 2] [.double xa2, .double 0, .double 0] (FP.i2d b3) xa2 b3.toInt (b1.toInt + b2.toInt) T12.heap n0 Za2 EXa2 CH_ PFa2 Bpa1a2 QFa2.1 QFa2.2.1 Ama1a2 Bwa2 rfl (by decide) (by decide) rfl (by decide) rfl hxa2 (by omega) (own_D.i2d b3) (by omega)) (by rw [hml]; rfl) 0 rfl (Nat.le_of_eq rfl) (hb hby at_89) (by decide) (by decide) (by decide) (by decide) (fun T14 rv14 Lc14 X14 qc14 => ?_)
        obtain ⟨rfl, Ma3, Ka3, xa3, hxa3, Awa3⟩ := qc14
        have PFa3 := own_PF.keep PFa2 Ka3 (own_nin (by simp only [own_out, and_true]; omega))
        have Bwa3 : own_A Z T14.heap we .double [.double xa3, .double 0, .double 0] := Awa3
        have QFa3 := own_QF.keep QFa2 Ka3 CH_ ch_mb (by simp)
        have Bea1a2a3 := Bea1a2.keep Ka3 (own_nin (by simp only [own_out, and_true]; omega))
        have Bpa1a2a3 := Bpa1a2.keep Ka3 (own_nin (by simp only [own_out, and_true]; omega))
        have Ama1a2a3 := Ama1a2.keep Ka3 (own_nin (by simp only [own_out, and_true]; omega))
        have Ata1a2a3 := Ata1a2.keep Ka3 (own_nin (by simp only [own_out, and_true]; omega))
        have EXa3 := Exa.keep EXa2 Ka3
        have Na3_ := Fr.app Na2_ Ma3
        have Za3 := Nat.le_trans Za2 Ka3.1
        show own_Go p.tables e below _ (T14.setTop (mkF m 92 (Array.mk [zI s1, zI a1, zI s2, zI a2, zI s3, zI a3, zI 0, zI 0, zI 0, zI b1, zI b2, zI b3, zA ao, zA mb, zU, zU, zU, zU, zU, zU, zU, zU, zU, zU, zU, zU, zU, zU, zU, zU, zU, zU, zU, zU, zU, zU, zU]) []))
        exact tail1_1 X14 hx hby hml hown hlk hret hZ hw rfl Za3 Na3_ _ _ _ _ _ _ 0 0 0 b1 b2 b3 0 1 2 ao el po bo fi en ma we tu sk ss mk ms mb [.int 0, .int 1, .int 2] [.double xa3, .double 0, .double 0] xa3 (b1.toInt + b2.toInt + b3.toInt) EXa3 CH_ ch_mb PFa3 Bea1a2a3 Bpa1a2a3 rfl Bwa3 QFa3.2.2.2.1 QFa3.2.2.2.2.1 QFa3.2.2.2.2.2.1 QFa3.2.2.2.2.2.2.1 QFa3.1 QFa3.2.1 QFa3.2.2.1 Ama1a2a3 Ata1a2a3 QFa3.2.2.2.2.2.2.2 (by decide) (by decide) (by decide) (by decide) (by decide) (by decide) (by decide) (by decide) (by decide) rfl hxa3 (by omega) bb1 bb2 bb3 (by intro m0 m1 m2 w0 w1 w2 hM hW; unfold own_M at hM; unfold own_Wp own_pq at hW; obtain ⟨⟨q1, q2, q3, u1⟩, ⟨q4, q5, q6, u2⟩, q7, q8, q9, u3⟩ := hW; unfold own_is; refine ⟨by omega, by omega, by omega, by omega⟩)
      · skip
        obtain rfl : t3 = (1 : Int32) := Int32.toInt_inj.mp ht
        show own_Go p.tables e below _ (T12.setTop (mkF m 82 (Array.mk [zI s1, zI a1, zI s2, zI a2, zI s3, zI a3, zI 0, zI 0, zI 1, zI b1, zI b2, zI b3, zA ao, zA mb, zU, zU, zU, zU, zU, zU, zU, zU, zU, zU, zU, zU, zU, zU, zU, zU, zU, zU, zU, zU, zU, zU, zU]) []))
        refine own_blk dec0 seq0 hby hx hZ hown hK hF 4 [] [] X12 rfl ?_
        show own_Aft X12 T12.heap _ 89 [zI s1, zI a1, zI s2, zI a2, zI s3, zI a3, zI 0, zI 0, zI 1, zI b1, zI b2, zI b3, zA ao, zA mb, zU, zU, zU, zU, zU, zU, zU, zU, zU, zU, zU, zU, zU, zU, zU, zU, zU, zU, zU, zU, zU, zU, zU] [.double (FP.i2d b3), .int 1, .ref ao]
        refine fun T15 X15 eh15 => ?_
        refine own_callV X15 hx hZ hown (hw _ (wm 38 rfl)) (hw _ (wm 39 rfl)) (hw _ (wm 41 rfl)) (hw _ (wm 40 rfl)) (hw _ (wm 3 rfl)) (hw _ (wm 42 rfl)) (by decide) eh15 EXa2 [.int 1, .double (FP.i2d b3)] pd3 rfl (rm := ({ frames := 0, cells := 0, slots := 0, locals := 0 } : Room)) (rm3_n1 l Z a0 hw [] ao el po bo fi en ma we tu sk ss mk ms  1 1 1 [.int 0, .int 1, .int 2] [.int 0, .int 1, .int 2] [.double xa2, .double 0, .double 0] (FP.i2d b3) b3.toInt T12.heap n0 Za2 EXa2 CH_ PFa2 Bea1a2 Bpa1a2 QFa2.1 QFa2.2.1 Ama1a2 Ata1a2 Bwa2 rfl rfl rfl (by decide) (by decide) rfl (by decide) (by decide) rfl (by decide) (by decide) (own_D.i2d b3) (by omega)) (by rw [hml]; rfl) 0 rfl (Nat.le_of_eq rfl) (hb hby at_89) (by decide) (by decide) (by decide) (by decide) (fun T16 rv16 Lc16 X16 qc16 => ?_)
        obtain ⟨rfl, Ma3, Ka3, PFa3, Aea3, Apa3, Ama3, Ata3, xa3, hxa3, Awa3⟩ := qc16
        have Bea3 : own_A Z T16.heap el .int [.int 0, .int 1, .int 2] := Aea3
        have Bpa3 : own_A Z T16.heap po .int [.int 0, .int 1, .int 2] := Apa3
        have Bwa3 : own_A Z T16.heap we .double [.double xa2, .double xa3, .double 0] := Awa3
        have QFa3 := own_QF.keep QFa2 Ka3 CH_ ch_mb (by simp)
        have EXa3 := Exa.keep EXa2 Ka3
        have Na3_ := Fr.app Na2_ Ma3
        have Za3 := Nat.le_trans Za2 Ka3.1
        show own_Go p.tables e below _ (T16.setTop (mkF m 92 (Array.mk [zI s1, zI a1, zI s2, zI a2, zI s3, zI a3, zI 0, zI 0, zI 1, zI b1, zI b2, zI b3, zA ao, zA mb, zU, zU, zU, zU, zU, zU, zU, zU, zU, zU, zU, zU, zU, zU, zU, zU, zU, zU, zU, zU, zU, zU, zU]) []))
        exact tail1_2 X16 hx hby hml hown hlk hret hZ hw rfl Za3 Na3_ _ _ _ _ _ _ 0 0 1 b1 b2 b3 0 1 2 ao el po bo fi en ma we tu sk ss mk ms mb [.int 0, .int 1, .int 2] [.double xa2, .double xa3, .double 0] xa2 xa3 (b1.toInt + b2.toInt) b3.toInt EXa3 CH_ ch_mb PFa3 Bea3 Bpa3 rfl Bwa3 QFa3.2.2.2.1 QFa3.2.2.2.2.1 QFa3.2.2.2.2.2.1 QFa3.2.2.2.2.2.2.1 QFa3.1 QFa3.2.1 QFa3.2.2.1 Ama3 Ata3 QFa3.2.2.2.2.2.2.2 (by decide) (by decide) (by decide) (by decide) (by decide) (by decide) (by decide) (by decide) (by decide) rfl hxa2 (by omega) rfl hxa3 (by omega) bb1 bb2 bb3 (by intro m0 m1 m2 w0 w1 w2 hM hW; unfold own_M at hM; unfold own_Wp own_pq at hW; obtain ⟨⟨q1, q2, q3, u1⟩, ⟨q4, q5, q6, u2⟩, q7, q8, q9, u3⟩ := hW; unfold own_is; refine ⟨by omega, by omega, by omega, by omega, by omega⟩)
      · skip
        obtain rfl : t3 = (2 : Int32) := Int32.toInt_inj.mp ht
        show own_Go p.tables e below _ (T12.setTop (mkF m 82 (Array.mk [zI s1, zI a1, zI s2, zI a2, zI s3, zI a3, zI 0, zI 0, zI 2, zI b1, zI b2, zI b3, zA ao, zA mb, zU, zU, zU, zU, zU, zU, zU, zU, zU, zU, zU, zU, zU, zU, zU, zU, zU, zU, zU, zU, zU, zU, zU]) []))
        refine own_blk dec0 seq0 hby hx hZ hown hK hF 4 [] [] X12 rfl ?_
        show own_Aft X12 T12.heap _ 89 [zI s1, zI a1, zI s2, zI a2, zI s3, zI a3, zI 0, zI 0, zI 2, zI b1, zI b2, zI b3, zA ao, zA mb, zU, zU, zU, zU, zU, zU, zU, zU, zU, zU, zU, zU, zU, zU, zU, zU, zU, zU, zU, zU, zU, zU, zU] [.double (FP.i2d b3), .int 2, .ref ao]
        refine fun T17 X17 eh17 => ?_
        refine own_callV X17 hx hZ hown (hw _ (wm 38 rfl)) (hw _ (wm 39 rfl)) (hw _ (wm 41 rfl)) (hw _ (wm 40 rfl)) (hw _ (wm 3 rfl)) (hw _ (wm 42 rfl)) (by decide) eh17 EXa2 [.int 2, .double (FP.i2d b3)] pd3 rfl (rm := ({ frames := 0, cells := 0, slots := 0, locals := 0 } : Room)) (rm3_n1 l Z a0 hw [] ao el po bo fi en ma we tu sk ss mk ms  2 2 1 [.int 0, .int 1, .int 2] [.int 0, .int 1, .int 2] [.double xa2, .double 0, .double 0] (FP.i2d b3) b3.toInt T12.heap n0 Za2 EXa2 CH_ PFa2 Bea1a2 Bpa1a2 QFa2.1 QFa2.2.1 Ama1a2 Ata1a2 Bwa2 rfl rfl rfl (by decide) (by decide) rfl (by decide) (by decide) rfl (by decide) (by decide) (own_D.i2d b3) (by omega)) (by rw [hml]; rfl) 0 rfl (Nat.le_of_eq rfl) (hb hby at_89) (by decide) (by decide) (by decide) (by decide) (fun T18 rv18 Lc18 X18 qc18 => ?_)
        obtain ⟨rfl, Ma3, Ka3, PFa3, Aea3, Apa3, Ama3, Ata3, xa3, hxa3, Awa3⟩ := qc18
        have Bea3 : own_A Z T18.heap el .int [.int 0, .int 2, .int 1] := Aea3
        have Bpa3 : own_A Z T18.heap po .int [.int 0, .int 2, .int 1] := Apa3
        have Bwa3 : own_A Z T18.heap we .double [.double xa2, .double 0, .double xa3] := Awa3
        have QFa3 := own_QF.keep QFa2 Ka3 CH_ ch_mb (by simp)
        have EXa3 := Exa.keep EXa2 Ka3
        have Na3_ := Fr.app Na2_ Ma3
        have Za3 := Nat.le_trans Za2 Ka3.1
        show own_Go p.tables e below _ (T18.setTop (mkF m 92 (Array.mk [zI s1, zI a1, zI s2, zI a2, zI s3, zI a3, zI 0, zI 0, zI 2, zI b1, zI b2, zI b3, zA ao, zA mb, zU, zU, zU, zU, zU, zU, zU, zU, zU, zU, zU, zU, zU, zU, zU, zU, zU, zU, zU, zU, zU, zU, zU]) []))
        exact tail1_2 X18 hx hby hml hown hlk hret hZ hw rfl Za3 Na3_ _ _ _ _ _ _ 0 0 2 b1 b2 b3 0 2 1 ao el po bo fi en ma we tu sk ss mk ms mb [.int 0, .int 2, .int 1] [.double xa2, .double 0, .double xa3] xa2 xa3 (b1.toInt + b2.toInt) b3.toInt EXa3 CH_ ch_mb PFa3 Bea3 Bpa3 rfl Bwa3 QFa3.2.2.2.1 QFa3.2.2.2.2.1 QFa3.2.2.2.2.2.1 QFa3.2.2.2.2.2.2.1 QFa3.1 QFa3.2.1 QFa3.2.2.1 Ama3 Ata3 QFa3.2.2.2.2.2.2.2 (by decide) (by decide) (by decide) (by decide) (by decide) (by decide) (by decide) (by decide) (by decide) rfl hxa2 (by omega) rfl hxa3 (by omega) bb1 bb2 bb3 (by intro m0 m1 m2 w0 w1 w2 hM hW; unfold own_M at hM; unfold own_Wp own_pq at hW; obtain ⟨⟨q1, q2, q3, u1⟩, ⟨q4, q5, q6, u2⟩, q7, q8, q9, u3⟩ := hW; unfold own_is; refine ⟨by omega, by omega, by omega, by omega, by omega⟩)
    · skip
      obtain rfl : t2 = (1 : Int32) := Int32.toInt_inj.mp ht
      show own_Go p.tables e below _ (T10.setTop (mkF m 72 (Array.mk [zI s1, zI a1, zI s2, zI a2, zI s3, zI a3, zI 0, zI 1, zI t3, zI b1, zI b2, zI b3, zA ao, zA mb, zU, zU, zU, zU, zU, zU, zU, zU, zU, zU, zU, zU, zU, zU, zU, zU, zU, zU, zU, zU, zU, zU, zU]) []))
      refine own_blk dec0 seq0 hby hx hZ hown hK hF 4 [] [] X10 rfl ?_
      show own_Aft X10 T10.heap _ 79 [zI s1, zI a1, zI s2, zI a2, zI s3, zI a3, zI 0, zI 1, zI t3, zI b1, zI b2, zI b3, zA ao, zA mb, zU, zU, zU, zU, zU, zU, zU, zU, zU, zU, zU, zU, zU, zU, zU, zU, zU, zU, zU, zU, zU, zU, zU] [.double (FP.i2d b2), .int 1, .ref ao]
      refine fun T19 X19 eh19 => ?_
      refine own_callV X19 hx hZ hown (hw _ (wm 38 rfl)) (hw _ (wm 39 rfl)) (hw _ (wm 41 rfl)) (hw _ (wm 40 rfl)) (hw _ (wm 3 rfl)) (hw _ (wm 42 rfl)) (by decide) eh19 EXa1 [.int 1, .double (FP.i2d b2)] pd3 rfl (rm := ({ frames := 0, cells := 0, slots := 0, locals := 0 } : Room)) (rm3_n1 l Z a0 hw [] ao el po bo fi en ma we tu sk ss mk ms  1 1 1 [.int 0, .int 1, .int 2] [.int 0, .int 1, .int 2] [.double xa1, .double 0, .double 0] (FP.i2d b2) b2.toInt T10.heap n0 Za1 EXa1 CH_ PFa1 Bea1 Bpa1 QFa1.1 QFa1.2.1 Ama1 Ata1 Bwa1 rfl rfl rfl (by decide) (by decide) rfl (by decide) (by decide) rfl (by decide) (by decide) (own_D.i2d b2) (by omega)) (by rw [hml]; rfl) 0 rfl (Nat.le_of_eq rfl) (hb hby at_79) (by decide) (by decide) (by decide) (by decide) (fun T20 rv20 Lc20 X20 qc20 => ?_)
      obtain ⟨rfl, Ma2, Ka2, PFa2, Aea2, Apa2, Ama2, Ata2, xa2, hxa2, Awa2⟩ := qc20
      have Bea2 : own_A Z T20.heap el .int [.int 0, .int 1, .int 2] := Aea2
      have Bpa2 : own_A Z T20.heap po .int [.int 0, .int 1, .int 2] := Apa2
      have Bwa2 : own_A Z T20.heap we .double [.double xa1, .double xa2, .double 0] := Awa2
      have QFa2 := own_QF.keep QFa1 Ka2 CH_ ch_mb (by simp)
      have EXa2 := Exa.keep EXa1 Ka2
      have Na2_ := Fr.app Na1_ Ma2
      have Za2 := Nat.le_trans Za1 Ka2.1
      show own_Go p.tables e below _ (T20.setTop (mkF m 82 (Array.mk [zI s1, zI a1, zI s2, zI a2, zI s3, zI a3, zI 0, zI 1, zI t3, zI b1, zI b2, zI b3, zA ao, zA mb, zU, zU, zU, zU, zU, zU, zU, zU, zU, zU, zU, zU, zU, zU, zU, zU, zU, zU, zU, zU, zU, zU, zU]) []))
      obtain ht | ht | ht : t3.toInt = (0 : Int) ∨ t3.toInt = (1 : Int) ∨ t3.toInt = (2 : Int) := by omega
      · skip
        obtain rfl : t3 = (0 : Int32) := Int32.toInt_inj.mp ht
        show own_Go p.tables e below _ (T20.setTop (mkF m 82 (Array.mk [zI s1, zI a1, zI s2, zI a2, zI s3, zI a3, zI 0, zI 1, zI 0, zI b1, zI b2, zI b3, zA ao, zA mb, zU, zU, zU, zU, zU, zU, zU, zU, zU, zU, zU, zU, zU, zU, zU, zU, zU, zU, zU, zU, zU, zU, zU]) []))
        refine own_blk dec0 seq0 hby hx hZ hown hK hF 4 [] [] X20 rfl ?_
        show own_Aft X20 T20.heap _ 89 [zI s1, zI a1, zI s2, zI a2, zI s3, zI a3, zI 0, zI 1, zI 0, zI b1, zI b2, zI b3, zA ao, zA mb, zU, zU, zU, zU, zU, zU, zU, zU, zU, zU, zU, zU, zU, zU, zU, zU, zU, zU, zU, zU, zU, zU, zU] [.double (FP.i2d b3), .int 0, .ref ao]
        refine fun T21 X21 eh21 => ?_
        refine own_callV X21 hx hZ hown (hw _ (wm 38 rfl)) (hw _ (wm 39 rfl)) (hw _ (wm 41 rfl)) (hw _ (wm 40 rfl)) (hw _ (wm 3 rfl)) (hw _ (wm 42 rfl)) (by decide) eh21 EXa2 [.int 0, .double (FP.i2d b3)] pd3 rfl (rm := ({ frames := 0, cells := 0, slots := 0, locals := 0 } : Room)) (rm3_o2 l Z a0 hw [] ao el po bo fi en ma we tu sk ss mk ms  0 0 [.int 0, .int 1, .int 2] [.double xa1, .double xa2, .double 0] (FP.i2d b3) xa1 b3.toInt (b1.toInt) T20.heap n0 Za2 EXa2 CH_ PFa2 Bpa2 QFa2.1 QFa2.2.1 Ama2 Bwa2 rfl (by decide) (by decide) rfl (by decide) rfl hxa1 (by omega) (own_D.i2d b3) (by omega)) (by rw [hml]; rfl) 0 rfl (Nat.le_of_eq rfl) (hb hby at_89) (by decide) (by decide) (by decide) (by decide) (fun T22 rv22 Lc22 X22 qc22 => ?_)
        obtain ⟨rfl, Ma3, Ka3, xa3, hxa3, Awa3⟩ := qc22
        have PFa3 := own_PF.keep PFa2 Ka3 (own_nin (by simp only [own_out, and_true]; omega))
        have Bwa3 : own_A Z T22.heap we .double [.double xa3, .double xa2, .double 0] := Awa3
        have QFa3 := own_QF.keep QFa2 Ka3 CH_ ch_mb (by simp)
        have Bea2a3 := Bea2.keep Ka3 (own_nin (by simp only [own_out, and_true]; omega))
        have Bpa2a3 := Bpa2.keep Ka3 (own_nin (by simp only [own_out, and_true]; omega))
        have Ama2a3 := Ama2.keep Ka3 (own_nin (by simp only [own_out, and_true]; omega))
        have Ata2a3 := Ata2.keep Ka3 (own_nin (by simp only [own_out, and_true]; omega))
        have EXa3 := Exa.keep EXa2 Ka3
        have Na3_ := Fr.app Na2_ Ma3
        have Za3 := Nat.le_trans Za2 Ka3.1
        show own_Go p.tables e below _ (T22.setTop (mkF m 92 (Array.mk [zI s1, zI a1, zI s2, zI a2, zI s3, zI a3, zI 0, zI 1, zI 0, zI b1, zI b2, zI b3, zA ao, zA mb, zU, zU, zU, zU, zU, zU, zU, zU, zU, zU, zU, zU, zU, zU, zU, zU, zU, zU, zU, zU, zU, zU, zU]) []))
        exact tail1_2 X22 hx hby hml hown hlk hret hZ hw rfl Za3 Na3_ _ _ _ _ _ _ 0 1 0 b1 b2 b3 0 1 2 ao el po bo fi en ma we tu sk ss mk ms mb [.int 0, .int 1, .int 2] [.double xa3, .double xa2, .double 0] xa3 xa2 (b1.toInt + b3.toInt) b2.toInt EXa3 CH_ ch_mb PFa3 Bea2a3 Bpa2a3 rfl Bwa3 QFa3.2.2.2.1 QFa3.2.2.2.2.1 QFa3.2.2.2.2.2.1 QFa3.2.2.2.2.2.2.1 QFa3.1 QFa3.2.1 QFa3.2.2.1 Ama2a3 Ata2a3 QFa3.2.2.2.2.2.2.2 (by decide) (by decide) (by decide) (by decide) (by decide) (by decide) (by decide) (by decide) (by decide) rfl hxa3 (by omega) rfl hxa2 (by omega) bb1 bb2 bb3 (by intro m0 m1 m2 w0 w1 w2 hM hW; unfold own_M at hM; unfold own_Wp own_pq at hW; obtain ⟨⟨q1, q2, q3, u1⟩, ⟨q4, q5, q6, u2⟩, q7, q8, q9, u3⟩ := hW; unfold own_is; refine ⟨by omega, by omega, by omega, by omega, by omega⟩)
      · skip
        obtain rfl : t3 = (1 : Int32) := Int32.toInt_inj.mp ht
        show own_Go p.tables e below _ (T20.setTop (mkF m 82 (Array.mk [zI s1, zI a1, zI s2, zI a2, zI s3, zI a3, zI 0, zI 1, zI 1, zI b1, zI b2, zI b3, zA ao, zA mb, zU, zU, zU, zU, zU, zU, zU, zU, zU, zU, zU, zU, zU, zU, zU, zU, zU, zU, zU, zU, zU, zU, zU]) []))
        refine own_blk dec0 seq0 hby hx hZ hown hK hF 4 [] [] X20 rfl ?_
        show own_Aft X20 T20.heap _ 89 [zI s1, zI a1, zI s2, zI a2, zI s3, zI a3, zI 0, zI 1, zI 1, zI b1, zI b2, zI b3, zA ao, zA mb, zU, zU, zU, zU, zU, zU, zU, zU, zU, zU, zU, zU, zU, zU, zU, zU, zU, zU, zU, zU, zU, zU, zU] [.double (FP.i2d b3), .int 1, .ref ao]
        refine fun T23 X23 eh23 => ?_
        refine own_callV X23 hx hZ hown (hw _ (wm 38 rfl)) (hw _ (wm 39 rfl)) (hw _ (wm 41 rfl)) (hw _ (wm 40 rfl)) (hw _ (wm 3 rfl)) (hw _ (wm 42 rfl)) (by decide) eh23 EXa2 [.int 1, .double (FP.i2d b3)] pd3 rfl (rm := ({ frames := 0, cells := 0, slots := 0, locals := 0 } : Room)) (rm3_o2 l Z a0 hw [] ao el po bo fi en ma we tu sk ss mk ms  1 1 [.int 0, .int 1, .int 2] [.double xa1, .double xa2, .double 0] (FP.i2d b3) xa2 b3.toInt (b2.toInt) T20.heap n0 Za2 EXa2 CH_ PFa2 Bpa2 QFa2.1 QFa2.2.1 Ama2 Bwa2 rfl (by decide) (by decide) rfl (by decide) rfl hxa2 (by omega) (own_D.i2d b3) (by omega)) (by rw [hml]; rfl) 0 rfl (Nat.le_of_eq rfl) (hb hby at_89) (by decide) (by decide) (by decide) (by decide) (fun T24 rv24 Lc24 X24 qc24 => ?_)
        obtain ⟨rfl, Ma3, Ka3, xa3, hxa3, Awa3⟩ := qc24
        have PFa3 := own_PF.keep PFa2 Ka3 (own_nin (by simp only [own_out, and_true]; omega))
        have Bwa3 : own_A Z T24.heap we .double [.double xa1, .double xa3, .double 0] := Awa3
        have QFa3 := own_QF.keep QFa2 Ka3 CH_ ch_mb (by simp)
        have Bea2a3 := Bea2.keep Ka3 (own_nin (by simp only [own_out, and_true]; omega))
        have Bpa2a3 := Bpa2.keep Ka3 (own_nin (by simp only [own_out, and_true]; omega))
        have Ama2a3 := Ama2.keep Ka3 (own_nin (by simp only [own_out, and_true]; omega))
        have Ata2a3 := Ata2.keep Ka3 (own_nin (by simp only [own_out, and_true]; omega))
        have EXa3 := Exa.keep EXa2 Ka3
        have Na3_ := Fr.app Na2_ Ma3
        have Za3 := Nat.le_trans Za2 Ka3.1
        show own_Go p.tables e below _ (T24.setTop (mkF m 92 (Array.mk [zI s1, zI a1, zI s2, zI a2, zI s3, zI a3, zI 0, zI 1, zI 1, zI b1, zI b2, zI b3, zA ao, zA mb, zU, zU, zU, zU, zU, zU, zU, zU, zU, zU, zU, zU, zU, zU, zU, zU, zU, zU, zU, zU, zU, zU, zU]) []))
        exact tail1_2 X24 hx hby hml hown hlk hret hZ hw rfl Za3 Na3_ _ _ _ _ _ _ 0 1 1 b1 b2 b3 0 1 2 ao el po bo fi en ma we tu sk ss mk ms mb [.int 0, .int 1, .int 2] [.double xa1, .double xa3, .double 0] xa1 xa3 b1.toInt (b2.toInt + b3.toInt) EXa3 CH_ ch_mb PFa3 Bea2a3 Bpa2a3 rfl Bwa3 QFa3.2.2.2.1 QFa3.2.2.2.2.1 QFa3.2.2.2.2.2.1 QFa3.2.2.2.2.2.2.1 QFa3.1 QFa3.2.1 QFa3.2.2.1 Ama2a3 Ata2a3 QFa3.2.2.2.2.2.2.2 (by decide) (by decide) (by decide) (by decide) (by decide) (by decide) (by decide) (by decide) (by decide) rfl hxa1 (by omega) rfl hxa3 (by omega) bb1 bb2 bb3 (by intro m0 m1 m2 w0 w1 w2 hM hW; unfold own_M at hM; unfold own_Wp own_pq at hW; obtain ⟨⟨q1, q2, q3, u1⟩, ⟨q4, q5, q6, u2⟩, q7, q8, q9, u3⟩ := hW; unfold own_is; refine ⟨by omega, by omega, by omega, by omega, by omega⟩)
      · skip
        obtain rfl : t3 = (2 : Int32) := Int32.toInt_inj.mp ht
        show own_Go p.tables e below _ (T20.setTop (mkF m 82 (Array.mk [zI s1, zI a1, zI s2, zI a2, zI s3, zI a3, zI 0, zI 1, zI 2, zI b1, zI b2, zI b3, zA ao, zA mb, zU, zU, zU, zU, zU, zU, zU, zU, zU, zU, zU, zU, zU, zU, zU, zU, zU, zU, zU, zU, zU, zU, zU]) []))
        refine own_blk dec0 seq0 hby hx hZ hown hK hF 4 [] [] X20 rfl ?_
        show own_Aft X20 T20.heap _ 89 [zI s1, zI a1, zI s2, zI a2, zI s3, zI a3, zI 0, zI 1, zI 2, zI b1, zI b2, zI b3, zA ao, zA mb, zU, zU, zU, zU, zU, zU, zU, zU, zU, zU, zU, zU, zU, zU, zU, zU, zU, zU, zU, zU, zU, zU, zU] [.double (FP.i2d b3), .int 2, .ref ao]
        refine fun T25 X25 eh25 => ?_
        refine own_callV X25 hx hZ hown (hw _ (wm 38 rfl)) (hw _ (wm 39 rfl)) (hw _ (wm 41 rfl)) (hw _ (wm 40 rfl)) (hw _ (wm 3 rfl)) (hw _ (wm 42 rfl)) (by decide) eh25 EXa2 [.int 2, .double (FP.i2d b3)] pd3 rfl (rm := ({ frames := 0, cells := 0, slots := 0, locals := 0 } : Room)) (rm3_n2 l Z a0 hw [] ao el po bo fi en ma we tu sk ss mk ms  2 2 2 [.int 0, .int 1, .int 2] [.int 0, .int 1, .int 2] [.double xa1, .double xa2, .double 0] (FP.i2d b3) b3.toInt T20.heap n0 Za2 EXa2 CH_ PFa2 Bea2 Bpa2 QFa2.1 QFa2.2.1 Ama2 Ata2 Bwa2 rfl rfl rfl (by decide) (by decide) rfl (by decide) (by decide) rfl (by decide) (by decide) (own_D.i2d b3) (by omega)) (by rw [hml]; rfl) 0 rfl (Nat.le_of_eq rfl) (hb hby at_89) (by decide) (by decide) (by decide) (by decide) (fun T26 rv26 Lc26 X26 qc26 => ?_)
        obtain ⟨rfl, Ma3, Ka3, PFa3, Aea3, Apa3, Ama3, Ata3, xa3, hxa3, Awa3⟩ := qc26
        have Bea3 : own_A Z T26.heap el .int [.int 0, .int 1, .int 2] := Aea3
        have Bpa3 : own_A Z T26.heap po .int [.int 0, .int 1, .int 2] := Apa3
        have Bwa3 : own_A Z T26.heap we .double [.double xa1, .double xa2, .double xa3] := Awa3
        have QFa3 := own_QF.keep QFa2 Ka3 CH_ ch_mb (by simp)
        have EXa3 := Exa.keep EXa2 Ka3
        have Na3_ := Fr.app Na2_ Ma3
        have Za3 := Nat.le_trans Za2 Ka3.1
        show own_Go p.tables e below _ (T26.setTop (mkF m 92 (Array.mk [zI s1, zI a1, zI s2, zI a2, zI s3, zI a3, zI 0, zI 1, zI 2, zI b1, zI b2, zI b3, zA ao, zA mb, zU, zU, zU, zU, zU, zU, zU, zU, zU, zU, zU, zU, zU, zU, zU, zU, zU, zU, zU, zU, zU, zU, zU]) []))
        exact tail1_3 X26 hx hby hml hown hlk hret hZ hw rfl Za3 Na3_ _ _ _ _ _ _ 0 1 2 b1 b2 b3 0 1 2 ao el po bo fi en ma we tu sk ss mk ms mb [.int 0, .int 1, .int 2] [.double xa1, .double xa2, .double xa3] xa1 xa2 xa3 b1.toInt b2.toInt b3.toInt EXa3 CH_ ch_mb PFa3 Bea3 Bpa3 rfl Bwa3 QFa3.2.2.2.1 QFa3.2.2.2.2.1 QFa3.2.2.2.2.2.1 QFa3.2.2.2.2.2.2.1 QFa3.1 QFa3.2.1 QFa3.2.2.1 Ama3 Ata3 QFa3.2.2.2.2.2.2.2 (by decide) (by decide) (by decide) (by decide) (by decide) (by decide) (by decide) (by decide) (by decide) rfl hxa1 (by omega) rfl hxa2 (by omega) rfl hxa3 (by omega) bb1 bb2 bb3 (by intro m0 m1 m2 w0 w1 w2 hM hW; unfold own_M at hM; unfold own_Wp own_pq at hW; obtain ⟨⟨q1, q2, q3, u1⟩, ⟨q4, q5, q6, u2⟩, q7, q8, q9, u3⟩ := hW; unfold own_is; refine ⟨by omega, by omega, by omega, by omega, by omega, by omega⟩)
    · skip
      obtain rfl : t2 = (2 : Int32) := Int32.toInt_inj.mp ht
      show own_Go p.tables e below _ (T10.setTop (mkF m 72 (Array.mk [zI s1, zI a1, zI s2, zI a2, zI s3, zI a3, zI 0, zI 2, zI t3, zI b1, zI b2, zI b3, zA ao, zA mb, zU, zU, zU, zU, zU, zU, zU, zU, zU, zU, zU, zU, zU, zU, zU, zU, zU, zU, zU, zU, zU, zU, zU]) []))
      refine own_blk dec0 seq0 hby hx hZ hown hK hF 4 [] [] X10 rfl ?_
      show own_Aft X10 T10.heap _ 79 [zI s1, zI a1, zI s2, zI a2, zI s3, zI a3, zI 0, zI 2, zI t3, zI b1, zI b2, zI b3, zA ao, zA mb, zU, zU, zU, zU, zU, zU, zU, zU, zU, zU, zU, zU, zU, zU, zU, zU, zU, zU, zU, zU, zU, zU, zU] [.double (FP.i2d b2), .int 2, .ref ao]
      refine fun T27 X27 eh27 => ?_
      refine own_callV X27 hx hZ hown (hw _ (wm 38 rfl)) (hw _ (wm 39 rfl)) (hw _ (wm 41 rfl)) (hw _ (wm 40 rfl)) (hw _ (wm 3 rfl)) (hw _ (wm 42 rfl)) (by decide) eh27 EXa1 [.int 2, .double (FP.i2d b2)] pd3 rfl (rm := ({ frames := 0, cells := 0, slots := 0, locals := 0 } : Room)) (rm3_n1 l Z a0 hw [] ao el po bo fi en ma we tu sk ss mk ms  2 2 1 [.int 0, .int 1, .int 2] [.int 0, .int 1, .int 2] [.double xa1, .double 0, .double 0] (FP.i2d b2) b2.toInt T10.heap n0 Za1 EXa1 CH_ PFa1 Bea1 Bpa1 QFa1.1 QFa1.2.1 Ama1 Ata1 Bwa1 rfl rfl rfl (by decide) (by decide) rfl (by decide) (by decide) rfl (by decide) (by decide) (own_D.i2d b2) (by omega)) (by rw [hml]; rfl) 0 rfl (Nat.le_of_eq rfl) (hb hby at_79) (by decide) (by decide) (by decide) (by decide) (fun T28 rv28 Lc28 X28 qc28 => ?_)
      obtain ⟨rfl, Ma2, Ka2, PFa2, Aea2, Apa2, Ama2, Ata2, xa2, hxa2, Awa2⟩ := qc28
      have Bea2 : own_A Z T28.heap el .int [.int 0, .int 2, .int 1] := Aea2
      have Bpa2 : own_A Z T28.heap po .int [.int 0, .int 2, .int 1] := Apa2
      have Bwa2 : own_A Z T28.heap we .double [.double xa1, .double 0, .double xa2] := Awa2
      have QFa2 := own_QF.keep QFa1 Ka2 CH_ ch_mb (by simp)
      have EXa2 := Exa.keep EXa1 Ka2
      have Na2_ := Fr.app Na1_ Ma2
      have Za2 := Nat.le_trans Za1 Ka2.1
      show own_Go p.tables e below _ (T28.setTop (mkF m 82 (Array.mk [zI s1, zI a1, zI s2, zI a2, zI s3, zI a3, zI 0, zI 2, zI t3, zI b1, zI b2, zI b3, zA ao, zA mb, zU, zU, zU, zU, zU, zU, zU, zU, zU, zU, zU, zU, zU, zU, zU, zU, zU, zU, zU, zU, zU, zU, zU]) []))
      obtain ht | ht | ht : t3.toInt = (0 : Int) ∨ t3.toInt = (1 : Int) ∨ t3.toInt = (2 : Int) := by omega
      · skip
        obtain rfl : t3 = (0 : Int32) := Int32.toInt_inj.mp ht
        show own_Go p.tables e below _ (T28.setTop (mkF m 82 (Array.mk [zI s1, zI a1, zI s2, zI a2, zI s3, zI a3, zI 0, zI 2, zI 0, zI b1, zI b2, zI b3, zA ao, zA mb, zU, zU, zU, zU, zU, zU, zU, zU, zU, zU, zU, zU, zU, zU, zU, zU, zU, zU, zU, zU, zU, zU, zU]) []))
        refine own_blk dec0 seq0 hby hx hZ hown hK hF 4 [] [] X28 rfl ?_
        show own_Aft X28 T28.heap _ 89 [zI s1, zI a1, zI s2, zI a2, zI s3, zI a3, zI 0, zI 2, zI 0, zI b1, zI b2, zI b3, zA ao, zA mb, zU, zU, zU, zU, zU, zU, zU, zU, zU, zU, zU, zU, zU, zU, zU, zU, zU, zU, zU, zU, zU, zU, zU] [.double (FP.i2d b3), .int 0, .ref ao]
        refine fun T29 X29 eh29 => ?_
        refine own_callV X29 hx hZ hown (hw _ (wm 38 rfl)) (hw _ (wm 39 rfl)) (hw _ (wm 41 rfl)) (hw _ (wm 40 rfl)) (hw _ (wm 3 rfl)) (hw _ (wm 42 rfl)) (by decide) eh29 EXa2 [.int 0, .double (FP.i2d b3)] pd3 rfl (rm := ({ frames := 0, cells := 0, slots := 0, locals := 0 } : Room)) (rm3_o2 l Z a0 hw [] ao el po bo fi en ma we tu sk ss mk ms  0 0 [.int 0, .int 2, .int 1] [.double xa1, .double 0, .double xa2] (FP.i2d b3) xa1 b3.toInt (b1.toInt) T28.heap n0 Za2 EXa2 CH_ PFa2 Bpa2 QFa2.1 QFa2.2.1 Ama2 Bwa2 rfl (by decide) (by decide) rfl (by decide) rfl hxa1 (by omega) (own_D.i2d b3) (by omega)) (by rw [hml]; rfl) 0 rfl (Nat.le_of_eq rfl) (hb hby at_89) (by decide) (by decide) (by decide) (by decide) (fun T30 rv30 Lc30 X30 qc30 => ?_)
        obtain ⟨rfl, Ma3, Ka3, xa3, hxa3, Awa3⟩ := qc30
        have PFa3 := own_PF.keep PFa2 Ka3 (own_nin (by simp only [own_out, and_true]; omega))
        have Bwa3 : own_A Z T30.heap we .double [.double xa3, .double 0, .double xa2] := Awa3
        have QFa3 := own_QF.keep QFa2 Ka3 CH_ ch_mb (by simp)
        have Bea2a3 := Bea2.keep Ka3 (own_nin (by simp only [own_out, and_true]; omega))
        have Bpa2a3 := Bpa2.keep Ka3 (own_nin (by simp only [own_out, and_true]; omega))
        have Ama2a3 := Ama2.keep Ka3 (own_nin (by simp only [own_out, and_true]; omega))
        have Ata2a3 := Ata2.keep Ka3 (own_nin (by simp only [own_out, and_true]; omega))
        have EXa3 := Exa.keep EXa2 Ka3
        have Na3_ := Fr.app Na2_ Ma3
        have Za3 := Nat.le_trans Za2 Ka3.1
        show own_Go p.tables e below _ (T30.setTop (mkF m 92 (Array.mk [zI s1, zI a1, zI s2, zI a2, zI s3, zI a3, zI 0, zI 2, zI 0, zI b1, zI b2, zI b3, zA ao, zA mb, zU, zU, zU, zU, zU, zU, zU, zU, zU, zU, zU, zU, zU, zU, zU, zU, zU, zU, zU, zU, zU, zU, zU]) []))
        exact tail1_2 X30 hx hby hml hown hlk hret hZ hw rfl Za3 Na3_ _ _ _ _ _ _ 0 2 0 b1 b2 b3 0 2 1 ao el po bo fi en ma we tu sk ss mk ms mb [.int 0, .int 2, .int 1] [.double xa3, .double 0, .double xa2] xa3 xa2 (b1.toInt + b3.toInt) b2.toInt EXa3 CH_ ch_mb PFa3 Bea2a3 Bpa2a3 rfl Bwa3 QFa3.2.2.2.1 QFa3.2.2.2.2.1 QFa3.2.2.2.2.2.1 QFa3.2.2.2.2.2.2.1 QFa3.1 QFa3.2.1 QFa3.2.2.1 Ama2a3 Ata2a3 QFa3.2.2.2.2.2.2.2 (by decide) (by decide) (by decide) (by decide) (by decide) (by decide) (by decide) (by decide) (by decide) rfl hxa3 (by omega) rfl hxa2 (by omega) bb1 bb2 bb3 (by intro m0 m1 m2 w0 w1 w2 hM hW; unfold own_M at hM; unfold own_Wp own_pq at hW; obtain ⟨⟨q1, q2, q3, u1⟩, ⟨q4, q5, q6, u2⟩, q7, q8, q9, u3⟩ := hW; unfold own_is; refine ⟨by omega, by omega, by omega, by omega, by omega⟩)
      · skip
        obtain rfl : t3 = (1 : Int32) := Int32.toInt_inj.mp ht
        show own_Go p.tables e below _ (T28.setTop (mkF m 82 (Array.mk [zI s1, zI a1, zI s2, zI a2, zI s3, zI a3, zI 0, zI 2, zI 1, zI b1, zI b2, zI b3, zA ao, zA mb, zU, zU, zU, zU, zU, zU, zU, zU, zU, zU, zU, zU, zU, zU, zU, zU, zU, zU, zU, zU, zU, zU, zU]) []))
        refine own_blk dec0 seq0 hby hx hZ hown hK hF 4 [] [] X28 rfl ?_
        show own_Aft X28 T28.heap _ 89 [zI s1, zI a1, zI s2, zI a2, zI s3, zI a3, zI 0, zI 2, zI 1, zI b1, zI b2, zI b3, zA ao, zA mb, zU, zU, zU, zU, zU, zU, zU, zU, zU, zU, zU, zU, zU, zU, zU, zU, zU, zU, zU, zU, zU, zU, zU] [.double (FP.i2d b3), .int 1, .ref ao]
        refine fun T31 X31 eh31 => ?_
        refine own_callV X31 hx hZ hown (hw _ (wm 38 rfl)) (hw _ (wm 39 rfl)) (hw _ (wm 41 rfl)) (hw _ (wm 40 rfl)) (hw _ (wm 3 rfl)) (hw _ (wm 42 rfl)) (by decide) eh31 EXa2 [.int 1, .double (FP.i2d b3)] pd3 rfl (rm := ({ frames := 0, cells := 0, slots := 0, locals := 0 } : Room)) (rm3_n2 l Z a0 hw [] ao el po bo fi en ma we tu sk ss mk ms  1 2 1 [.int 0, .int 2, .int 1] [.int 0, .int 2, .int 1] [.double xa1, .double 0, .double xa2] (FP.i2d b3) b3.toInt T28.heap n0 Za2 EXa2 CH_ PFa2 Bea2 Bpa2 QFa2.1 QFa2.2.1 Ama2 Ata2 Bwa2 rfl rfl rfl (by decide) (by decide) rfl (by decide) (by decide) rfl (by decide) (by decide) (own_D.i2d b3) (by omega)) (by rw [hml]; rfl) 0 rfl (Nat.le_of_eq rfl) (hb hby at_89) (by decide) (by decide) (by decide) (by decide) (fun T32 rv32 Lc32 X32 qc32 => ?_)
        obtain ⟨rfl, Ma3, Ka3, PFa3, Aea3, Apa3, Ama3, Ata3, xa3, hxa3, Awa3⟩ := qc32
        have Bea3 : own_A Z T32.heap el .int [.int 0, .int 2, .int 1] := Aea3
        have Bpa3 : own_A Z T32.heap po .int [.int 0, .int 2, .int 1] := Apa3
        have Bwa3 : own_A Z T32.heap we .double [.double xa1, .double xa3, .double xa2] := Awa3
        have QFa3 := own_QF.keep QFa2 Ka3 CH_ ch_mb (by simp)
        have EXa3 := Exa.keep EXa2 Ka3
        have Na3_ := Fr.app Na2_ Ma3
        have Za3 := Nat.le_trans Za2 Ka3.1
        show own_Go p.tables e below _ (T32.setTop (mkF m 92 (Array.mk [zI s1, zI a1, zI s2, zI a2, zI s3, zI a3, zI 0, zI 2, zI 1, zI b1, zI b2, zI b3, zA ao, zA mb, zU, zU, zU, zU, zU, zU, zU, zU, zU, zU, zU, zU, zU, zU, zU, zU, zU, zU, zU, zU, zU, zU, zU]) []))
        exact tail1_3 X32 hx hby hml hown hlk hret hZ hw rfl Za3 Na3_ _ _ _ _ _ _ 0 2 1 b1 b2 b3 0 2 1 ao el po bo fi en ma we tu sk ss mk ms mb [.int 0, .int 2, .int 1] [.double xa1, .double xa3, .double xa2] xa1 xa2 xa3 b1.toInt b2.toInt b3.toInt EXa3 CH_ ch_mb PFa3 Bea3 Bpa3 rfl Bwa3 QFa3.2.2.2.1 QFa3.2.2.2.2.1 QFa3.2.2.2.2.2.1 QFa3.2.2.2.2.2.2.1 QFa3.1 QFa3.2.1 QFa3.2.2.1 Ama3 Ata3 QFa3.2.2.2.2.2.2.2 (by decide) (by decide) (by decide) (by decide) (by decide) (by decide) (by decide) (by decide) (by decide) rfl hxa1 (by omega) rfl hxa2 (by omega) rfl hxa3 (by omega) bb1 bb2 bb3 (by intro m0 m1 m2 w0 w1 w2 hM hW; unfold own_M at hM; unfold own_Wp own_pq at hW; obtain ⟨⟨q1, q2, q3, u1⟩, ⟨q4, q5, q6, u2⟩, q7, q8, q9, u3⟩ := hW; unfold own_is; refine ⟨by omega, by omega, by omega, by omega, by omega, by omega⟩)
      · skip
        obtain rfl : t3 = (2 : Int32) := Int32.toInt_inj.mp ht
        show own_Go p.tables e below _ (T28.setTop (mkF m 82 (Array.mk [zI s1, zI a1, zI s2, zI a2, zI s3, zI a3, zI 0, zI 2, zI 2, zI b1, zI b2, zI b3, zA ao, zA mb, zU, zU, zU, zU, zU, zU, zU, zU, zU, zU, zU, zU, zU, zU, zU, zU, zU, zU, zU, zU, zU, zU, zU]) []))
        refine own_blk dec0 seq0 hby hx hZ hown hK hF 4 [] [] X28 rfl ?_
        show own_Aft X28 T28.heap _ 89 [zI s1, zI a1, zI s2, zI a2, zI s3, zI a3, zI 0, zI 2, zI 2, zI b1, zI b2, zI b3, zA ao, zA mb, zU, zU, zU, zU, zU, zU, zU, zU, zU, zU, zU, zU, zU, zU, zU, zU, zU, zU, zU, zU, zU, zU, zU] [.double (FP.i2d b3), .int 2, .ref ao]
        refine fun T33 X33 eh33 => ?_
        refine own_callV X33 hx hZ hown (hw _ (wm 38 rfl)) (hw _ (wm 39 rfl)) (hw _ (wm 41 rfl)) (hw _ (wm 40 rfl)) (hw _ (wm 3 rfl)) (hw _ (wm 42 rfl)) (by decide) eh33 EXa2 [.int 2, .double (FP.i2d b3)] pd3 rfl (rm := ({ frames := 0, cells := 0, slots := 0, locals := 0 } : Room)) (rm3_o2 l Z a0 hw [] ao el po bo fi en ma we tu sk ss mk ms  2 1 [.int 0, .int 2, .int 1] [.double xa1, .double 0, .double xa2] (FP.i2d b3) xa2 b3.toInt (b2.toInt) T28.heap n0 Za2 EXa2 CH_ PFa2 Bpa2 QFa2.1 QFa2.2.1 Ama2 Bwa2 rfl (by decide) (by decide) rfl (by decide) rfl hxa2 (by omega) (own_D.i2d b3) (by omega)) (by rw [hml]; rfl) 0 rfl (Nat.le_of_eq rfl) (hb hby at_89) (by decide) (by decide) (by decide) (by decide) (fun T34 rv34 Lc34 X34 qc34 => ?_)
        obtain ⟨rfl, Ma3, Ka3, xa3, hxa3, Awa3⟩ := qc34
        have PFa3 := own_PF.keep PFa2 Ka3 (own_nin (by simp only [own_out, and_true]; omega))
        have Bwa3 : own_A Z T34.heap we .double [.double xa1, .double 0, .double xa3] := Awa3
        have QFa3 := own_QF.keep QFa2 Ka3 CH_ ch_mb (by simp)
        have Bea2a3 := Bea2.keep Ka3 (own_nin (by simp only [own_out, and_true]; omega))
        have Bpa2a3 := Bpa2.keep Ka3 (own_nin (by simp only [own_out, and_true]; omega))
        have Ama2a3 := Ama2.keep Ka3 (own_nin (by simp only [own_out, and_true]; omega))
        have Ata2a3 := Ata2.keep Ka3 (own_nin (by simp only [own_out, and_true]; omega))
        have EXa3 := Exa.keep EXa2 Ka3
        have Na3_ := Fr.app Na2_ Ma3
        have Za3 := Nat.le_trans Za2 Ka3.1
        show own_Go p.tables e below _ (T34.setTop (mkF m 92 (Array.mk [zI s1, zI a1, zI s2, zI a2, zI s3, zI a3, zI 0, zI 2, zI 2, zI b1, zI b2, zI b3, zA ao, zA mb, zU, zU, zU, zU, zU, zU, zU, zU, zU, zU, zU, zU, zU, zU, zU, zU, zU, zU, zU, zU, zU, zU, zU]) []))
        exact tail1_2 X34 hx hby hml hown hlk hret hZ hw rfl Za3 Na3_ _ _ _ _ _ _ 0 2 2 b1 b2 b3 0 2 1 ao el po bo fi en ma we tu sk ss mk ms mb [.int 0, .int 2, .int 1] [.double xa1, .double 0, .double xa3] xa1 xa3 b1.toInt (b2.toInt + b3.toInt) EXa3 CH_ ch_mb PFa3 Bea2a3 Bpa2a3 rfl Bwa3 QFa3.2.2.2.1 QFa3.2.2.2.2.1 QFa3.2.2.2.2.2.1 QFa3.2.2.2.2.2.2.1 QFa3.1 QFa3.2.1 QFa3.2.2.1 Ama2a3 Ata2a3 QFa3.2.2.2.2.2.2.2 (by decide) (by decide) (by decide) (by decide) (by decide) (by decide) (by decide) (by decide) (by decide) rfl hxa1 (by omega) rfl hxa3 (by omega) bb1 bb2 bb3 (by intro m0 m1 m2 w0 w1 w2 hM hW; unfold own_M at hM; unfold own_Wp own_pq at hW; obtain ⟨⟨q1, q2, q3, u1⟩, ⟨q4, q5, q6, u2⟩, q7, q8, q9, u3⟩ := hW; unfold own_is; refine ⟨by omega, by omega, by omega, by omega, by omega⟩)
  · skip
    obtain rfl : t1 = (1 : Int32) := Int32.toInt_inj.mp ht
    show own_Go p.tables e below _ (T8.setTop (mkF m 62 (Array.mk [zI s1, zI a1, zI s2, zI a2, zI s3, zI a3, zI 1, zI t2, zI t3, zI b1, zI b2, zI b3, zA ao, zA mb, zU, zU, zU, zU, zU, zU, zU, zU, zU, zU, zU, zU, zU, zU, zU, zU, zU, zU, zU, zU, zU, zU, zU]) []))
    refine own_blk dec0 seq0 hby hx hZ hown hK hF 4 [] [] X8 eh8 ?_
    show own_Aft X8 hp7 _ 69 [zI s1, zI a1, zI s2, zI a2, zI s3, zI a3, zI 1, zI t2, zI t3, zI b1, zI b2, zI b3, zA ao, zA mb, zU, zU, zU, zU, zU, zU, zU, zU, zU, zU, zU, zU, zU, zU, zU, zU, zU, zU, zU, zU, zU, zU, zU] [.double (FP.i2d b1), .int 1, .ref ao]
    refine fun T35 X35 eh35 => ?_
    refine own_callV X35 hx hZ hown (hw _ (wm 38 rfl)) (hw _ (wm 39 rfl)) (hw _ (wm 41 rfl)) (hw _ (wm 40 rfl)) (hw _ (wm 3 rfl)) (hw _ (wm 42 rfl)) (by decide) eh35 EX_7 [.int 1, .double (FP.i2d b1)] pd3 rfl (rm := ({ frames := 0, cells := 0, slots := 0, locals := 0 } : Room)) (rm3_n0 l Z a0 hw [] ao el po bo fi en ma we tu sk ss mk ms  1 1 0 [.int 0, .int 1, .int 2] [.int 0, .int 1, .int 2] [.double 0, .double 0, .double 0] (FP.i2d b1) b1.toInt hp7 n0 Z_7 EX_7 CH_ PF_7 A_el_7 A_po_7 QF.1 QF.2.1 A_ma_7 A_tu_7 A_we_7 rfl rfl rfl (by decide) (by decide) rfl (by decide) (by decide) rfl (by decide) (by decide) (own_D.i2d b1) (by omega)) (by rw [hml]; rfl) 0 rfl (Nat.le_of_eq rfl) (hb hby at_69) (by decide) (by decide) (by decide) (by decide) (fun T36 rv36 Lc36 X36 qc36 => ?_)
    obtain ⟨rfl, Ma1, Ka1, PFa1, Aea1, Apa1, Ama1, Ata1, xa1, hxa1, Awa1⟩ := qc36
    have Bea1 : own_A Z T36.heap el .int [.int 1, .int 0, .int 2] := Aea1
    have Bpa1 : own_A Z T36.heap po .int [.int 1, .int 0, .int 2] := Apa1
    have Bwa1 : own_A Z T36.heap we .double [.double 0, .double xa1, .double 0] := Awa1
    have QFa1 := own_QF.keep QF Ka1 CH_ ch_mb (by simp)
    have EXa1 := Exa.keep EX_7 Ka1
    have Na1_ := Fr.app N1_ Ma1
    have Za1 := Nat.le_trans Z_7 Ka1.1
    show own_Go p.tables e below _ (T36.setTop (mkF m 72 (Array.mk [zI s1, zI a1, zI s2, zI a2, zI s3, zI a3, zI 1, zI t2, zI t3, zI b1, zI b2, zI b3, zA ao, zA mb, zU, zU, zU, zU, zU, zU, zU, zU, zU, zU, zU, zU, zU, zU, zU, zU, zU, zU, zU, zU, zU, zU, zU]) []))
    obtain ht | ht | ht : t2.toInt = (0 : Int) ∨ t2.toInt = (1 : Int) ∨ t2.toInt = (2 : Int) := by omega
    · skip
      obtain rfl : t2 = (0 : Int32) := Int32.toInt_inj.mp ht
      show own_Go p.tables e below _ (T36.setTop (mkF m 72 (Array.mk [zI s1, zI a1, zI s2, zI a2, zI s3, zI a3, zI 1, zI 0, zI t3, zI b1, zI b2, zI b3, zA ao, zA mb, zU, zU, zU, zU, zU, zU, zU, zU, zU, zU, zU, zU, zU, zU, zU, zU, zU, zU, zU, zU, zU, zU, zU]) []))
      refine own_blk dec0 seq0 hby hx hZ hown hK hF 4 [] [] X36 rfl ?_
      show own_Aft X36 T36.heap _ 79 [zI s1, zI a1, zI s2, zI a2, zI s3, zI a3, zI 1, zI 0, zI t3, zI b1, zI b2, zI b3, zA ao, zA mb, zU, zU, zU, zU, zU, zU, zU, zU, zU, zU, zU, zU, zU, zU, zU, zU, zU, zU, zU, zU, zU, zU, zU] [.double (FP.i2d b2), .int 0, .ref ao]
      refine fun T37 X37 eh37 => ?_
      refine own_callV X37 hx hZ hown (hw _ (wm 38 rfl)) (hw _ (wm 39 rfl)) (hw _ (wm 41 rfl)) (hw _ (wm 40 rfl)) (hw _ (wm 3 rfl)) (hw _ (wm 42 rfl)) (by decide) eh37 EXa1 [.int 0, .double (FP.i2d b2)] pd3 rfl (rm := ({ frames := 0, cells := 0, slots := 0, locals := 0 } : Room)) (rm3_n1 l Z a0 hw [] ao el po bo fi en ma we tu sk ss mk ms  0 1 0 [.int 1, .int 0, .int 2] [.int 1, .int 0, .int 2] [.double 0, .double xa1, .double 0] (FP.i2d b2) b2.toInt T36.heap n0 Za1 EXa1 CH_ PFa1 Bea1 Bpa1 QFa1.1 QFa1.2.1 Ama1 Ata1 Bwa1 rfl rfl rfl (by decide) (by decide) rfl (by decide) (by decide) rfl (by decide) (by decide) (own_D.i2d b2) (by omega)) (by rw [hml]; rfl) 0 rfl (Nat.le_of_eq rfl) (hb hby at_79) (by decide) (by decide) (by decide) (by decide) (fun T38 rv38 Lc38 X38 qc38 => ?_)
      obtain ⟨rfl, Ma2, Ka2, PFa2, Aea2, Apa2, Ama2, Ata2, xa2, hxa2, Awa2⟩ := qc38
      have Bea2 : own_A Z T38.heap el .int [.int 1, .int 0, .int 2] := Aea2
      have Bpa2 : own_A Z T38.heap po .int [.int 1, .int 0, .int 2] := Apa2
      have Bwa2 : own_A Z T38.heap we .double [.double xa2, .double xa1, .double 0] := Awa2
      have QFa2 := own_QF.keep QFa1 Ka2 CH_ ch_mb (by simp)
      have EXa2 := Exa.keep EXa1 Ka2
      have Na2_ := Fr.app Na1_ Ma2
      have Za2 := Nat.le_trans Za1 Ka2.1
      show own_Go p.tables e below _ (T38.setTop (mkF m 82 (Array.mk [zI s1, zI a1, zI s2, zI a2, zI s3, zI a3, zI 1, zI 0, zI t3, zI b1, zI b2, zI b3, zA ao, zA mb, zU, zU, zU, zU, zU, zU, zU, zU, zU, zU, zU, zU, zU, zU, zU, zU, zU, zU, zU, zU, zU, zU, zU]) []))
      obtain ht | ht | ht : t3.toInt = (0 : Int) ∨ t3.toInt = (1 : Int) ∨ t3.toInt = (2 : Int) := by omega
      · skip
        obtain rfl : t3 = (0 : Int32) := Int32.toInt_inj.mp ht
        show own_Go p.tables e below _ (T38.setTop (mkF m 82 (Array.mk [zI s1, zI a1, zI s2, zI a2, zI s3, zI a3, zI 1, zI 0, zI 0, zI b1, zI b2, zI b3, zA ao, zA mb, zU, zU, zU, zU, zU, zU, zU, zU, zU, zU, zU, zU, zU, zU, zU, zU, zU, zU, zU, zU, zU, zU, zU]) []))
        refine own_blk dec0 seq0 hby hx hZ hown hK hF 4 [] [] X38 rfl ?_
        show own_Aft X38 T38.heap _ 89 [zI s1, zI a1, zI s2, zI a2, zI s3, zI a3, zI 1, zI 0, zI 0, zI b1, zI b2, zI b3, zA ao, zA mb, zU, zU, zU, zU, zU, zU, zU, zU, zU, zU, zU, zU, zU, zU, zU, zU, zU, zU, zU, zU, zU, zU, zU] [.double (FP.i2d b3), .int 0, .ref ao]
        refine fun T39 X39 eh39 => ?_
        refine own_callV X39 hx hZ hown (hw _ (wm 38 rfl)) (hw _ (wm 39 rfl)) (hw _ (wm 41 rfl)) (hw _ (wm 40 rfl)) (hw _ (wm 3 rfl)) (hw _ (wm 42 rfl)) (by decide) eh39 EXa2 [.int 0, .double (FP.i2d b3)] pd3 rfl (rm := ({ frames := 0, cells := 0, slots := 0, locals := 0 } : Room)) (rm3_o2 l Z a0 hw [] ao el po bo fi en ma we tu sk ss mk ms  0 1 [.int 1, .int 0, .int 2] [.double xa2, .double xa1, .double 0] (FP.i2d b3) xa2 b3.toInt (b2.toInt) T38.heap n0 Za2 EXa2 CH_ PFa2 Bpa2 QFa2.1 QFa2.2.1 Ama2 Bwa2 rfl (by decide) (by decide) rfl (by decide) rfl hxa2 (by omega) (own_D.i2d b3) (by omega)) (by rw [hml]; rfl) 0 rfl (Nat.le_of_eq rfl) (hb hby at_89) (by decide) (by decide) (by decide) (by decide) (fun T40 rv40 Lc40 X40 qc40 => ?_)
        obtain ⟨rfl, Ma3, Ka3, xa3, hxa3, Awa3⟩ := qc40
        have PFa3 := own_PF.keep PFa2 Ka3 (own_nin (by simp only [own_out, and_true]; omega))
        have Bwa3 : own_A Z T40.heap we .double [.double xa3, .double xa1, .double 0] := Awa3
        have QFa3 := own_QF.keep QFa2 Ka3 CH_ ch_mb (by simp)
        have Bea2a3 := Bea2.keep Ka3 (own_nin (by simp only [own_out, and_true]; omega))
        have Bpa2a3 := Bpa2.keep Ka3 (own_nin (by simp only [own_out, and_true]; omega))
        have Ama2a3 := Ama2.keep Ka3 (own_nin (by simp only [own_out, and_true]; omega))
        have Ata2a3 := Ata2.keep Ka3 (own_nin (by simp only [own_out, and_true]; omega))
        have EXa3 := Exa.keep EXa2 Ka3
        have Na3_ := Fr.app Na2_ Ma3
        have Za3 := Nat.le_trans Za2 Ka3.1
        show own_Go p.tables e below _ (T40.setTop (mkF m 92 (Array.mk [zI s1, zI a1, zI s2, zI a2, zI s3, zI a3, zI 1, zI 0, zI 0, zI b1, zI b2, zI b3, zA ao, zA mb, zU, zU, zU, zU, zU, zU, zU, zU, zU, zU, zU, zU, zU, zU, zU, zU, zU, zU, zU, zU, zU, zU, zU]) []))
        exact tail1_2 X40 hx hby hml hown hlk hret hZ hw rfl Za3 Na3_ _ _ _ _ _ _ 1 0 0 b1 b2 b3 1 0 2 ao el po bo fi en ma we tu sk ss mk ms mb [.int 1, .int 0, .int 2] [.double xa3, .double xa1, .double 0] xa1 xa3 b1.toInt (b2.toInt + b3.toInt) EXa3 CH_ ch_mb PFa3 Bea2a3 Bpa2a3 rfl Bwa3 QFa3.2.2.2.1 QFa3.2.2.2.2.1 QFa3.2.2.2.2.2.1 QFa3.2.2.2.2.2.2.1 QFa3.1 QFa3.2.1 QFa3.2.2.1 Ama2a3 Ata2a3 QFa3.2.2.2.2.2.2.2 (by decide) (by decide) (by decide) (by decide) (by decide) (by decide) (by decide) (by decide) (by decide) rfl hxa1 (by omega) rfl hxa3 (by omega) bb1 bb2 bb3 (by intro m0 m1 m2 w0 w1 w2 hM hW; unfold own_M at hM; unfold own_Wp own_pq at hW; obtain ⟨⟨q1, q2, q3, u1⟩, ⟨q4, q5, q6, u2⟩, q7, q8, q9, u3⟩ := hW; unfold own_is; refine ⟨by omega, by omega, by omega, by omega, by omega⟩)
      · skip
        obtain rfl : t3 = (1 : Int32) := Int32.toInt_inj.mp ht
        show own_Go p.tables e below _ (T38.setTop (mkF m 82 (Array.mk [zI s1, zI a1, zI s2, zI a2, zI s3, zI a3, zI 1, zI 0, zI 1, zI b1, zI b2, zI b3, zA ao, zA mb, zU, zU, zU, zU, zU, zU, zU, zU, zU, zU, zU, zU, zU, zU, zU, zU, zU, zU, zU, zU, zU, zU, zU]) []))
        refine own_blk dec0 seq0 hby hx hZ hown hK hF 4 [] [] X38 rfl ?_
        show own_Aft X38 T38.heap _ 89 [zI s1, zI a1, zI s2, zI a2, zI s3, zI a3, zI 1, zI 0, zI 1, zI b1, zI b2, zI b3, zA ao, zA mb, zU, zU, zU, zU, zU, zU, zU, zU, zU, zU, zU, zU, zU, zU, zU, zU, zU, zU, zU, zU, zU, zU, zU] [.double (FP.i2d b3), .int 1, .ref ao]
        refine fun T41 X41 eh41 => ?_
        refine own_callV X41 hx hZ hown (hw _ (wm 38 rfl)) (hw _ (wm 39 rfl)) (hw _ (wm 41 rfl)) (hw _ (wm 40 rfl)) (hw _ (wm 3 rfl)) (hw _ (wm 42 rfl)) (by decide) eh41 EXa2 [.int 1, .double (FP.i2d b3)] pd3 rfl (rm := ({ frames := 0, cells := 0, slots := 0, locals := 0 } : Room)) (rm3_o2 l Z a0 hw [] ao el po bo fi en ma we tu sk ss mk ms  1 0 [.int 1, .int 0, .int 2] [.double xa2, .double xa1, .double 0] (FP.i2d b3) xa1 b3.toInt (b1.toInt) T38.heap n0 Za2 EXa2 CH_ PFa2 Bpa2 QFa2.1 QFa2.2.1 Ama2 Bwa2 rfl (by decide) (by decide) rfl (by decide) rfl hxa1 (by omega) (own_D.i2d b3) (by omega)) (by rw [hml]; rfl) 0 rfl (Nat.le_of_eq rfl) (hb hby at_89) (by decide) (by decide) (by decide) (by decide) (fun T42 rv42 Lc42 X42 qc42 => ?_)
        obtain ⟨rfl, Ma3, Ka3, xa3, hxa3, Awa3⟩ := qc42
        have PFa3 := own_PF.keep PFa2 Ka3 (own_nin (by simp only [own_out, and_true]; omega))
        have Bwa3 : own_A Z T42.heap we .double [.double xa2, .double xa3, .double 0] := Awa3
        have QFa3 := own_QF.keep QFa2 Ka3 CH_ ch_mb (by simp)
        have Bea2a3 := Bea2.keep Ka3 (own_nin (by simp only [own_out, and_true]; omega))
        have Bpa2a3 := Bpa2.keep Ka3 (own_nin (by simp only [own_out, and_true]; omega))
        have Ama2a3 := Ama2.keep Ka3 (own_nin (by simp only [own_out, and_true]; omega))
        have Ata2a3 := Ata2.keep Ka3 (own_nin (by simp only [own_out, and_true]; omega))
        have EXa3 := Exa.keep EXa2 Ka3
        have Na3_ := Fr.app Na2_ Ma3
        have Za3 := Nat.le_trans Za2 Ka3.1
        show own_Go p.tables e below _ (T42.setTop (mkF m 92 (Array.mk [zI s1, zI a1, zI s2, zI a2, zI s3, zI a3, zI 1, zI 0, zI 1, zI b1, zI b2, zI b3, zA ao, zA mb, zU, zU, zU, zU, zU, zU, zU, zU, zU, zU, zU, zU, zU, zU, zU, zU, zU, zU, zU, zU, zU, zU, zU]) []))
        exact tail1_2 X42 hx hby hml hown hlk hret hZ hw rfl Za3 Na3_ _ _ _ _ _ _ 1 0 1 b1 b2 b3 1 0 2 ao el po bo fi en ma we tu sk ss mk ms mb [.int 1, .int 0, .int 2] [.double xa2, .double xa3, .double 0] xa3 xa2 (b1.toInt + b3.toInt) b2.toInt EXa3 CH_ ch_mb PFa3 Bea2a3 Bpa2a3 rfl Bwa3 QFa3.2.2.2.1 QFa3.2.2.2.2.1 QFa3.2.2.2.2.2.1 QFa3.2.2.2.2.2.2.1 QFa3.1 QFa3.2.1 QFa3.2.2.1 Ama2a3 Ata2a3 QFa3.2.2.2.2.2.2.2 (by decide) (by decide) (by decide) (by decide) (by decide) (by decide) (by decide) (by decide) (by decide) rfl hxa3 (by omega) rfl hxa2 (by omega) bb1 bb2 bb3 (by intro m0 m1 m2 w0 w1 w2 hM hW; unfold own_M at hM; unfold own_Wp own_pq at hW; obtain ⟨⟨q1, q2, q3, u1⟩, ⟨q4, q5, q6, u2⟩, q7, q8, q9, u3⟩ := hW; unfold own_is; refine ⟨by omega, by omega, by omega, by omega, by omega⟩)
      · skip
        obtain rfl : t3 = (2 : Int32) := Int32.toInt_inj.mp ht
        show own_Go p.tables e below _ (T38.setTop (mkF m 82 (Array.mk [zI s1, zI a1, zI s2, zI a2, zI s3, zI a3, zI 1, zI 0, zI 2, zI b1, zI b2, zI b3, zA ao, zA mb, zU, zU, zU, zU, zU, zU, zU, zU, zU, zU, zU, zU, zU, zU, zU, zU, zU, zU, zU, zU, zU, zU, zU]) []))
        refine own_blk dec0 seq0 hby hx hZ hown hK hF 4 [] [] X38 rfl ?_
        show own_Aft X38 T38.heap _ 89 [zI s1, zI a1, zI s2, zI a2, zI s3, zI a3, zI 1, zI 0, zI 2, zI b1, zI b2, zI b3, zA ao, zA mb, zU, zU, zU, zU, zU, zU, zU, zU, zU, zU, zU, zU, zU, zU, zU, zU, zU, zU, zU, zU, zU, zU, zU] [.double (FP.i2d b3), .int 2, .ref ao]
        refine fun T43 X43 eh43 => ?_
        refine own_callV X43 hx hZ hown (hw _ (wm 38 rfl)) (hw _ (wm 39 rfl)) (hw _ (wm 41 rfl)) (hw _ (wm 40 rfl)) (hw _ (wm 3 rfl)) (hw _ (wm 42 rfl)) (by decide) eh43 EXa2 [.int 2, .double (FP.i2d b3)] pd3 rfl (rm := ({ frames := 0, cells := 0, slots := 0, locals := 0 } : Room)) (rm3_n2 l Z a0 hw [] ao el po bo fi en ma we tu sk ss mk ms  2 2 2 [.int 1, .int 0, .int 2] [.int 1, .int 0, .int 2] [.double xa2, .double xa1, .double 0] (FP.i2d b3) b3.toInt T38.heap n0 Za2 EXa2 CH_ PFa2 Bea2 Bpa2 QFa2.1 QFa2.2.1 Ama2 Ata2 Bwa2 rfl rfl rfl (by decide) (by decide) rfl (by decide) (by decide) rfl (by decide) (by decide) (own_D.i2d b3) (by omega)) (by rw [hml]; rfl) 0 rfl (Nat.le_of_eq rfl) (hb hby at_89) (by decide) (by decide) (by decide) (by decide) (fun T44 rv44 Lc44 X44 qc44 => ?_)
        obtain ⟨rfl, Ma3, Ka3, PFa3, Aea3, Apa3, Ama3, Ata3, xa3, hxa3, Awa3⟩ := qc44
        have Bea3 : own_A Z T44.heap el .int [.int 1, .int 0, .int 2] := Aea3
        have Bpa3 : own_A Z T44.heap po .int [.int 1, .int 0, .int 2] := Apa3
        have Bwa3 : own_A Z T44.heap we .double [.double xa2, .double xa1, .double xa3] := Awa3
        have QFa3 := own_QF.keep QFa2 Ka3 CH_ ch_mb (by simp)
        have EXa3 := Exa.keep EXa2 Ka3
        have Na3_ := Fr.app Na2_ Ma3
        have Za3 := Nat.le_trans Za2 Ka3.1
        show own_Go p.tables e below _ (T44.setTop (mkF m 92 (Array.mk [zI s1, zI a1, zI s2, zI a2, zI s3, zI a3, zI 1, zI 0, zI 2, zI b1, zI b2, zI b3, zA ao, zA mb, zU, zU, zU, zU, zU, zU, zU, zU, zU, zU, zU, zU, zU, zU, zU, zU, zU, zU, zU, zU, zU, zU, zU]) []))
        exact tail1_3 X44 hx hby hml hown hlk hret hZ hw rfl Za3 Na3_ _ _ _ _ _ _ 1 0 2 b1 b2 b3 1 0 2 ao el po bo fi en ma we tu sk ss mk ms mb [.int 1, .int 0, .int 2] [.double xa2, .double xa1, .double xa3] xa1 xa2 xa3 b1.toInt b2.toInt b3.toInt EXa3 CH_ ch_mb PFa3 Bea3 Bpa3 rfl Bwa3 QFa3.2.2.2.1 QFa3.2.2.2.2.1 QFa3.2.2.2.2.2.1 QFa3.2.2.2.2.2.2.1 QFa3.1 QFa3.2.1 QFa3.2.2.1 Ama3 Ata3 QFa3.2.2.2.2.2.2.2 (by decide) (by decide) (by decide) (by decide) (by decide) (by decide) (by decide) (by decide) (by decide) rfl hxa1 (by omega) rfl hxa2 (by omega) rfl hxa3 (by omega) bb1 bb2 bb3 (by intro m0 m1 m2 w0 w1 w2 hM hW; unfold own_M at hM; unfold own_Wp own_pq at hW; obtain ⟨⟨q1, q2, q3, u1⟩, ⟨q4, q5, q6, u2⟩, q7, q8, q9, u3⟩ := hW; unfold own_is; refine ⟨by omega, by omega, by omega, by omega, by omega, by omega⟩)
    · skip
      obtain rfl : t2 = (1 : Int32) := Int32.toInt_inj.mp ht
      show own_Go p.tables e below _ (T36.setTop (mkF m 72 (Array.mk [zI s1, zI a1, zI s2, zI a2, zI s3, zI a3, zI 1, zI 1, zI t3, zI b1, zI b2, zI b3, zA ao, zA mb, zU, zU, zU, zU, zU, zU, zU, zU, zU, zU, zU, zU, zU, zU, zU, zU, zU, zU, zU, zU, zU, zU, zU]) []))
      refine own_blk dec0 seq0 hby hx hZ hown hK hF 4 [] [] X36 rfl ?_
      show own_Aft X36 T36.heap _ 79 [zI s1, zI a1, zI s2, zI a2, zI s3, zI a3, zI 1, zI 1, zI t3, zI b1, zI b2, zI b3, zA ao, zA mb, zU, zU, zU, zU, zU, zU, zU, zU, zU, zU, zU, zU, zU, zU, zU, zU, zU, zU, zU, zU, zU, zU, zU] [.double (FP.i2d b2), .int 1, .ref ao]
      refine fun T45 X45 eh45 => ?_
      refine own_callV X45 hx hZ hown (hw _ (wm 38 rfl)) (hw _ (wm 39 rfl)) (hw _ (wm 41 rfl)) (hw _ (wm 40 rfl)) (hw _ (wm 3 rfl)) (hw _ (wm 42 rfl)) (by decide) eh45 EXa1 [.int 1, .double (FP.i2d b2)] pd3 rfl (rm := ({ frames := 0, cells := 0, slots := 0, locals := 0 } : Room)) (rm3_o1 l Z a0 hw [] ao el po bo fi en ma we tu sk ss mk ms  1 0 [.int 1, .int 0, .int 2] [.double 0, .double xa1, .double 0] (FP.i2d b2) xa1 b2.toInt (b1.toInt) T36.heap n0 Za1 EXa1 CH_ PFa1 Bpa1 QFa1.1 QFa1.2.1 Ama1 Bwa1 rfl (by decide) (by decide) rfl (by decide) rfl hxa1 (by omega) (own_D.i2d b2) (by omega)) (by rw [hml]; rfl) 0 rfl (Nat.le_of_eq rfl) (hb hby at_79) (by decide) (by decide) (by decide) (by decide) (fun T46 rv46 Lc46 X46 qc46 => ?_)
      obtain ⟨rfl, Ma2, Ka2, xa2, hxa2, Awa2⟩ := qc46
      have PFa2 := own_PF.keep PFa1 Ka2 (own_nin (by simp only [own_out, and_true]; omega))
      have Bwa2 : own_A Z T46.heap we .double [.double 0, .double xa2, .double 0] := Awa2
      have QFa2 := own_QF.keep QFa1 Ka2 CH_ ch_mb (by simp)
      have Bea1a2 := Bea1.keep Ka2 (own_nin (by simp only [own_out, and_true]; omega))
      have Bpa1a2 := Bpa1.keep Ka2 (own_nin (by simp only [own_out, and_true]; omega))
      have Ama1a2 := Ama1.keep Ka2 (own_nin (by simp only [own_out, and_true]; omega))
      have Ata1a2 := Ata1.keep Ka2 (own_nin (by simp only [own_out, and_true]; omega))
      have EXa2 := Exa.keep EXa1 Ka2
      have Na2_ := Fr.app Na1_ Ma2
      have Za2 := Nat.le_trans Za1 Ka2.1
      show own_Go p.tables e below _ (T46.setTop (mkF m 82 (Array.mk [zI s1, zI a1, zI s2, zI a2, zI s3, zI a3, zI 1, zI 1, zI t3, zI b1, zI b2, zI b3, zA ao, zA mb, zU, zU, zU, zU, zU, zU, zU, zU, zU, zU, zU, zU, zU, zU, zU, zU, zU, zU, zU, zU, zU, zU, zU]) []))
      obtain ht | ht | ht : t3.toInt = (0 : Int) ∨ t3.toInt = (1 : Int) ∨ t3.toInt = (2 : Int) := by omega
      · skip
        obtain rfl : t3 = (0 : Int32) := Int32.toInt_inj.mp ht
        show own_Go p.tables e below _ (T46.setTop (mkF m 82 (Array.mk [zI s1, zI a1, zI s2, zI a2, zI s3, zI a3, zI 1, zI 1, zI 0, zI b1, zI b2, zI b3, zA ao, zA mb, zU, zU, zU, zU, zU, zU, zU, zU, zU, zU, zU, zU, zU, zU, zU, zU, zU, zU, zU, zU, zU, zU, zU]) []))
        refine own_blk dec0 seq0 hby hx hZ hown hK hF 4 [] [] X46 rfl ?_
        show own_Aft X46 T46.heap _ 89 [zI s1, zI a1, zI s2, zI a2, zI s3, zI a3, zI 1, zI 1, zI 0, zI b1, zI b2, zI b3, zA ao, zA mb, zU, zU, zU, zU, zU, zU, zU, zU, zU, zU, zU, zU, zU, zU, zU, zU, zU, zU, zU, zU, zU, zU, zU] [.double (FP.i2d b3), .int 0, .ref ao]
        refine fun T47 X47 eh47 => ?_
        refine own_callV X47 hx hZ hown (hw _ (wm 38 rfl)) (hw _ (wm 39 rfl)) (hw _ (wm 41 rfl)) (hw _ (wm 40 rfl)) (hw _ (wm 3 rfl)) (hw _ (wm 42 rfl)) (by decide) eh47 EXa2 [.int 0, .double (FP.i2d b3)] pd3 rfl (rm := ({ frames := 0, cells := 0, slots := 0, locals := 0 } : Room)) (rm3_n1 l Z a0 hw [] ao el po bo fi en ma we tu sk ss mk ms  0 1 0 [.int 1, .int 0, .int 2] [.int 1, .int 0, .int 2] [.double 0, .double xa2, .double 0] (FP.i2d b3) b3.toInt T46.heap n0 Za2 EXa2 CH_ PFa2 Bea1a2 Bpa1a2 QFa2.1 QFa2.2.1 Ama1a2 Ata1a2 Bwa2 rfl rfl rfl (by decide) (by decide) rfl (by decide) (by decide) rfl (by decide) (by decide) (own_D.i2d b3) (by omega)) (by rw [hml]; rfl) 0 rfl (Nat.le_of_eq rfl) (hb hby at_89) (by decide) (by decide) (by decide) (by decide) (fun T48 rv48 Lc48 X48 qc48 => ?_)
        obtain ⟨rfl, Ma3, Ka3, PFa3, Aea3, Apa3, Ama3, Ata3, xa3, hxa3, Awa3⟩ := qc48
        have Bea3 : own_A Z T48.heap el .int [.int 1, .int 0, .int 2] := Aea3
        have Bpa3 : own_A Z T48.heap po .int [.int 1, .int 0, .int 2] := Apa3
        have Bwa3 : own_A Z T48.heap we .double [.double xa3, .double xa2, .double 0] := Awa3
        have QFa3 := own_QF.keep QFa2 Ka3 CH_ ch_mb (by simp)
        have EXa3 := Exa.keep EXa2 Ka3
        have Na3_ := Fr.app Na2_ Ma3
        have Za3 := Nat.le_trans Za2 Ka3.1
        show own_Go p.tables e below _ (T48.setTop (mkF m 92 (Array.mk [zI s1, zI a1, zI s2, zI a2, zI s3, zI a3, zI 1, zI 1, zI 0, zI b1, zI b2, zI b3, zA ao, zA mb, zU, zU, zU, zU, zU, zU, zU, zU, zU, zU, zU, zU, zU, zU, zU, zU, zU, zU, zU, zU, zU, zU, zU]) []))
        exact tail1_2 X48 hx hby hml hown hlk hret hZ hw rfl Za3 Na3_ _ _ _ _ _ _ 1 1 0 b1 b2 b3 1 0 2 ao el po bo fi en ma we tu sk ss mk ms mb [.int 1, .int 0, .int 2] [.double xa3, .double xa2, .double 0] xa2 xa3 (b1.toInt + b2.toInt) b3.toInt EXa3 CH_ ch_mb PFa3 Bea3 Bpa3 rfl Bwa3 QFa3.2.2.2.1 QFa3.2.2.2.2.1 QFa3.2.2.2.2.2.1 QFa3.2.2.2.2.2.2.1 QFa3.1 QFa3.2.1 QFa3.2.2.1 Ama3 Ata3 QFa3.2.2.2.2.2.2.2 (by decide) (by decide) (by decide) (by decide) (by decide) (by decide) (by decide) (by decide) (by decide) rfl hxa2 (by omega) rfl hxa3 (by omega) bb1 bb2 bb3 (by intro m0 m1 m2 w0 w1 w2 hM hW; unfold own_M at hM; unfold own_Wp own_pq at hW; obtain ⟨⟨q1, q2, q3, u1⟩, ⟨q4, q5, q6, u2⟩, q7, q8, q9, u3⟩ := hW; unfold own_is; refine ⟨by omega, by omega, by omega, by omega, by omega⟩)
      · skip
        obtain rfl : t3 = (1 : Int32) := Int32.toInt_inj.mp ht
        show own_Go p.tables e below _ (T46.setTop (mkF m 82 (Array.mk [zI s1, zI a1, zI s2, zI a2, zI s3, zI a3, zI 1, zI 1, zI 1, zI b1, zI b2, zI b3, zA ao, zA mb, zU, zU, zU, zU, zU, zU, zU, zU, zU, zU, zU, zU, zU, zU, zU, zU, zU, zU, zU, zU, zU, zU, zU]) []))
        refine own_blk dec0 seq0 hby hx hZ hown hK hF 4 [] [] X46 rfl ?_
        show own_Aft X46 T46.heap _ 89 [zI s1, zI a1, zI s2, zI a2, zI s3, zI a3, zI 1, zI 1, zI 1, zI b1, zI b2, zI b3, zA ao, zA mb, zU, zU, zU, zU, zU, zU, zU, zU, zU, zU, zU, zU, zU, zU, zU, zU, zU, zU, zU, zU, zU, zU, zU] [.double (FP.i2d b3), .int 1, .ref ao]
        refine fun T49 X49 eh49 => ?_
        refine own_callV X49 hx hZ hown (hw _ (wm 38 rfl)) (hw _ (wm 39 rfl)) (hw _ (wm 41 rfl)) (hw _ (wm 40 rfl)) (hw _ (wm 3 rfl)) (hw _ (wm 42 rfl)) (by decide) eh49 EXa2 [.int 1, .double (FP.i2d b3)] pd3 rfl (rm := ({ frames := 0, cells := 0, slots := 0, locals := 0 } : Room)) (rm3_o1 l Z a0 hw [] ao el po bo fi en ma we tu sk ss mk ms  1 0 [.int 1, .int 0, .int 2] [.double 0, .double xa2, .double 0] (FP.i2d b3) xa2 b3.toInt (b1.toInt + b2.toInt) T46.heap n0 Za2 EXa2 CH_ PFa2 Bpa1a2 QFa2.1 QFa2.2.1 Ama1a2 Bwa2 rfl (by decide) (by decide) rfl (by decide) rfl hxa2 (by omega) (own_D.i2d b3) (by omega)) (by rw [hml]; rfl) 0 rfl (Nat.le_of_eq rfl) (hb hby at_89) (by decide) (by decide) (by decide) (by decide) (fun T50 rv50 Lc50 X50 qc50 => ?_)
        obtain ⟨rfl, Ma3, Ka3, xa3, hxa3, Awa3⟩ := qc50
        have PFa3 := own_PF.keep PFa2 Ka3 (own_nin (by simp only [own_out, and_true]; omega))
        have Bwa3 : own_A Z T50.heap we .double [.double 0, .double xa3, .double 0] := Awa3
        have QFa3 := own_QF.keep QFa2 Ka3 CH_ ch_mb (by simp)
        have Bea1a2a3 := Bea1a2.keep Ka3 (own_nin (by simp only [own_out, and_true]; omega))
        have Bpa1a2a3 := Bpa1a2.keep Ka3 (own_nin (by simp only [own_out, and_true]; omega))
        have Ama1a2a3 := Ama1a2.keep Ka3 (own_nin (by simp only [own_out, and_true]; omega))
        have Ata1a2a3 := Ata1a2.keep Ka3 (own_nin (by simp only [own_out, and_true]; omega))
        have EXa3 := Exa.keep EXa2 Ka3
        have Na3_ := Fr.app Na2_ Ma3
        have Za3 := Nat.le_trans Za2 Ka3.1
        show own_Go p.tables e below _ (T50.setTop (mkF m 92 (Array.mk [zI s1, zI a1, zI s2, zI a2, zI s3, zI a3, zI 1, zI 1, zI 1, zI b1, zI b2, zI b3, zA ao, zA mb, zU, zU, zU, zU, zU, zU, zU, zU, zU, zU, zU, zU, zU, zU, zU, zU, zU, zU, zU, zU, zU, zU, zU]) []))
        exact tail1_1 X50 hx hby hml hown hlk hret hZ hw rfl Za3 Na3_ _ _ _ _ _ _ 1 1 1 b1 b2 b3 1 0 2 ao el po bo fi en ma we tu sk ss mk ms mb [.int 1, .int 0, .int 2] [.double 0, .double xa3, .double 0] xa3 (b1.toInt + b2.toInt + b3.toInt) EXa3 CH_ ch_mb PFa3 Bea1a2a3 Bpa1a2a3 rfl Bwa3 QFa3.2.2.2.1 QFa3.2.2.2.2.1 QFa3.2.2.2.2.2.1 QFa3.2.2.2.2.2.2.1 QFa3.1 QFa3.2.1 QFa3.2.2.1 Ama1a2a3 Ata1a2a3 QFa3.2.2.2.2.2.2.2 (by decide) (by decide) (by decide) (by decide) (by decide) (by decide) (by decide) (by decide) (by decide) rfl hxa3 (by omega) bb1 bb2 bb3 (by intro m0 m1 m2 w0 w1 w2 hM hW; unfold own_M at hM; unfold own_Wp own_pq at hW; obtain ⟨⟨q1, q2, q3, u1⟩, ⟨q4, q5, q6, u2⟩, q7, q8, q9, u3⟩ := hW; unfold own_is; refine ⟨by omega, by omega, by omega, by omega⟩)
      · skip
        obtain rfl : t3 = (2 : Int32) := Int32.toInt_inj.mp ht
        show own_Go p.tables e below _ (T46.setTop (mkF m 82 (Array.mk [zI s1, zI a1, zI s2, zI a2, zI s3, zI a3, zI 1, zI 1, zI 2, zI b1, zI b2, zI b3, zA ao, zA mb, zU, zU, zU, zU, zU, zU, zU, zU, zU, zU, zU, zU, zU, zU, zU, zU, zU, zU, zU, zU, zU, zU, zU]) []))
        refine own_blk dec0 seq0 hby hx hZ hown hK hF 4 [] [] X46 rfl ?_
        show own_Aft X46 T46.heap _ 89 [zI s1, zI a1, zI s2, zI a2, zI s3, zI a3, zI 1, zI 1, zI 2, zI b1, zI b2, zI b3, zA ao, zA mb, zU, zU, zU, zU, zU, zU, zU, zU, zU, zU, zU, zU, zU, zU, zU, zU, zU, zU, zU, zU, zU, zU, zU] [.double (FP.i2d b3), .int 2, .ref ao]
        refine fun T51 X51 eh51 => ?_
        refine own_callV X51 hx hZ hown (hw _ (wm 38 rfl)) (hw _ (wm 39 rfl)) (hw _ (wm 41 rfl)) (hw _ (wm 40 rfl)) (hw _ (wm 3 rfl)) (hw _ (wm 42 rfl)) (by decide) eh51 EXa2 [.int 2, .double (FP.i2d b3)] pd3 rfl (rm := ({ frames := 0, cells := 0, slots := 0, locals := 0 } : Room)) (rm3_n1 l Z a0 hw [] ao el po bo fi en ma we tu sk ss mk ms  2 2 0 [.int 1, .int 0, .int 2] [.int 1, .int 0, .int 2] [.double 0, .double xa2, .double 0] (FP.i2d b3) b3.toInt T46.heap n0 Za2 EXa2 CH_ PFa2 Bea1a2 Bpa1a2 QFa2.1 QFa2.2.1 Ama1a2 Ata1a2 Bwa2 rfl rfl rfl (by decide) (by decide) rfl (by decide) (by decide) rfl (by decide) (by decide) (own_D.i2d b3) (by omega)) (by rw [hml]; rfl) 0 rfl (Nat.le_of_eq rfl) (hb hby at_89) (by decide) (by decide) (by decide) (by decide) (fun T52 rv52 Lc52 X52 qc52 => ?_)
        obtain ⟨rfl, Ma3, Ka3, PFa3, Aea3, Apa3, Ama3, Ata3, xa3, hxa3, Awa3⟩ := qc52
        have Bea3 : own_A Z T52.heap el .int [.int 1, .int 2, .int 0] := Aea3
        have Bpa3 : own_A Z T52.heap po .int [.int 2, .int 0, .int 1] := Apa3
        have Bwa3 : own_A Z T52.heap we .double [.double 0, .double xa2, .double xa3] := Awa3
        have QFa3 := own_QF.keep QFa2 Ka3 CH_ ch_mb (by simp)
        have EXa3 := Exa.keep EXa2 Ka3
        have Na3_ := Fr.app Na2_ Ma3
        have Za3 := Nat.le_trans Za2 Ka3.1
        show own_Go p.tables e below _ (T52.setTop (mkF m 92 (Array.mk [zI s1, zI a1, zI s2, zI a2, zI s3, zI a3, zI 1, zI 1, zI 2, zI b1, zI b2, zI b3, zA ao, zA mb, zU, zU, zU, zU, zU, zU, zU, zU, zU, zU, zU, zU, zU, zU, zU, zU, zU, zU, zU, zU, zU, zU, zU]) []))
        exact tail1_2 X52 hx hby hml hown hlk hret hZ hw rfl Za3 Na3_ _ _ _ _ _ _ 1 1 2 b1 b2 b3 1 2 0 ao el po bo fi en ma we tu sk ss mk ms mb [.int 2, .int 0, .int 1] [.double 0, .double xa2, .double xa3] xa2 xa3 (b1.toInt + b2.toInt) b3.toInt EXa3 CH_ ch_mb PFa3 Bea3 Bpa3 rfl Bwa3 QFa3.2.2.2.1 QFa3.2.2.2.2.1 QFa3.2.2.2.2.2.1 QFa3.2.2.2.2.2.2.1 QFa3.1 QFa3.2.1 QFa3.2.2.1 Ama3 Ata3 QFa3.2.2.2.2.2.2.2 (by decide) (by decide) (by decide) (by decide) (by decide) (by decide) (by decide) (by decide) (by decide) rfl hxa2 (by omega) rfl hxa3 (by omega) bb1 bb2 bb3 (by intro m0 m1 m2 w0 w1 w2 hM hW; unfold own_M at hM; unfold own_Wp own_pq at hW; obtain ⟨⟨q1, q2, q3, u1⟩, ⟨q4, q5, q6, u2⟩, q7, q8, q9, u3⟩ := hW; unfold own_is; refine ⟨by omega, by omega, by omega, by omega, by omega⟩)
    · skip
      obtain rfl : t2 = (2 : Int32) := Int32.toInt_inj.mp ht
      show own_Go p.tables e below _ (T36.setTop (mkF m 72 (Array.mk [zI s1, zI a1, zI s2, zI a2, zI s3, zI a3, zI 1, zI 2, zI t3, zI b1, zI b2, zI b3, zA ao, zA mb, zU, zU, zU, zU, zU, zU, zU, zU, zU, zU, zU, zU, zU, zU, zU, zU, zU, zU, zU, zU, zU, zU, zU]) []))
      refine own_blk dec0 seq0 hby hx hZ hown hK hF 4 [] [] X36 rfl ?_
      show own_Aft X36 T36.heap _ 79 [zI s1, zI a1, zI s2, zI a2, zI s3, zI a3, zI 1, zI 2, zI t3, zI b1, zI b2, zI b3, zA ao, zA mb, zU, zU, zU, zU, zU, zU, zU, zU, zU, zU, zU, zU, zU, zU, zU, zU, zU, zU, zU, zU, zU, zU, zU] [.double (FP.i2d b2), .int 2, .ref ao]
      refine fun T53 X53 eh53 => ?_
      refine own_callV X53 hx hZ hown (hw _ (wm 38 rfl)) (hw _ (wm 39 rfl)) (hw _ (wm 41 rfl)) (hw _ (wm 40 rfl)) (hw _ (wm 3 rfl)) (hw _ (wm 42 rfl)) (by decide) eh53 EXa1 [.int 2, .double (FP.i2d b2)] pd3 rfl (rm := ({ frames := 0, cells := 0, slots := 0, locals := 0 } : Room)) (rm3_n1 l Z a0 hw [] ao el po bo fi en ma we tu sk ss mk ms  2 2 0 [.int 1, .int 0, .int 2] [.int 1, .int 0, .int 2] [.double 0, .double xa1, .double 0] (FP.i2d b2) b2.toInt T36.heap n0 Za1 EXa1 CH_ PFa1 Bea1 Bpa1 QFa1.1 QFa1.2.1 Ama1 Ata1 Bwa1 rfl rfl rfl (by decide) (by decide) rfl (by decide) (by decide) rfl (by decide) (by decide) (own_D.i2d b2) (by omega)) (by rw [hml]; rfl) 0 rfl (Nat.le_of_eq rfl) (hb hby at_79) (by decide) (by decide) (by decide) (by decide) (fun T54 rv54 Lc54 X54 qc54 => ?_)
      obtain ⟨rfl, Ma2, Ka2, PFa2, Aea2, Apa2, Ama2, Ata2, xa2, hxa2, Awa2⟩ := qc54
      have Bea2 : own_A Z T54.heap el .int [.int 1, .int 2, .int 0] := Aea2
      have Bpa2 : own_A Z T54.heap po .int [.int 2, .int 0, .int 1] := Apa2
      have Bwa2 : own_A Z T54.heap we .double [.double 0, .double xa1, .double xa2] := Awa2
      have QFa2 := own_QF.keep QFa1 Ka2 CH_ ch_mb (by simp)
      have EXa2 := Exa.keep EXa1 Ka2
      have Na2_ := Fr.app Na1_ Ma2
      have Za2 := Nat.le_trans Za1 Ka2.1
      show own_Go p.tables e below _ (T54.setTop (mkF m 82 (Array.mk [zI s1, zI a1, zI s2, zI a2, zI s3, zI a3, zI 1, zI 2, zI t3, zI b1, zI b2, zI b3, zA ao, zA mb, zU, zU, zU, zU, zU, zU, zU, zU, zU, zU, zU, zU, zU, zU, zU, zU, zU, zU, zU, zU, zU, zU, zU]) []))
      obtain ht | ht | ht : t3.toInt = (0 : Int) ∨ t3.toInt = (1 : Int) ∨ t3.toInt = (2 : Int) := by omega
      · skip
        obtain rfl : t3 = (0 : Int32) := Int32.toInt_inj.mp ht
        show own_Go p.tables e below _ (T54.setTop (mkF m 82 (Array.mk [zI s1, zI a1, zI s2, zI a2, zI s3, zI a3, zI 1, zI 2, zI 0, zI b1, zI b2, zI b3, zA ao, zA mb, zU, zU, zU, zU, zU, zU, zU, zU, zU, zU, zU, zU, zU, zU, zU, zU, zU, zU, zU, zU, zU, zU, zU]) []))
        refine own_blk dec0 seq0 hby hx hZ hown hK hF 4 [] [] X54 rfl ?_
        show own_Aft X54 T54.heap _ 89 [zI s1, zI a1, zI s2, zI a2, zI s3, zI a3, zI 1, zI 2, zI 0, zI b1, zI b2, zI b3, zA ao, zA mb, zU, zU, zU, zU, zU, zU, zU, zU, zU, zU, zU, zU, zU, zU, zU, zU, zU, zU, zU, zU, zU, zU, zU] [.double (FP.i2d b3), .int 0, .ref ao]
        refine fun T55 X55 eh55 => ?_
        refine own_callV X55 hx hZ hown (hw _ (wm 38 rfl)) (hw _ (wm 39 rfl)) (hw _ (wm 41 rfl)) (hw _ (wm 40 rfl)) (hw _ (wm 3 rfl)) (hw _ (wm 42 rfl)) (by decide) eh55 EXa2 [.int 0, .double (FP.i2d b3)] pd3 rfl (rm := ({ frames := 0, cells := 0, slots := 0, locals := 0 } : Room)) (rm3_n2 l Z a0 hw [] ao el po bo fi en ma we tu sk ss mk ms  0 2 0 [.int 1, .int 2, .int 0] [.int 2, .int 0, .int 1] [.double 0, .double xa1, .double xa2] (FP.i2d b3) b3.toInt T54.heap n0 Za2 EXa2 CH_ PFa2 Bea2 Bpa2 QFa2.1 QFa2.2.1 Ama2 Ata2 Bwa2 rfl rfl rfl (by decide) (by decide) rfl (by decide) (by decide) rfl (by decide) (by decide) (own_D.i2d b3) (by omega)) (by rw [hml]; rfl) 0 rfl (Nat.le_of_eq rfl) (hb hby at_89) (by decide) (by decide) (by decide) (by decide) (fun T56 rv56 Lc56 X56 qc56 => ?_)
        obtain ⟨rfl, Ma3, Ka3, PFa3, Aea3, Apa3, Ama3, Ata3, xa3, hxa3, Awa3⟩ := qc56
        have Bea3 : own_A Z T56.heap el .int [.int 1, .int 2, .int 0] := Aea3
        have Bpa3 : own_A Z T56.heap po .int [.int 2, .int 0, .int 1] := Apa3
        have Bwa3 : own_A Z T56.heap we .double [.double xa3, .double xa1, .double xa2] := Awa3
        have QFa3 := own_QF.keep QFa2 Ka3 CH_ ch_mb (by simp)
        have EXa3 := Exa.keep EXa2 Ka3
        have Na3_ := Fr.app Na2_ Ma3
        have Za3 := Nat.le_trans Za2 Ka3.1
        show own_Go p.tables e below _ (T56.setTop (mkF m 92 (Array.mk [zI s1, zI a1, zI s2, zI a2, zI s3, zI a3, zI 1, zI 2, zI 0, zI b1, zI b2, zI b3, zA ao, zA mb, zU, zU, zU, zU, zU, zU, zU, zU, zU, zU, zU, zU, zU, zU, zU, zU, zU, zU, zU, zU, zU, zU, zU]) []))
        exact tail1_3 X56 hx hby hml hown hlk hret hZ hw rfl Za3 Na3_ _ _ _ _ _ _ 1 2 0 b1 b2 b3 1 2 0 ao el po bo fi en ma we tu sk ss mk ms mb [.int 2, .int 0, .int 1] [.double xa3, .double xa1, .double xa2] xa1 xa2 xa3 b1.toInt b2.toInt b3.toInt EXa3 CH_ ch_mb PFa3 Bea3 Bpa3 rfl Bwa3 QFa3.2.2.2.1 QFa3.2.2.2.2.1 QFa3.2.2.2.2.2.1 QFa3.2.2.2.2.2.2.1 QFa3.1 QFa3.2.1 QFa3.2.2.1 Ama3 Ata3 QFa3.2.2.2.2.2.2.2 (by decide) (by decide) (by decide) (by decide) (by decide) (by decide) (by decide) (by decide) (by decide) rfl hxa1 (by omega) rfl hxa2 (by omega) rfl hxa3 (by omega) bb1 bb2 bb3 (by intro m0 m1 m2 w0 w1 w2 hM hW; unfold own_M at hM; unfold own_Wp own_pq at hW; obtain ⟨⟨q1, q2, q3, u1⟩, ⟨q4, q5, q6, u2⟩, q7, q8, q9, u3⟩ := hW; unfold own_is; refine ⟨by omega, by omega, by omega, by omega, by omega, by omega⟩)
      · skip
        obtain rfl : t3 = (1 : Int32) := Int32.toInt_inj.mp ht
        show own_Go p.tables e below _ (T54.setTop (mkF m 82 (Array.mk [zI s1, zI a1, zI s2, zI a2, zI s3, zI a3, zI 1, zI 2, zI 1, zI b1, zI b2, zI b3, zA ao, zA mb, zU, zU, zU, zU, zU, zU, zU, zU, zU, zU, zU, zU, zU, zU, zU, zU, zU, zU, zU, zU, zU, zU, zU]) []))
        refine own_blk dec0 seq0 hby hx hZ hown hK hF 4 [] [] X54 rfl ?_
        show own_Aft X54 T54.heap _ 89 [zI s1, zI a1, zI s2, zI a2, zI s3, zI a3, zI 1, zI 2, zI 1, zI b1, zI b2, zI b3, zA ao, zA mb, zU, zU, zU, zU, zU, zU, zU, zU, zU, zU, zU, zU, zU, zU, zU, zU, zU, zU, zU, zU, zU, zU, zU] [.double (FP.i2d b3), .int 1, .ref ao]
        refine fun T57 X57 eh57 => ?_
        refine own_callV X57 hx hZ hown (hw _ (wm 38 rfl)) (hw _ (wm 39 rfl)) (hw _ (wm 41 rfl)) (hw _ (wm 40 rfl)) (hw _ (wm 3 rfl)) (hw _ (wm 42 rfl)) (by decide) eh57 EXa2 [.int 1, .double (FP.i2d b3)] pd3 rfl (rm := ({ frames := 0, cells := 0, slots := 0, locals := 0 } : Room)) (rm3_o2 l Z a0 hw [] ao el po bo fi en ma we tu sk ss mk ms  1 0 [.int 2, .int 0, .int 1] [.double 0, .double xa1, .double xa2] (FP.i2d b3) xa1 b3.toInt (b1.toInt) T54.heap n0 Za2 EXa2 CH_ PFa2 Bpa2 QFa2.1 QFa2.2.1 Ama2 Bwa2 rfl (by decide) (by decide) rfl (by decide) rfl hxa1 (by omega) (own_D.i2d b3) (by omega)) (by rw [hml]; rfl) 0 rfl (Nat.le_of_eq rfl) (hb hby at_89) (by decide) (by decide) (by decide) (by decide) (fun T58 rv58 Lc58 X58 qc58 => ?_)
        obtain ⟨rfl, Ma3, Ka3, xa3, hxa3, Awa3⟩ := qc58
        have PFa3 := own_PF.keep PFa2 Ka3 (own_nin (by simp only [own_out, and_true]; omega))
        have Bwa3 : own_A Z T58.heap we .double [.double 0, .double xa3, .double xa2] := Awa3
        have QFa3 := own_QF.keep QFa2 Ka3 CH_ ch_mb (by simp)
        have Bea2a3 := Bea2.keep Ka3 (own_nin (by simp only [own_out, and_true]; omega))
        have Bpa2a3 := Bpa2.keep Ka3 (own_nin (by simp only [own_out, and_true]; omega))
        have Ama2a3 := Ama2.keep Ka3 (own_nin (by simp only [own_out, and_true]; omega))
        have Ata2a3 := Ata2.keep Ka3 (own_nin (by simp only [own_out, and_true]; omega))
        have EXa3 := Exa.keep EXa2 Ka3
        have Na3_ := Fr.app Na2_ Ma3
        have Za3 := Nat.le_trans Za2 Ka3.1
        show own_Go p.tables e below _ (T58.setTop (mkF m 92 (Array.mk [zI s1, zI a1, zI s2, zI a2, zI s3, zI a3, zI 1, zI 2, zI 1, zI b1, zI b2, zI b3, zA ao, zA mb, zU, zU, zU, zU, zU, zU, zU, zU, zU, zU, zU, zU, zU, zU, zU, zU, zU, zU, zU, zU, zU, zU, zU]) []))
        exact tail1_2 X58 hx hby hml hown hlk hret hZ hw rfl Za3 Na3_ _ _ _ _ _ _ 1 2 1 b1 b2 b3 1 2 0 ao el po bo fi en ma we tu sk ss mk ms mb [.int 2, .int 0, .int 1] [.double 0, .double xa3, .double xa2] xa3 xa2 (b1.toInt + b3.toInt) b2.toInt EXa3 CH_ ch_mb PFa3 Bea2a3 Bpa2a3 rfl Bwa3 QFa3.2.2.2.1 QFa3.2.2.2.2.1 QFa3.2.2.2.2.2.1 QFa3.2.2.2.2.2.2.1 QFa3.1 QFa3.2.1 QFa3.2.2.1 Ama2a3 Ata2a3 QFa3.2.2.2.2.2.2.2 (by decide) (by decide) (by decide) (by decide) (by decide) (by decide) (by decide) (by decide) (by decide) rfl hxa3 (by omega) rfl hxa2 (by omega) bb1 bb2 bb3 (by intro m0 m1 m2 w0 w1 w2 hM hW; unfold own_M at hM; unfold own_Wp own_pq at hW; obtain ⟨⟨q1, q2, q3, u1⟩, ⟨q4, q5, q6, u2⟩, q7, q8, q9, u3⟩ := hW; unfold own_is; refine ⟨by omega, by omega, by omega, by omega, by omega⟩)
      · skip
        obtain rfl : t3 = (2 : Int32) := Int32.toInt_inj.mp ht
        show own_Go p.tables e below _ (T54.setTop (mkF m 82 (Array.mk [zI s1, zI a1, zI s2, zI a2, zI s3, zI a3, zI 1, zI 2, zI 2, zI b1, zI b2, zI b3, zA ao, zA mb, zU, zU, zU, zU, zU, zU, zU, zU, zU, zU, zU, zU, zU, zU, zU, zU, zU, zU, zU, zU, zU, zU, zU]) []))
        refine own_blk dec0 seq0 hby hx hZ hown hK hF 4 [] [] X54 rfl ?_
        show own_Aft X54 T54.heap _ 89 [zI s1, zI a1, zI s2, zI a2, zI s3, zI a3, zI 1, zI 2, zI 2, zI b1, zI b2, zI b3, zA ao, zA mb, zU, zU, zU, zU, zU, zU, zU, zU, zU, zU, zU, zU, zU, zU, zU, zU, zU, zU, zU, zU, zU, zU, zU] [.double (FP.i2d b3), .int 2, .ref ao]
        refine fun T59 X59 eh59 => ?_
        refine own_callV X59 hx hZ hown (hw _ (wm 38 rfl)) (hw _ (wm 39 rfl)) (hw _ (wm 41 rfl)) (hw _ (wm 40 rfl)) (hw _ (wm 3 rfl)) (hw _ (wm 42 rfl)) (by decide) eh59 EXa2 [.int 2, .double (FP.i2d b3)] pd3 rfl (rm := ({ frames := 0, cells := 0, slots := 0, locals := 0 } : Room)) (rm3_o2 l Z a0 hw [] ao el po bo fi en ma we tu sk ss mk ms  2 1 [.int 2, .int 0, .int 1] [.double 0, .double xa1, .double xa2] (FP.i2d b3) xa2 b3.toInt (b2.toInt) T54.heap n0 Za2 EXa2 CH_ PFa2 Bpa2 QFa2.1 QFa2.2.1 Ama2 Bwa2 rfl (by decide) (by decide) rfl (by decide) rfl hxa2 (by omega) (own_D.i2d b3) (by omega)) (by rw [hml]; rfl) 0 rfl (Nat.le_of_eq rfl) (hb hby at_89) (by decide) (by decide) (by decide) (by decide) (fun T60 rv60 Lc60 X60 qc60 => ?_)
        obtain ⟨rfl, Ma3, Ka3, xa3, hxa3, Awa3⟩ := qc60
        have PFa3 := own_PF.keep PFa2 Ka3 (own_nin (by simp only [own_out, and_true]; omega))
        have Bwa3 : own_A Z T60.heap we .double [.double 0, .double xa1, .double xa3] := Awa3
        have QFa3 := own_QF.keep QFa2 Ka3 CH_ ch_mb (by simp)
        have Bea2a3 := Bea2.keep Ka3 (own_nin (by simp only [own_out, and_true]; omega))
        have Bpa2a3 := Bpa2.keep Ka3 (own_nin (by simp only [own_out, and_true]; omega))
        have Ama2a3 := Ama2.keep Ka3 (own_nin (by simp only [own_out, and_true]; omega))
        have Ata2a3 := Ata2.keep Ka3 (own_nin (by simp only [own_out, and_true]; omega))
        have EXa3 := Exa.keep EXa2 Ka3
        have Na3_ := Fr.app Na2_ Ma3
        have Za3 := Nat.le_trans Za2 Ka3.1
        show own_Go p.tables e below _ (T60.setTop (mkF m 92 (Array.mk [zI s1, zI a1, zI s2, zI a2, zI s3, zI a3, zI 1, zI 2, zI 2, zI b1, zI b2, zI b3, zA ao, zA mb, zU, zU, zU, zU, zU, zU, zU, zU, zU, zU, zU, zU, zU, zU, zU, zU, zU, zU, zU, zU, zU, zU, zU]) []))
        exact tail1_2 X60 hx hby hml hown hlk hret hZ hw rfl Za3 Na3_ _ _ _ _ _ _ 1 2 2 b1 b2 b3 1 2 0 ao el po bo fi en ma we tu sk ss mk ms mb [.int 2, .int 0, .int 1] [.double 0, .double xa1, .double xa3] xa1 xa3 b1.toInt (b2.toInt + b3.toInt) EXa3 CH_ ch_mb PFa3 Bea2a3 Bpa2a3 rfl Bwa3 QFa3.2.2.2.1 QFa3.2.2.2.2.1 QFa3.2.2.2.2.2.1 QFa3.2.2.2.2.2.2.1 QFa3.1 QFa3.2.1 QFa3.2.2.1 Ama2a3 Ata2a3 QFa3.2.2.2.2.2.2.2 (by decide) (by decide) (by decide) (by decide) (by decide) (by decide) (by decide) (by decide) (by decide) rfl hxa1 (by omega) rfl hxa3 (by omega) bb1 bb2 bb3 (by intro m0 m1 m2 w0 w1 w2 hM hW; unfold own_M at hM; unfold own_Wp own_pq at hW; obtain ⟨⟨q1, q2, q3, u1⟩, ⟨q4, q5, q6, u2⟩, q7, q8, q9, u3⟩ := hW; unfold own_is; refine ⟨by omega, by omega, by omega, by omega, by omega⟩)
  · skip
    obtain rfl : t1 = (2 : Int32) := Int32.toInt_inj.mp ht
    show own_Go p.tables e below _ (T8.setTop (mkF m 62 (Array.mk [zI s1, zI a1, zI s2, zI a2, zI s3, zI a3, zI 2, zI t2, zI t3, zI b1, zI b2, zI b3, zA ao, zA mb, zU, zU, zU, zU, zU, zU, zU, zU, zU, zU, zU, zU, zU, zU, zU, zU, zU, zU, zU, zU, zU, zU, zU]) []))
    refine own_blk dec0 seq0 hby hx hZ hown hK hF 4 [] [] X8 eh8 ?_
    show own_Aft X8 hp7 _ 69 [zI s1, zI a1, zI s2, zI a2, zI s3, zI a3, zI 2, zI t2, zI t3, zI b1, zI b2, zI b3, zA ao, zA mb, zU, zU, zU, zU, zU, zU, zU, zU, zU, zU, zU, zU, zU, zU, zU, zU, zU, zU, zU, zU, zU, zU, zU] [.double (FP.i2d b1), .int 2, .ref ao]
    refine fun T61 X61 eh61 => ?_
    refine own_callV X61 hx hZ hown (hw _ (wm 38 rfl)) (hw _ (wm 39 rfl)) (hw _ (wm 41 rfl)) (hw _ (wm 40 rfl)) (hw _ (wm 3 rfl)) (hw _ (wm 42 rfl)) (by decide) eh61 EX_7 [.int 2, .double (FP.i2d b1)] pd3 rfl (rm := ({ frames := 0, cells := 0, slots := 0, locals := 0 } : Room)) (rm3_n0 l Z a0 hw [] ao el po bo fi en ma we tu sk ss mk ms  2 2 0 [.int 0, .int 1, .int 2] [.int 0, .int 1, .int 2] [.double 0, .double 0, .double 0] (FP.i2d b1) b1.toInt hp7 n0 Z_7 EX_7 CH_ PF_7 A_el_7 A_po_7 QF.1 QF.2.1 A_ma_7 A_tu_7 A_we_7 rfl rfl rfl (by decide) (by decide) rfl (by decide) (by decide) rfl (by decide) (by decide) (own_D.i2d b1) (by omega)) (by rw [hml]; rfl) 0 rfl (Nat.le_of_eq rfl) (hb hby at_69) (by decide) (by decide) (by decide) (by decide) (fun T62 rv62 Lc62 X62 qc62 => ?_)
    obtain ⟨rfl, Ma1, Ka1, PFa1, Aea1, Apa1, Ama1, Ata1, xa1, hxa1, Awa1⟩ := qc62
    have Bea1 : own_A Z T62.heap el .int [.int 2, .int 1, .int 0] := Aea1
    have Bpa1 : own_A Z T62.heap po .int [.int 2, .int 1, .int 0] := Apa1
    have Bwa1 : own_A Z T62.heap we .double [.double 0, .double 0, .double xa1] := Awa1
    have QFa1 := own_QF.keep QF Ka1 CH_ ch_mb (by simp)
    have EXa1 := Exa.keep EX_7 Ka1
    have Na1_ := Fr.app N1_ Ma1
    have Za1 := Nat.le_trans Z_7 Ka1.1
    show own_Go p.tables e below _ (T62.setTop (mkF m 72 (Array.mk [zI s1, zI a1, zI s2, zI a2, zI s3, zI a3, zI 2, zI t2, zI t3, zI b1, zI b2, zI b3, zA ao, zA mb, zU, zU, zU, zU, zU, zU, zU, zU, zU, zU, zU, zU, zU, zU, zU, zU, zU, zU, zU, zU, zU, zU, zU]) []))
    obtain ht | ht | ht : t2.toInt = (0 : Int) ∨ t2.toInt = (1 : Int) ∨ t2.toInt = (2 : Int) := by omega
    · skip
      obtain rfl : t2 = (0 : Int32) := Int32.toInt_inj.mp ht
      show own_Go p.tables e below _ (T62.setTop (mkF m 72 (Array.mk [zI s1, zI a1, zI s2, zI a2, zI s3, zI a3, zI 2, zI 0, zI t3, zI b1, zI b2, zI b3, zA ao, zA mb, zU, zU, zU, zU, zU, zU, zU, zU, zU, zU, zU, zU, zU, zU, zU, zU, zU, zU, zU, zU, zU, zU, zU]) []))
      refine own_blk dec0 seq0 hby hx hZ hown hK hF 4 [] [] X62 rfl ?_
      show own_Aft X62 T62.heap _ 79 [zI s1, zI a1, zI s2, zI a2, zI s3, zI a3, zI 2, zI 0, zI t3, zI b1, zI b2, zI b3, zA ao, zA mb, zU, zU, zU, zU, zU, zU, zU, zU, zU, zU, zU, zU, zU, zU, zU, zU, zU, zU, zU, zU, zU, zU, zU] [.double (FP.i2d b2), .int 0, .ref ao]
      refine fun T63 X63 eh63 => ?_
      refine own_callV X63 hx hZ hown (hw _ (wm 38 rfl)) (hw _ (wm 39 rfl)) (hw _ (wm 41 rfl)) (hw _ (wm 40 rfl)) (hw _ (wm 3 rfl)) (hw _ (wm 42 rfl)) (by decide) eh63 EXa1 [.int 0, .double (FP.i2d b2)] pd3 rfl (rm := ({ frames := 0, cells := 0, slots := 0, locals := 0 } : Room)) (rm3_n1 l Z a0 hw [] ao el po bo fi en ma we tu sk ss mk ms  0 2 1 [.int 2, .int 1, .int 0] [.int 2, .int 1, .int 0] [.double 0, .double 0, .double xa1] (FP.i2d b2) b2.toInt T62.heap n0 Za1 EXa1 CH_ PFa1 Bea1 Bpa1 QFa1.1 QFa1.2.1 Ama1 Ata1 Bwa1 rfl rfl rfl (by decide) (by decide) rfl (by decide) (by decide) rfl (by decide) (by decide) (own_D.i2d b2) (by omega)) (by rw [hml]; rfl) 0 rfl (Nat.le_of_eq rfl) (hb hby at_79) (by decide) (by decide) (by decide) (by decide) (fun T64 rv64 Lc64 X64 qc64 => ?_)
      obtain ⟨rfl, Ma2, Ka2, PFa2, Aea2, Apa2, Ama2, Ata2, xa2, hxa2, Awa2⟩ := qc64
      have Bea2 : own_A Z T64.heap el .int [.int 2, .int 0, .int 1] := Aea2
      have Bpa2 : own_A Z T64.heap po .int [.int 1, .int 2, .int 0] := Apa2
      have Bwa2 : own_A Z T64.heap we .double [.double xa2, .double 0, .double xa1] := Awa2
      have QFa2 := own_QF.keep QFa1 Ka2 CH_ ch_mb (by simp)
      have EXa2 := Exa.keep EXa1 Ka2
      have Na2_ := Fr.app Na1_ Ma2
      have Za2 := Nat.le_trans Za1 Ka2.1
      show own_Go p.tables e below _ (T64.setTop (mkF m 82 (Array.mk [zI s1, zI a1, zI s2, zI a2, zI s3, zI a3, zI 2, zI 0, zI t3, zI b1, zI b2, zI b3, zA ao, zA mb, zU, zU, zU, zU, zU, zU, zU, zU, zU, zU, zU, zU, zU, zU, zU, zU, zU, zU, zU, zU, zU, zU, zU]) []))
      obtain ht | ht | ht : t3.toInt = (0 : Int) ∨ t3.toInt = (1 : Int) ∨ t3.toInt = (2 : Int) := by omega
      · skip
        obtain rfl : t3 = (0 : Int32) := Int32.toInt_inj.mp ht
        show own_Go p.tables e below _ (T64.setTop (mkF m 82 (Array.mk [zI s1, zI a1, zI s2, zI a2, zI s3, zI a3, zI 2, zI 0, zI 0, zI b1, zI b2, zI b3, zA ao, zA mb, zU, zU, zU, zU, zU, zU, zU, zU, zU, zU, zU, zU, zU, zU, zU, zU, zU, zU, zU, zU, zU, zU, zU]) []))
        refine own_blk dec0 seq0 hby hx hZ hown hK hF 4 [] [] X64 rfl ?_
        show own_Aft X64 T64.heap _ 89 [zI s1, zI a1, zI s2, zI a2, zI s3, zI a3, zI 2, zI 0, zI 0, zI b1, zI b2, zI b3, zA ao, zA mb, zU, zU, zU, zU, zU, zU, zU, zU, zU, zU, zU, zU, zU, zU, zU, zU, zU, zU, zU, zU, zU, zU, zU] [.double (FP.i2d b3), .int 0, .ref ao]
        refine fun T65 X65 eh65 => ?_
        refine own_callV X65 hx hZ hown (hw _ (wm 38 rfl)) (hw _ (wm 39 rfl)) (hw _ (wm 41 rfl)) (hw _ (wm 40 rfl)) (hw _ (wm 3 rfl)) (hw _ (wm 42 rfl)) (by decide) eh65 EXa2 [.int 0, .double (FP.i2d b3)] pd3 rfl (rm := ({ frames := 0, cells := 0, slots := 0, locals := 0 } : Room)) (rm3_o2 l Z a0 hw [] ao el po bo fi en ma we tu sk ss mk ms  0 1 [.int 1, .int 2, .int 0] [.double xa2, .double 0, .double xa1] (FP.i2d b3) xa2 b3.toInt (b2.toInt) T64.heap n0 Za2 EXa2 CH_ PFa2 Bpa2 QFa2.1 QFa2.2.1 Ama2 Bwa2 rfl (by decide) (by decide) rfl (by decide) rfl hxa2 (by omega) (own_D.i2d b3) (by omega)) (by rw [hml]; rfl) 0 rfl (Nat.le_of_eq rfl) (hb hby at_89) (by decide) (by decide) (by decide) (by decide) (fun T66 rv66 Lc66 X66 qc66 => ?_)
        obtain ⟨rfl, Ma3, Ka3, xa3, hxa3, Awa3⟩ := qc66
        have PFa3 := own_PF.keep PFa2 Ka3 (own_nin (by simp only [own_out, and_true]; omega))
        have Bwa3 : own_A Z T66.heap we .double [.double xa3, .double 0, .double xa1] := Awa3
        have QFa3 := own_QF.keep QFa2 Ka3 CH_ ch_mb (by simp)
        have Bea2a3 := Bea2.keep Ka3 (own_nin (by simp only [own_out, and_true]; omega))
        have Bpa2a3 := Bpa2.keep Ka3 (own_nin (by simp only [own_out, and_true]; omega))
        have Ama2a3 := Ama2.keep Ka3 (own_nin (by simp only [own_out, and_true]; omega))
        have Ata2a3 := Ata2.keep Ka3 (own_nin (by simp only [own_out, and_true]; omega))
        have EXa3 := Exa.keep EXa2 Ka3
        have Na3_ := Fr.app Na2_ Ma3
        have Za3 := Nat.le_trans Za2 Ka3.1
        show own_Go p.tables e below _ (T66.setTop (mkF m 92 (Array.mk [zI s1, zI a1, zI s2, zI a2, zI s3, zI a3, zI 2, zI 0, zI 0, zI b1, zI b2, zI b3, zA ao, zA mb, zU, zU, zU, zU, zU, zU, zU, zU, zU, zU, zU, zU, zU, zU, zU, zU, zU, zU, zU, zU, zU, zU, zU]) []))
        exact tail1_2 X66 hx hby hml hown hlk hret hZ hw rfl Za3 Na3_ _ _ _ _ _ _ 2 0 0 b1 b2 b3 2 0 1 ao el po bo fi en ma we tu sk ss mk ms mb [.int 1, .int 2, .int 0] [.double xa3, .double 0, .double xa1] xa1 xa3 b1.toInt (b2.toInt + b3.toInt) EXa3 CH_ ch_mb PFa3 Bea2a3 Bpa2a3 rfl Bwa3 QFa3.2.2.2.1 QFa3.2.2.2.2.1 QFa3.2.2.2.2.2.1 QFa3.2.2.2.2.2.2.1 QFa3.1 QFa3.2.1 QFa3.2.2.1 Ama2a3 Ata2a3 QFa3.2.2.2.2.2.2.2 (by decide) (by decide) (by decide) (by decide) (by decide) (by decide) (by decide) (by decide) (by decide) rfl hxa1 (by omega) rfl hxa3 (by omega) bb1 bb2 bb3 (by intro m0 m1 m2 w0 w1 w2 hM hW; unfold own_M at hM; unfold own_Wp own_pq at hW; obtain ⟨⟨q1, q2, q3, u1⟩, ⟨q4, q5, q6, u2⟩, q7, q8, q9, u3⟩ := hW; unfold own_is; refine ⟨by omega, by omega, by omega, by omega, by omega⟩)
      · skip
        obtain rfl : t3 = (1 : Int32) := Int32.toInt_inj.mp ht
        show own_Go p.tables e below _ (T64.setTop (mkF m 82 (Array.mk [zI s1, zI a1, zI s2, zI a2, zI s3, zI a3, zI 2, zI 0, zI 1, zI b1, zI b2, zI b3, zA ao, zA mb, zU, zU, zU, zU, zU, zU, zU, zU, zU, zU, zU, zU, zU, zU, zU, zU, zU, zU, zU, zU, zU, zU, zU]) []))
        refine own_blk dec0 seq0 hby hx hZ hown hK hF 4 [] [] X64 rfl ?_
        show own_Aft X64 T64.heap _ 89 [zI s1, zI a1, zI s2, zI a2, zI s3, zI a3, zI 2, zI 0, zI 1, zI b1, zI b2, zI b3, zA ao, zA mb, zU, zU, zU, zU, zU, zU, zU, zU, zU, zU, zU, zU, zU, zU, zU, zU, zU, zU, zU, zU, zU, zU, zU] [.double (FP.i2d b3), .int 1, .ref ao]
        refine fun T67 X67 eh67 => ?_
        refine own_callV X67 hx hZ hown (hw _ (wm 38 rfl)) (hw _ (wm 39 rfl)) (hw _ (wm 41 rfl)) (hw _ (wm 40 rfl)) (hw _ (wm 3 rfl)) (hw _ (wm 42 rfl)) (by decide) eh67 EXa2 [.int 1, .double (FP.i2d b3)] pd3 rfl (rm := ({ frames := 0, cells := 0, slots := 0, locals := 0 } : Room)) (rm3_n2 l Z a0 hw [] ao el po bo fi en ma we tu sk ss mk ms  1 2 1 [.int 2, .int 0, .int 1] [.int 1, .int 2, .int 0] [.double xa2, .double 0, .double xa1] (FP.i2d b3) b3.toInt T64.heap n0 Za2 EXa2 CH_ PFa2 Bea2 Bpa2 QFa2.1 QFa2.2.1 Ama2 Ata2 Bwa2 rfl rfl rfl (by decide) (by decide) rfl (by decide) (by decide) rfl (by decide) (by decide) (own_D.i2d b3) (by omega)) (by rw [hml]; rfl) 0 rfl (Nat.le_of_eq rfl) (hb hby at_89) (by decide) (by decide) (by decide) (by decide) (fun T68 rv68 Lc68 X68 qc68 => ?_)
        obtain ⟨rfl, Ma3, Ka3, PFa3, Aea3, Apa3, Ama3, Ata3, xa3, hxa3, Awa3⟩ := qc68
        have Bea3 : own_A Z T68.heap el .int [.int 2, .int 0, .int 1] := Aea3
        have Bpa3 : own_A Z T68.heap po .int [.int 1, .int 2, .int 0] := Apa3
        have Bwa3 : own_A Z T68.heap we .double [.double xa2, .double xa3, .double xa1] := Awa3
        have QFa3 := own_QF.keep QFa2 Ka3 CH_ ch_mb (by simp)
        have EXa3 := Exa.keep EXa2 Ka3
        have Na3_ := Fr.app Na2_ Ma3
        have Za3 := Nat.le_trans Za2 Ka3.1
        show own_Go p.tables e below _ (T68.setTop (mkF m 92 (Array.mk [zI s1, zI a1, zI s2, zI a2, zI s3, zI a3, zI 2, zI 0, zI 1, zI b1, zI b2, zI b3, zA ao, zA mb, zU, zU, zU, zU, zU, zU, zU, zU, zU, zU, zU, zU, zU, zU, zU, zU, zU, zU, zU, zU, zU, zU, zU]) []))
        exact tail1_3 X68 hx hby hml hown hlk hret hZ hw rfl Za3 Na3_ _ _ _ _ _ _ 2 0 1 b1 b2 b3 2 0 1 ao el po bo fi en ma we tu sk ss mk ms mb [.int 1, .int 2, .int 0] [.double xa2, .double xa3, .double xa1] xa1 xa2 xa3 b1.toInt b2.toInt b3.toInt EXa3 CH_ ch_mb PFa3 Bea3 Bpa3 rfl Bwa3 QFa3.2.2.2.1 QFa3.2.2.2.2.1 QFa3.2.2.2.2.2.1 QFa3.2.2.2.2.2.2.1 QFa3.1 QFa3.2.1 QFa3.2.2.1 Ama3 Ata3 QFa3.2.2.2.2.2.2.2 (by decide) (by decide) (by decide) (by decide) (by decide) (by decide) (by decide) (by decide) (by decide) rfl hxa1 (by omega) rfl hxa2 (by omega) rfl hxa3 (by omega) bb1 bb2 bb3 (by intro m0 m1 m2 w0 w1 w2 hM hW; unfold own_M at hM; unfold own_Wp own_pq at hW; obtain ⟨⟨q1, q2, q3, u1⟩, ⟨q4, q5, q6, u2⟩, q7, q8, q9, u3⟩ := hW; unfold own_is; refine ⟨by omega, by omega, by omega, by omega, by omega, by omega⟩)
      · skip
        obtain rfl : t3 = (2 : Int32) := Int32.toInt_inj.mp ht
        show own_Go p.tables e below _ (T64.setTop (mkF m 82 (Array.mk [zI s1, zI a1, zI s2, zI a2, zI s3, zI a3, zI 2, zI 0, zI 2, zI b1, zI b2, zI b3, zA ao, zA mb, zU, zU, zU, zU, zU, zU, zU, zU, zU, zU, zU, zU, zU, zU, zU, zU, zU, zU, zU, zU, zU, zU, zU]) []))
        refine own_blk dec0 seq0 hby hx hZ hown hK hF 4 [] [] X64 rfl ?_
        show own_Aft X64 T64.heap _ 89 [zI s1, zI a1, zI s2, zI a2, zI s3, zI a3, zI 2, zI 0, zI 2, zI b1, zI b2, zI b3, zA ao, zA mb, zU, zU, zU, zU, zU, zU, zU, zU, zU, zU, zU, zU, zU, zU, zU, zU, zU, zU, zU, zU, zU, zU, zU] [.double (FP.i2d b3), .int 2, .ref ao]
        refine fun T69 X69 eh69 => ?_
        refine own_callV X69 hx hZ hown (hw _ (wm 38 rfl)) (hw _ (wm 39 rfl)) (hw _ (wm 41 rfl)) (hw _ (wm 40 rfl)) (hw _ (wm 3 rfl)) (hw _ (wm 42 rfl)) (by decide) eh69 EXa2 [.int 2, .double (FP.i2d b3)] pd3 rfl (rm := ({ frames := 0, cells := 0, slots := 0, locals := 0 } : Room)) (rm3_o2 l Z a0 hw [] ao el po bo fi en ma we tu sk ss mk ms  2 0 [.int 1, .int 2, .int 0] [.double xa2, .double 0, .double xa1] (FP.i2d b3) xa1 b3.toInt (b1.toInt) T64.heap n0 Za2 EXa2 CH_ PFa2 Bpa2 QFa2.1 QFa2.2.1 Ama2 Bwa2 rfl (by decide) (by decide) rfl (by decide) rfl hxa1 (by omega) (own_D.i2d b3) (by omega)) (by rw [hml]; rfl) 0 rfl (Nat.le_of_eq rfl) (hb hby at_89) (by decide) (by decide) (by decide) (by decide) (fun T70 rv70 Lc70 X70 qc70 => ?_)
        obtain ⟨rfl, Ma3, Ka3, xa3, hxa3, Awa3⟩ := qc70
        have PFa3 := own_PF.keep PFa2 Ka3 (own_nin (by simp only [own_out, and_true]; omega))
        have Bwa3 : own_A Z T70.heap we .double [.double xa2, .double 0, .double xa3] := Awa3
        have QFa3 := own_QF.keep QFa2 Ka3 CH_ ch_mb (by simp)
        have Bea2a3 := Bea2.keep Ka3 (own_nin (by simp only [own_out, and_true]; omega))
        have Bpa2a3 := Bpa2.keep Ka3 (own_nin (by simp only [own_out, and_true]; omega))
        have Ama2a3 := Ama2.keep Ka3 (own_nin (by simp only [own_out, and_true]; omega))
        have Ata2a3 := Ata2.keep Ka3 (own_nin (by simp only [own_out, and_true]; omega))
        have EXa3 := Exa.keep EXa2 Ka3
        have Na3_ := Fr.app Na2_ Ma3
        have Za3 := Nat.le_trans Za2 Ka3.1
        show own_Go p.tables e below _ (T70.setTop (mkF m 92 (Array.mk [zI s1, zI a1, zI s2, zI a2, zI s3, zI a3, zI 2, zI 0, zI 2, zI b1, zI b2, zI b3, zA ao, zA mb, zU, zU, zU, zU, zU, zU, zU, zU, zU, zU, zU, zU, zU, zU, zU, zU, zU, zU, zU, zU, zU, zU, zU]) []))
        exact tail1_2 X70 hx hby hml hown hlk hret hZ hw rfl Za3 Na3_ _ _ _ _ _ _ 2 0 2 b1 b2 b3 2 0 1 ao el po bo fi en ma we tu sk ss mk ms mb [.int 1, .int 2, .int 0] [.double xa2, .double 0, .double xa3] xa3 xa2 (b1.toInt + b3.toInt) b2.toInt EXa3 CH_ ch_mb PFa3 Bea2a3 Bpa2a3 rfl Bwa3 QFa3.2.2.2.1 QFa3.2.2.2.2.1 QFa3.2.2.2.2.2.1 QFa3.2.2.2.2.2.2.1 QFa3.1 QFa3.2.1 QFa3.2.2.1 Ama2a3 Ata2a3 QFa3.2.2.2.2.2.2.2 (by decide) (by decide) (by decide) (by decide) (by decide) (by decide) (by decide) (by decide) (by decide) rfl hxa3 (by omega) rfl hxa2 (by omega) bb1 bb2 bb3 (by intro m0 m1 m2 w0 w1 w2 hM hW; unfold own_M at hM; unfold own_Wp own_pq at hW; obtain ⟨⟨q1, q2, q3, u1⟩, ⟨q4, q5, q6, u2⟩, q7, q8, q9, u3⟩ := hW; unfold own_is; refine ⟨by omega, by omega, by omega, by omega, by omega⟩)
    · skip
      obtain rfl : t2 = (1 : Int32) := Int32.toInt_inj.mp ht
      show own_Go p.tables e below _ (T62.setTop (mkF m 72 (Array.mk [zI s1, zI a1, zI s2, zI a2, zI s3, zI a3, zI 2, zI 1, zI t3, zI b1, zI b2, zI b3, zA ao, zA mb, zU, zU, zU, zU, zU, zU, zU, zU, zU, zU, zU, zU, zU, zU, zU, zU, zU, zU, zU, zU, zU, zU, zU]) []))
      refine own_blk dec0 seq0 hby hx hZ hown hK hF 4 [] [] X62 rfl ?_
      show own_Aft X62 T62.heap _ 79 [zI s1, zI a1, zI s2, zI a2, zI s3, zI a3, zI 2, zI 1, zI t3, zI b1, zI b2, zI b3, zA ao, zA mb, zU, zU, zU, zU, zU, zU, zU, zU, zU, zU, zU, zU, zU, zU, zU, zU, zU, zU, zU, zU, zU, zU, zU] [.double (FP.i2d b2), .int 1, .ref ao]
      refine fun T71 X71 eh71 => ?_
      refine own_callV X71 hx hZ hown (hw _ (wm 38 rfl)) (hw _ (wm 39 rfl)) (hw _ (wm 41 rfl)) (hw _ (wm 40 rfl)) (hw _ (wm 3 rfl)) (hw _ (wm 42 rfl)) (by decide) eh71 EXa1 [.int 1, .double (FP.i2d b2)] pd3 rfl (rm := ({ frames := 0, cells := 0, slots := 0, locals := 0 } : Room)) (rm3_n1 l Z a0 hw [] ao el po bo fi en ma we tu sk ss mk ms  1 1 1 [.int 2, .int 1, .int 0] [.int 2, .int 1, .int 0] [.double 0, .double 0, .double xa1] (FP.i2d b2) b2.toInt T62.heap n0 Za1 EXa1 CH_ PFa1 Bea1 Bpa1 QFa1.1 QFa1.2.1 Ama1 Ata1 Bwa1 rfl rfl rfl (by decide) (by decide) rfl (by decide) (by decide) rfl (by decide) (by decide) (own_D.i2d b2) (by omega)) (by rw [hml]; rfl) 0 rfl (Nat.le_of_eq rfl) (hb hby at_79) (by decide) (by decide) (by decide) (by decide) (fun T72 rv72 Lc72 X72 qc72 => ?_)
      obtain ⟨rfl, Ma2, Ka2, PFa2, Aea2, Apa2, Ama2, Ata2, xa2, hxa2, Awa2⟩ := qc72
      have Bea2 : own_A Z T72.heap el .int [.int 2, .int 1, .int 0] := Aea2
      have Bpa2 : own_A Z T72.heap po .int [.int 2, .int 1, .int 0] := Apa2
      have Bwa2 : own_A Z T72.heap we .double [.double 0, .double xa2, .double xa1] := Awa2
      have QFa2 := own_QF.keep QFa1 Ka2 CH_ ch_mb (by simp)
      have EXa2 := Exa.keep EXa1 Ka2
      have Na2_ := Fr.app Na1_ Ma2
      have Za2 := Nat.le_trans Za1 Ka2.1
      show own_Go p.tables e below _ (T72.setTop (mkF m 82 (Array.mk [zI s1, zI a1, zI s2, zI a2, zI s3, zI a3, zI 2, zI 1, zI t3, zI b1, zI b2, zI b3, zA ao, zA mb, zU, zU, zU, zU, zU, zU, zU, zU, zU, zU, zU, zU, zU, zU, zU, zU, zU, zU, zU, zU, zU, zU, zU]) []))
      obtain ht | ht | ht : t3.toInt = (0 : Int) ∨ t3.toInt = (1 : Int) ∨ t3.toInt = (2 : Int) := by omega
      · skip
        obtain rfl : t3 = (0 : Int32) := Int32.toInt_inj.mp ht
        show own_Go p.tables e below _ (T72.setTop (mkF m 82 (Array.mk [zI s1, zI a1, zI s2, zI a2, zI s3, zI a3, zI 2, zI 1, zI 0, zI b1, zI b2, zI b3, zA ao, zA mb, zU, zU, zU, zU, zU, zU, zU, zU, zU, zU, zU, zU, zU, zU, zU, zU, zU, zU, zU, zU, zU, zU, zU]) []))
        refine own_blk dec0 seq0 hby hx hZ hown hK hF 4 [] [] X72 rfl ?_
        show own_Aft X72 T72.heap _ 89 [zI s1, zI a1, zI s2, zI a2, zI s3, zI a3, zI 2, zI 1, zI 0, zI b1, zI b2, zI b3, zA ao, zA mb, zU, zU, zU, zU, zU, zU, zU, zU, zU, zU, zU, zU, zU, zU, zU, zU, zU, zU, zU, zU, zU, zU, zU] [.double (FP.i2d b3), .int 0, .ref ao]
        refine fun T73 X73 eh73 => ?_
        refine own_callV X73 hx hZ hown (hw _ (wm 38 rfl)) (hw _ (wm 39 rfl)) (hw _ (wm 41 rfl)) (hw _ (wm 40 rfl)) (hw _ (wm 3 rfl)) (hw _ (wm 42 rfl)) (by decide) eh73 EXa2 [.int 0, .double (FP.i2d b3)] pd3 rfl (rm := ({ frames := 0, cells := 0, slots := 0, locals := 0 } : Room)) (rm3_n2 l Z a0 hw [] ao el po bo fi en ma we tu sk ss mk ms  0 2 0 [.int 2, .int 1, .int 0] [.int 2, .int 1, .int 0] [.double 0, .double xa2, .double xa1] (FP.i2d b3) b3.toInt T72.heap n0 Za2 EXa2 CH_ PFa2 Bea2 Bpa2 QFa2.1 QFa2.2.1 Ama2 Ata2 Bwa2 rfl rfl rfl (by decide) (by decide) rfl (by decide) (by decide) rfl (by decide) (by decide) (own_D.i2d b3) (by omega)) (by rw [hml]; rfl) 0 rfl (Nat.le_of_eq rfl) (hb hby at_89) (by decide) (by decide) (by decide) (by decide) (fun T74 rv74 Lc74 X74 qc74 => ?_)
        obtain ⟨rfl, Ma3, Ka3, PFa3, Aea3, Apa3, Ama3, Ata3, xa3, hxa3, Awa3⟩ := qc74
        have Bea3 : own_A Z T74.heap el .int [.int 2, .int 1, .int 0] := Aea3
        have Bpa3 : own_A Z T74.heap po .int [.int 2, .int 1, .int 0] := Apa3
        have Bwa3 : own_A Z T74.heap we .double [.double xa3, .double xa2, .double xa1] := Awa3
        have QFa3 := own_QF.keep QFa2 Ka3 CH_ ch_mb (by simp)
        have EXa3 := Exa.keep EXa2 Ka3
        have Na3_ := Fr.app Na2_ Ma3
        have Za3 := Nat.le_trans Za2 Ka3.1
        show own_Go p.tables e below _ (T74.setTop (mkF m 92 (Array.mk [zI s1, zI a1, zI s2, zI a2, zI s3, zI a3, zI 2, zI 1, zI 0, zI b1, zI b2, zI b3, zA ao, zA mb, zU, zU, zU, zU, zU, zU, zU, zU, zU, zU, zU, zU, zU, zU, zU, zU, zU, zU, zU, zU, zU, zU, zU]) []))
        exact tail1_3 X74 hx hby hml hown hlk hret hZ hw rfl Za3 Na3_ _ _ _ _ _ _ 2 1 0 b1 b2 b3 2 1 0 ao el po bo fi en ma we tu sk ss mk ms mb [.int 2, .int 1, .int 0] [.double xa3, .double xa2, .double xa1] xa1 xa2 xa3 b1.toInt b2.toInt b3.toInt EXa3 CH_ ch_mb PFa3 Bea3 Bpa3 rfl Bwa3 QFa3.2.2.2.1 QFa3.2.2.2.2.1 QFa3.2.2.2.2.2.1 QFa3.2.2.2.2.2.2.1 QFa3.1 QFa3.2.1 QFa3.2.2.1 Ama3 Ata3 QFa3.2.2.2.2.2.2.2 (by decide) (by decide) (by decide) (by decide) (by decide) (by decide) (by decide) (by decide) (by decide) rfl hxa1 (by omega) rfl hxa2 (by omega) rfl hxa3 (by omega) bb1 bb2 bb3 (by intro m0 m1 m2 w0 w1 w2 hM hW; unfold own_M at hM; unfold own_Wp own_pq at hW; obtain ⟨⟨q1, q2, q3, u1⟩, ⟨q4, q5, q6, u2⟩, q7, q8, q9, u3⟩ := hW; unfold own_is; refine ⟨by omega, by omega, by omega, by omega, by omega, by omega⟩)
      · skip
        obtain rfl : t3 = (1 : Int32) := Int32.toInt_inj.mp ht
        show own_Go p.tables e below _ (T72.setTop (mkF m 82 (Array.mk [zI s1, zI a1, zI s2, zI a2, zI s3, zI a3, zI 2, zI 1, zI 1, zI b1, zI b2, zI b3, zA ao, zA mb, zU, zU, zU, zU, zU, zU, zU, zU, zU, zU, zU, zU, zU, zU, zU, zU, zU, zU, zU, zU, zU, zU, zU]) []))
        refine own_blk dec0 seq0 hby hx hZ hown hK hF 4 [] [] X72 rfl ?_
        show own_Aft X72 T72.heap _ 89 [zI s1, zI a1, zI s2, zI a2, zI s3, zI a3, zI 2, zI 1, zI 1, zI b1, zI b2, zI b3, zA ao, zA mb, zU, zU, zU, zU, zU, zU, zU, zU, zU, zU, zU, zU, zU, zU, zU, zU, zU, zU, zU, zU, zU, zU, zU] [.double (FP.i2d b3), .int 1, .ref ao]
        refine fun T75 X75 eh75 => ?_
        refine own_callV X75 hx hZ hown (hw _ (wm 38 rfl)) (hw _ (wm 39 rfl)) (hw _ (wm 41 rfl)) (hw _ (wm 40 rfl)) (hw _ (wm 3 rfl)) (hw _ (wm 42 rfl)) (by decide) eh75 EXa2 [.int 1, .double (FP.i2d b3)] pd3 rfl (rm := ({ frames := 0, cells := 0, slots := 0, locals := 0 } : Room)) (rm3_o2 l Z a0 hw [] ao el po bo fi en ma we tu sk ss mk ms  1 1 [.int 2, .int 1, .int 0] [.double 0, .double xa2, .double xa1] (FP.i2d b3) xa2 b3.toInt (b2.toInt) T72.heap n0 Za2 EXa2 CH_ PFa2 Bpa2 QFa2.1 QFa2.2.1 Ama2 Bwa2 rfl (by decide) (by decide) rfl (by decide) rfl hxa2 (by omega) (own_D.i2d b3) (by omega)) (by rw [hml]; rfl) 0 rfl (Nat.le_of_eq rfl) (hb hby at_89) (by decide) (by decide) (by decide) (by decide) (fun T76 rv76 Lc76 X76 qc76 => ?_)
        obtain ⟨rfl, Ma3, Ka3, xa3, hxa3, Awa3⟩ := qc76
        have PFa3 := own_PF.keep PFa2 Ka3 (own_nin (by simp only [own_out, and_true]; omega))
        have Bwa3 : own_A Z T76.heap we .double [.double 0, .double xa3, .double xa1] := Awa3
        have QFa3 := own_QF.keep QFa2 Ka3 CH_ ch_mb (by simp)
        have Bea2a3 := Bea2.keep Ka3 (own_nin (by simp only [own_out, and_true]; omega))
        have Bpa2a3 := Bpa2.keep Ka3 (own_nin (by simp only [own_out, and_true]; omega))
        have Ama2a3 := Ama2.keep Ka3 (own_nin (by simp only [own_out, and_true]; omega))
        have Ata2a3 := Ata2.keep Ka3 (own_nin (by simp only [own_out, and_true]; omega))
        have EXa3 := Exa.keep EXa2 Ka3
        have Na3_ := Fr.app Na2_ Ma3
        have Za3 := Nat.le_trans Za2 Ka3.1
        show own_Go p.tables e below _ (T76.setTop (mkF m 92 (Array.mk [zI s1, zI a1, zI s2, zI a2, zI s3, zI a3, zI 2, zI 1, zI 1, zI b1, zI b2, zI b3, zA ao, zA mb, zU, zU, zU, zU, zU, zU, zU, zU, zU, zU, zU, zU, zU, zU, zU, zU, zU, zU, zU, zU, zU, zU, zU]) []))
        exact tail1_2 X76 hx hby hml hown hlk hret hZ hw rfl Za3 Na3_ _ _ _ _ _ _ 2 1 1 b1 b2 b3 2 1 0 ao el po bo fi en ma we tu sk ss mk ms mb [.int 2, .int 1, .int 0] [.double 0, .double xa3, .double xa1] xa1 xa3 b1.toInt (b2.toInt + b3.toInt) EXa3 CH_ ch_mb PFa3 Bea2a3 Bpa2a3 rfl Bwa3 QFa3.2.2.2.1 QFa3.2.2.2.2.1 QFa3.2.2.2.2.2.1 QFa3.2.2.2.2.2.2.1 QFa3.1 QFa3.2.1 QFa3.2.2.1 Ama2a3 Ata2a3 QFa3.2.2.2.2.2.2.2 (by decide) (by decide) (by decide) (by decide) (by decide) (by decide) (by decide) (by decide) (by decide) rfl hxa1 (by omega) rfl hxa3 (by omega) bb1 bb2 bb3 (by intro m0 m1 m2 w0 w1 w2 hM hW; unfold own_M at hM; unfold own_Wp own_pq at hW; obtain ⟨⟨q1, q2, q3, u1⟩, ⟨q4, q5, q6, u2⟩, q7, q8, q9, u3⟩ := hW; unfold own_is; refine ⟨by omega, by omega, by omega, by omega, by omega⟩)
      · skip
        obtain rfl : t3 = (2 : Int32) := Int32.toInt_inj.mp ht
        show own_Go p.tables e below _ (T72.setTop (mkF m 82 (Array.mk [zI s1, zI a1, zI s2, zI a2, zI s3, zI a3, zI 2, zI 1, zI 2, zI b1, zI b2, zI b3, zA ao, zA mb, zU, zU, zU, zU, zU, zU, zU, zU, zU, zU, zU, zU, zU, zU, zU, zU, zU, zU, zU, zU, zU, zU, zU]) []))
        refine own_blk dec0 seq0 hby hx hZ hown hK hF 4 [] [] X72 rfl ?_
        show own_Aft X72 T72.heap _ 89 [zI s1, zI a1, zI s2, zI a2, zI s3, zI a3, zI 2, zI 1, zI 2, zI b1, zI b2, zI b3, zA ao, zA mb, zU, zU, zU, zU, zU, zU, zU, zU, zU, zU, zU, zU, zU, zU, zU, zU, zU, zU, zU, zU, zU, zU, zU] [.double (FP.i2d b3), .int 2, .ref ao]
        refine fun T77 X77 eh77 => ?_
        refine own_callV X77 hx hZ hown (hw _ (wm 38 rfl)) (hw _ (wm 39 rfl)) (hw _ (wm 41 rfl)) (hw _ (wm 40 rfl)) (hw _ (wm 3 rfl)) (hw _ (wm 42 rfl)) (by decide) eh77 EXa2 [.int 2, .double (FP.i2d b3)] pd3 rfl (rm := ({ frames := 0, cells := 0, slots := 0, locals := 0 } : Room)) (rm3_o2 l Z a0 hw [] ao el po bo fi en ma we tu sk ss mk ms  2 0 [.int 2, .int 1, .int 0] [.double 0, .double xa2, .double xa1] (FP.i2d b3) xa1 b3.toInt (b1.toInt) T72.heap n0 Za2 EXa2 CH_ PFa2 Bpa2 QFa2.1 QFa2.2.1 Ama2 Bwa2 rfl (by decide) (by decide) rfl (by decide) rfl hxa1 (by omega) (own_D.i2d b3) (by omega)) (by rw [hml]; rfl) 0 rfl (Nat.le_of_eq rfl) (hb hby at_89) (by decide) (by decide) (by decide) (by decide) (fun T78 rv78 Lc78 X78 qc78 => ?_)
        obtain ⟨rfl, Ma3, Ka3, xa3, hxa3, Awa3⟩ := qc78
        have PFa3 := own_PF.keep PFa2 Ka3 (own_nin (by simp only [own_out, and_true]; omega))
        have Bwa3 : own_A Z T78.heap we .double [.double 0, .double xa2, .double xa3] := Awa3
        have QFa3 := own_QF.keep QFa2 Ka3 CH_ ch_mb (by simp)
        have Bea2a3 := Bea2.keep Ka3 (own_nin (by simp only [own_out, and_true]; omega))
        have Bpa2a3 := Bpa2.keep Ka3 (own_nin (by simp only [own_out, and_true]; omega))
        have Ama2a3 := Ama2.keep Ka3 (own_nin (by simp only [own_out, and_true]; omega))
        have Ata2a3 := Ata2.keep Ka3 (own_nin (by simp only [own_out, and_true]; omega))
        have EXa3 := Exa.keep EXa2 Ka3
        have Na3_ := Fr.app Na2_ Ma3
        have Za3 := Nat.le_trans Za2 Ka3.1
        show own_Go p.tables e below _ (T78.setTop (mkF m 92 (Array.mk [zI s1, zI a1, zI s2, zI a2, zI s3, zI a3, zI 2, zI 1, zI 2, zI b1, zI b2, zI b3, zA ao, zA mb, zU, zU, zU, zU, zU, zU, zU, zU, zU, zU, zU, zU, zU, zU, zU, zU, zU, zU, zU, zU, zU, zU, zU]) []))
        exact tail1_2 X78 hx hby hml hown hlk hret hZ hw rfl Za3 Na3_ _ _ _ _ _ _ 2 1 2 b1 b2 b3 2 1 0 ao el po bo fi en ma we tu sk ss mk ms mb [.int 2, .int 1, .int 0] [.double 0, .double xa2, .double xa3] xa3 xa2 (b1.toInt + b3.toInt) b2.toInt EXa3 CH_ ch_mb PFa3 Bea2a3 Bpa2a3 rfl Bwa3 QFa3.2.2.2.1 QFa3.2.2.2.2.1 QFa3.2.2.2.2.2.1 QFa3.2.2.2.2.2.2.1 QFa3.1 QFa3.2.1 QFa3.2.2.1 Ama2a3 Ata2a3 QFa3.2.2.2.2.2.2.2 (by decide) (by decide) (by decide) (by decide) (by decide) (by decide) (by decide) (by decide) (by decide) rfl hxa3 (by omega) rfl hxa2 (by omega) bb1 bb2 bb3 (by intro m0 m1 m2 w0 w1 w2 hM hW; unfold own_M at hM; unfold own_Wp own_pq at hW; obtain ⟨⟨q1, q2, q3, u1⟩, ⟨q4, q5, q6, u2⟩, q7, q8, q9, u3⟩ := hW; unfold own_is; refine ⟨by omega, by omega, by omega, by omega, by omega⟩)
    · skip
      obtain rfl : t2 = (2 : Int32) := Int32.toInt_inj.mp ht
      show own_Go p.tables e below _ (T62.setTop (mkF m 72 (Array.mk [zI s1, zI a1, zI s2, zI a2, zI s3, zI a3, zI 2, zI 2, zI t3, zI b1, zI b2, zI b3, zA ao, zA mb, zU, zU, zU, zU, zU, zU, zU, zU, zU, zU, zU, zU, zU, zU, zU, zU, zU, zU, zU, zU, zU, zU, zU]) []))
      refine own_blk dec0 seq0 hby hx hZ hown hK hF 4 [] [] X62 rfl ?_
      show own_Aft X62 T62.heap _ 79 [zI s1, zI a1, zI s2, zI a2, zI s3, zI a3, zI 2, zI 2, zI t3, zI b1, zI b2, zI b3, zA ao, zA mb, zU, zU, zU, zU, zU, zU, zU, zU, zU, zU, zU, zU, zU, zU, zU, zU, zU, zU, zU, zU, zU, zU, zU] [.double (FP.i2d b2), .int 2, .ref ao]
      refine fun T79 X79 eh79 => ?_
      refine own_callV X79 hx hZ hown (hw _ (wm 38 rfl)) (hw _ (wm 39 rfl)) (hw _ (wm 41 rfl)) (hw _ (wm 40 rfl)) (hw _ (wm 3 rfl)) (hw _ (wm 42 rfl)) (by decide) eh79 EXa1 [.int 2, .double (FP.i2d b2)] pd3 rfl (rm := ({ frames := 0, cells := 0, slots := 0, locals := 0 } : Room)) (rm3_o1 l Z a0 hw [] ao el po bo fi en ma we tu sk ss mk ms  2 0 [.int 2, .int 1, .int 0] [.double 0, .double 0, .double xa1] (FP.i2d b2) xa1 b2.toInt (b1.toInt) T62.heap n0 Za1 EXa1 CH_ PFa1 Bpa1 QFa1.1 QFa1.2.1 Ama1 Bwa1 rfl (by decide) (by decide) rfl (by decide) rfl hxa1 (by omega) (own_D.i2d b2) (by omega)) (by rw [hml]; rfl) 0 rfl (Nat.le_of_eq rfl) (hb hby at_79) (by decide) (by decide) (by decide) (by decide) (fun T80 rv80 Lc80 X80 qc80 => ?_)
      obtain ⟨rfl, Ma2, Ka2, xa2, hxa2, Awa2⟩ := qc80
      have PFa2 := own_PF.keep PFa1 Ka2 (own_nin (by simp only [own_out, and_true]; omega))
      have Bwa2 : own_A Z T80.heap we .double [.double 0, .double 0, .double xa2] := Awa2
      have QFa2 := own_QF.keep QFa1 Ka2 CH_ ch_mb (by simp)
      have Bea1a2 := Bea1.keep Ka2 (own_nin (by simp only [own_out, and_true]; omega))
      have Bpa1a2 := Bpa1.keep Ka2 (own_nin (by simp only [own_out, and_true]; omega))
      have Ama1a2 := Ama1.keep Ka2 (own_nin (by simp only [own_out, and_true]; omega))
      have Ata1a2 := Ata1.keep Ka2 (own_nin (by simp only [own_out, and_true]; omega))
      have EXa2 := Exa.keep EXa1 Ka2
      have Na2_ := Fr.app Na1_ Ma2
      have Za2 := Nat.le_trans Za1 Ka2.1
      show own_Go p.tables e below _ (T80.setTop (mkF m 82 (Array.mk [zI s1, zI a1, zI s2, zI a2, zI s3, zI a3, zI 2, zI 2, zI t3, zI b1, zI b2, zI b3, zA ao, zA mb, zU, zU, zU, zU, zU, zU, zU, zU, zU, zU, zU, zU, zU, zU, zU, zU, zU, zU, zU, zU, zU, zU, zU]) []))
      obtain ht | ht | ht : t3.toInt = (0 : Int) ∨ t3.toInt = (1 : Int) ∨ t3.toInt = (2 : Int) := by omega
      · skip
        obtain rfl : t3 = (0 : Int32) := Int32.toInt_inj.mp ht
        show own_Go p.tables e below _ (T80.setTop (mkF m 82 (Array.mk [zI s1, zI a1, zI s2, zI a2, zI s3, zI a3, zI 2, zI 2, zI 0, zI b1, zI b2, zI b3, zA ao, zA mb, zU, zU, zU, zU, zU, zU, zU, zU, zU, zU, zU, zU, zU, zU, zU, zU, zU, zU, zU, zU, zU, zU, zU]) []))
        refine own_blk dec0 seq0 hby hx hZ hown hK hF 4 [] [] X80 rfl ?_
        show own_Aft X80 T80.heap _ 89 [zI s1, zI a1, zI s2, zI a2, zI s3, zI a3, zI 2, zI 2, zI 0, zI b1, zI b2, zI b3, zA ao, zA mb, zU, zU, zU, zU, zU, zU, zU, zU, zU, zU, zU, zU, zU, zU, zU, zU, zU, zU, zU, zU, zU, zU, zU] [.double (FP.i2d b3), .int 0, .ref ao]
        refine fun T81 X81 eh81 => ?_
        refine own_callV X81 hx hZ hown (hw _ (wm 38 rfl)) (hw _ (wm 39 rfl)) (hw _ (wm 41 rfl)) (hw _ (wm 40 rfl)) (hw _ (wm 3 rfl)) (hw _ (wm 42 rfl)) (by decide) eh81 EXa2 [.int 0, .double (FP.i2d b3)] pd3 rfl (rm := ({ frames := 0, cells := 0, slots := 0, locals := 0 } : Room)) (rm3_n1 l Z a0 hw [] ao el po bo fi en ma we tu sk ss mk ms  0 2 1 [.int 2, .int 1, .int 0] [.int 2, .int 1, .int 0] [.double 0, .double 0, .double xa2] (FP.i2d b3) b3.toInt T80.heap n0 Za2 EXa2 CH_ PFa2 Bea1a2 Bpa1a2 QFa2.1 QFa2.2.1 Ama1a2 Ata1a2 Bwa2 rfl rfl rfl (by decide) (by decide) rfl (by decide) (by decide) rfl (by decide) (by decide) (own_D.i2d b3) (by omega)) (by rw [hml]; rfl) 0 rfl (Nat.le_of_eq rfl) (hb hby at_89) (by decide) (by decide) (by decide) (by decide) (fun T82 rv82 Lc82 X82 qc82 => ?_)
        obtain ⟨rfl, Ma3, Ka3, PFa3, Aea3, Apa3, Ama3, Ata3, xa3, hxa3, Awa3⟩ := qc82
        have Bea3 : own_A Z T82.heap el .int [.int 2, .int 0, .int 1] := Aea3
        have Bpa3 : own_A Z T82.heap po .int [.int 1, .int 2, .int 0] := Apa3
        have Bwa3 : own_A Z T82.heap we .double [.double xa3, .double 0, .double xa2] := Awa3
        have QFa3 := own_QF.keep QFa2 Ka3 CH_ ch_mb (by simp)
        have EXa3 := Exa.keep EXa2 Ka3
        have Na3_ := Fr.app Na2_ Ma3
        have Za3 := Nat.le_trans Za2 Ka3.1
        show own_Go p.tables e below _ (T82.setTop (mkF m 92 (Array.mk [zI s1, zI a1, zI s2, zI a2, zI s3, zI a3, zI 2, zI 2, zI 0, zI b1, zI b2, zI b3, zA ao, zA mb, zU, zU, zU, zU, zU, zU, zU, zU, zU, zU, zU, zU, zU, zU, zU, zU, zU, zU, zU, zU, zU, zU, zU]) []))
        exact tail1_2 X82 hx hby hml hown hlk hret hZ hw rfl Za3 Na3_ _ _ _ _ _ _ 2 2 0 b1 b2 b3 2 0 1 ao el po bo fi en ma we tu sk ss mk ms mb [.int 1, .int 2, .int 0] [.double xa3, .double 0, .double xa2] xa2 xa3 (b1.toInt + b2.toInt) b3.toInt EXa3 CH_ ch_mb PFa3 Bea3 Bpa3 rfl Bwa3 QFa3.2.2.2.1 QFa3.2.2.2.2.1 QFa3.2.2.2.2.2.1 QFa3.2.2.2.2.2.2.1 QFa3.1 QFa3.2.1 QFa3.2.2.1 Ama3 Ata3 QFa3.2.2.2.2.2.2.2 (by decide) (by decide) (by decide) (by decide) (by decide) (by decide) (by decide) (by decide) (by decide) rfl hxa2 (by omega) rfl hxa3 (by omega) bb1 bb2 bb3 (by intro m0 m1 m2 w0 w1 w2 hM hW; unfold own_M at hM; unfold own_Wp own_pq at hW; obtain ⟨⟨q1, q2, q3, u1⟩, ⟨q4, q5, q6, u2⟩, q7, q8, q9, u3⟩ := hW; unfold own_is; refine ⟨by omega, by omega, by omega, by omega, by omega⟩)
      · skip
        obtain rfl : t3 = (1 : Int32) := Int32.toInt_inj.mp ht
        show own_Go p.tables e below _ (T80.setTop (mkF m 82 (Array.mk [zI s1, zI a1, zI s2, zI a2, zI s3, zI a3, zI 2, zI 2, zI 1, zI b1, zI b2, zI b3, zA ao, zA mb, zU, zU, zU, zU, zU, zU, zU, zU, zU, zU, zU, zU, zU, zU, zU, zU, zU, zU, zU, zU, zU, zU, zU]) []))
        refine own_blk dec0 seq0 hby hx hZ hown hK hF 4 [] [] X80 rfl ?_
        show own_Aft X80 T80.heap _ 89 [zI s1, zI a1, zI s2, zI a2, zI s3, zI a3, zI 2, zI 2, zI 1, zI b1, zI b2, zI b3, zA ao, zA mb, zU, zU, zU, zU, zU, zU, zU, zU, zU, zU, zU, zU, zU, zU, zU, zU, zU, zU, zU, zU, zU, zU, zU] [.double (FP.i2d b3), .int 1, .ref ao]
        refine fun T83 X83 eh83 => ?_
        refine own_callV X83 hx hZ hown (hw _ (wm 38 rfl)) (hw _ (wm 39 rfl)) (hw _ (wm 41 rfl)) (hw _ (wm 40 rfl)) (hw _ (wm 3 rfl)) (hw _ (wm 42 rfl)) (by decide) eh83 EXa2 [.int 1, .double (FP.i2d b3)] pd3 rfl (rm := ({ frames := 0, cells := 0, slots := 0, locals := 0 } : Room)) (rm3_n1 l Z a0 hw [] ao el po bo fi en ma we tu sk ss mk ms  1 1 1 [.int 2, .int 1, .int 0] [.int 2, .int 1, .int 0] [.double 0, .double 0, .double xa2] (FP.i2d b3) b3.toInt T80.heap n0 Za2 EXa2 CH_ PFa2 Bea1a2 Bpa1a2 QFa2.1 QFa2.2.1 Ama1a2 Ata1a2 Bwa2 rfl rfl rfl (by decide) (by decide) rfl (by decide) (by decide) rfl (by decide) (by decide) (own_D.i2d b3) (by omega)) (by rw [hml]; rfl) 0 rfl (Nat.le_of_eq rfl) (hb hby at_89) (by decide) (by decide) (by decide) (by decide) (fun T84 rv84 Lc84 X84 qc84 => ?_)
        obtain ⟨rfl, Ma3, Ka3, PFa3, Aea3, Apa3, Ama3, Ata3, xa3, hxa3, Awa3⟩ := qc84
        have Bea3 : own_A Z T84.heap el .int [.int 2, .int 1, .int 0] := Aea3
        have Bpa3 : own_A Z T84.heap po .int [.int 2, .int 1, .int 0] := Apa3
        have Bwa3 : own_A Z T84.heap we .double [.double 0, .double xa3, .double xa2] := Awa3
        have QFa3 := own_QF.keep QFa2 Ka3 CH_ ch_mb (by simp)
        have EXa3 := Exa.keep EXa2 Ka3
        have Na3_ := Fr.app Na2_ Ma3
        have Za3 := Nat.le_trans Za2 Ka3.1
        show own_Go p.tables e below _ (T84.setTop (mkF m 92 (Array.mk [zI s1, zI a1, zI s2, zI a2, zI s3, zI a3, zI 2, zI 2, zI 1, zI b1, zI b2, zI b3, zA ao, zA mb, zU, zU, zU, zU, zU, zU, zU, zU, zU, zU, zU, zU, zU, zU, zU, zU, zU, zU, zU, zU, zU, zU, zU]) []))
        exact tail1_2 X84 hx hby hml hown hlk hret hZ hw rfl Za3 Na3_ _ _ _ _ _ _ 2 2 1 b1 b2 b3 2 1 0 ao el po bo fi en ma we tu sk ss mk ms mb [.int 2, .int 1, .int 0] [.double 0, .double xa3, .double xa2] xa2 xa3 (b1.toInt + b2.toInt) b3.toInt EXa3 CH_ ch_mb PFa3 Bea3 Bpa3 rfl Bwa3 QFa3.2.2.2.1 QFa3.2.2.2.2.1 QFa3.2.2.2.2.2.1 QFa3.2.2.2.2.2.2.1 QFa3.1 QFa3.2.1 QFa3.2.2.1 Ama3 Ata3 QFa3.2.2.2.2.2.2.2 (by decide) (by decide) (by decide) (by decide) (by decide) (by decide) (by decide) (by decide) (by decide) rfl hxa2 (by omega) rfl hxa3 (by omega) bb1 bb2 bb3 (by intro m0 m1 m2 w0 w1 w2 hM hW; unfold own_M at hM; unfold own_Wp own_pq at hW; obtain ⟨⟨q1, q2, q3, u1⟩, ⟨q4, q5, q6, u2⟩, q7, q8, q9, u3⟩ := hW; unfold own_is; refine ⟨by omega, by omega, by omega, by omega, by omega⟩)
      · skip
        obtain rfl : t3 = (2 : Int32) := Int32.toInt_inj.mp ht
        show own_Go p.tables e below _ (T80.setTop (mkF m 82 (Array.mk [zI s1, zI a1, zI s2, zI a2, zI s3, zI a3, zI 2, zI 2, zI 2, zI b1, zI b2, zI b3, zA ao, zA mb, zU, zU, zU, zU, zU, zU, zU, zU, zU, zU, zU, zU, zU, zU, zU, zU, zU, zU, zU, zU, zU, zU, zU]) []))
        refine own_blk dec0 seq0 hby hx hZ hown hK hF 4 [] [] X80 rfl ?_
        show own_Aft X80 T80.heap _ 89 [zI s1, zI a1, zI s2, zI a2, zI s3, zI a3, zI 2, zI 2, zI 2, zI b1, zI b2, zI b3, zA ao, zA mb, zU, zU, zU, zU, zU, zU, zU, zU, zU, zU, zU, zU, zU, zU, zU, zU, zU, zU, zU, zU, zU, zU, zU] [.double (FP.i2d b3), .int 2, .ref ao]
        refine fun T85 X85 eh85 => ?_
        refine own_callV X85 hx hZ hown (hw _ (wm 38 rfl)) (hw _ (wm 39 rfl)) (hw _ (wm 41 rfl)) (hw _ (wm 40 rfl)) (hw _ (wm 3 rfl)) (hw _ (wm 42 rfl)) (by decide) eh85 EXa2 [.int 2, .double (FP.i2d b3)] pd3 rfl (rm := ({ frames := 0, cells := 0, slots := 0, locals := 0 } : Room)) (rm3_o1 l Z a0 hw [] ao el po bo fi en ma we tu sk ss mk ms  2 0 [.int 2, .int 1, .int 0] [.double 0, .double 0, .double xa2] (FP.i2d b3) xa2 b3.toInt (b1.toInt + b2.toInt) T80.heap n0 Za2 EXa2 CH_ PFa2 Bpa1a2 QFa2.1 QFa2.2.1 Ama1a2 Bwa2 rfl (by decide) (by decide) rfl (by decide) rfl hxa2 (by omega) (own_D.i2d b3) (by omega)) (by rw [hml]; rfl) 0 rfl (Nat.le_of_eq rfl) (hb hby at_89) (by decide) (by decide) (by decide) (by decide) (fun T86 rv86 Lc86 X86 qc86 => ?_)
        obtain ⟨rfl, Ma3, Ka3, xa3, hxa3, Awa3⟩ := qc86
        have PFa3 := own_PF.keep PFa2 Ka3 (own_nin (by simp only [own_out, and_true]; omega))
        have Bwa3 : own_A Z T86.heap we .double [.double 0, .double 0, .double xa3] := Awa3
        have QFa3 := own_QF.keep QFa2 Ka3 CH_ ch_mb (by simp)
        have Bea1a2a3 := Bea1a2.keep Ka3 (own_nin (by simp only [own_out, and_true]; omega))
        have Bpa1a2a3 := Bpa1a2.keep Ka3 (own_nin (by simp only [own_out, and_true]; omega))
        have Ama1a2a3 := Ama1a2.keep Ka3 (own_nin (by simp only [own_out, and_true]; omega))
        have Ata1a2a3 := Ata1a2.keep Ka3 (own_nin (by simp only [own_out, and_true]; omega))
        have EXa3 := Exa.keep EXa2 Ka3
        have Na3_ := Fr.app Na2_ Ma3
        have Za3 := Nat.le_trans Za2 Ka3.1
        show own_Go p.tables e below _ (T86.setTop (mkF m 92 (Array.mk [zI s1, zI a1, zI s2, zI a2, zI s3, zI a3, zI 2, zI 2, zI 2, zI b1, zI b2, zI b3, zA ao, zA mb, zU, zU, zU, zU, zU, zU, zU, zU, zU, zU, zU, zU, zU, zU, zU, zU, zU, zU, zU, zU, zU, zU, zU]) []))
        exact tail1_1 X86 hx hby hml hown hlk hret hZ hw rfl Za3 Na3_ _ _ _ _ _ _ 2 2 2 b1 b2 b3 2 1 0 ao el po bo fi en ma we tu sk ss mk ms mb [.int 2, .int 1, .int 0] [.double 0, .double 0, .double xa3] xa3 (b1.toInt + b2.toInt + b3.toInt) EXa3 CH_ ch_mb PFa3 Bea1a2a3 Bpa1a2a3 rfl Bwa3 QFa3.2.2.2.1 QFa3.2.2.2.2.1 QFa3.2.2.2.2.2.1 QFa3.2.2.2.2.2.2.1 QFa3.1 QFa3.2.1 QFa3.2.2.1 Ama1a2a3 Ata1a2a3 QFa3.2.2.2.2.2.2.2 (by decide) (by decide) (by decide) (by decide) (by decide) (by decide) (by decide) (by decide) (by decide) rfl hxa3 (by omega) bb1 bb2 bb3 (by intro m0 m1 m2 w0 w1 w2 hM hW; unfold own_M at hM; unfold own_Wp own_pq at hW; obtain ⟨⟨q1, q2, q3, u1⟩, ⟨q4, q5, q6, u2⟩, q7, q8, q9, u3⟩ := hW; unfold own_is; refine ⟨by omega, by omega, by omega, by omega⟩)
set_option maxRecDepth 65536 in
set_option maxHeartbeats 40000000 in
theorem comes_1 {Post : Tables → Env → Array Value → State → Outcome → State → Prop} (hpost : ∀ tb e args s v u, (limb_1_1.after args s (.returned v) u = true ∧ limb_1_2.after args s (.returned v) u = true ∧ True) → FrameEnd s (.returned v) u (Jvm.fieldLocs frame_1_writes args s ++ Jvm.arrayLocs frame_1_arrays args s ++ Jvm.staticLocs frame_1_statics s) 40 192 → Post tb e args s (.returned v) u) :
    ArmFor flags0 classFile x code maxLocals ret World_1 tables_1 room_1 Calls_1 rest_1 Pre_1 Post := by
  intro l hfl _ _ p e ha hc hk s m args below hf hA hF happ hP
  obtain ⟨hcalls, hrest, hpre⟩ := hP
  obtain ⟨-, -, -, hnamed, -, -, -, hat⟩ := (Spec.applies_iff hf).mp happ
  obtain ⟨hg, hn⟩ := and_e (Cond.before_iff.mp (show (Jvm.Cond.and given_1 narrow_1).before args s = true from hpre))
  obtain ⟨h1, g0⟩ := and_e hg
  obtain ⟨t0, g1⟩ := and_e g0
  obtain ⟨t1, g2⟩ := and_e g1
  obtain ⟨t2, g3⟩ := and_e g2
  obtain ⟨t3, g4⟩ := and_e g3
  obtain ⟨t4, g5⟩ := and_e g4
  obtain ⟨w0, w1, w2, w3, w4, w5, rfl⟩ : ∃ w0 w1 w2 w3 w4 w5 : Value, args = #[w0, w1, w2, w3, w4, w5] := by
    have hs : args.size = 6 := by simpa [Cond.value, given_1] using h1
    obtain ⟨L⟩ := args
    match L, hs with
    | [w0, w1, w2, w3, w4, w5], _ => exact ⟨w0, w1, w2, w3, w4, w5, rfl⟩
  have hw := fun d (hd : d ∈ tables_1) => atoms_spec (ws := Jvm.Cond.code x code maxLocals ret :: tables_1) hat d (List.mem_cons_of_mem _ hd)
  obtain ⟨i0, e0⟩ := is_v t0
  obtain rfl : w0 = (.int i0) := Option.some.inj e0
  obtain ⟨i1, e1⟩ := is_v t1
  obtain rfl : w1 = (.int i1) := Option.some.inj e1
  obtain ⟨i2, e2⟩ := is_v t2
  obtain rfl : w2 = (.int i2) := Option.some.inj e2
  obtain ⟨i3, e3⟩ := is_v t3
  obtain rfl : w3 = (.int i3) := Option.some.inj e3
  obtain ⟨i4, e4⟩ := is_v t4
  obtain rfl : w4 = (.int i4) := Option.some.inj e4
  obtain ⟨i5, e5⟩ := is_v g5
  obtain rfl : w5 = (.int i5) := Option.some.inj e5
  obtain ⟨n, o, h1, h2, h3, hfin⟩ := rm0 l s _ hw tables_1 i0 i1 i2 i3 i4 i5 s.heap s.heap.size (Nat.le_refl _)  p e ha hc hk s m _ below hf ((Spec.applies_iff_loose hf).mp happ).1 ⟨rfl, State.Warmed39.refl s, rfl⟩ trivial
  obtain ⟨_, L, rfl, ⟨rfl, N⟩, hq⟩ := hfin
  refine ⟨n, _, h1, h2, h3, hpost _ _ _ _ _ _ ⟨Cond.after_iff.mpr rfl, Cond.after_iff.mpr (eq_i res_at (Term.int_eval (1)) rfl), trivial⟩ ⟨hq.1, hq.2.1, (hq.2.2.sift fun y hy => Or.inr (N y hy)).mono (by decide) (by decide)⟩⟩
theorem main_1_1 : Claimed_1_1 := comes_1 fun _ _ _ _ _ _ h hF => ⟨h.1, hF⟩
theorem main_1_2 : Claimed_1_2 := comes_1 fun _ _ _ _ _ _ h hF => ⟨h.2.1, hF⟩
end Jvm.Pilot.@@N@@
namespace Jvm.Pilot.@@N@@
open Jvm Jvm.ClassFile Sem Op Lib Jvm.Free Jvm.Stand Jvm.Pilot.@@N@@.Jvm.D
/-! MADE BY PROGRAM (witnessworld.py) out of the Statement's table words and the real class files: 15 classes; the members and pool entries that the words name. The judged class is class 1, her method 1. -/
namespace start1
open Jvm.ClassFile
def u (s : String) : CpInfo := .utf8 (stringToUtf16 s)
/-- a pool by its gaps: so many unusable entries, then the entry; so many at the end -/
def gap : Nat → List CpInfo → List CpInfo
  | 0, r => r
  | n + 1, r => .unusable :: gap n r
def poolList (es : List (Nat × CpInfo)) (last : Nat) : List CpInfo := es.foldr (fun e r => gap e.1 (e.2 :: r)) (gap last [])
def pool (es : List (Nat × CpInfo)) (last : Nat) : Array CpInfo := ⟨poolList es last⟩
def fileOf (pool : Array CpInfo) (this : Nat) (attrs : Array Attribute := #[]) (ms : Array MethodInfo := #[]) (fl : Nat := 33) (sup : Nat := 0) (ifs : Array Nat := #[]) (fds : Array FieldInfo := #[]) : ClassFile where
  minorVersion := 0
  majorVersion := 65
  constantPool := pool
  accessFlags := fl
  thisClass := this
  superClass := sup
  interfaces := ifs
  fields := fds
  methods := ms
  attributes := attrs
def plain (name : String) (sup : Option ClassId) : Class where
  name := name
  kind := .ordinary
  loader := none
  accessFlags := 33
  super := sup
  interfaces := #[]
  cf := none
  fields := #[]
  methods := #[]
  instanceTypes := #[]
  staticTypes := #[]
  resolved := #[]
  callSites := []
  init := .initialized
  statics := none
  mirror := none

def pool0 : Array CpInfo := pool [(5, u "<init>"), (0, u "()V"), (1, .class_ 10), (1, u "java/lang/Object")] 113

def k0c0 : Code := { maxStack := 0, maxLocals := 1, code := object_method_1_code, exceptionTable := #[], attributes := #[] }
def k0m0 : Method := { name := "<init>", desc := "()V", sig := { parameters := [], returnType := none }, accessFlags := 1, code := some k0c0 }
/-- java/lang/Object -/
def k0 : Class := { plain "java/lang/Object" none with
  accessFlags := 33
  interfaces := #[]
  cf := some (fileOf pool0 8 #[] #[{ accessFlags := 1, nameIndex := 5, descriptorIndex := 6, attributes := #[] }] 33 0 #[] #[])
  fields := #[]
  methods := #[k0m0]
  instanceTypes := #[]
  staticTypes := #[]
  resolved := Array.replicate 124 none
  statics := none }

def pool1 : Array CpInfo := pool [(2, .class_ 4), (1, u "java/lang/Object"), (0, u "<init>"), (0, u "()V"), (0, .integer 2147483647), (0, .class_ 9), (0, u "com/example/lumper/lumper/analysis/Partition"), (0, .methodref 8 11), (0, .nameAndType 5 12), (0, u "(I)V"), (0, .methodref 8 14), (0, .nameAndType 15 16), (0, u "add"), (0, u "(ID)V"), (0, .methodref 8 18), (0, .nameAndType 19 20), (0, u "copyMembers"), (0, u "(I[I)I"), (0, .methodref 8 22), (0, .nameAndType 23 6), (0, u "split"), (0, .methodref 8 25), (0, .nameAndType 26 27), (0, u "blockCount"), (0, u "()I"), (0, .methodref 8 29), (0, .nameAndType 30 31), (0, u "blockOf"), (0, u "(I)I"), (0, .methodref 33 34), (0, .class_ 35), (0, .nameAndType 36 37), (0, u "com/example/lumper/lumper/analysis/PartitionAddPinLaw"), (0, u "part"), (0, u "(III)I"), (0, .methodref 33 39), (0, .nameAndType 40 41), (0, u "in"), (0, u "(I)Z"), (0, .methodref 33 43), (0, .nameAndType 44 45), (0, u "rank"), (0, u "(ZIZIZI)I"), (0, .methodref 33 47), (0, .nameAndType 48 49), (0, u "same"), (0, u "(ZIZI)Z"), (0, .methodref 51 52), (0, .class_ 53), (0, .nameAndType 54 55), (0, u "java/lang/Math"), (0, u "max"), (0, u "(II)I"), (0, .methodref 33 57), (0, .nameAndType 58 55), (0, u "block"), (0, .methodref 33 60), (0, .nameAndType 61 49), (0, u "before"), (2, u "law"), (0, u "(IIIIII)Z")] 7

def k1m0 : Method := { name := "<init>", desc := "()V", sig := { parameters := [], returnType := none }, accessFlags := 1, code := none }
def k1c1 : Code := { maxStack := 6, maxLocals := 37, code := code, exceptionTable := #[], attributes := #[] }
def k1m1 : Method := { name := "law", desc := "(IIIIII)Z", sig := { parameters := [.int, .int, .int, .int, .int, .int], returnType := some .boolean }, accessFlags := 9, code := some k1c1 }
def k1c2 : Code := { maxStack := 2, maxLocals := 3, code := method_3_code, exceptionTable := #[], attributes := #[] }
def k1m2 : Method := { name := "part", desc := "(III)I", sig := { parameters := [.int, .int, .int], returnType := some .int }, accessFlags := 10, code := some k1c2 }
def k1c3 : Code := { maxStack := 2, maxLocals := 1, code := method_4_code, exceptionTable := #[], attributes := #[] }
def k1m3 : Method := { name := "in", desc := "(I)Z", sig := { parameters := [.int], returnType := some .boolean }, accessFlags := 10, code := some k1c3 }
def k1c4 : Code := { maxStack := 2, maxLocals := 4, code := method_5_code, exceptionTable := #[], attributes := #[] }
def k1m4 : Method := { name := "before", desc := "(ZIZI)Z", sig := { parameters := [.boolean, .int, .boolean, .int], returnType := some .boolean }, accessFlags := 10, code := some k1c4 }
def k1c5 : Code := { maxStack := 2, maxLocals := 4, code := method_6_code, exceptionTable := #[], attributes := #[] }
def k1m5 : Method := { name := "same", desc := "(ZIZI)Z", sig := { parameters := [.boolean, .int, .boolean, .int], returnType := some .boolean }, accessFlags := 10, code := some k1c5 }
def k1c6 : Code := { maxStack := 5, maxLocals := 8, code := method_7_code, exceptionTable := #[], attributes := #[] }
def k1m6 : Method := { name := "rank", desc := "(ZIZIZI)I", sig := { parameters := [.boolean, .int, .boolean, .int, .boolean, .int], returnType := some .int }, accessFlags := 10, code := some k1c6 }
def k1c7 : Code := { maxStack := 2, maxLocals := 2, code := method_8_code, exceptionTable := #[], attributes := #[] }
def k1m7 : Method := { name := "block", desc := "(II)I", sig := { parameters := [.int, .int], returnType := some .int }, accessFlags := 10, code := some k1c7 }
/-- com/example/lumper/lumper/analysis/PartitionAddPinLaw -/
def k1 : Class := { plain "com/example/lumper/lumper/analysis/PartitionAddPinLaw" (some 0) with
  accessFlags := 49
  interfaces := #[]
  cf := some (fileOf pool1 33 #[] #[{ accessFlags := 1, nameIndex := 5, descriptorIndex := 6, attributes := #[] }, { accessFlags := 9, nameIndex := 64, descriptorIndex := 65, attributes := #[] }, { accessFlags := 10, nameIndex := 36, descriptorIndex := 37, attributes := #[] }, { accessFlags := 10, nameIndex := 40, descriptorIndex := 41, attributes := #[] }, { accessFlags := 10, nameIndex := 61, descriptorIndex := 49, attributes := #[] }, { accessFlags := 10, nameIndex := 48, descriptorIndex := 49, attributes := #[] }, { accessFlags := 10, nameIndex := 44, descriptorIndex := 45, attributes := #[] }, { accessFlags := 10, nameIndex := 58, descriptorIndex := 55, attributes := #[] }] 49 2 #[] #[])
  fields := #[]
  methods := #[k1m0, k1m1, k1m2, k1m3, k1m4, k1m5, k1m6, k1m7]
  instanceTypes := #[]
  staticTypes := #[]
  resolved := Array.replicate 73 none
  statics := none }

def pool2 : Array CpInfo := pool [(1, .methodref 2 3), (0, .class_ 4), (0, .nameAndType 5 6), (0, u "java/lang/Object"), (0, u "<init>"), (0, u "()V"), (0, .fieldref 8 9), (0, .class_ 10), (0, .nameAndType 11 12), (0, u "com/example/lumper/lumper/analysis/Partition"), (0, u "elements"), (0, u "[I"), (0, .fieldref 8 14), (0, .nameAndType 15 12), (0, u "position"), (0, .fieldref 8 17), (0, .nameAndType 18 12), (0, u "blockOf"), (0, .fieldref 8 20), (0, .nameAndType 21 12), (0, u "first"), (0, .fieldref 8 23), (0, .nameAndType 24 12), (0, u "end"), (0, .fieldref 8 26), (0, .nameAndType 27 12), (0, u "marked"), (0, .fieldref 8 29), (0, .nameAndType 30 31), (0, u "weight"), (0, u "[D"), (0, .fieldref 8 33), (0, .nameAndType 34 12), (0, u "touched"), (0, .fieldref 8 36), (0, .nameAndType 37 38), (0, u "blocks"), (0, u "I"), (0, .fieldref 8 40), (0, .nameAndType 41 31), (0, u "sortKeys"), (0, .fieldref 8 43), (0, .nameAndType 44 12), (0, u "sortStates"), (0, .fieldref 8 46), (0, .nameAndType 47 31), (0, u "mergedKeys"), (0, .fieldref 8 49), (0, .nameAndType 50 12), (0, u "mergedStates"), (0, .methodref 52 53), (0, .class_ 54), (0, .nameAndType 55 56), (0, u "java/lang/Math"), (0, u "abs"), (0, u "(D)D"), (0, .double 4457293557087583675), (1, .methodref 52 60), (0, .nameAndType 61 62), (0, u "max"), (0, u "(DD)D"), (2, u "copyMembers"), (0, u "(I[I)I"), (1, .class_ 70), (1, u "com/example/lumper/lumper/analysis/Partition$Splitter"), (2, .methodref 74 75), (0, .class_ 76), (0, .nameAndType 77 78), (0, u "java/lang/System"), (0, u "arraycopy"), (0, u "(Ljava/lang/Object;ILjava/lang/Object;II)V"), (0, .fieldref 8 80), (0, .nameAndType 81 38), (0, u "touchedCount"), (0, .methodref 8 83), (0, .nameAndType 84 85), (0, u "splitBlock"), (0, u "(II)V"), (0, .methodref 8 87), (0, .nameAndType 88 89), (0, u "alike"), (0, u "(II)Z"), (0, .methodref 8 91), (0, .nameAndType 92 85), (0, u "sortByWeight"), (0, .methodref 8 94), (0, .nameAndType 95 96), (0, u "groupEnd"), (0, u "(IIIZ)I"), (0, .methodref 8 98), (0, .nameAndType 99 85), (0, u "newBlock"), (0, .methodref 52 101), (0, .nameAndType 102 62), (0, u "min"), (0, .methodref 8 104), (0, .nameAndType 105 106), (0, u "equal"), (0, u "(DD)Z"), (0, .methodref 52 108), (0, .nameAndType 102 109), (0, u "(JJ)J"), (0, .long 2), (1, .methodref 8 113), (0, .nameAndType 114 115), (0, u "merge"), (0, u "([D[IIII[D[I)V"), (0, u "TOLERANCE"), (0, u "D"), (1, u "(I)V"), (6, u "blockCount"), (0, u "()I"), (0, u "(I)I"), (0, u "add"), (0, u "(ID)V"), (0, u "split")] 6

def k2c0 : Code := { maxStack := 3, maxLocals := 3, code := prog_12_method_1_code, exceptionTable := #[], attributes := #[] }
def k2m0 : Method := { name := "<init>", desc := "(I)V", sig := { parameters := [.int], returnType := none }, accessFlags := 0, code := some k2c0 }
def k2c1 : Code := { maxStack := 8, maxLocals := 4, code := prog_12_method_2_code, exceptionTable := #[], attributes := #[] }
def k2m1 : Method := { name := "equal", desc := "(DD)Z", sig := { parameters := [.double, .double], returnType := some .boolean }, accessFlags := 8, code := some k2c1 }
def k2c2 : Code := { maxStack := 1, maxLocals := 1, code := prog_12_method_4_code, exceptionTable := #[], attributes := #[] }
def k2m2 : Method := { name := "blockCount", desc := "()I", sig := { parameters := [], returnType := some .int }, accessFlags := 0, code := some k2c2 }
def k2c3 : Code := { maxStack := 2, maxLocals := 2, code := prog_12_method_5_code, exceptionTable := #[], attributes := #[] }
def k2m3 : Method := { name := "blockOf", desc := "(I)I", sig := { parameters := [.int], returnType := some .int }, accessFlags := 0, code := some k2c3 }
def k2c4 : Code := { maxStack := 5, maxLocals := 4, code := prog_12_method_6_code, exceptionTable := #[], attributes := #[] }
def k2m4 : Method := { name := "copyMembers", desc := "(I[I)I", sig := { parameters := [.int, (.array .int)], returnType := some .int }, accessFlags := 0, code := some k2c4 }
def k2c5 : Code := { maxStack := 6, maxLocals := 8, code := prog_12_method_7_code, exceptionTable := #[], attributes := #[] }
def k2m5 : Method := { name := "add", desc := "(ID)V", sig := { parameters := [.int, .double], returnType := none }, accessFlags := 0, code := some k2c5 }
def k2c6 : Code := { maxStack := 4, maxLocals := 4, code := prog_12_method_8_code, exceptionTable := #[], attributes := #[] }
def k2m6 : Method := { name := "split", desc := "()V", sig := { parameters := [], returnType := none }, accessFlags := 0, code := some k2c6 }
def k2c7 : Code := { maxStack := 5, maxLocals := 10, code := prog_12_method_9_code, exceptionTable := #[], attributes := #[] }
def k2m7 : Method := { name := "splitBlock", desc := "(II)V", sig := { parameters := [.int, .int], returnType := none }, accessFlags := 2, code := some k2c7 }
def k2c8 : Code := { maxStack := 8, maxLocals := 8, code := prog_12_method_10_code, exceptionTable := #[], attributes := #[] }
def k2m8 : Method := { name := "alike", desc := "(II)Z", sig := { parameters := [.int, .int], returnType := some .boolean }, accessFlags := 2, code := some k2c8 }
def k2c9 : Code := { maxStack := 5, maxLocals := 6, code := prog_12_method_11_code, exceptionTable := #[], attributes := #[] }
def k2m9 : Method := { name := "groupEnd", desc := "(IIIZ)I", sig := { parameters := [.int, .int, .int, .boolean], returnType := some .int }, accessFlags := 2, code := some k2c9 }
def k2c10 : Code := { maxStack := 4, maxLocals := 5, code := prog_12_method_12_code, exceptionTable := #[], attributes := #[] }
def k2m10 : Method := { name := "newBlock", desc := "(II)V", sig := { parameters := [.int, .int], returnType := none }, accessFlags := 2, code := some k2c10 }
def k2c11 : Code := { maxStack := 7, maxLocals := 14, code := prog_12_method_13_code, exceptionTable := #[], attributes := #[] }
def k2m11 : Method := { name := "sortByWeight", desc := "(II)V", sig := { parameters := [.int, .int], returnType := none }, accessFlags := 2, code := some k2c11 }
def k2c12 : Code := { maxStack := 4, maxLocals := 12, code := prog_12_method_14_code, exceptionTable := #[], attributes := #[] }
def k2m12 : Method := { name := "merge", desc := "([D[IIII[D[I)V", sig := { parameters := [(.array .double), (.array .int), .int, .int, .int, (.array .double), (.array .int)], returnType := none }, accessFlags := 10, code := some k2c12 }
/-- com/example/lumper/lumper/analysis/Partition -/
def k2 : Class := { plain "com/example/lumper/lumper/analysis/Partition" (some 0) with
  accessFlags := 48
  interfaces := #[]
  cf := some (fileOf pool2 8 #[.nestMembers #[68]] #[{ accessFlags := 0, nameIndex := 5, descriptorIndex := 119, attributes := #[] }, { accessFlags := 8, nameIndex := 105, descriptorIndex := 106, attributes := #[] }, { accessFlags := 0, nameIndex := 126, descriptorIndex := 127, attributes := #[] }, { accessFlags := 0, nameIndex := 18, descriptorIndex := 128, attributes := #[] }, { accessFlags := 0, nameIndex := 65, descriptorIndex := 66, attributes := #[] }, { accessFlags := 0, nameIndex := 129, descriptorIndex := 130, attributes := #[] }, { accessFlags := 0, nameIndex := 131, descriptorIndex := 6, attributes := #[] }, { accessFlags := 2, nameIndex := 84, descriptorIndex := 85, attributes := #[] }, { accessFlags := 2, nameIndex := 88, descriptorIndex := 89, attributes := #[] }, { accessFlags := 2, nameIndex := 95, descriptorIndex := 96, attributes := #[] }, { accessFlags := 2, nameIndex := 99, descriptorIndex := 85, attributes := #[] }, { accessFlags := 2, nameIndex := 92, descriptorIndex := 85, attributes := #[] }, { accessFlags := 10, nameIndex := 114, descriptorIndex := 115, attributes := #[] }] 48 2 #[] #[{ accessFlags := 24, nameIndex := 116, descriptorIndex := 117, attributes := #[] }, { accessFlags := 18, nameIndex := 11, descriptorIndex := 12, attributes := #[] }, { accessFlags := 18, nameIndex := 15, descriptorIndex := 12, attributes := #[] }, { accessFlags := 18, nameIndex := 18, descriptorIndex := 12, attributes := #[] }, { accessFlags := 18, nameIndex := 21, descriptorIndex := 12, attributes := #[] }, { accessFlags := 18, nameIndex := 24, descriptorIndex := 12, attributes := #[] }, { accessFlags := 18, nameIndex := 27, descriptorIndex := 12, attributes := #[] }, { accessFlags := 18, nameIndex := 30, descriptorIndex := 31, attributes := #[] }, { accessFlags := 18, nameIndex := 34, descriptorIndex := 12, attributes := #[] }, { accessFlags := 2, nameIndex := 81, descriptorIndex := 38, attributes := #[] }, { accessFlags := 2, nameIndex := 37, descriptorIndex := 38, attributes := #[] }, { accessFlags := 18, nameIndex := 41, descriptorIndex := 31, attributes := #[] }, { accessFlags := 18, nameIndex := 44, descriptorIndex := 12, attributes := #[] }, { accessFlags := 18, nameIndex := 47, descriptorIndex := 31, attributes := #[] }, { accessFlags := 18, nameIndex := 50, descriptorIndex := 12, attributes := #[] }])
  fields := #[{ name := "TOLERANCE", type := .double, accessFlags := 24, slot := 0, constantValue := 0 }, { name := "elements", type := (.array .int), accessFlags := 18, slot := 0, constantValue := 0 }, { name := "position", type := (.array .int), accessFlags := 18, slot := 1, constantValue := 0 }, { name := "blockOf", type := (.array .int), accessFlags := 18, slot := 2, constantValue := 0 }, { name := "first", type := (.array .int), accessFlags := 18, slot := 3, constantValue := 0 }, { name := "end", type := (.array .int), accessFlags := 18, slot := 4, constantValue := 0 }, { name := "marked", type := (.array .int), accessFlags := 18, slot := 5, constantValue := 0 }, { name := "weight", type := (.array .double), accessFlags := 18, slot := 6, constantValue := 0 }, { name := "touched", type := (.array .int), accessFlags := 18, slot := 7, constantValue := 0 }, { name := "touchedCount", type := .int, accessFlags := 2, slot := 8, constantValue := 0 }, { name := "blocks", type := .int, accessFlags := 2, slot := 9, constantValue := 0 }, { name := "sortKeys", type := (.array .double), accessFlags := 18, slot := 10, constantValue := 0 }, { name := "sortStates", type := (.array .int), accessFlags := 18, slot := 11, constantValue := 0 }, { name := "mergedKeys", type := (.array .double), accessFlags := 18, slot := 12, constantValue := 0 }, { name := "mergedStates", type := (.array .int), accessFlags := 18, slot := 13, constantValue := 0 }]
  methods := #[k2m0, k2m1, k2m2, k2m3, k2m4, k2m5, k2m6, k2m7, k2m8, k2m9, k2m10, k2m11, k2m12]
  instanceTypes := #[(.array .int), (.array .int), (.array .int), (.array .int), (.array .int), (.array .int), (.array .double), (.array .int), .int, .int, (.array .double), (.array .int), (.array .double), (.array .int)]
  staticTypes := #[.double]
  resolved := Array.replicate 138 none
  statics := none }

def pool3 : Array CpInfo := pool [(2, .class_ 4), (1, u "java/lang/Object"), (0, u "<init>"), (0, u "()V"), (1, .class_ 10), (1, u "java/lang/System"), (0, u "allowSecurityManager"), (0, u "I"), (16, u "cons"), (0, u "Ljava/io/Console;"), (77, .class_ 110), (1, u "java/lang/System$CallersHolder"), (43, u "initialErrStream"), (0, u "Ljava/io/PrintStream;"), (19, u "security"), (0, u "Ljava/lang/SecurityManager;"), (31, .class_ 209), (0, u "java/lang/System$1"), (7, u "props"), (0, u "Ljava/util/Properties;"), (2, u "lineSeparator"), (0, u "Ljava/lang/String;"), (96, .class_ 321), (1, u "java/lang/System$LoggerFinder"), (5, .class_ 328), (0, u "java/lang/System$Logger"), (67, u "err"), (2, u "out"), (91, u "notSupportedJnuEncoding"), (15, u "in"), (17, u "initialIn"), (0, u "Ljava/io/InputStream;"), (35, u "bootLayer"), (0, u "Ljava/lang/ModuleLayer;"), (99, .class_ 664), (0, u "java/lang/System$2"), (9, u "NEVER"), (2, u "MAYBE"), (49, u "arraycopy"), (0, u "(Ljava/lang/Object;ILjava/lang/Object;II)V"), (72, .class_ 802), (0, u "java/lang/System$Logger$Level")] 31

def k3m0 : Method := { name := "<init>", desc := "()V", sig := { parameters := [], returnType := none }, accessFlags := 2, code := none }
def k3m1 : Method := { name := "arraycopy", desc := "(Ljava/lang/Object;ILjava/lang/Object;II)V", sig := { parameters := [(.object "java/lang/Object"), .int, (.object "java/lang/Object"), .int, .int], returnType := none }, accessFlags := 265, code := none }
/-- java/lang/System -/
def k3 : Class := { plain "java/lang/System" (some 0) with
  accessFlags := 49
  interfaces := #[]
  cf := some (fileOf pool3 8 #[.nestMembers #[319, 327, 801, 108, 663, 208]] #[{ accessFlags := 2, nameIndex := 5, descriptorIndex := 6, attributes := #[] }, { accessFlags := 265, nameIndex := 727, descriptorIndex := 728, attributes := #[] }] 49 2 #[] #[{ accessFlags := 25, nameIndex := 507, descriptorIndex := 526, attributes := #[] }, { accessFlags := 25, nameIndex := 399, descriptorIndex := 155, attributes := #[] }, { accessFlags := 25, nameIndex := 396, descriptorIndex := 155, attributes := #[] }, { accessFlags := 10, nameIndex := 525, descriptorIndex := 526, attributes := #[] }, { accessFlags := 26, nameIndex := 674, descriptorIndex := 12, attributes := #[] }, { accessFlags := 26, nameIndex := 677, descriptorIndex := 12, attributes := #[] }, { accessFlags := 10, nameIndex := 11, descriptorIndex := 12, attributes := #[] }, { accessFlags := 74, nameIndex := 175, descriptorIndex := 176, attributes := #[] }, { accessFlags := 10, nameIndex := 491, descriptorIndex := 222, attributes := #[] }, { accessFlags := 74, nameIndex := 29, descriptorIndex := 30, attributes := #[] }, { accessFlags := 74, nameIndex := 154, descriptorIndex := 155, attributes := #[] }, { accessFlags := 10, nameIndex := 217, descriptorIndex := 218, attributes := #[] }, { accessFlags := 10, nameIndex := 221, descriptorIndex := 222, attributes := #[] }, { accessFlags := 8, nameIndex := 562, descriptorIndex := 563, attributes := #[] }])
  fields := #[{ name := "in", type := (.object "java/io/InputStream"), accessFlags := 25, slot := 0, constantValue := 0 }, { name := "out", type := (.object "java/io/PrintStream"), accessFlags := 25, slot := 1, constantValue := 0 }, { name := "err", type := (.object "java/io/PrintStream"), accessFlags := 25, slot := 2, constantValue := 0 }, { name := "initialIn", type := (.object "java/io/InputStream"), accessFlags := 10, slot := 3, constantValue := 0 }, { name := "NEVER", type := .int, accessFlags := 26, slot := 4, constantValue := 0 }, { name := "MAYBE", type := .int, accessFlags := 26, slot := 5, constantValue := 0 }, { name := "allowSecurityManager", type := .int, accessFlags := 10, slot := 6, constantValue := 0 }, { name := "security", type := (.object "java/lang/SecurityManager"), accessFlags := 74, slot := 7, constantValue := 0 }, { name := "notSupportedJnuEncoding", type := (.object "java/lang/String"), accessFlags := 10, slot := 8, constantValue := 0 }, { name := "cons", type := (.object "java/io/Console"), accessFlags := 74, slot := 9, constantValue := 0 }, { name := "initialErrStream", type := (.object "java/io/PrintStream"), accessFlags := 74, slot := 10, constantValue := 0 }, { name := "props", type := (.object "java/util/Properties"), accessFlags := 10, slot := 11, constantValue := 0 }, { name := "lineSeparator", type := (.object "java/lang/String"), accessFlags := 10, slot := 12, constantValue := 0 }, { name := "bootLayer", type := (.object "java/lang/ModuleLayer"), accessFlags := 8, slot := 13, constantValue := 0 }]
  methods := #[k3m0, k3m1]
  instanceTypes := #[]
  staticTypes := #[(.object "java/io/InputStream"), (.object "java/io/PrintStream"), (.object "java/io/PrintStream"), (.object "java/io/InputStream"), .int, .int, .int, (.object "java/lang/SecurityManager"), (.object "java/lang/String"), (.object "java/io/Console"), (.object "java/io/PrintStream"), (.object "java/util/Properties"), (.object "java/lang/String"), (.object "java/lang/ModuleLayer")]
  resolved := Array.replicate 834 none
  statics := none }

def pool4 : Array CpInfo := pool [(1, .class_ 2), (0, u "java/lang/Math"), (1, .class_ 6), (1, u "java/lang/Object"), (0, u "<init>"), (0, u "()V"), (5, u "(D)D"), (37, u "(DD)D"), (45, .class_ 100), (1, u "java/lang/Math$RandomNumberGeneratorHolder"), (20, u "(JJ)J"), (2, u "abs"), (47, u "negativeZeroFloatBits"), (0, u "J"), (2, u "negativeZeroDoubleBits"), (21, u "max"), (2, u "min"), (43, u "$assertionsDisabled"), (0, u "Z"), (88, u "(II)I"), (2, u "twoToTheDoubleScaleDown"), (0, u "D"), (4, u "twoToTheDoubleScaleUp"), (9, u "E"), (3, u "PI"), (2, u "TAU"), (2, u "DEGREES_TO_RADIANS"), (0, u "RADIANS_TO_DEGREES")] 94

def k4m0 : Method := { name := "<init>", desc := "()V", sig := { parameters := [], returnType := none }, accessFlags := 2, code := none }
def k4c1 : Code := { maxStack := 4, maxLocals := 2, code := jdk_29_method_64_code, exceptionTable := #[], attributes := #[] }
def k4m1 : Method := { name := "abs", desc := "(D)D", sig := { parameters := [.double], returnType := some .double }, accessFlags := 9, code := some k4c1 }
def k4c2 : Code := { maxStack := 2, maxLocals := 2, code := jdk_29_method_65_code, exceptionTable := #[], attributes := #[] }
def k4m2 : Method := { name := "max", desc := "(II)I", sig := { parameters := [.int, .int], returnType := some .int }, accessFlags := 9, code := some k4c2 }
def k4c3 : Code := { maxStack := 4, maxLocals := 4, code := jdk_29_method_68_code, exceptionTable := #[], attributes := #[] }
def k4m3 : Method := { name := "max", desc := "(DD)D", sig := { parameters := [.double, .double], returnType := some .double }, accessFlags := 9, code := some k4c3 }
def k4c4 : Code := { maxStack := 4, maxLocals := 4, code := jdk_29_method_70_code, exceptionTable := #[], attributes := #[] }
def k4m4 : Method := { name := "min", desc := "(JJ)J", sig := { parameters := [.long, .long], returnType := some .long }, accessFlags := 9, code := some k4c4 }
def k4c5 : Code := { maxStack := 4, maxLocals := 4, code := jdk_29_method_72_code, exceptionTable := #[], attributes := #[] }
def k4m5 : Method := { name := "min", desc := "(DD)D", sig := { parameters := [.double, .double], returnType := some .double }, accessFlags := 9, code := some k4c5 }
/-- java/lang/Math -/
def k4 : Class := { plain "java/lang/Math" (some 0) with
  accessFlags := 49
  interfaces := #[]
  cf := some (fileOf pool4 1 #[.nestMembers #[98]] #[{ accessFlags := 2, nameIndex := 7, descriptorIndex := 8, attributes := #[] }, { accessFlags := 9, nameIndex := 124, descriptorIndex := 14, attributes := #[] }, { accessFlags := 9, nameIndex := 198, descriptorIndex := 335, attributes := #[] }, { accessFlags := 9, nameIndex := 198, descriptorIndex := 52, attributes := #[] }, { accessFlags := 9, nameIndex := 201, descriptorIndex := 121, attributes := #[] }, { accessFlags := 9, nameIndex := 201, descriptorIndex := 52, attributes := #[] }] 49 4 #[] #[{ accessFlags := 25, nameIndex := 354, descriptorIndex := 339, attributes := #[] }, { accessFlags := 25, nameIndex := 358, descriptorIndex := 339, attributes := #[] }, { accessFlags := 25, nameIndex := 361, descriptorIndex := 339, attributes := #[] }, { accessFlags := 26, nameIndex := 364, descriptorIndex := 339, attributes := #[] }, { accessFlags := 26, nameIndex := 365, descriptorIndex := 339, attributes := #[] }, { accessFlags := 26, nameIndex := 172, descriptorIndex := 173, attributes := #[] }, { accessFlags := 26, nameIndex := 176, descriptorIndex := 173, attributes := #[] }, { accessFlags := 8, nameIndex := 344, descriptorIndex := 339, attributes := #[] }, { accessFlags := 8, nameIndex := 338, descriptorIndex := 339, attributes := #[] }, { accessFlags := 4120, nameIndex := 245, descriptorIndex := 246, attributes := #[] }])
  fields := #[{ name := "E", type := .double, accessFlags := 25, slot := 0, constantValue := 0 }, { name := "PI", type := .double, accessFlags := 25, slot := 1, constantValue := 0 }, { name := "TAU", type := .double, accessFlags := 25, slot := 2, constantValue := 0 }, { name := "DEGREES_TO_RADIANS", type := .double, accessFlags := 26, slot := 3, constantValue := 0 }, { name := "RADIANS_TO_DEGREES", type := .double, accessFlags := 26, slot := 4, constantValue := 0 }, { name := "negativeZeroFloatBits", type := .long, accessFlags := 26, slot := 5, constantValue := 0 }, { name := "negativeZeroDoubleBits", type := .long, accessFlags := 26, slot := 6, constantValue := 0 }, { name := "twoToTheDoubleScaleUp", type := .double, accessFlags := 8, slot := 7, constantValue := 0 }, { name := "twoToTheDoubleScaleDown", type := .double, accessFlags := 8, slot := 8, constantValue := 0 }, { name := "$assertionsDisabled", type := .boolean, accessFlags := 4120, slot := 9, constantValue := 0 }]
  methods := #[k4m0, k4m1, k4m2, k4m3, k4m4, k4m5]
  instanceTypes := #[]
  staticTypes := #[.double, .double, .double, .double, .double, .long, .long, .double, .double, .boolean]
  resolved := Array.replicate 460 none
  statics := none }

def pool5 : Array CpInfo := pool [(1, u "java/lang/Cloneable"), (0, .class_ 1), (0, u "java/lang/Object"), (0, .class_ 3)] 3

/-- java/lang/Cloneable -/
def k5 : Class := { plain "java/lang/Cloneable" (some 0) with
  accessFlags := 1537
  interfaces := #[]
  cf := some (fileOf pool5 2 #[] #[] 1537 4 #[] #[])
  fields := #[]
  methods := #[]
  instanceTypes := #[]
  staticTypes := #[]
  resolved := Array.replicate 8 none
  statics := none }

def pool6 : Array CpInfo := pool [(1, u "java/io/Serializable"), (0, .class_ 1), (0, u "java/lang/Object"), (0, .class_ 3)] 3

/-- java/io/Serializable -/
def k6 : Class := { plain "java/io/Serializable" (some 0) with
  accessFlags := 1537
  interfaces := #[]
  cf := some (fileOf pool6 2 #[] #[] 1537 4 #[] #[])
  fields := #[]
  methods := #[]
  instanceTypes := #[]
  staticTypes := #[]
  resolved := Array.replicate 8 none
  statics := none }

/-- the primitive boolean -/
def k7 : Class := { plain "boolean" none with kind := .primitive 'Z', accessFlags := 0x411 }
/-- [Z -/
def k8 : Class := { plain "[Z" (some 0) with kind := .array 7 .boolean, interfaces := #[5, 6], accessFlags := 1041 }

/-- the primitive byte -/
def k9 : Class := { plain "byte" none with kind := .primitive 'B', accessFlags := 0x411 }
/-- [B -/
def k10 : Class := { plain "[B" (some 0) with kind := .array 9 .byte, interfaces := #[5, 6], accessFlags := 1041 }

/-- the primitive double -/
def k11 : Class := { plain "double" none with kind := .primitive 'D', accessFlags := 0x411 }
/-- [D -/
def k12 : Class := { plain "[D" (some 0) with kind := .array 11 .double, interfaces := #[5, 6], accessFlags := 1041 }

/-- the primitive int -/
def k13 : Class := { plain "int" none with kind := .primitive 'I', accessFlags := 0x411 }
/-- [I -/
def k14 : Class := { plain "[I" (some 0) with kind := .array 13 .int, interfaces := #[5, 6], accessFlags := 1041 }

def heap : Heap := #[]
def classes : Array Class := #[k0, k1, k2, k3, k4, k5, k6, k7, k8, k9, k10, k11, k12, k13, k14]
def interned : List (Array UInt16 × Addr) := []
def slotsUsed : Nat := 0
def theMethod : MethodId := ⟨1, 1⟩
def args0 : Array Value := #[.int 5, .int 6, .int 7, .int 8, .int 9, .int 4]
def aboutOver (below : List Frame) : State where
  vm := { classes := classes, interned := interned.toArray }
  heap := heap
  slotsUsed := slotsUsed
  threads := #[{ frames := .invoking theMethod args0 :: below }]
def below0 : List Frame := [.native { method := ⟨0, 0⟩, args := #[] }]
def about1 : State := aboutOver below0
def p0 : Program := .bare "" "" ""
def e0 : Env := launch0.env 0 0 0
theorem w_frames : about1.frames = Frame.invoking theMethod args0 :: below0 := rfl
set_option maxRecDepth 65536 in
theorem w_args : argsFit about1.vm theMethod args0 = true := by decide +kernel
set_option maxRecDepth 65536 in
theorem w_heap : heapFits about1 = true := by decide +kernel
set_option maxRecDepth 65536 in
theorem w_runnable : about1.curStatus? = some .runnable := by decide +kernel
set_option maxRecDepth 65536 in
theorem w_alone : about1.alone = true := by decide +kernel
set_option maxRecDepth 65536 in
theorem w_named : about1.methodNamed? x = some theMethod := by decide +kernel
set_option maxRecDepth 65536 in
theorem w_hears : about1.hears theMethod below0 = true := by decide +kernel
set_option maxRecDepth 65536 in
theorem w_ripe : about1.ripe theMethod args0 below0 = true := by decide +kernel
theorem w_running : about1.status = .running := rfl
set_option maxRecDepth 65536 in
theorem w_room : about1.hasRoom e0.platform room_1 = true :=
  launch0.hasRoom_least _ room_1 (by decide +kernel) (by decide +kernel) (by decide +kernel) (by decide +kernel) (by decide +kernel) (by decide +kernel)
theorem allAtoms_all (ts : List Jvm.Cond) (a : Array Jvm.Value) (st : Jvm.State) : (allAtoms ts).before a st = ts.all (fun c => c.before a st) := by
  induction ts with
  | nil => rfl
  | cons c t ih =>
    show (Jvm.Cond.and c (allAtoms t)).before a st = _
    rw [Jvm.Cond.before_and, ih, List.all_cons]
def words1 : List Jvm.Cond := Jvm.Cond.code x code maxLocals ret :: tables_1
/-- a 'code' word, met by the world's own term for the bytes: nothing is compared byte by byte -/
theorem code_word {y : MethodName} {bytes : ByteArray} {mx : Nat} {rt : Option FieldType} {a : Array Value} {s : State} {m : MethodId} {meth : Method} {c : Code} (h1 : s.methodNamed? y = some m) (h2 : s.vm.method? m = some meth) (h3 : meth.code = some c) (h4 : c.code = bytes)
    (h5 : (c.maxLocals == mx && c.exceptionTable.isEmpty && decide (c.maxStack ≤ mostOperands) && decide (meth.sig.returnType = rt) && !meth.locks && decide (parseMethodDescriptor y.desc = some meth.sig)) = true) : (Jvm.Cond.code y bytes mx rt).before a s = true := by
  simp only [Bool.and_eq_true, beq_iff_eq, Bool.not_eq_true', decide_eq_true_eq] at h5
  obtain ⟨⟨⟨⟨⟨g1, g2⟩, g3⟩, g4⟩, g5⟩, g6⟩ := h5
  simp [Cond.before, Cond.holds, Cond.value, h1, h2, h3, h4, g1, g2, g3, g4, g5, g6]
def isCode : Jvm.Cond → Bool
  | .code _ _ _ _ => true
  | _ => false
theorem all_split {L : List Jvm.Cond} {P : Jvm.Cond → Bool} (h1 : L.all (fun c => isCode c || P c) = true) (h2 : ∀ c ∈ L.filter isCode, P c = true) : L.all P = true := by
  refine List.all_eq_true.mpr fun c hc => ?_
  have h := List.all_eq_true.mp h1 c hc
  rcases Bool.eq_false_or_eq_true (isCode c) with hi | hi
  · exact h2 c (List.mem_filter.mpr ⟨hc, hi⟩)
  · simpa [hi] using h
set_option maxRecDepth 65536 in
theorem w_c0 : (Jvm.Cond.code x code maxLocals ret).before args0 about1 = true := code_word (m := ⟨1, 1⟩) (meth := k1m1) (c := k1c1) (by decide +kernel) rfl rfl rfl (by decide +kernel)
set_option maxRecDepth 65536 in
theorem w_c1 : (Jvm.Cond.code ({ cls := "com/example/lumper/lumper/analysis/Partition", name := "<init>", desc := "(I)V" } : Jvm.MethodName) prog_12_method_1_code (3 : Nat) (Option.none : Option Jvm.ClassFile.FieldType)).before args0 about1 = true := code_word (m := ⟨2, 0⟩) (meth := k2m0) (c := k2c0) (by decide +kernel) rfl rfl rfl (by decide +kernel)
set_option maxRecDepth 65536 in
theorem w_c2 : (Jvm.Cond.code ({ cls := "java/lang/Object", name := "<init>", desc := "()V" } : Jvm.MethodName) object_method_1_code (1 : Nat) (Option.none : Option Jvm.ClassFile.FieldType)).before args0 about1 = true := code_word (m := ⟨0, 0⟩) (meth := k0m0) (c := k0c0) (by decide +kernel) rfl rfl rfl (by decide +kernel)
set_option maxRecDepth 65536 in
theorem w_c3 : (Jvm.Cond.code ({ cls := "com/example/lumper/lumper/analysis/Partition", name := "add", desc := "(ID)V" } : Jvm.MethodName) prog_12_method_7_code (8 : Nat) (Option.none : Option Jvm.ClassFile.FieldType)).before args0 about1 = true := code_word (m := ⟨2, 5⟩) (meth := k2m5) (c := k2c5) (by decide +kernel) rfl rfl rfl (by decide +kernel)
set_option maxRecDepth 65536 in
theorem w_c4 : (Jvm.Cond.code ({ cls := "com/example/lumper/lumper/analysis/Partition", name := "copyMembers", desc := "(I[I)I" } : Jvm.MethodName) prog_12_method_6_code (4 : Nat) (Option.some Jvm.ClassFile.FieldType.int)).before args0 about1 = true := code_word (m := ⟨2, 4⟩) (meth := k2m4) (c := k2c4) (by decide +kernel) rfl rfl rfl (by decide +kernel)
set_option maxRecDepth 65536 in
theorem w_c5 : (Jvm.Cond.code ({ cls := "com/example/lumper/lumper/analysis/Partition", name := "split", desc := "()V" } : Jvm.MethodName) prog_12_method_8_code (4 : Nat) (Option.none : Option Jvm.ClassFile.FieldType)).before args0 about1 = true := code_word (m := ⟨2, 6⟩) (meth := k2m6) (c := k2c6) (by decide +kernel) rfl rfl rfl (by decide +kernel)
set_option maxRecDepth 65536 in
theorem w_c6 : (Jvm.Cond.code ({ cls := "com/example/lumper/lumper/analysis/Partition", name := "splitBlock", desc := "(II)V" } : Jvm.MethodName) prog_12_method_9_code (10 : Nat) (Option.none : Option Jvm.ClassFile.FieldType)).before args0 about1 = true := code_word (m := ⟨2, 7⟩) (meth := k2m7) (c := k2c7) (by decide +kernel) rfl rfl rfl (by decide +kernel)
set_option maxRecDepth 65536 in
theorem w_c7 : (Jvm.Cond.code ({ cls := "com/example/lumper/lumper/analysis/Partition", name := "alike", desc := "(II)Z" } : Jvm.MethodName) prog_12_method_10_code (8 : Nat) (Option.some Jvm.ClassFile.FieldType.boolean)).before args0 about1 = true := code_word (m := ⟨2, 8⟩) (meth := k2m8) (c := k2c8) (by decide +kernel) rfl rfl rfl (by decide +kernel)
set_option maxRecDepth 65536 in
theorem w_c8 : (Jvm.Cond.code ({ cls := "java/lang/Math", name := "min", desc := "(DD)D" } : Jvm.MethodName) jdk_29_method_72_code (4 : Nat) (Option.some Jvm.ClassFile.FieldType.double)).before args0 about1 = true := code_word (m := ⟨4, 5⟩) (meth := k4m5) (c := k4c5) (by decide +kernel) rfl rfl rfl (by decide +kernel)
set_option maxRecDepth 65536 in
theorem w_c9 : (Jvm.Cond.code ({ cls := "java/lang/Math", name := "max", desc := "(DD)D" } : Jvm.MethodName) jdk_29_method_68_code (4 : Nat) (Option.some Jvm.ClassFile.FieldType.double)).before args0 about1 = true := code_word (m := ⟨4, 3⟩) (meth := k4m3) (c := k4c3) (by decide +kernel) rfl rfl rfl (by decide +kernel)
set_option maxRecDepth 65536 in
theorem w_c10 : (Jvm.Cond.code ({ cls := "java/lang/Math", name := "abs", desc := "(D)D" } : Jvm.MethodName) jdk_29_method_64_code (2 : Nat) (Option.some Jvm.ClassFile.FieldType.double)).before args0 about1 = true := code_word (m := ⟨4, 1⟩) (meth := k4m1) (c := k4c1) (by decide +kernel) rfl rfl rfl (by decide +kernel)
set_option maxRecDepth 65536 in
theorem w_c11 : (Jvm.Cond.code ({ cls := "com/example/lumper/lumper/analysis/Partition", name := "sortByWeight", desc := "(II)V" } : Jvm.MethodName) prog_12_method_13_code (14 : Nat) (Option.none : Option Jvm.ClassFile.FieldType)).before args0 about1 = true := code_word (m := ⟨2, 11⟩) (meth := k2m11) (c := k2c11) (by decide +kernel) rfl rfl rfl (by decide +kernel)
set_option maxRecDepth 65536 in
theorem w_c12 : (Jvm.Cond.code ({ cls := "java/lang/Math", name := "min", desc := "(JJ)J" } : Jvm.MethodName) jdk_29_method_70_code (4 : Nat) (Option.some Jvm.ClassFile.FieldType.long)).before args0 about1 = true := code_word (m := ⟨4, 4⟩) (meth := k4m4) (c := k4c4) (by decide +kernel) rfl rfl rfl (by decide +kernel)
set_option maxRecDepth 65536 in
theorem w_c13 : (Jvm.Cond.code ({ cls := "com/example/lumper/lumper/analysis/Partition", name := "merge", desc := "([D[IIII[D[I)V" } : Jvm.MethodName) prog_12_method_14_code (12 : Nat) (Option.none : Option Jvm.ClassFile.FieldType)).before args0 about1 = true := code_word (m := ⟨2, 12⟩) (meth := k2m12) (c := k2c12) (by decide +kernel) rfl rfl rfl (by decide +kernel)
set_option maxRecDepth 65536 in
theorem w_c14 : (Jvm.Cond.code ({ cls := "com/example/lumper/lumper/analysis/Partition", name := "groupEnd", desc := "(IIIZ)I" } : Jvm.MethodName) prog_12_method_11_code (6 : Nat) (Option.some Jvm.ClassFile.FieldType.int)).before args0 about1 = true := code_word (m := ⟨2, 9⟩) (meth := k2m9) (c := k2c9) (by decide +kernel) rfl rfl rfl (by decide +kernel)
set_option maxRecDepth 65536 in
theorem w_c15 : (Jvm.Cond.code ({ cls := "com/example/lumper/lumper/analysis/Partition", name := "equal", desc := "(DD)Z" } : Jvm.MethodName) prog_12_method_2_code (4 : Nat) (Option.some Jvm.ClassFile.FieldType.boolean)).before args0 about1 = true := code_word (m := ⟨2, 1⟩) (meth := k2m1) (c := k2c1) (by decide +kernel) rfl rfl rfl (by decide +kernel)
set_option maxRecDepth 65536 in
theorem w_c16 : (Jvm.Cond.code ({ cls := "com/example/lumper/lumper/analysis/Partition", name := "newBlock", desc := "(II)V" } : Jvm.MethodName) prog_12_method_12_code (5 : Nat) (Option.none : Option Jvm.ClassFile.FieldType)).before args0 about1 = true := code_word (m := ⟨2, 10⟩) (meth := k2m10) (c := k2c10) (by decide +kernel) rfl rfl rfl (by decide +kernel)
set_option maxRecDepth 65536 in
theorem w_c17 : (Jvm.Cond.code ({ cls := "com/example/lumper/lumper/analysis/Partition", name := "blockCount", desc := "()I" } : Jvm.MethodName) prog_12_method_4_code (1 : Nat) (Option.some Jvm.ClassFile.FieldType.int)).before args0 about1 = true := code_word (m := ⟨2, 2⟩) (meth := k2m2) (c := k2c2) (by decide +kernel) rfl rfl rfl (by decide +kernel)
set_option maxRecDepth 65536 in
theorem w_c18 : (Jvm.Cond.code ({ cls := "com/example/lumper/lumper/analysis/Partition", name := "blockOf", desc := "(I)I" } : Jvm.MethodName) prog_12_method_5_code (2 : Nat) (Option.some Jvm.ClassFile.FieldType.int)).before args0 about1 = true := code_word (m := ⟨2, 3⟩) (meth := k2m3) (c := k2c3) (by decide +kernel) rfl rfl rfl (by decide +kernel)
set_option maxRecDepth 65536 in
theorem w_c19 : (Jvm.Cond.code ({ cls := "com/example/lumper/lumper/analysis/PartitionAddPinLaw", name := "part", desc := "(III)I" } : Jvm.MethodName) method_3_code (3 : Nat) (Option.some Jvm.ClassFile.FieldType.int)).before args0 about1 = true := code_word (m := ⟨1, 2⟩) (meth := k1m2) (c := k1c2) (by decide +kernel) rfl rfl rfl (by decide +kernel)
set_option maxRecDepth 65536 in
theorem w_c20 : (Jvm.Cond.code ({ cls := "com/example/lumper/lumper/analysis/PartitionAddPinLaw", name := "in", desc := "(I)Z" } : Jvm.MethodName) method_4_code (1 : Nat) (Option.some Jvm.ClassFile.FieldType.boolean)).before args0 about1 = true := code_word (m := ⟨1, 3⟩) (meth := k1m3) (c := k1c3) (by decide +kernel) rfl rfl rfl (by decide +kernel)
set_option maxRecDepth 65536 in
theorem w_c21 : (Jvm.Cond.code ({ cls := "com/example/lumper/lumper/analysis/PartitionAddPinLaw", name := "rank", desc := "(ZIZIZI)I" } : Jvm.MethodName) method_7_code (8 : Nat) (Option.some Jvm.ClassFile.FieldType.int)).before args0 about1 = true := code_word (m := ⟨1, 6⟩) (meth := k1m6) (c := k1c6) (by decide +kernel) rfl rfl rfl (by decide +kernel)
set_option maxRecDepth 65536 in
theorem w_c22 : (Jvm.Cond.code ({ cls := "com/example/lumper/lumper/analysis/PartitionAddPinLaw", name := "before", desc := "(ZIZI)Z" } : Jvm.MethodName) method_5_code (4 : Nat) (Option.some Jvm.ClassFile.FieldType.boolean)).before args0 about1 = true := code_word (m := ⟨1, 4⟩) (meth := k1m4) (c := k1c4) (by decide +kernel) rfl rfl rfl (by decide +kernel)
set_option maxRecDepth 65536 in
theorem w_c23 : (Jvm.Cond.code ({ cls := "com/example/lumper/lumper/analysis/PartitionAddPinLaw", name := "same", desc := "(ZIZI)Z" } : Jvm.MethodName) method_6_code (4 : Nat) (Option.some Jvm.ClassFile.FieldType.boolean)).before args0 about1 = true := code_word (m := ⟨1, 5⟩) (meth := k1m5) (c := k1c5) (by decide +kernel) rfl rfl rfl (by decide +kernel)
set_option maxRecDepth 65536 in
theorem w_c24 : (Jvm.Cond.code ({ cls := "java/lang/Math", name := "max", desc := "(II)I" } : Jvm.MethodName) jdk_29_method_65_code (2 : Nat) (Option.some Jvm.ClassFile.FieldType.int)).before args0 about1 = true := code_word (m := ⟨4, 2⟩) (meth := k4m2) (c := k4c2) (by decide +kernel) rfl rfl rfl (by decide +kernel)
set_option maxRecDepth 65536 in
theorem w_c25 : (Jvm.Cond.code ({ cls := "com/example/lumper/lumper/analysis/PartitionAddPinLaw", name := "block", desc := "(II)I" } : Jvm.MethodName) method_8_code (2 : Nat) (Option.some Jvm.ClassFile.FieldType.int)).before args0 about1 = true := code_word (m := ⟨1, 7⟩) (meth := k1m7) (c := k1c7) (by decide +kernel) rfl rfl rfl (by decide +kernel)
def codes1 : List Jvm.Cond := [Jvm.Cond.code x code maxLocals ret, Jvm.Cond.code ({ cls := "com/example/lumper/lumper/analysis/Partition", name := "<init>", desc := "(I)V" } : Jvm.MethodName) prog_12_method_1_code (3 : Nat) (Option.none : Option Jvm.ClassFile.FieldType), Jvm.Cond.code ({ cls := "java/lang/Object", name := "<init>", desc := "()V" } : Jvm.MethodName) object_method_1_code (1 : Nat) (Option.none : Option Jvm.ClassFile.FieldType), Jvm.Cond.code ({ cls := "com/example/lumper/lumper/analysis/Partition", name := "add", desc := "(ID)V" } : Jvm.MethodName) prog_12_method_7_code (8 : Nat) (Option.none : Option Jvm.ClassFile.FieldType), Jvm.Cond.code ({ cls := "com/example/lumper/lumper/analysis/Partition", name := "copyMembers", desc := "(I[I)I" } : Jvm.MethodName) prog_12_method_6_code (4 : Nat) (Option.some Jvm.ClassFile.FieldType.int), Jvm.Cond.code ({ cls := "com/example/lumper/lumper/analysis/Partition", name := "split", desc := "()V" } : Jvm.MethodName) prog_12_method_8_code (4 : Nat) (Option.none : Option Jvm.ClassFile.FieldType), Jvm.Cond.code ({ cls := "com/example/lumper/lumper/analysis/Partition", name := "splitBlock", desc := "(II)V" } : Jvm.MethodName) prog_12_method_9_code (10 : Nat) (Option.none : Option Jvm.ClassFile.FieldType), Jvm.Cond.code ({ cls := "com/example/lumper/lumper/analysis/Partition", name := "alike", desc := "(II)Z" } : Jvm.MethodName) prog_12_method_10_code (8 : Nat) (Option.some Jvm.ClassFile.FieldType.boolean), Jvm.Cond.code ({ cls := "java/lang/Math", name := "min", desc := "(DD)D" } : Jvm.MethodName) jdk_29_method_72_code (4 : Nat) (Option.some Jvm.ClassFile.FieldType.double), Jvm.Cond.code ({ cls := "java/lang/Math", name := "max", desc := "(DD)D" } : Jvm.MethodName) jdk_29_method_68_code (4 : Nat) (Option.some Jvm.ClassFile.FieldType.double), Jvm.Cond.code ({ cls := "java/lang/Math", name := "abs", desc := "(D)D" } : Jvm.MethodName) jdk_29_method_64_code (2 : Nat) (Option.some Jvm.ClassFile.FieldType.double), Jvm.Cond.code ({ cls := "com/example/lumper/lumper/analysis/Partition", name := "sortByWeight", desc := "(II)V" } : Jvm.MethodName) prog_12_method_13_code (14 : Nat) (Option.none : Option Jvm.ClassFile.FieldType), Jvm.Cond.code ({ cls := "java/lang/Math", name := "min", desc := "(JJ)J" } : Jvm.MethodName) jdk_29_method_70_code (4 : Nat) (Option.some Jvm.ClassFile.FieldType.long), Jvm.Cond.code ({ cls := "com/example/lumper/lumper/analysis/Partition", name := "merge", desc := "([D[IIII[D[I)V" } : Jvm.MethodName) prog_12_method_14_code (12 : Nat) (Option.none : Option Jvm.ClassFile.FieldType), Jvm.Cond.code ({ cls := "com/example/lumper/lumper/analysis/Partition", name := "groupEnd", desc := "(IIIZ)I" } : Jvm.MethodName) prog_12_method_11_code (6 : Nat) (Option.some Jvm.ClassFile.FieldType.int), Jvm.Cond.code ({ cls := "com/example/lumper/lumper/analysis/Partition", name := "equal", desc := "(DD)Z" } : Jvm.MethodName) prog_12_method_2_code (4 : Nat) (Option.some Jvm.ClassFile.FieldType.boolean), Jvm.Cond.code ({ cls := "com/example/lumper/lumper/analysis/Partition", name := "newBlock", desc := "(II)V" } : Jvm.MethodName) prog_12_method_12_code (5 : Nat) (Option.none : Option Jvm.ClassFile.FieldType), Jvm.Cond.code ({ cls := "com/example/lumper/lumper/analysis/Partition", name := "blockCount", desc := "()I" } : Jvm.MethodName) prog_12_method_4_code (1 : Nat) (Option.some Jvm.ClassFile.FieldType.int), Jvm.Cond.code ({ cls := "com/example/lumper/lumper/analysis/Partition", name := "blockOf", desc := "(I)I" } : Jvm.MethodName) prog_12_method_5_code (2 : Nat) (Option.some Jvm.ClassFile.FieldType.int), Jvm.Cond.code ({ cls := "com/example/lumper/lumper/analysis/PartitionAddPinLaw", name := "part", desc := "(III)I" } : Jvm.MethodName) method_3_code (3 : Nat) (Option.some Jvm.ClassFile.FieldType.int), Jvm.Cond.code ({ cls := "com/example/lumper/lumper/analysis/PartitionAddPinLaw", name := "in", desc := "(I)Z" } : Jvm.MethodName) method_4_code (1 : Nat) (Option.some Jvm.ClassFile.FieldType.boolean), Jvm.Cond.code ({ cls := "com/example/lumper/lumper/analysis/PartitionAddPinLaw", name := "rank", desc := "(ZIZIZI)I" } : Jvm.MethodName) method_7_code (8 : Nat) (Option.some Jvm.ClassFile.FieldType.int), Jvm.Cond.code ({ cls := "com/example/lumper/lumper/analysis/PartitionAddPinLaw", name := "before", desc := "(ZIZI)Z" } : Jvm.MethodName) method_5_code (4 : Nat) (Option.some Jvm.ClassFile.FieldType.boolean), Jvm.Cond.code ({ cls := "com/example/lumper/lumper/analysis/PartitionAddPinLaw", name := "same", desc := "(ZIZI)Z" } : Jvm.MethodName) method_6_code (4 : Nat) (Option.some Jvm.ClassFile.FieldType.boolean), Jvm.Cond.code ({ cls := "java/lang/Math", name := "max", desc := "(II)I" } : Jvm.MethodName) jdk_29_method_65_code (2 : Nat) (Option.some Jvm.ClassFile.FieldType.int), Jvm.Cond.code ({ cls := "com/example/lumper/lumper/analysis/PartitionAddPinLaw", name := "block", desc := "(II)I" } : Jvm.MethodName) method_8_code (2 : Nat) (Option.some Jvm.ClassFile.FieldType.int)]
set_option maxRecDepth 65536 in
theorem codes_eq : words1.filter isCode = codes1 := rfl
theorem w_codes : ∀ c ∈ words1.filter isCode, c.before args0 about1 = true := by
  rw [codes_eq]
  intro c hc
  simp only [codes1, List.mem_cons, List.not_mem_nil, or_false] at hc
  rcases hc with rfl | rfl | rfl | rfl | rfl | rfl | rfl | rfl | rfl | rfl | rfl | rfl | rfl | rfl | rfl | rfl | rfl | rfl | rfl | rfl | rfl | rfl | rfl | rfl | rfl | rfl
  · exact w_c0
  · exact w_c1
  · exact w_c2
  · exact w_c3
  · exact w_c4
  · exact w_c5
  · exact w_c6
  · exact w_c7
  · exact w_c8
  · exact w_c9
  · exact w_c10
  · exact w_c11
  · exact w_c12
  · exact w_c13
  · exact w_c14
  · exact w_c15
  · exact w_c16
  · exact w_c17
  · exact w_c18
  · exact w_c19
  · exact w_c20
  · exact w_c21
  · exact w_c22
  · exact w_c23
  · exact w_c24
  · exact w_c25
set_option maxRecDepth 65536 in
theorem w_t1 : (words1.take 24).all (fun c => isCode c || c.before args0 about1) = true := by decide +kernel
set_option maxRecDepth 65536 in
theorem w_t2 : ((words1.drop 24).take 24).all (fun c => isCode c || c.before args0 about1) = true := by decide +kernel
set_option maxRecDepth 65536 in
theorem w_t3 : (((words1.drop 24).drop 24).take 24).all (fun c => isCode c || c.before args0 about1) = true := by decide +kernel
set_option maxRecDepth 65536 in
theorem w_t4 : ((((words1.drop 24).drop 24).drop 24).take 24).all (fun c => isCode c || c.before args0 about1) = true := by decide +kernel
set_option maxRecDepth 65536 in
theorem w_t5 : (((((words1.drop 24).drop 24).drop 24).drop 24).take 24).all (fun c => isCode c || c.before args0 about1) = true := by decide +kernel
set_option maxRecDepth 65536 in
theorem w_t6 : (((((words1.drop 24).drop 24).drop 24).drop 24).drop 24).all (fun c => isCode c || c.before args0 about1) = true := by decide +kernel
theorem w_tables : (allAtoms (Jvm.Cond.code x code maxLocals ret :: tables_1)).before args0 about1 = true := by
  rw [allAtoms_all]
  show words1.all (fun c => c.before args0 about1) = true
  refine all_split ?_ w_codes
  rw [← List.take_append_drop 24 words1, List.all_append, w_t1, ← List.take_append_drop 24 (words1.drop 24), List.all_append, w_t2, ← List.take_append_drop 24 ((words1.drop 24).drop 24), List.all_append, w_t3, ← List.take_append_drop 24 (((words1.drop 24).drop 24).drop 24), List.all_append, w_t4, ← List.take_append_drop 24 ((((words1.drop 24).drop 24).drop 24).drop 24), List.all_append, w_t5, w_t6]
  rfl
set_option maxRecDepth 65536 in
theorem w_case : (Jvm.Cond.and given_1 narrow_1).before args0 about1 = true := by decide +kernel
theorem w_applies : (headSpec (Jvm.Cond.code x code maxLocals ret :: tables_1) room_1).applies x e0.platform about1 = true :=
  (Spec.applies_iff w_frames).mpr ⟨w_running, w_runnable, w_alone, w_named, w_hears, w_ripe, w_room, w_tables⟩
theorem atStart : AtStart classFile x code maxLocals ret World_1 tables_1 room_1 Calls_1 rest_1 Pre_1 launch0 p0 e0 about1 theMethod args0 below0 :=
  ⟨lists_1, trivial, launch0.admits_env _ _ _, launch0.least_env, fairChoices_fair.cas, fairChoices_fair.clock, w_frames, w_args, w_heap, w_applies, trivial, trivial, w_case⟩
end start1
theorem witness_1 : WitnessClaimed_1 := ⟨start1.p0, start1.e0, start1.about1, start1.theMethod, start1.args0, start1.below0, start1.atStart⟩
end Jvm.Pilot.@@N@@
