import JvmDerived
import JvmDerived.Pilot.@@N@@Statement
import JvmDerived.Pilot.@@N@@Code
set_option linter.unusedVariables false
set_option linter.unusedSimpArgs false

namespace Jvm.RI
open Sem ClassFile Op Lib Jvm.Stand Jvm.Free Jvm.LawKit Jvm.RoadKit
/-! THE LAYER: bytecode run over an abstract heap of the objects that the law itself makes. -/
abbrev FD : Type := String × String × String × FieldType × Bool
abbrev CL : Type := String × Nat × List FD
abbrev AObj : Type := (Nat × List Value) ⊕ (FieldType × List Value)
abbrev AH : Type := List AObj
abbrev FLk : Type := Nat × Nat × Bool × FieldType × String × String
abbrev MLk : Type := Nat × Nat × Nat × MethodName
abbrev Mth : Type := MethodName × ByteArray × Nat × Option FieldType × Nat × Nat × (Nat → Option (Instr × Nat × Nat)) × List (Nat × Int32) × List (Nat × Int64) × List (Nat × FLk) × List (Nat × MLk) × List (Nat × Nat)
abbrev Wld : Type := List Mth × List CL
def mNm (M : Mth) : MethodName := M.1
def mCode (M : Mth) : ByteArray := M.2.1
def mMax (M : Mth) : Nat := M.2.2.1
def mRet (M : Mth) : Option FieldType := M.2.2.2.1
def mArgs (M : Mth) : Nat := M.2.2.2.2.1
def mLen (M : Mth) : Nat := M.2.2.2.2.2.1
def mDec (M : Mth) : Nat → Option (Instr × Nat × Nat) := M.2.2.2.2.2.2.1
def mCi (M : Mth) : List (Nat × Int32) := M.2.2.2.2.2.2.2.1
def mCl (M : Mth) : List (Nat × Int64) := M.2.2.2.2.2.2.2.2.1
def mFl (M : Mth) : List (Nat × FLk) := M.2.2.2.2.2.2.2.2.2.1
def mMl (M : Mth) : List (Nat × MLk) := M.2.2.2.2.2.2.2.2.2.2.1
def mKl (M : Mth) : List (Nat × Nat) := M.2.2.2.2.2.2.2.2.2.2.2
def lk {α : Type} : List (Nat × α) → Nat → Option α
  | [], _ => none
  | q :: r, i => bif Nat.beq q.1 i then some q.2 else lk r i
theorem lk_mem {α : Type} {i : Nat} {v : α} : ∀ {l : List (Nat × α)}, lk l i = some v → (i, v) ∈ l
  | [], h => nomatch h
  | q :: r, h => by
    unfold lk at h
    cases hb : Nat.beq q.1 i with
    | true =>
      rw [hb] at h
      have e1 : q.1 = i := Nat.eq_of_beq_eq_true hb
      have e2 : q.2 = v := Option.some.inj h
      subst e1 e2
      exact List.mem_cons_self ..
    | false =>
      rw [hb] at h
      exact List.mem_cons_of_mem _ (lk_mem h)
def up (b : Nat) : Value → Value
  | .ref i => .ref (b + i)
  | v => v
def upS (b : Nat) : Slot → Slot
  | .val v => .val (up b v)
  | s => s
theorem up_cat (b : Nat) (v : Value) : (up b v).category = v.category := by cases v <;> rfl
theorem up_isRef (b : Nat) (v : Value) : (up b v).isRef = v.isRef := by cases v <;> rfl
theorem up_inj {b : Nat} {v w : Value} : up b v = up b w ↔ v = w := by
  constructor
  · intro h
    cases v <;> cases w <;> simp only [up, Value.ref.injEq, reduceCtorEq] at h <;> first | rfl | exact h | (have h' := Nat.add_left_cancel h; rw [h']) | cases h
  · rintro rfl; rfl
/-! the locals -/
def setL (L : List Slot) (i : Nat) (x : Slot) : Option (List Slot) := if i < L.length then some (L.set i x) else none
def stSelf (L : List Slot) (i : Nat) (v : Value) : Option (List Slot) :=
  match setL L i (.val v) with
  | none => none
  | some L =>
    if v.category = 2 then
      match L[i + 1]? with
      | none => none
      | some (.val old) => if old.category = 2 then (match setL L (i + 2) .unset with | none => none | some L => setL L (i + 1) .second) else setL L (i + 1) .second
      | some _ => setL L (i + 1) .second
    else some L
def stL (L : List Slot) (i : Nat) (v : Value) : Option (List Slot) :=
  match L[i]? with
  | none => none
  | some .second => (match setL L (i - 1) .unset with | none => none | some L => stSelf L i v)
  | some (.val old) => if old.category = 2 then (match setL L (i + 1) .unset with | none => none | some L => stSelf L i v) else stSelf L i v
  | some .unset => stSelf L i v
theorem setL_len {L L' : List Slot} {i : Nat} {x : Slot} (h : setL L i x = some L') : L'.length = L.length := by
  unfold setL at h; split at h
  · cases h; simp
  · cases h
theorem stSelf_len {L L' : List Slot} {i : Nat} {v : Value} (h : stSelf L i v = some L') : L'.length = L.length := by
  unfold stSelf at h
  split at h
  · cases h
  · rename_i L1 h1
    have e1 := setL_len h1
    split at h
    · split at h
      · cases h
      · split at h
        · split at h
          · cases h
          · rename_i L2 h2
            rw [setL_len h, setL_len h2, e1]
        · rw [setL_len h, e1]
      · rw [setL_len h, e1]
    · cases h; exact e1
theorem stL_len {L L' : List Slot} {i : Nat} {v : Value} (h : stL L i v = some L') : L'.length = L.length := by
  unfold stL at h
  split at h
  · cases h
  · split at h
    · cases h
    · rename_i L1 h1
      rw [stSelf_len h, setL_len h1]
  · split at h
    · split at h
      · cases h
      · rename_i L1 h1
        rw [stSelf_len h, setL_len h1]
    · exact stSelf_len h
  · exact stSelf_len h
theorem setAt_up (b : Nat) {L L' : List Slot} {i : Nat} {x : Slot} (h : setL L i x = some L') : setAt (L.map (upS b)).toArray i (upS b x) = some (L'.map (upS b)).toArray := by
  unfold setL at h
  split at h
  · rename_i hi
    cases h
    simp [setAt, hi, List.map_set]
  · cases h
theorem get_up (b : Nat) {L : List Slot} {i : Nat} {x : Slot} (h : L[i]? = some x) : (L.map (upS b)).toArray[i]? = some (upS b x) := by
  simp [h]
theorem stSelf_up (b : Nat) {L L' : List Slot} {i : Nat} {v : Value} (h : stSelf L i v = some L') : storeSelf (L.map (upS b)).toArray i (up b v) = some (L'.map (upS b)).toArray := by
  unfold stSelf at h
  split at h
  · cases h
  · rename_i L1 h1
    have e1 : setAt (L.map (upS b)).toArray i (.val (up b v)) = some (L1.map (upS b)).toArray := setAt_up b h1
    unfold storeSelf
    simp only [e1, Option.bind_eq_bind, Option.bind_some, up_cat]
    split at h
    · rename_i hc
      simp only [hc, if_true]
      split at h
      · cases h
      · rename_i old ho
        have e2 : (L1.map (upS b)).toArray[i + 1]? = some (.val (up b old)) := get_up b ho
        simp only [e2, Option.bind_some, up_cat]
        split at h
        · rename_i hc2
          simp only [hc2, if_true]
          split at h
          · cases h
          · rename_i L2 h2
            have e3 : setAt (L1.map (upS b)).toArray (i + 2) .unset = some (L2.map (upS b)).toArray := setAt_up b h2
            simp only [e3, Option.bind_some]
            exact setAt_up b h
        · rename_i hc2
          simp only [hc2, if_false]
          exact setAt_up b h
      · rename_i y hy1 hy2
        have e2 := get_up b hy2
        simp only [e2, Option.bind_some]
        cases y with
        | unset => exact setAt_up b h
        | second => exact setAt_up b h
        | val w => exact absurd rfl (hy1 w)
    · rename_i hc
      cases h
      simp only [hc, if_false]
theorem stL_up (b : Nat) {L L' : List Slot} {i : Nat} {v : Value} (h : stL L i v = some L') : storeLocals (L.map (upS b)).toArray i (up b v) = some (L'.map (upS b)).toArray := by
  unfold stL at h
  unfold storeLocals
  split at h
  · cases h
  · rename_i h0
    have e0 := get_up b h0
    simp only [e0, Option.bind_eq_bind, Option.bind_some, upS]
    split at h
    · cases h
    · rename_i L1 h1
      have e1 : setAt (L.map (upS b)).toArray (i - 1) .unset = some (L1.map (upS b)).toArray := setAt_up b h1
      simp only [e1, Option.bind_some]
      exact stSelf_up b h
  · rename_i old h0
    have e0 := get_up b h0
    simp only [e0, Option.bind_eq_bind, Option.bind_some, upS, up_cat]
    split at h
    · rename_i hc
      simp only [hc, if_true]
      split at h
      · cases h
      · rename_i L1 h1
        have e1 : setAt (L.map (upS b)).toArray (i + 1) .unset = some (L1.map (upS b)).toArray := setAt_up b h1
        simp only [e1, Option.bind_some]
        exact stSelf_up b h
    · rename_i hc
      simp only [hc, if_false]
      exact stSelf_up b h
  · rename_i h0
    have e0 := get_up b h0
    simp only [e0, Option.bind_eq_bind, Option.bind_some, upS]
    exact stSelf_up b h
def ilen : Instr → Nat
  | .aload _ | .iload _ | .lload _ | .istore _ | .lstore _ | .astore _ | .bipush _ | .ldc _ | .newarray _ => 2
  | .sipush _ | .ldc_w _ | .ldc2_w _ | .iinc _ _ | .goto _ | .ifCond _ _ | .if_icmp _ _ | .if_acmp _ _ | .ifnull _ | .ifnonnull _ | .getfield _ | .putfield _ | .getstatic _ | .invokevirtual _ | .invokespecial _ | .invokestatic _ | .new _ | .checkcast _ | .instanceof _ => 3
  | _ => 1
abbrev PF : Type := Nat × List Slot × List Value
def okTg (pc : Nat) (tg : Nat) : Instr → Bool
  | .goto o => decide ((pc : Int) + o = (tg : Int))
  | .ifCond _ o => decide ((pc : Int) + o = (tg : Int))
  | .if_icmp _ o => decide ((pc : Int) + o = (tg : Int))
  | .if_acmp _ o => decide ((pc : Int) + o = (tg : Int))
  | .ifnull o => decide ((pc : Int) + o = (tg : Int))
  | .ifnonnull o => decide ((pc : Int) + o = (tg : Int))
  | _ => true
theorem tg_spec {pc tg : Nat} {o : Int} (h : decide ((pc : Int) + o = (tg : Int)) = true) : 0 ≤ (pc : Int) + o ∧ ((pc : Int) + o).toNat = tg := by
  have q := of_decide_eq_true h
  rw [q]
  exact ⟨Int.natCast_nonneg _, rfl⟩

def p_iadd (nx tg : Nat) (L : List Slot) (S : List Value) : Option PF := (match S with | .int y :: .int x :: r => some (nx, L, .int (x + y) :: r) | _ => none)
def p_isub (nx tg : Nat) (L : List Slot) (S : List Value) : Option PF := (match S with | .int y :: .int x :: r => some (nx, L, .int (x - y) :: r) | _ => none)
def p_imul (nx tg : Nat) (L : List Slot) (S : List Value) : Option PF := (match S with | .int y :: .int x :: r => some (nx, L, .int (x * y) :: r) | _ => none)
def p_iand (nx tg : Nat) (L : List Slot) (S : List Value) : Option PF := (match S with | .int y :: .int x :: r => some (nx, L, .int (x &&& y) :: r) | _ => none)
def p_ior (nx tg : Nat) (L : List Slot) (S : List Value) : Option PF := (match S with | .int y :: .int x :: r => some (nx, L, .int (x ||| y) :: r) | _ => none)
def p_ixor (nx tg : Nat) (L : List Slot) (S : List Value) : Option PF := (match S with | .int y :: .int x :: r => some (nx, L, .int (x ^^^ y) :: r) | _ => none)
def p_ishl (nx tg : Nat) (L : List Slot) (S : List Value) : Option PF := (match S with | .int y :: .int x :: r => some (nx, L, .int (x <<< (y &&& 31)) :: r) | _ => none)
def p_ishr (nx tg : Nat) (L : List Slot) (S : List Value) : Option PF := (match S with | .int y :: .int x :: r => some (nx, L, .int (x >>> (y &&& 31)) :: r) | _ => none)
def p_iushr (nx tg : Nat) (L : List Slot) (S : List Value) : Option PF := (match S with | .int y :: .int x :: r => some (nx, L, .int (XT.ushr x y) :: r) | _ => none)
def p_ladd (nx tg : Nat) (L : List Slot) (S : List Value) : Option PF := (match S with | .long y :: .long x :: r => some (nx, L, .long (x + y) :: r) | _ => none)
def p_lsub (nx tg : Nat) (L : List Slot) (S : List Value) : Option PF := (match S with | .long y :: .long x :: r => some (nx, L, .long (x - y) :: r) | _ => none)
def p_lmul (nx tg : Nat) (L : List Slot) (S : List Value) : Option PF := (match S with | .long y :: .long x :: r => some (nx, L, .long (x * y) :: r) | _ => none)
def p_land (nx tg : Nat) (L : List Slot) (S : List Value) : Option PF := (match S with | .long y :: .long x :: r => some (nx, L, .long (x &&& y) :: r) | _ => none)
def p_lor (nx tg : Nat) (L : List Slot) (S : List Value) : Option PF := (match S with | .long y :: .long x :: r => some (nx, L, .long (x ||| y) :: r) | _ => none)
def p_lxor (nx tg : Nat) (L : List Slot) (S : List Value) : Option PF := (match S with | .long y :: .long x :: r => some (nx, L, .long (x ^^^ y) :: r) | _ => none)
def p_lshl (nx tg : Nat) (L : List Slot) (S : List Value) : Option PF := (match S with | .int y :: .long x :: r => some (nx, L, .long (x <<< (y.toInt64 &&& 63)) :: r) | _ => none)
def p_lshr (nx tg : Nat) (L : List Slot) (S : List Value) : Option PF := (match S with | .int y :: .long x :: r => some (nx, L, .long (x >>> (y.toInt64 &&& 63)) :: r) | _ => none)
def p_lushr (nx tg : Nat) (L : List Slot) (S : List Value) : Option PF := (match S with | .int y :: .long x :: r => some (nx, L, .long (XT.ushrL x y) :: r) | _ => none)
def p_ineg (nx tg : Nat) (L : List Slot) (S : List Value) : Option PF := (match S with | .int x :: r => some (nx, L, .int (-x) :: r) | _ => none)
def p_lneg (nx tg : Nat) (L : List Slot) (S : List Value) : Option PF := (match S with | .long x :: r => some (nx, L, .long (-x) :: r) | _ => none)
def p_i2l (nx tg : Nat) (L : List Slot) (S : List Value) : Option PF := (match S with | .int x :: r => some (nx, L, .long (x.toInt64) :: r) | _ => none)
def p_l2i (nx tg : Nat) (L : List Slot) (S : List Value) : Option PF := (match S with | .long x :: r => some (nx, L, .int (x.toInt32) :: r) | _ => none)
def p_i2b (nx tg : Nat) (L : List Slot) (S : List Value) : Option PF := (match S with | .int x :: r => some (nx, L, .int (x.toInt8.toInt32) :: r) | _ => none)
def p_idiv (nx tg : Nat) (L : List Slot) (S : List Value) : Option PF := (match S with | .int y :: .int x :: r => if y = 0 then none else some (nx, L, .int (x / y) :: r) | _ => none)
def p_irem (nx tg : Nat) (L : List Slot) (S : List Value) : Option PF := (match S with | .int y :: .int x :: r => if y = 0 then none else some (nx, L, .int (x % y) :: r) | _ => none)
def p_lcmp (nx tg : Nat) (L : List Slot) (S : List Value) : Option PF := (match S with | .long y :: .long x :: r => some (nx, L, .int (XT.cmpL x y) :: r) | _ => none)
def p_iload (k : Nat) (nx tg : Nat) (L : List Slot) (S : List Value) : Option PF := (match L[k]? with | some (.val (.int v)) => some (nx, L, .int v :: S) | _ => none)
def p_iload_n (j : Fin 4) (nx tg : Nat) (L : List Slot) (S : List Value) : Option PF := (match L[j.val]? with | some (.val (.int v)) => some (nx, L, .int v :: S) | _ => none)
def p_lload (k : Nat) (nx tg : Nat) (L : List Slot) (S : List Value) : Option PF := (match L[k]? with | some (.val (.long v)) => some (nx, L, .long v :: S) | _ => none)
def p_lload_n (j : Fin 4) (nx tg : Nat) (L : List Slot) (S : List Value) : Option PF := (match L[j.val]? with | some (.val (.long v)) => some (nx, L, .long v :: S) | _ => none)
def p_aload (k : Nat) (nx tg : Nat) (L : List Slot) (S : List Value) : Option PF := (match L[k]? with | some (.val v) => (match v.isRef with | true => some (nx, L, v :: S) | false => none) | _ => none)
def p_aload_n (j : Fin 4) (nx tg : Nat) (L : List Slot) (S : List Value) : Option PF := (match L[j.val]? with | some (.val v) => (match v.isRef with | true => some (nx, L, v :: S) | false => none) | _ => none)
def p_istore (k : Nat) (nx tg : Nat) (L : List Slot) (S : List Value) : Option PF := (match S with | .int x :: r => (match stL L k (.int x) with | some L' => some (nx, L', r) | none => none) | _ => none)
def p_istore_n (j : Fin 4) (nx tg : Nat) (L : List Slot) (S : List Value) : Option PF := (match S with | .int x :: r => (match stL L j.val (.int x) with | some L' => some (nx, L', r) | none => none) | _ => none)
def p_lstore (k : Nat) (nx tg : Nat) (L : List Slot) (S : List Value) : Option PF := (match S with | .long x :: r => (match stL L k (.long x) with | some L' => some (nx, L', r) | none => none) | _ => none)
def p_lstore_n (j : Fin 4) (nx tg : Nat) (L : List Slot) (S : List Value) : Option PF := (match S with | .long x :: r => (match stL L j.val (.long x) with | some L' => some (nx, L', r) | none => none) | _ => none)
def p_astore (k : Nat) (nx tg : Nat) (L : List Slot) (S : List Value) : Option PF := (match S with | x :: r => (match x.isRef with | true => (match stL L k x with | some L' => some (nx, L', r) | none => none) | false => none) | _ => none)
def p_astore_n (j : Fin 4) (nx tg : Nat) (L : List Slot) (S : List Value) : Option PF := (match S with | x :: r => (match x.isRef with | true => (match stL L j.val x with | some L' => some (nx, L', r) | none => none) | false => none) | _ => none)
def p_iinc (k : Nat) (cst : Int) (nx tg : Nat) (L : List Slot) (S : List Value) : Option PF := (match L[k]? with | some (.val (.int x)) => (match stL L k (.int (x + Int32.ofInt cst)) with | some L' => some (nx, L', S) | none => none) | _ => none)
def p_iconst (z : Int) (nx tg : Nat) (L : List Slot) (S : List Value) : Option PF := some (nx, L, .int (Int32.ofInt z) :: S)
def p_bipush (z : Int) (nx tg : Nat) (L : List Slot) (S : List Value) : Option PF := some (nx, L, .int (Int8.ofInt z).toInt32 :: S)
def p_sipush (z : Int) (nx tg : Nat) (L : List Slot) (S : List Value) : Option PF := some (nx, L, .int (Int16.ofInt z).toInt32 :: S)
def p_lconst (z : Fin 2) (nx tg : Nat) (L : List Slot) (S : List Value) : Option PF := some (nx, L, .long (Int64.ofNat z) :: S)
def p_aconst_null (nx tg : Nat) (L : List Slot) (S : List Value) : Option PF := some (nx, L, .null :: S)
def p_ldc (M : Mth) (idx : Nat) (nx tg : Nat) (L : List Slot) (S : List Value) : Option PF := (match lk (mCi M) idx with | some v => some (nx, L, .int v :: S) | none => none)
def p_ldc_w (M : Mth) (idx : Nat) (nx tg : Nat) (L : List Slot) (S : List Value) : Option PF := (match lk (mCi M) idx with | some v => some (nx, L, .int v :: S) | none => none)
def p_ldc2_w (M : Mth) (idx : Nat) (nx tg : Nat) (L : List Slot) (S : List Value) : Option PF := (match lk (mCl M) idx with | some v => some (nx, L, .long v :: S) | none => none)
def p_dup (nx tg : Nat) (L : List Slot) (S : List Value) : Option PF := (match S with | x :: r => (match x.category with | 1 => some (nx, L, x :: x :: r) | _ => none) | _ => none)
def p_pop (nx tg : Nat) (L : List Slot) (S : List Value) : Option PF := (match S with | x :: r => (match x.category with | 1 => some (nx, L, r) | _ => none) | _ => none)
def p_dup_x1 (nx tg : Nat) (L : List Slot) (S : List Value) : Option PF := (match S with | x :: y :: r => (match x.category, y.category with | 1, 1 => some (nx, L, x :: y :: x :: r) | _, _ => none) | _ => none)
def p_dup2 (nx tg : Nat) (L : List Slot) (S : List Value) : Option PF := (match S with | x :: y :: r => (match x.category, y.category with | 1, 1 => some (nx, L, x :: y :: x :: y :: r) | _, _ => none) | _ => none)
def p_goto (o : Int) (nx tg : Nat) (L : List Slot) (S : List Value) : Option PF := some (tg, L, S)
def p_ifCond (cd : ClassFile.Cond) (o : Int) (nx tg : Nat) (L : List Slot) (S : List Value) : Option PF := (match S with | .int x :: r => (match ifCond.holds cd x with | true => some (tg, L, r) | false => some (nx, L, r)) | _ => none)
def p_if_icmp (cd : ClassFile.Cond) (o : Int) (nx tg : Nat) (L : List Slot) (S : List Value) : Option PF := (match S with | .int y :: .int x :: r => (match if_icmp.holds cd x y with | true => some (tg, L, r) | false => some (nx, L, r)) | _ => none)
def p_ifnull (o : Int) (nx tg : Nat) (L : List Slot) (S : List Value) : Option PF := (match S with | .null :: r => some (tg, L, r) | .ref _ :: r => some (nx, L, r) | _ => none)
def p_ifnonnull (o : Int) (nx tg : Nat) (L : List Slot) (S : List Value) : Option PF := (match S with | .ref _ :: r => some (tg, L, r) | .null :: r => some (nx, L, r) | _ => none)
def p_if_acmp (cd : ACond) (o : Int) (nx tg : Nat) (L : List Slot) (S : List Value) : Option PF := (match S with | y :: x :: r => (match x.isRef, y.isRef with | true, true => (match acV cd (decide (x = y)) with | true => some (tg, L, r) | false => some (nx, L, r)) | _, _ => none) | _ => none)
def p_getfield (M : Mth) (ah : AH) (idx : Nat) (nx tg : Nat) (L : List Slot) (S : List Value) : Option PF := (match S with | .ref a :: r => (match lk (mFl M) idx, ah[a]? with | some q, some (.inl (k, vs)) => (match Nat.beq k q.1, vs[q.2.1]? with | true, some v => some (nx, L, v :: r) | _, _ => none) | _, _ => none) | _ => none)
def p_arraylength (ah : AH) (nx tg : Nat) (L : List Slot) (S : List Value) : Option PF := (match S with | .ref a :: r => (match ah[a]? with | some (.inr (_, vs)) => some (nx, L, .int vs.length.toInt32 :: r) | _ => none) | _ => none)
def p_iaload (ah : AH) (nx tg : Nat) (L : List Slot) (S : List Value) : Option PF := (match S with | .int j :: .ref a :: r => (match ah[a]? with | some (.inr (.int, vs)) => if j < 0 then none else (match vs[j.toNatClampNeg]? with | some v => some (nx, L, v :: r) | none => none) | _ => none) | _ => none)
def p_laload (ah : AH) (nx tg : Nat) (L : List Slot) (S : List Value) : Option PF := (match S with | .int j :: .ref a :: r => (match ah[a]? with | some (.inr (.long, vs)) => if j < 0 then none else (match vs[j.toNatClampNeg]? with | some v => some (nx, L, v :: r) | none => none) | _ => none) | _ => none)
def p_baload (ah : AH) (nx tg : Nat) (L : List Slot) (S : List Value) : Option PF := (match S with | .int j :: .ref a :: r => (match ah[a]? with | some (.inr (.byte, vs)) => if j < 0 then none else (match vs[j.toNatClampNeg]? with | some v => some (nx, L, v :: r) | none => none) | some (.inr (.boolean, vs)) => if j < 0 then none else (match vs[j.toNatClampNeg]? with | some v => some (nx, L, v :: r) | none => none) | _ => none) | _ => none)
def p_checkcast (M : Mth) (ah : AH) (idx : Nat) (nx tg : Nat) (L : List Slot) (S : List Value) : Option PF := (match S with | .ref a :: r => (match lk (mKl M) idx, ah[a]? with | some (k + 1), some (.inl (k', _)) => (match Nat.beq k' k with | true => some (nx, L, .ref a :: r) | false => none) | some 0, some (.inr (.int, _)) => some (nx, L, .ref a :: r) | _, _ => none) | _ => none)
def p_instanceof (M : Mth) (ah : AH) (idx : Nat) (nx tg : Nat) (L : List Slot) (S : List Value) : Option PF := (match S with | .ref a :: r => (match lk (mKl M) idx, ah[a]? with | some (k + 1), some (.inl (k', _)) => (match Nat.beq k' k with | true => some (nx, L, .int 1 :: r) | false => none) | _, _ => none) | _ => none)
def psel (i : Instr) : Option (Mth → AH → Nat → Nat → List Slot → List Value → Option PF) :=
  match i with
  | .iadd => some fun _ _ => p_iadd 
  | .isub => some fun _ _ => p_isub 
  | .imul => some fun _ _ => p_imul 
  | .iand => some fun _ _ => p_iand 
  | .ior => some fun _ _ => p_ior 
  | .ixor => some fun _ _ => p_ixor 
  | .ishl => some fun _ _ => p_ishl 
  | .ishr => some fun _ _ => p_ishr 
  | .iushr => some fun _ _ => p_iushr 
  | .ladd => some fun _ _ => p_ladd 
  | .lsub => some fun _ _ => p_lsub 
  | .lmul => some fun _ _ => p_lmul 
  | .land => some fun _ _ => p_land 
  | .lor => some fun _ _ => p_lor 
  | .lxor => some fun _ _ => p_lxor 
  | .lshl => some fun _ _ => p_lshl 
  | .lshr => some fun _ _ => p_lshr 
  | .lushr => some fun _ _ => p_lushr 
  | .ineg => some fun _ _ => p_ineg 
  | .lneg => some fun _ _ => p_lneg 
  | .i2l => some fun _ _ => p_i2l 
  | .l2i => some fun _ _ => p_l2i 
  | .i2b => some fun _ _ => p_i2b 
  | .idiv => some fun _ _ => p_idiv 
  | .irem => some fun _ _ => p_irem 
  | .lcmp => some fun _ _ => p_lcmp 
  | .iload k => some fun _ _ => p_iload k 
  | .iload_n j => some fun _ _ => p_iload_n j 
  | .lload k => some fun _ _ => p_lload k 
  | .lload_n j => some fun _ _ => p_lload_n j 
  | .aload k => some fun _ _ => p_aload k 
  | .aload_n j => some fun _ _ => p_aload_n j 
  | .istore k => some fun _ _ => p_istore k 
  | .istore_n j => some fun _ _ => p_istore_n j 
  | .lstore k => some fun _ _ => p_lstore k 
  | .lstore_n j => some fun _ _ => p_lstore_n j 
  | .astore k => some fun _ _ => p_astore k 
  | .astore_n j => some fun _ _ => p_astore_n j 
  | .iinc k cst => some fun _ _ => p_iinc k cst 
  | .iconst z => some fun _ _ => p_iconst z 
  | .bipush z => some fun _ _ => p_bipush z 
  | .sipush z => some fun _ _ => p_sipush z 
  | .lconst z => some fun _ _ => p_lconst z 
  | .aconst_null => some fun _ _ => p_aconst_null 
  | .ldc idx => some fun M _ => p_ldc M idx 
  | .ldc_w idx => some fun M _ => p_ldc_w M idx 
  | .ldc2_w idx => some fun M _ => p_ldc2_w M idx 
  | .dup => some fun _ _ => p_dup 
  | .pop => some fun _ _ => p_pop 
  | .dup_x1 => some fun _ _ => p_dup_x1 
  | .dup2 => some fun _ _ => p_dup2 
  | .goto o => some fun _ _ => p_goto o 
  | .ifCond cd o => some fun _ _ => p_ifCond cd o 
  | .if_icmp cd o => some fun _ _ => p_if_icmp cd o 
  | .ifnull o => some fun _ _ => p_ifnull o 
  | .ifnonnull o => some fun _ _ => p_ifnonnull o 
  | .if_acmp cd o => some fun _ _ => p_if_acmp cd o 
  | .getfield idx => some fun M ah => p_getfield M ah idx 
  | .arraylength => some fun _ ah => p_arraylength ah 
  | .iaload => some fun _ ah => p_iaload ah 
  | .laload => some fun _ ah => p_laload ah 
  | .baload => some fun _ ah => p_baload ah 
  | .checkcast idx => some fun M ah => p_checkcast M ah idx 
  | .instanceof idx => some fun M ah => p_instanceof M ah idx 
  | _ => none
def pstep (M : Mth) (ah : AH) (i : Instr) (nx tg : Nat) (L : List Slot) (S : List Value) : Option PF :=
  match psel i with
  | some f => f M ah nx tg L S
  | none => none
/-! what the abstract heap says of the real one -/
def OR (W : Wld) (Z : State) (b : Nat) (h : Heap) (a : Addr) : AObj → Prop
  | .inl (k, vs) => ∃ C : CL, W.2[k]? = some C ∧ Exa Z h a C.1 ∧ vs.length = C.2.2.length ∧ ∀ (i : Nat) (f : FD) (v : Value), C.2.2[i]? = some f → vs[i]? = some v → Fld Z h a f.1 f.2.1 f.2.2.1 (up b v)
  | .inr (ty, vs) => ∃ c : Cell, Arr Z h a c ty ∧ c.slots = (vs.map (up b)).toArray ∧ Exa Z h a ("[" ++ ty.toString) ∧ ∀ v ∈ vs, fits ty (up b v) = true
def Rel (W : Wld) (Z : State) (b : Nat) (h : Heap) (ah : AH) : Prop := h.size = b + ah.length ∧ (∀ (i : Nat) (o : AObj), ah[i]? = some o → OR W Z b h (b + i) o) ∧ ∀ (x : Nat) (c : Cell), x < b → Z.heap[x]? = some c → h[x]? = some c
section Facts
variable {W : Wld} {Z : State} {b : Nat} {h h' : Heap} {a a' : Addr} {o : AObj} {ah : AH} {sl : Nat} {v : Value}
theorem OR.ext (E : Ext h h') (H : OR W Z b h a o) : OR W Z b h' a o := by
  match o, H with
  | .inl (k, vs), ⟨C, h1, h2, h3, h4⟩ => exact ⟨C, h1, h2.ext E, h3, fun i f v q r => (h4 i f v q r).ext E⟩
  | .inr (ty, vs), ⟨c, h1, h2, h3, h4⟩ => exact ⟨c, h1.ext E, h2, h3.ext E, h4⟩
theorem OR.other (w : Wr h h' a' sl v) (ne : a ≠ a') (H : OR W Z b h a o) : OR W Z b h' a o := by
  match o, H with
  | .inl (k, vs), ⟨C, h1, h2, h3, h4⟩ => exact ⟨C, h1, h2.wr w, h3, fun i f v q r => (h4 i f v q r).other w (Or.inl ne)⟩
  | .inr (ty, vs), ⟨c, h1, h2, h3, h4⟩ => exact ⟨c, h1.other w ne, h2, h3.wr w, h4⟩
theorem Rel.push {o' : AObj} (H : Rel W Z b h ah) (E : Ext h h') (hs : h'.size = h.size + 1) (ho : OR W Z b h' h.size o') : Rel W Z b h' (ah ++ [o']) := by
  refine ⟨by rw [hs, H.1]; simp; omega, fun i o q => ?_, fun x c hx hc => E.2 x c (H.2.2 x c hx hc)⟩
  by_cases hi : i < ah.length
  · rw [List.getElem?_append_left hi] at q
    exact (H.2.1 i o q).ext E
  · rw [List.getElem?_append_right (Nat.le_of_not_lt hi)] at q
    have hi2 : i - ah.length = 0 := by
      rcases Nat.eq_zero_or_pos (i - ah.length) with z | z
      · exact z
      · rw [List.getElem?_eq_none (by simp only [List.length_singleton]; omega)] at q; cases q
    rw [hi2] at q
    have e : o' = o := by simpa using q
    have e2 : b + i = h.size := by rw [H.1]; omega
    rw [e2, ← e]
    exact ho
theorem Rel.set {i : Nat} {o' : AObj} (H : Rel W Z b h ah) (hi : i < ah.length) (w : Wr h h' (b + i) sl v) (ho : OR W Z b h' (b + i) o') : Rel W Z b h' (ah.set i o') := by
  refine ⟨by rw [w.size, H.1]; simp, fun j o q => ?_, fun x c hx hc => ?_⟩
  rotate_left
  · obtain ⟨cell, h1, -, -, rfl⟩ := w
    rw [Array.getElem?_setIfInBounds_ne (by omega)]
    exact H.2.2 x c hx hc
  by_cases e : i = j
  · subst e
    rw [List.getElem?_set_self hi] at q
    cases q
    exact ho
  · rw [List.getElem?_set_ne e] at q
    exact (H.2.1 j o q).other w (fun z => e (Nat.add_left_cancel z).symm)
theorem OR.keep {ws : List Addr} (K : Keep h h' ws) (ne : a ∉ ws) (H : OR W Z b h a o) : OR W Z b h' a o := by
  match o, H with
  | .inl (k, vs), ⟨C, h1, h2, h3, h4⟩ => exact ⟨C, h1, h2.keep K, h3, fun i f v q r => (h4 i f v q r).keep K ne⟩
  | .inr (ty, vs), ⟨c, h1, h2, h3, h4⟩ => exact ⟨c, ⟨K.2.1 a c h1.1 ne, h1.2⟩, h2, h3.keep K, h4⟩
end Facts
def asz (W : Wld) : AObj → Nat
  | .inl (k, _) => (match W.2[k]? with | some C => C.2.1 | none => 0)
  | .inr (_, vs) => vs.length
def sz (W : Wld) : AH → Nat
  | [] => 0
  | o :: r => asz W o + sz W r
theorem sz_app (W : Wld) (o : AObj) : ∀ ah : AH, sz W (ah ++ [o]) = sz W ah + asz W o
  | [] => by simp [sz]
  | q :: r => by simp only [List.cons_append, sz, sz_app W o r]; omega
theorem sz_set (W : Wld) {o o' : AObj} (e : asz W o' = asz W o) : ∀ {ah : AH} {i : Nat}, ah[i]? = some o → sz W (ah.set i o') = sz W ah
  | [], i, q => by simp at q
  | x :: r, 0, q => by
    have : x = o := by simpa using q
    subst this
    simp only [List.set_cons_zero, sz, e]
  | x :: r, i + 1, q => by
    have q' : r[i]? = some o := by simpa using q
    simp only [List.set_cons_succ, sz, sz_set W e q']
theorem lt_of_get {ah : AH} {i : Nat} {o : AObj} (h : ah[i]? = some o) : i < ah.length := (List.getElem?_eq_some_iff.mp h).1


abbrev fm (b : Nat) (m : MethodId) (pc : Nat) (L : List Slot) (S : List Value) : JFrame := mkF m pc (L.map (upS b)).toArray (S.map (up b))
section Step
variable {p : Program} {l : Launch} {e : Env} {R : Room} {s : State} {m : MethodId} {args : Array Value} {below : List Frame} {meth : Method} {c : Code} {T : State} {locs : List Loc} {cells slots : Nat} {Z : State} {a0 : Array Value}
theorem acmp' {g : JFrame} {target : State} (X : Stand p l e R s m args below meth c T locs cells slots) (hx : p.tables.exec = Jvm.exec) (hg : g.method = m) {cd : ACond} {x y : Value} (h1 : x.isRef = true) (h2 : y.isRef = true) {rest : List Value} {o : Int} {same : Bool}
    (hd : decode c.code g.pc = .ok (.if_acmp cd o, 3)) (hs : g.stack = y :: x :: rest) (hq : decide (x = y) = same) (hc : acV cd same = false)
    (hr : Steps p.tables e below (T.setTop { g with pc := g.pc + 3, stack := rest }) target) : Steps p.tables e below (T.setTop g) target := by
  subst hg hq
  rw [← acV_eq cd h1 h2] at hc
  rcases ref_cases h1 with rfl | ⟨a, rfl⟩ <;> rcases ref_cases h2 with rfl | ⟨b, rfl⟩ <;>
  · simp only [refO] at hc
    jvm_step X.here [X.here.top, hx, hd, hs, if_acmp.sem, hc]
    simpa using hr
theorem pstep_sound {W : Wld} {M : Mth} {b : Nat} {ah : AH} {i : Instr} {pc nx tg pc' : Nat} {L L' : List Slot} {S S' : List Value} (X : Stand p l e R s m args below meth c T locs cells slots) (hx : p.tables.exec = Jvm.exec) (hZ : Z.Warmed39 s.vm) (hown : s.vm.findClass (mNm M).cls = some m.cls)
    (hci : ∀ q ∈ mCi M, (Jvm.Cond.constant (mNm M).cls q.1 q.2).before a0 Z = true) (hcl : ∀ q ∈ mCl M, (Jvm.Cond.constantLong (mNm M).cls q.1 q.2).before a0 Z = true)
    (hfl : ∀ q ∈ mFl M, ∃ (C : CL) (f : FD), W.2[q.2.1]? = some C ∧ C.2.2[q.2.2.1]? = some f ∧ ((Jvm.Cond.fieldLink (mNm M).cls q.1 q.2.2.2.2.2.1 f.2.1 f.2.2.1).before a0 Z = true ∨ (Jvm.Cond.fieldLinkNest (mNm M).cls q.1 q.2.2.2.2.2.1 f.2.1 f.2.2.1 q.2.2.2.2.2.2).before a0 Z = true) ∧ Via Z q.2.2.2.2.2.1 f.1 f.2.1 f.2.2.1)
    (hkl : ∀ q ∈ mKl M, match q.2 with | 0 => (Jvm.Cond.classLink (mNm M).cls q.1 "[I").before a0 Z = true | k + 1 => ∃ C : CL, W.2[k]? = some C ∧ (Jvm.Cond.classLink (mNm M).cls q.1 C.1).before a0 Z = true)
    (hR : Rel W Z b T.heap ah) (hd : decode c.code pc = .ok (i, ilen i)) (hnx : nx = pc + ilen i) (htg : okTg pc tg i = true) (h : pstep M ah i nx tg L S = some (pc', L', S')) :
    L'.length = L.length ∧ ∃ T', Stand p l e R s m args below meth c T' locs cells slots ∧ T'.heap = T.heap ∧ ∀ target, Steps p.tables e below (T'.setTop (fm b m pc' L' S')) target → Steps p.tables e below (T.setTop (fm b m pc L S)) target := by
  suffices hh : L'.length = L.length ∧ ((∀ target, Steps p.tables e below (T.setTop (fm b m pc' L' S')) target → Steps p.tables e below (T.setTop (fm b m pc L S)) target) ∨ ∃ T', Stand p l e R s m args below meth c T' locs cells slots ∧ T'.heap = T.heap ∧ ∀ target, Steps p.tables e below (T'.setTop (fm b m pc' L' S')) target → Steps p.tables e below (T.setTop (fm b m pc L S)) target) by
    obtain ⟨h1, h2 | h2⟩ := hh
    · exact ⟨h1, T, X, rfl, h2⟩
    · exact ⟨h1, h2⟩
  subst hnx
  unfold pstep psel at h
  cases i
  case iadd =>
    dsimp only at h
    unfold p_iadd at h
    split at h
    · cases h; exact ⟨rfl, Or.inl fun t k => XS.iadd X.here hx rfl hd rfl k⟩
    · cases h
  case isub =>
    dsimp only at h
    unfold p_isub at h
    split at h
    · cases h; exact ⟨rfl, Or.inl fun t k => XS.isub X.here hx rfl hd rfl k⟩
    · cases h
  case imul =>
    dsimp only at h
    unfold p_imul at h
    split at h
    · cases h; exact ⟨rfl, Or.inl fun t k => XS.imul X.here hx rfl hd rfl k⟩
    · cases h
  case iand =>
    dsimp only at h
    unfold p_iand at h
    split at h
    · cases h; exact ⟨rfl, Or.inl fun t k => XS.iand X.here hx rfl hd rfl k⟩
    · cases h
  case ior =>
    dsimp only at h
    unfold p_ior at h
    split at h
    · cases h; exact ⟨rfl, Or.inl fun t k => XT.ior X.here hx rfl hd rfl k⟩
    · cases h
  case ixor =>
    dsimp only at h
    unfold p_ixor at h
    split at h
    · cases h; exact ⟨rfl, Or.inl fun t k => XT.ixor X.here hx rfl hd rfl k⟩
    · cases h
  case ishl =>
    dsimp only at h
    unfold p_ishl at h
    split at h
    · cases h; exact ⟨rfl, Or.inl fun t k => XT.ishl X.here hx rfl hd rfl k⟩
    · cases h
  case ishr =>
    dsimp only at h
    unfold p_ishr at h
    split at h
    · cases h; exact ⟨rfl, Or.inl fun t k => XT.ishr X.here hx rfl hd rfl k⟩
    · cases h
  case iushr =>
    dsimp only at h
    unfold p_iushr at h
    split at h
    · cases h; exact ⟨rfl, Or.inl fun t k => XT.iushr X.here hx rfl hd rfl k⟩
    · cases h
  case ladd =>
    dsimp only at h
    unfold p_ladd at h
    split at h
    · cases h; exact ⟨rfl, Or.inl fun t k => XT.ladd X.here hx rfl hd rfl k⟩
    · cases h
  case lsub =>
    dsimp only at h
    unfold p_lsub at h
    split at h
    · cases h; exact ⟨rfl, Or.inl fun t k => XT.lsub X.here hx rfl hd rfl k⟩
    · cases h
  case lmul =>
    dsimp only at h
    unfold p_lmul at h
    split at h
    · cases h; exact ⟨rfl, Or.inl fun t k => XT.lmul X.here hx rfl hd rfl k⟩
    · cases h
  case land =>
    dsimp only at h
    unfold p_land at h
    split at h
    · cases h; exact ⟨rfl, Or.inl fun t k => XT.land X.here hx rfl hd rfl k⟩
    · cases h
  case lor =>
    dsimp only at h
    unfold p_lor at h
    split at h
    · cases h; exact ⟨rfl, Or.inl fun t k => XT.lor X.here hx rfl hd rfl k⟩
    · cases h
  case lxor =>
    dsimp only at h
    unfold p_lxor at h
    split at h
    · cases h; exact ⟨rfl, Or.inl fun t k => XT.lxor X.here hx rfl hd rfl k⟩
    · cases h
  case lshl =>
    dsimp only at h
    unfold p_lshl at h
    split at h
    · cases h; exact ⟨rfl, Or.inl fun t k => XT.lshl X.here hx rfl hd rfl k⟩
    · cases h
  case lshr =>
    dsimp only at h
    unfold p_lshr at h
    split at h
    · cases h; exact ⟨rfl, Or.inl fun t k => XT.lshr X.here hx rfl hd rfl k⟩
    · cases h
  case lushr =>
    dsimp only at h
    unfold p_lushr at h
    split at h
    · cases h; exact ⟨rfl, Or.inl fun t k => XT.lushr X.here hx rfl hd rfl k⟩
    · cases h
  case ineg =>
    dsimp only at h
    unfold p_ineg at h
    split at h
    · cases h; exact ⟨rfl, Or.inl fun t k => XS.ineg X.here hx rfl hd rfl k⟩
    · cases h
  case lneg =>
    dsimp only at h
    unfold p_lneg at h
    split at h
    · cases h; exact ⟨rfl, Or.inl fun t k => XT.lneg X.here hx rfl hd rfl k⟩
    · cases h
  case i2l =>
    dsimp only at h
    unfold p_i2l at h
    split at h
    · cases h; exact ⟨rfl, Or.inl fun t k => XT.i2l X.here hx rfl hd rfl k⟩
    · cases h
  case l2i =>
    dsimp only at h
    unfold p_l2i at h
    split at h
    · cases h; exact ⟨rfl, Or.inl fun t k => XT.l2i X.here hx rfl hd rfl k⟩
    · cases h
  case i2b =>
    dsimp only at h
    unfold p_i2b at h
    split at h
    · cases h; exact ⟨rfl, Or.inl fun t k => XT.i2b X.here hx rfl hd rfl k⟩
    · cases h
  case idiv =>
    dsimp only at h
    unfold p_idiv at h
    split at h
    · split at h
      · cases h
      · rename_i hy; cases h; exact ⟨rfl, Or.inl fun t k => XS.idiv X.here hx rfl hd rfl hy k⟩
    · cases h
  case irem =>
    dsimp only at h
    unfold p_irem at h
    split at h
    · split at h
      · cases h
      · rename_i hy; cases h; exact ⟨rfl, Or.inl fun t k => iremM X hx rfl hd rfl hy k⟩
    · cases h
  case lcmp =>
    dsimp only at h
    unfold p_lcmp at h
    split at h
    · cases h; exact ⟨rfl, Or.inl fun t k => XT.lcmp X.here hx rfl hd rfl k⟩
    · cases h
  case iload k =>
    dsimp only at h
    unfold p_iload at h
    split at h
    · rename_i hl; cases h; exact ⟨rfl, Or.inl fun t k => XS.iload X.here hx rfl hd (get_up b hl) k⟩
    · cases h
  case iload_n k =>
    dsimp only at h
    unfold p_iload_n at h
    split at h
    · rename_i hl; cases h; exact ⟨rfl, Or.inl fun t k => XS.iloadN X.here hx rfl hd (get_up b hl) k⟩
    · cases h
  case lload k =>
    dsimp only at h
    unfold p_lload at h
    split at h
    · rename_i hl; cases h; exact ⟨rfl, Or.inl fun t k => XT.lload X.here hx rfl hd (get_up b hl) k⟩
    · cases h
  case lload_n k =>
    dsimp only at h
    unfold p_lload_n at h
    split at h
    · rename_i hl; cases h; exact ⟨rfl, Or.inl fun t k => XT.lloadN X.here hx rfl hd (get_up b hl) k⟩
    · cases h
  case aload k =>
    dsimp only at h
    unfold p_aload at h
    split at h
    · rename_i v hl
      split at h
      · rename_i hr; cases h; exact ⟨rfl, Or.inl fun t k => XS.aload X.here hx rfl hd (get_up b hl) (by rw [up_isRef]; exact hr) k⟩
      · cases h
    · cases h
  case aload_n k =>
    dsimp only at h
    unfold p_aload_n at h
    split at h
    · rename_i v hl
      split at h
      · rename_i hr; cases h; exact ⟨rfl, Or.inl fun t k => XS.aloadN X.here hx rfl hd (get_up b hl) (by rw [up_isRef]; exact hr) k⟩
      · cases h
    · cases h
  case istore k =>
    dsimp only at h
    unfold p_istore at h
    split at h
    · split at h
      · rename_i hs; cases h; exact ⟨stL_len hs, Or.inl fun t k => XS.istore X.here hx rfl hd rfl (stL_up b hs) k⟩
      · cases h
    · cases h
  case istore_n k =>
    dsimp only at h
    unfold p_istore_n at h
    split at h
    · split at h
      · rename_i hs; cases h; exact ⟨stL_len hs, Or.inl fun t k => XS.istoreN X.here hx rfl hd rfl (stL_up b hs) k⟩
      · cases h
    · cases h
  case lstore k =>
    dsimp only at h
    unfold p_lstore at h
    split at h
    · split at h
      · rename_i hs; cases h; exact ⟨stL_len hs, Or.inl fun t k => XT.lstore X.here hx rfl hd rfl (stL_up b hs) k⟩
      · cases h
    · cases h
  case lstore_n k =>
    dsimp only at h
    unfold p_lstore_n at h
    split at h
    · split at h
      · rename_i hs; cases h; exact ⟨stL_len hs, Or.inl fun t k => XT.lstoreN X.here hx rfl hd rfl (stL_up b hs) k⟩
      · cases h
    · cases h
  case astore k =>
    dsimp only at h
    unfold p_astore at h
    split at h
    · split at h
      · rename_i hr
        split at h
        · rename_i hs; cases h; exact ⟨stL_len hs, Or.inl fun t k => XS.astore X.here hx rfl hd rfl (by rw [up_isRef]; exact hr) (stL_up b hs) k⟩
        · cases h
      · cases h
    · cases h
  case astore_n k =>
    dsimp only at h
    unfold p_astore_n at h
    split at h
    · split at h
      · rename_i hr
        split at h
        · rename_i hs; cases h; exact ⟨stL_len hs, Or.inl fun t k => XS.astoreN X.here hx rfl hd rfl (by rw [up_isRef]; exact hr) (stL_up b hs) k⟩
        · cases h
      · cases h
    · cases h
  case iinc k cst =>
    dsimp only at h
    unfold p_iinc at h
    split at h
    · rename_i hl
      split at h
      · rename_i hs; cases h; exact ⟨stL_len hs, Or.inl fun t k => XS.iinc X.here hx rfl hd (get_up b hl) (stL_up b hs) k⟩
      · cases h
    · cases h
  case iconst z =>
    dsimp only at h
    unfold p_iconst at h
    cases h; exact ⟨rfl, Or.inl fun t k => XS.iconst X.here hx rfl hd k⟩
  case bipush z =>
    dsimp only at h
    unfold p_bipush at h
    cases h; exact ⟨rfl, Or.inl fun t k => XS.bipush X.here hx rfl hd k⟩
  case sipush z =>
    dsimp only at h
    unfold p_sipush at h
    cases h; exact ⟨rfl, Or.inl fun t k => XS.sipush X.here hx rfl hd k⟩
  case lconst z =>
    dsimp only at h
    unfold p_lconst at h
    cases h; exact ⟨rfl, Or.inl fun t k => XT.lconst X.here hx rfl hd k⟩
  case aconst_null =>
    dsimp only at h
    unfold p_aconst_null at h
    cases h; exact ⟨rfl, Or.inl fun t k => XS.aconstNull X.here hx rfl hd k⟩
  case ldc idx =>
    dsimp only at h
    unfold p_ldc at h
    split at h
    · rename_i v hl; cases h; exact ⟨rfl, Or.inl fun t k => X.ldcI hx hown (mvT hZ (hci _ (lk_mem hl))) rfl hd k⟩
    · cases h
  case ldc_w idx =>
    dsimp only at h
    unfold p_ldc_w at h
    split at h
    · rename_i v hl; cases h; exact ⟨rfl, Or.inl fun t k => X.ldcWI hx hown (mvT hZ (hci _ (lk_mem hl))) rfl hd k⟩
    · cases h
  case ldc2_w idx =>
    dsimp only at h
    unfold p_ldc2_w at h
    split at h
    · rename_i v hl; cases h; exact ⟨rfl, Or.inl fun t k => X.ldc2J hx hown (mvT hZ (hcl _ (lk_mem hl))) rfl hd k⟩
    · cases h
  case dup =>
    dsimp only at h
    unfold p_dup at h
    split at h
    · split at h
      · rename_i hc; cases h; exact ⟨rfl, Or.inl fun t k => XS.dup X.here hx rfl hd rfl (by rw [up_cat]; exact hc) k⟩
      · cases h
    · cases h
  case pop =>
    dsimp only at h
    unfold p_pop at h
    split at h
    · split at h
      · rename_i hc; cases h; exact ⟨rfl, Or.inl fun t k => XT.pop X.here hx rfl hd rfl (by rw [up_cat]; exact hc) k⟩
      · cases h
    · cases h
  case dup_x1 =>
    dsimp only at h
    unfold p_dup_x1 at h
    split at h
    · split at h
      · rename_i hc hc'; cases h; exact ⟨rfl, Or.inl fun t k => XT.dupX1 X.here hx rfl hd rfl (by rw [up_cat]; exact hc) (by rw [up_cat]; exact hc') k⟩
      · cases h
    · cases h
  case dup2 =>
    dsimp only at h
    unfold p_dup2 at h
    split at h
    · split at h
      · rename_i hc hc'; cases h; exact ⟨rfl, Or.inl fun t k => XT.dup2 X.here hx rfl hd rfl (by rw [up_cat]; exact hc) (by rw [up_cat]; exact hc') k⟩
      · cases h
    · cases h
  case goto o =>
    dsimp only at h
    unfold p_goto at h
    cases h; obtain ⟨h1, h2⟩ := tg_spec htg; exact ⟨rfl, Or.inl fun t k => XS.goto X.here hx rfl rfl hd h1 h2 k⟩
  case ifCond cd o =>
    dsimp only at h
    unfold p_ifCond at h
    split at h
    · split at h
      · rename_i hc; cases h; obtain ⟨h1, h2⟩ := tg_spec htg; exact ⟨rfl, Or.inl fun t k => XS.ifYes X.here hx rfl rfl hd rfl hc h1 h2 k⟩
      · rename_i hc; cases h; exact ⟨rfl, Or.inl fun t k => XS.ifNo X.here hx rfl hd rfl hc k⟩
    · cases h
  case if_icmp cd o =>
    dsimp only at h
    unfold p_if_icmp at h
    split at h
    · split at h
      · rename_i hc; cases h; obtain ⟨h1, h2⟩ := tg_spec htg; exact ⟨rfl, Or.inl fun t k => XS.icmpYes X.here hx rfl rfl hd rfl hc h1 h2 k⟩
      · rename_i hc; cases h; exact ⟨rfl, Or.inl fun t k => XS.icmpNo X.here hx rfl hd rfl hc k⟩
    · cases h
  case ifnull o =>
    dsimp only at h
    unfold p_ifnull at h
    split at h
    · cases h; obtain ⟨h1, h2⟩ := tg_spec htg; exact ⟨rfl, Or.inl fun t k => XS.ifnullYes X.here hx rfl rfl hd rfl h1 h2 k⟩
    · cases h; exact ⟨rfl, Or.inl fun t k => XS.ifnullNo X.here hx rfl hd rfl k⟩
    · cases h
  case ifnonnull o =>
    dsimp only at h
    unfold p_ifnonnull at h
    split at h
    · cases h; obtain ⟨h1, h2⟩ := tg_spec htg; exact ⟨rfl, Or.inl fun t k => XT.ifnonnullYes X.here hx rfl rfl hd rfl h1 h2 k⟩
    · cases h; exact ⟨rfl, Or.inl fun t k => XT.ifnonnullNo X.here hx rfl hd rfl k⟩
    · cases h
  case if_acmp cd o =>
    dsimp only at h
    unfold p_if_acmp at h
    split at h
    · rename_i y x r
      split at h
      · rename_i hx1 hy1
        have hxx : (up b x).isRef = true := by rw [up_isRef]; exact hx1
        have hyy : (up b y).isRef = true := by rw [up_isRef]; exact hy1
        have hq : decide (up b x = up b y) = decide (x = y) := by
          by_cases q : x = y
          · rw [decide_eq_true q, decide_eq_true (up_inj.mpr q)]
          · rw [decide_eq_false q, decide_eq_false (fun z => q (up_inj.mp z))]
        split at h
        · rename_i hc
          cases h
          obtain ⟨h1, h2⟩ := tg_spec htg
          exact ⟨rfl, Or.inl fun t k => acmp X hx rfl hxx hyy rfl hd rfl hq h1 (by rw [hc]; exact h2.symm) k⟩
        · rename_i hc
          cases h
          refine ⟨rfl, Or.inl fun t k => acmp' X hx rfl hxx hyy hd rfl hq hc k⟩
      · cases h
    · cases h
  case checkcast idx =>
    dsimp only at h
    unfold p_checkcast at h
    split at h
    · rename_i a r
      split at h
      · rename_i k k' vs hl ho
        split at h
        · rename_i hb
          cases h
          obtain ⟨C, g1, g5, g6, g7⟩ := hR.2.1 a _ ho
          have ek : k' = k := Nat.eq_of_beq_eq_true hb
          subst ek
          obtain ⟨C', g1', wl⟩ := hkl _ (lk_mem hl)
          cases g1.symm.trans g1'
          obtain ⟨T', X', e', st⟩ := castY X hx hZ hown wl rfl (Ins.self g5) (g := fm b m pc L (.ref a :: r)) rfl rfl hd
          exact ⟨rfl, Or.inr ⟨T', X', e', fun t k => st t k⟩⟩
        · cases h
      · rename_i vs hl ho
        cases h
        obtain ⟨cl, g1, g2, g3, g4⟩ := hR.2.1 a _ ho
        have wl := hkl _ (lk_mem hl)
        obtain ⟨T', X', e', st⟩ := castY X hx hZ hown (K := "[I") wl rfl (Ins.self g3) (g := fm b m pc L (.ref a :: r)) rfl rfl hd
        exact ⟨rfl, Or.inr ⟨T', X', e', fun t k => st t k⟩⟩
      · cases h
    · cases h
  case instanceof idx =>
    dsimp only at h
    unfold p_instanceof at h
    split at h
    · rename_i a r
      split at h
      · rename_i k k' vs hl ho
        split at h
        · rename_i hb
          cases h
          obtain ⟨C, g1, g5, g6, g7⟩ := hR.2.1 a _ ho
          have ek : k' = k := Nat.eq_of_beq_eq_true hb
          subst ek
          obtain ⟨C', g1', wl⟩ := hkl _ (lk_mem hl)
          cases g1.symm.trans g1'
          obtain ⟨T', X', e', st⟩ := instY X hx hZ hown wl rfl (Ins.self g5) (g := fm b m pc L (.ref a :: r)) rfl rfl hd
          exact ⟨rfl, Or.inr ⟨T', X', e', fun t k => st t k⟩⟩
        · cases h
      · cases h
    · cases h
  case getfield idx =>
    dsimp only at h
    unfold p_getfield at h
    split at h
    · rename_i a r
      split at h
      · rename_i q k vs hl ho
        split at h
        · rename_i v hk hv
          cases h
          obtain ⟨C, f, g1, g2, g3, g4⟩ := hfl _ (lk_mem hl)
          obtain ⟨C', g1', g5, g6, g7⟩ := hR.2.1 a _ ho
          have ek : k = q.1 := Nat.eq_of_beq_eq_true hk
          subst ek
          cases g1.symm.trans g1'
          obtain ⟨T', X', e', st⟩ := getF X hx hZ hown g3 g4 rfl (g7 _ f v g2 hv) (g := fm b m pc L (.ref a :: r)) rfl rfl hd
          exact ⟨rfl, Or.inr ⟨T', X', e', fun t k => st t k⟩⟩
        · cases h
      · cases h
    · cases h
  case arraylength =>
    dsimp only at h
    unfold p_arraylength at h
    split at h
    · rename_i a r
      split at h
      · rename_i ty vs ho
        cases h
        obtain ⟨cl, g1, g2, g3, g4⟩ := hR.2.1 a _ ho
        refine ⟨rfl, Or.inr ⟨T, X, rfl, fun t k => ?_⟩⟩
        refine X.arraylength hx g1.1 (State.isArrayOf_alike hZ.alike g1.2.1) (g := fm b m pc L (.ref a :: r)) rfl rfl hd t ?_
        have hsz : cl.slots.size = vs.length := by rw [g2]; simp
        rw [hsz]
        exact k
      · cases h
    · cases h
  case iaload =>
    dsimp only at h
    unfold p_iaload at h
    split at h
    · rename_i j a r
      split at h
      · rename_i vs ho
        split at h
        · cases h
        · rename_i hj
          split at h
          · rename_i v hv
            cases h
            obtain ⟨cl, g1, g2, g3, g4⟩ := hR.2.1 a _ ho
            have hv' : cl.slots[j.toNatClampNeg]? = some (up b v) := by rw [g2]; simp [hv]
            have hin : ¬ (j < 0 ∨ cl.slots.size ≤ j.toNatClampNeg) := fun q => q.elim hj fun q => by rw [Array.getElem?_eq_none q] at hv'; cases hv'
            exact ⟨rfl, Or.inr ⟨T, X, rfl, fun t k => X.iaload hx g1.1 (State.isArrayOf_alike hZ.alike g1.2.1) g1.2.2 hin hv' (g := fm b m pc L (.int j :: .ref a :: r)) rfl rfl hd t k⟩⟩
          · cases h
      · cases h
    · cases h
  case laload =>
    dsimp only at h
    unfold p_laload at h
    split at h
    · rename_i j a r
      split at h
      · rename_i vs ho
        split at h
        · cases h
        · rename_i hj
          split at h
          · rename_i v hv
            cases h
            obtain ⟨cl, g1, g2, g3, g4⟩ := hR.2.1 a _ ho
            have hv' : cl.slots[j.toNatClampNeg]? = some (up b v) := by rw [g2]; simp [hv]
            have hin : ¬ (j < 0 ∨ cl.slots.size ≤ j.toNatClampNeg) := fun q => q.elim hj fun q => by rw [Array.getElem?_eq_none q] at hv'; cases hv'
            exact ⟨rfl, Or.inr ⟨T, X, rfl, fun t k => X.laload hx g1.1 (State.isArrayOf_alike hZ.alike g1.2.1) g1.2.2 hin hv' (g := fm b m pc L (.int j :: .ref a :: r)) rfl rfl hd t k⟩⟩
          · cases h
      · cases h
    · cases h
  case baload =>
    dsimp only at h
    unfold p_baload at h
    split at h
    · rename_i j a r
      split at h
      · rename_i vs ho
        split at h
        · cases h
        · rename_i hj
          split at h
          · rename_i v hv
            cases h
            obtain ⟨cl, g1, g2, g3, g4⟩ := hR.2.1 a _ ho
            have hv' : cl.slots[j.toNatClampNeg]? = some (up b v) := by rw [g2]; simp [hv]
            have hin : ¬ (j < 0 ∨ cl.slots.size ≤ j.toNatClampNeg) := fun q => q.elim hj fun q => by rw [Array.getElem?_eq_none q] at hv'; cases hv'
            exact ⟨rfl, Or.inr ⟨T, X, rfl, fun t k => X.baloadBytes hx g1.1 (State.isArrayOf_alike hZ.alike g1.2.1) g1.2.2 hin hv' (g := fm b m pc L (.int j :: .ref a :: r)) rfl rfl hd t k⟩⟩
          · cases h
      · rename_i vs ho
        split at h
        · cases h
        · rename_i hj
          split at h
          · rename_i v hv
            cases h
            obtain ⟨cl, g1, g2, g3, g4⟩ := hR.2.1 a _ ho
            have hv' : cl.slots[j.toNatClampNeg]? = some (up b v) := by rw [g2]; simp [hv]
            have hin : ¬ (j < 0 ∨ cl.slots.size ≤ j.toNatClampNeg) := fun q => q.elim hj fun q => by rw [Array.getElem?_eq_none q] at hv'; cases hv'
            exact ⟨rfl, Or.inr ⟨T, X, rfl, fun t k => X.baloadBooleans hx g1.1 (State.isArrayOf_alike hZ.alike g1.2.1) g1.2.2 hin hv' (g := fm b m pc L (.int j :: .ref a :: r)) rfl rfl hd t k⟩⟩
          · cases h
      · cases h
    · cases h
  all_goals (exact nomatch h)
end Step
/-! the world's words, checked -/
def okF (W : Wld) (tab : List Jvm.Cond) (M : Mth) (q : Nat × FLk) : Bool :=
  match W.2[q.2.1]? with
  | none => false
  | some C =>
    match C.2.2[q.2.2.1]? with
    | none => false
    | some f => decide (f.2.2.2.1 = q.2.2.2.2.1) && (decide (q.2.2.2.2.2.1 = f.1) || decide (Jvm.Cond.sameField q.2.2.2.2.2.1 f.1 f.2.1 f.2.2.1 ∈ tab)) &&
      (match q.2.2.2.1 with
      | true => decide (Jvm.Cond.fieldLink (mNm M).cls q.1 q.2.2.2.2.2.1 f.2.1 f.2.2.1 ∈ tab) && (!f.2.2.2.2 || (decide ((mNm M).cls = f.1) && decide ((mNm M).name = "<init>")))
      | false => decide (Jvm.Cond.fieldLink (mNm M).cls q.1 q.2.2.2.2.2.1 f.2.1 f.2.2.1 ∈ tab) || decide (Jvm.Cond.fieldLinkNest (mNm M).cls q.1 q.2.2.2.2.2.1 f.2.1 f.2.2.1 q.2.2.2.2.2.2 ∈ tab))
def okC (tab : List Jvm.Cond) (C : CL) : Bool :=
  decide (Jvm.Cond.instantiable C.1 C.2.1 ∈ tab) && decide (Jvm.Cond.initialized C.1 ∈ tab) && decide ((C.2.2.map fun f => f.2.1).Nodup) &&
  C.2.2.all fun f => decide (parseFieldDescriptor f.2.2.1 = some f.2.2.2.1) && (match f.2.2.2.2 with | true => decide (Jvm.Cond.laysFinal C.1 f.1 f.2.1 f.2.2.1 ∈ tab) | false => decide (Jvm.Cond.lays C.1 f.1 f.2.1 f.2.2.1 ∈ tab))
def okCode (tab : List Jvm.Cond) (M : Mth) : Bool := decide (Jvm.Cond.code (mNm M) (mCode M) (mMax M) (mRet M) ∈ tab) && decide (Jvm.Cond.initialized (mNm M).cls ∈ tab)
def okHandle (y : MethodName) : Bool := decide (y.cls ≠ "java/lang/invoke/MethodHandle" ∧ y.cls ≠ "java/lang/invoke/VarHandle")
def okArgs (y : MethodName) (n : Nat) : Bool := match parseMethodDescriptor y.desc with | some sig => Nat.beq sig.parameters.length n | none => false
def okM (W : Wld) (tab : List Jvm.Cond) (M : Mth) (q : Nat × MLk) : Bool :=
  match q.2.1, W.1[q.2.2.1]? with
  | 0, some N => okCode tab N && okHandle (mNm N) && okArgs (mNm N) (mArgs N) && decide (Jvm.Cond.methodLink (mNm M).cls q.1 (mNm N) ∈ tab) && decide (Jvm.Cond.static (mNm N) ∈ tab)
  | 1, some N => okCode tab N && okHandle (mNm N) && (match mArgs N with | 0 => false | n + 1 => okArgs (mNm N) n) && decide (Jvm.Cond.methodLink (mNm M).cls q.1 (mNm N) ∈ tab) && decide (Jvm.Cond.instanceMethod (mNm N) ∈ tab) && decide ((mNm N).name = "<init>") && decide (mRet N = none)
  | 2, some N => okCode tab N && okHandle (mNm N) && (match mArgs N with | 0 => false | n + 1 => okArgs (mNm N) n) && decide (Jvm.Cond.methodLink (mNm M).cls q.1 (mNm N) ∈ tab) && decide (Jvm.Cond.declares (mNm N) ∈ tab) && decide (Jvm.Cond.instanceMethod (mNm N) ∈ tab) &&
      (match W.2[q.2.2.2.1]? with | some C => decide (Jvm.Cond.selects C.1 (mNm N) (mNm N) ∈ tab) | none => false)
  | 3, _ => decide (Jvm.Cond.methodLink (mNm M).cls q.1 Lib.objectInit ∈ tab) && decide (Jvm.Cond.instanceMethod Lib.objectInit ∈ tab) && decide (Jvm.Cond.code Lib.objectInit ⟨#[0xb1]⟩ 1 none ∈ tab)
  | 4, some N => okCode tab N && okHandle (mNm N) && (match mArgs N with | 0 => false | n + 1 => okArgs (mNm N) n) && decide (Jvm.Cond.methodLink (mNm M).cls q.1 (mNm N) ∈ tab) && decide (Jvm.Cond.instanceMethod (mNm N) ∈ tab) && decide (Jvm.Cond.privateMethod (mNm N) ∈ tab) && decide (Jvm.Cond.selects (mNm N).cls (mNm N) (mNm N) ∈ tab)
  | 5, _ => decide (Jvm.Cond.methodLink (mNm M).cls q.1 ⟨"[I", "clone", "()Ljava/lang/Object;"⟩ ∈ tab) && decide (Jvm.Cond.sameMethod "[I" "java/lang/Object" "clone" "()Ljava/lang/Object;" ∈ tab) && decide (Jvm.Cond.native ⟨"java/lang/Object", "clone", "()Ljava/lang/Object;"⟩ ∈ tab) &&
      decide (Jvm.Cond.instanceMethod ⟨"java/lang/Object", "clone", "()Ljava/lang/Object;"⟩ ∈ tab) && decide (Jvm.Cond.selects "[I" ⟨"[I", "clone", "()Ljava/lang/Object;"⟩ ⟨"java/lang/Object", "clone", "()Ljava/lang/Object;"⟩ ∈ tab) && decide (Jvm.Cond.castable "[I" "java/lang/Cloneable" ∈ tab)
  | 6, _ => okHandle q.2.2.2.2 && okArgs q.2.2.2.2 0 && decide (q.2.2.2.2.name = "<init>") && decide (Jvm.Cond.methodLink (mNm M).cls q.1 q.2.2.2.2 ∈ tab) && decide (Jvm.Cond.instanceMethod q.2.2.2.2 ∈ tab) &&
      (match W.2[q.2.2.2.1]?, W.2[q.2.2.2.1 + 1]? with | some C, some C' => decide (C'.1 = C.1) && decide (C'.2.1 = C.2.1) && decide (C'.2.2 = []) | _, _ => false)
  | _, _ => false
def okNew (tab : List Jvm.Cond) : Instr → Bool
  | .newarray t => decide (Jvm.Cond.arrayClass (newarray.typeOf t) ∈ tab)
  | _ => true
def okDec (tab : List Jvm.Cond) (M : Mth) : Bool := (List.range (mLen M)).all fun pc => match mDec M pc with | none => true | some (i, nx, tg) => decide (decode (mCode M) pc = .ok (i, ilen i)) && okNew tab i && Nat.beq nx (pc + ilen i) && okTg pc tg i
def okMth (W : Wld) (tab : List Jvm.Cond) (M : Mth) : Bool :=
  okDec tab M && (mCi M).all (fun q => decide (Jvm.Cond.constant (mNm M).cls q.1 q.2 ∈ tab)) && (mCl M).all (fun q => decide (Jvm.Cond.constantLong (mNm M).cls q.1 q.2 ∈ tab)) && (mFl M).all (okF W tab M) && (mMl M).all (okM W tab M) &&
  (mKl M).all (fun q => match q.2 with | 0 => decide (Jvm.Cond.classLink (mNm M).cls q.1 "[I" ∈ tab) | k + 1 => (match W.2[k]? with | some C => decide (Jvm.Cond.classLink (mNm M).cls q.1 C.1 ∈ tab) | none => false))
def fetch (M : Mth) (pc : Nat) : Option (Instr × Nat × Nat) := bif Nat.ble (mLen M) pc then none else mDec M pc
theorem fetch_ok {M : Mth} {pc nx tg : Nat} {i : Instr} {tab : List Jvm.Cond} (hM : okDec tab M = true) (h : fetch M pc = some (i, nx, tg)) : decode (mCode M) pc = .ok (i, ilen i) ∧ okNew tab i = true ∧ nx = pc + ilen i ∧ okTg pc tg i = true := by
  unfold fetch at h
  cases hb : Nat.ble (mLen M) pc with
  | true => rw [hb] at h; cases h
  | false =>
    rw [hb] at h
    have hlt : pc < mLen M := Nat.lt_of_not_le fun q => by rw [Nat.ble_eq_true_of_le q] at hb; cases hb
    have q := List.all_eq_true.mp hM pc (List.mem_range.mpr hlt)
    rw [show mDec M pc = some (i, nx, tg) from h] at q
    simp only [Bool.and_eq_true, decide_eq_true_eq] at q
    exact ⟨q.1.1.1, q.1.1.2, Nat.eq_of_beq_eq_true q.1.2, q.2⟩

/-! the writing step -/
def putV : FieldType → Value → Option Value
  | .int, .int x => some (.int x)
  | .long, .long x => some (.long x)
  | .boolean, .int x => some (.int (x &&& 1))
  | .byte, .int x => some (.int x.toInt8.toInt32)
  | .object _, .ref a => some (.ref a)
  | .object _, .null => some .null
  | .array _, .ref a => some (.ref a)
  | .array _, .null => some .null
  | _, _ => none
theorem putV_spec (b : Nat) {ty : FieldType} {v v' : Value} (h : putV ty v = some v') : narrow ty (up b v) = up b v' ∧ fits ty (up b v') = true := by
  unfold putV at h
  split at h <;> first | (cases h; exact ⟨rfl, rfl⟩) | (cases h; exact ⟨rfl, fits_nar_bool _⟩) | (cases h; exact ⟨rfl, fits_nar_byte _⟩) | cases h
def sumC (S : List Value) : Nat := (S.map fun v => v.category).sum
theorem sumC_up (b : Nat) (S : List Value) : ((S.map (up b)).map fun v => v.category).sum = sumC S := by
  unfold sumC
  rw [List.map_map]
  congr 1
  apply List.map_congr_left
  intro v _
  exact up_cat b v
def w_putfield (M : Mth) (ah : AH) (idx : Nat) (nx : Nat) (S : List Value) : Option (Nat × List Value × AH) :=
    (match S with
    | v :: .ref a :: r =>
      (match lk (mFl M) idx, ah[a]? with
      | some q, some (.inl (k, vs)) =>
        (match Nat.beq k q.1, q.2.2.1, putV q.2.2.2.1 v with
        | true, true, some v' => if q.2.1 < vs.length then some (nx, r, ah.set a (.inl (k, vs.set q.2.1 v'))) else none
        | _, _, _ => none)
      | _, _ => none)
    | _ => none)
def w_iastore (ah : AH) (nx : Nat) (S : List Value) : Option (Nat × List Value × AH) :=
    (match S with
    | .int x :: .int j :: .ref a :: r =>
      (match ah[a]? with
      | some (.inr (.int, vs)) => if j < 0 then none else if j.toNatClampNeg < vs.length then some (nx, r, ah.set a (.inr (.int, vs.set j.toNatClampNeg (.int x)))) else none
      | _ => none)
    | _ => none)
def w_lastore (ah : AH) (nx : Nat) (S : List Value) : Option (Nat × List Value × AH) :=
    (match S with
    | .long x :: .int j :: .ref a :: r =>
      (match ah[a]? with
      | some (.inr (.long, vs)) => if j < 0 then none else if j.toNatClampNeg < vs.length then some (nx, r, ah.set a (.inr (.long, vs.set j.toNatClampNeg (.long x)))) else none
      | _ => none)
    | _ => none)
def w_bastore (ah : AH) (nx : Nat) (S : List Value) : Option (Nat × List Value × AH) :=
    (match S with
    | .int x :: .int j :: .ref a :: r =>
      (match ah[a]? with
      | some (.inr (.byte, vs)) => if j < 0 then none else if j.toNatClampNeg < vs.length then some (nx, r, ah.set a (.inr (.byte, vs.set j.toNatClampNeg (.int (x.toInt8.toInt32))))) else none
      | some (.inr (.boolean, vs)) => if j < 0 then none else if j.toNatClampNeg < vs.length then some (nx, r, ah.set a (.inr (.boolean, vs.set j.toNatClampNeg (.int (x &&& 1))))) else none
      | _ => none)
    | _ => none)
def w_new (W : Wld) (M : Mth) (ah : AH) (idx : Nat) (nx : Nat) (S : List Value) : Option (Nat × List Value × AH) :=
    (match lk (mKl M) idx with
    | some 0 => none
    | some (k + 1) => (match W.2[k]? with | some C => some (nx, .ref ah.length :: S, ah ++ [.inl (k, C.2.2.map fun f => defaultValue f.2.2.2.1)]) | none => none)
    | none => none)
def w_newarray (ah : AH) (t : ArrayType) (nx : Nat) (S : List Value) : Option (Nat × List Value × AH) :=
    (match S with
    | .int n :: r => if n < 0 then none else if n.toNatClampNeg ≤ 67108864 then some (nx, .ref ah.length :: r, ah ++ [.inr (newarray.typeOf t, List.replicate n.toNatClampNeg (defaultValue (newarray.typeOf t)))]) else none
    | _ => none)
def w_invokespecial (M : Mth) (F : Nat) (B : Nat) (ah : AH) (idx : Nat) (nx : Nat) (S : List Value) : Option (Nat × List Value × AH) :=
    (match lk (mMl M) idx, S with
    | some q, .ref a :: r =>
      (match q.1 with
      | 3 => if 1 ≤ F ∧ sumC r + 12 ≤ B then some (nx, r, ah) else none
      | 6 => (match ah[a]? with | some (.inl (k, _)) => (match Nat.beq k q.2.2.1 with | true => if 5 ≤ F ∧ sumC r + 100 ≤ B then some (nx, r, ah.set a (.inl (k + 1, []))) else none | false => none) | _ => none)
      | _ => none)
    | _, _ => none)
def w_invokevirtual (M : Mth) (F : Nat) (B : Nat) (ah : AH) (idx : Nat) (nx : Nat) (S : List Value) : Option (Nat × List Value × AH) :=
    (match lk (mMl M) idx, S with
    | some q, .ref a :: r => (match q.1, ah[a]? with | 5, some (.inr (.int, vs)) => if 1 ≤ F ∧ sumC r + 14 ≤ B then some (nx, .ref ah.length :: r, ah ++ [.inr (.int, vs)]) else none | _, _ => none)
    | _, _ => none)
def wsel (i : Instr) : Option (Wld → Mth → Nat → Nat → AH → Nat → List Value → Option (Nat × List Value × AH)) :=
  match i with
  | .putfield idx => some fun _ M _ _ ah => w_putfield M ah idx
  | .iastore => some fun _ _ _ _ ah => w_iastore ah
  | .lastore => some fun _ _ _ _ ah => w_lastore ah
  | .bastore => some fun _ _ _ _ ah => w_bastore ah
  | .new idx => some fun W M _ _ ah => w_new W M ah idx
  | .newarray t => some fun _ _ _ _ ah => w_newarray ah t
  | .invokespecial idx => some fun _ M F B ah => w_invokespecial M F B ah idx
  | .invokevirtual idx => some fun _ M F B ah => w_invokevirtual M F B ah idx
  | _ => none
def wstep (W : Wld) (M : Mth) (F B : Nat) (ah : AH) (i : Instr) (nx : Nat) (S : List Value) : Option (Nat × List Value × AH) :=
  match wsel i with
  | some f => f W M F B ah nx S
  | none => none
theorem def_up (b : Nat) (ty : FieldType) : up b (defaultValue ty) = defaultValue ty := by cases ty <;> rfl
theorem def_fits (ty : FieldType) : fits ty (defaultValue ty) = true := by cases ty <;> rfl
/-- what the body knows of its own place -/
def Inv (W : Wld) (Z : State) (b c0 q0 : Nat) (s T : State) (locs : List Loc) (cells slots : Nat) (ah : AH) : Prop :=
  Rel W Z b T.heap ah ∧ Fr b locs ∧ s.heap.size = b + c0 ∧ cells + c0 = ah.length ∧ slots + q0 = sz W ah
/-- a constructor of the JDK that isn't run here: what is asked of its own contract -/
def XOK (W : Wld) (tab : List Jvm.Cond) (l : Launch) (Z : State) (b : Nat) (q : MLk) : Prop :=
  ∃ (bytes : ByteArray) (maxL fr lo : Nat), Jvm.Cond.code q.2.2.2 bytes maxL none ∈ tab ∧ Jvm.Cond.initialized q.2.2.2.cls ∈ tab ∧ fr + 1 ≤ 5 ∧ maxL + 11 + lo ≤ 100 ∧
  ∀ (h : Heap) (ah : AH) (a : Nat) (vs : List Value), Rel W Z b h ah → ah[a]? = some (.inl (q.2.2.1, vs)) →
    MetFree l q.2.2.2 (head1 [Jvm.Cond.code q.2.2.2 bytes maxL none] ({ frames := fr, cells := 0, slots := 0, locals := lo } : Room)) (fun x U => x = #[.ref (b + a)] ∧ Z.Warmed39 U.vm ∧ U.heap = h) (fun _ _ _ _ _ => True)
      (fun _ U o U' => ∃ v L, o = .returned v ∧ (v = none ∧ Fr b L ∧ Keep h U'.heap [b + a]) ∧ FrameEnd U o U' L ({ frames := fr, cells := 0, slots := 0, locals := lo } : Room).cells ({ frames := fr, cells := 0, slots := 0, locals := lo } : Room).slots)
theorem okArgs_len {y : MethodName} {n : Nat} {as : List Value} (h : okArgs y n = true) (ha : as.length = n) : ∀ sig, parseMethodDescriptor y.desc = some sig → as.length = sig.parameters.length := fun sig hs => by
  unfold okArgs at h
  rw [hs] at h
  rw [ha]
  exact (Nat.eq_of_beq_eq_true h).symm
section Write
variable {p : Program} {l : Launch} {e : Env} {R : Room} {s : State} {m : MethodId} {args : Array Value} {below : List Frame} {meth : Method} {c : Code} {T : State} {locs : List Loc} {cells slots : Nat} {Z : State} {a0 : Array Value} {W : Wld} {M : Mth} {b c0 q0 : Nat} {ah : AH}
theorem inv_set {T' : State} {h' : Heap} {a sl : Nat} {v : Value} {o o' : AObj} (H : Inv W Z b c0 q0 s T locs cells slots ah) (X' : Stand p l e R s m args below meth c T' (locs ++ [⟨b + a, sl⟩]) cells slots) (e' : T'.heap = h') (w : Wr T.heap h' (b + a) sl v) (ho : ah[a]? = some o) (hz : asz W o' = asz W o) (hor : OR W Z b h' (b + a) o') :
    Inv W Z b c0 q0 s T' (locs ++ [⟨b + a, sl⟩]) cells slots (ah.set a o') := by
  obtain ⟨h1, h2, h3, h4, h5⟩ := H
  refine ⟨?_, Fr.snoc X' h2 (Nat.le_add_right _ _), h3, by simpa using h4, by rw [sz_set W hz ho]; exact h5⟩
  rw [e']
  exact h1.set (lt_of_get ho) w hor
theorem inv_push {T' : State} {h' : Heap} {n : Nat} {o' : AObj} (H : Inv W Z b c0 q0 s T locs cells slots ah) (X' : Stand p l e R s m args below meth c T' locs (cells + 1) (slots + n)) (e' : T'.heap = h') (E : Ext T.heap h') (hlt : T.heap.size < h'.size) (hz : asz W o' = n) (hor : OR W Z b h' T.heap.size o') :
    Inv W Z b c0 q0 s T' locs (cells + 1) (slots + n) (ah ++ [o']) := by
  obtain ⟨h1, h2, h3, h4, h5⟩ := H
  have hs : h'.size = T.heap.size + 1 := by
    have q := X'.heapSize
    rw [e'] at q
    have q2 := h1.1
    omega
  refine ⟨?_, h2, h3, by simp; omega, by rw [sz_app, hz]; omega⟩
  rw [e']
  exact h1.push E hs hor
theorem arr_set {T' : State} {h' : Heap} {a : Nat} {j : Int32} {ty : FieldType} {vs : List Value} {v : Value} {cl : Cell} (A : Arr Z T.heap (b + a) cl ty) (g2 : cl.slots = (vs.map (up b)).toArray) (g3 : Exa Z T.heap (b + a) ("[" ++ ty.toString)) (g4 : ∀ v ∈ vs, fits ty (up b v) = true)
    (w : Wr T.heap h' (b + a) j.toNatClampNeg (up b v)) (hv : fits ty (up b v) = true) : OR W Z b h' (b + a) (.inr (ty, vs.set j.toNatClampNeg v)) := by
  refine ⟨_, A.same w, ?_, g3.wr w, fun u hu => ?_⟩
  · simp [Cell.setSlot, g2, List.map_set]
  · rcases List.mem_or_eq_of_mem_set hu with q | q
    · exact g4 u q
    · rw [q]; exact hv
theorem wstep_sound {tab : List Jvm.Cond} {F B : Nat} {i : Instr} {pc nx pc' : Nat} {L : List Slot} {S S' : List Value} {ah' : AH} (X : Stand p l e R s m args below meth c T locs cells slots) (hx : p.tables.exec = Jvm.exec) (hZ : Z.Warmed39 s.vm) (hown : s.vm.findClass (mNm M).cls = some m.cls) (hnm : meth.name = (mNm M).name)
    (hsize : L.length = c.maxLocals) (hw : ∀ d ∈ tab, d.before a0 Z = true) (hC : ∀ C ∈ W.2, okC tab C = true) (hM : okMth W tab M = true) (hX : ∀ q ∈ mMl M, q.2.1 = 6 → XOK W tab l Z b q.2) (hN : okNew tab i = true)
    (H : Inv W Z b c0 q0 s T locs cells slots ah) (hF : F ≤ R.frames) (hB : B ≤ R.locals) (hc : ah'.length ≤ c0 + R.cells) (hs : sz W ah' ≤ q0 + R.slots) (hd : decode c.code pc = .ok (i, ilen i)) (hnx : nx = pc + ilen i) (h : wstep W M F B ah i nx S = some (pc', S', ah')) :
    ∃ T' locs' cells' slots', Stand p l e R s m args below meth c T' locs' cells' slots' ∧ Inv W Z b c0 q0 s T' locs' cells' slots' ah' ∧ ∀ target, Steps p.tables e below (T'.setTop (fm b m pc' L S')) target → Steps p.tables e below (T.setTop (fm b m pc L S)) target := by
  have hR : Rel W Z b T.heap ah := H.1
  simp only [okMth, Bool.and_eq_true] at hM
  obtain ⟨⟨⟨⟨⟨hM1, hM2⟩, hM3⟩, hM4⟩, hM5⟩, hM6⟩ := hM
  subst hnx
  unfold wstep wsel at h
  cases i
  case putfield idx =>
    dsimp only at h
    unfold w_putfield at h
    split at h
    · rename_i v a r
      split at h
      · rename_i q k vs hl ho
        split at h
        · rename_i v' hk hwr hpv
          split at h
          · rename_i hpos
            cases h
            have hq := List.all_eq_true.mp hM4 _ (lk_mem hl)
            obtain ⟨C, g1, g5, g6, g7⟩ := hR.2.1 a _ ho
            have ek : k = q.1 := Nat.eq_of_beq_eq_true hk
            subst ek
            unfold okF at hq
            dsimp only at hq
            rw [g1] at hq
            dsimp only at hq
            obtain ⟨f, hf⟩ : ∃ f, C.2.2[q.2.1]? = some f := ⟨_, List.getElem?_eq_getElem (by omega)⟩
            rw [hf] at hq
            dsimp only at hq
            rw [hwr] at hq
            simp only [Bool.and_eq_true, Bool.or_eq_true, decide_eq_true_eq, Bool.not_eq_true'] at hq
            obtain ⟨⟨hty, hvia⟩, hlink, hfin⟩ := hq
            have hCk := hC C (List.mem_of_getElem? g1)
            simp only [okC, Bool.and_eq_true, decide_eq_true_eq] at hCk
            obtain ⟨⟨⟨hi1, hi2⟩, hnd⟩, hall⟩ := hCk
            have hfl := List.all_eq_true.mp hall f (List.mem_of_getElem? hf)
            simp only [Bool.and_eq_true, decide_eq_true_eq] at hfl
            have hlaid : ∀ g ∈ C.2.2, Laid Z a0 C.1 g.1 g.2.1 g.2.2.1 := fun g hg => by
              have q0 := List.all_eq_true.mp hall g hg
              simp only [Bool.and_eq_true] at q0
              have q1 := q0.2
              split at q1
              · exact Or.inr (hw _ (of_decide_eq_true q1))
              · exact Or.inl (hw _ (of_decide_eq_true q1))
            obtain ⟨old, hold⟩ : ∃ u, vs[q.2.1]? = some u := ⟨_, List.getElem?_eq_getElem hpos⟩
            obtain ⟨n1, n2⟩ := putV_spec b hpv
            have hL : (Jvm.Cond.lays C.1 f.1 f.2.1 f.2.2.1).before a0 Z = true ∨ ((Jvm.Cond.laysFinal C.1 f.1 f.2.1 f.2.2.1).before a0 Z = true ∧ (mNm M).cls = f.1 ∧ meth.name = "<init>") := by
              have q1 := hfl.2
              split at q1
              · rename_i hb
                rcases hfin with z | ⟨z1, z2⟩
                · rw [hb] at z; cases z
                · exact Or.inr ⟨hw _ (of_decide_eq_true q1), z1, by rw [hnm]; exact z2⟩
              · exact Or.inl (hw _ (of_decide_eq_true q1))
            have hVia : Via Z q.2.2.2.2.1 f.1 f.2.1 f.2.2.1 := by
              rcases hvia with z | z
              · rw [z]; exact Via.refl
              · exact Via.of (hw _ z)
            rw [← hty] at n1 n2
            obtain ⟨T', h', X', e', w', st⟩ := putFN X hx hZ hown (hw _ hlink) hVia rfl (g7 _ f old hf hold) g5 hL (hw _ hi1) hfl.1 n1 n2 (g := fm b m pc L (v :: .ref a :: _)) rfl rfl hd
            refine ⟨T', _, _, _, X', inv_set H X' e' w' ho rfl ?_, st⟩
            refine ⟨C, g1, g5.wr w', by simpa using g6, fun j g u hg hu => ?_⟩
            by_cases ej : q.2.1 = j
            · subst ej
              rw [List.getElem?_set_self hpos] at hu
              cases hu
              cases hf.symm.trans hg
              exact (g7 _ f old hf hold).same w'
            · rw [List.getElem?_set_ne ej] at hu
              refine (g7 _ g u hg hu).other w' (Or.inr ?_)
              have hpg := List.all_eq_true.mp hall g (List.mem_of_getElem? hg)
              simp only [Bool.and_eq_true, decide_eq_true_eq] at hpg
              refine slot_ne (hlaid g (List.mem_of_getElem? hg)) (hlaid f (List.mem_of_getElem? hf)) (fun en => ej ?_) hpg.1 hfl.1
              have l1 : (C.2.2.map fun f => f.2.1)[q.2.1]? = some f.2.1 := by simp [hf]
              have l2 : (C.2.2.map fun f => f.2.1)[j]? = some f.2.1 := by simp [hg, en]
              exact (List.getElem?_inj (by simpa using (List.getElem?_eq_some_iff.mp hf).1) hnd).mp (l1.trans l2.symm)
          · cases h
        · cases h
      · cases h
    · cases h
  case iastore =>
    dsimp only at h
    unfold w_iastore at h
    split at h
    · rename_i x j a r
      split at h
      · rename_i vs ho
        split at h
        · cases h
        · rename_i hj
          split at h
          · rename_i hlt
            cases h
            obtain ⟨cl, g1, g2, g3, g4⟩ := hR.2.1 a _ ho
            have hin : ¬ (j < 0 ∨ cl.slots.size ≤ j.toNatClampNeg) := fun q => q.elim hj fun q => by rw [g2] at q; simp at q; omega
            obtain ⟨T', h', X', e', w', st⟩ := stI X hx hZ rfl g1 (j := j) (x := x) hin (g := fm b m pc L (.int x :: .int j :: .ref a :: _)) rfl rfl hd
            exact ⟨T', _, _, _, X', inv_set H X' e' w' ho (by simp [asz]) (arr_set (T' := T') g1 g2 g3 g4 w' rfl), st⟩
          · cases h
      · cases h
    · cases h
  case lastore =>
    dsimp only at h
    unfold w_lastore at h
    split at h
    · rename_i x j a r
      split at h
      · rename_i vs ho
        split at h
        · cases h
        · rename_i hj
          split at h
          · rename_i hlt
            cases h
            obtain ⟨cl, g1, g2, g3, g4⟩ := hR.2.1 a _ ho
            have hin : ¬ (j < 0 ∨ cl.slots.size ≤ j.toNatClampNeg) := fun q => q.elim hj fun q => by rw [g2] at q; simp at q; omega
            obtain ⟨T', h', X', e', w', st⟩ := stJ X hx hZ rfl g1 (j := j) (x := x) hin (g := fm b m pc L (.long x :: .int j :: .ref a :: _)) rfl rfl hd
            exact ⟨T', _, _, _, X', inv_set H X' e' w' ho (by simp [asz]) (arr_set (T' := T') g1 g2 g3 g4 w' rfl), st⟩
          · cases h
      · cases h
    · cases h
  case bastore =>
    dsimp only at h
    unfold w_bastore at h
    split at h
    · rename_i x j a r
      split at h
      · rename_i vs ho
        split at h
        · cases h
        · rename_i hj
          split at h
          · rename_i hlt
            cases h
            obtain ⟨cl, g1, g2, g3, g4⟩ := hR.2.1 a _ ho
            have hin : ¬ (j < 0 ∨ cl.slots.size ≤ j.toNatClampNeg) := fun q => q.elim hj fun q => by rw [g2] at q; simp at q; omega
            obtain ⟨T', h', X', e', w', st⟩ := stB X hx hZ rfl g1 (j := j) (x := x) hin (g := fm b m pc L (.int x :: .int j :: .ref a :: _)) rfl rfl hd
            exact ⟨T', _, _, _, X', inv_set H X' e' w' ho (by simp [asz]) (arr_set (T' := T') (v := .int x.toInt8.toInt32) g1 g2 g3 g4 w' (fits_nar_byte _)), st⟩
          · cases h
      · rename_i vs ho
        split at h
        · cases h
        · rename_i hj
          split at h
          · rename_i hlt
            cases h
            obtain ⟨cl, g1, g2, g3, g4⟩ := hR.2.1 a _ ho
            have hin : ¬ (j < 0 ∨ cl.slots.size ≤ j.toNatClampNeg) := fun q => q.elim hj fun q => by rw [g2] at q; simp at q; omega
            obtain ⟨T', h', X', e', w', st⟩ := stZ X hx hZ rfl g1 (j := j) (x := x) hin (g := fm b m pc L (.int x :: .int j :: .ref a :: _)) rfl rfl hd
            exact ⟨T', _, _, _, X', inv_set H X' e' w' ho (by simp [asz]) (arr_set (T' := T') (v := .int (x &&& 1)) g1 g2 g3 g4 w' (fits_nar_bool _)), st⟩
          · cases h
      · cases h
    · cases h
  case new idx =>
    dsimp only at h
    unfold w_new at h
    split at h
    · cases h
    · rename_i k hl
      split at h
      · rename_i C hk
        cases h
        have hq := List.all_eq_true.mp hM6 _ (lk_mem hl)
        dsimp only at hq
        rw [hk] at hq
        dsimp only at hq
        have hlink := hw _ (of_decide_eq_true hq)
        have hCk := hC C (List.mem_of_getElem? hk)
        simp only [okC, Bool.and_eq_true, decide_eq_true_eq] at hCk
        obtain ⟨⟨⟨hi1, hi2⟩, hnd⟩, hall⟩ := hCk
        have hz : asz W (.inl (k, C.2.2.map fun f => defaultValue f.2.2.2.1)) = C.2.1 := by simp [asz, hk]
        rw [sz_app, hz] at hs
        have h4 := H.2.2.2.1
        have h5 := H.2.2.2.2
        obtain ⟨T', h', X', e', E', A', D', -, st⟩ := newO X hx hZ hown hlink (hw _ hi1) (hw _ hi2) rfl (g := fm b m pc L S) rfl hd (by simp at hc; omega) (by omega)
        refine ⟨T', _, _, _, X', inv_push H X' e' E' A'.lt hz ⟨C, hk, A', by simp, fun j f u hf hu => ?_⟩, fun t kk => st t ?_⟩
        · have hu' : u = defaultValue f.2.2.2.1 := by simpa [hf] using hu.symm
          rw [hu', def_up]
          have hpf := List.all_eq_true.mp hall f (List.mem_of_getElem? hf)
          simp only [Bool.and_eq_true, decide_eq_true_eq] at hpf
          refine D' (O := f.1) ?_ hpf.1
          have q1 := hpf.2
          split at q1
          · exact Or.inr (hw _ (of_decide_eq_true q1))
          · exact Or.inl (hw _ (of_decide_eq_true q1))
        · have e0 : T.heap.size = b + ah.length := hR.1
          rw [e0]
          exact kk
      · cases h
    · cases h
  case newarray t =>
    dsimp only at h
    unfold w_newarray at h
    split at h
    · rename_i n r
      split at h
      · cases h
      · rename_i hn
        split at h
        · rename_i hcap
          cases h
          have hz : asz W (.inr (newarray.typeOf t, List.replicate n.toNatClampNeg (defaultValue (newarray.typeOf t)))) = n.toNatClampNeg := by simp [asz]
          rw [sz_app, hz] at hs
          have h4 := H.2.2.2.1
          have h5 := H.2.2.2.2
          have hcb : componentBytes (newarray.typeOf t) ≤ 8 := by cases t <;> decide
          have hAC : (Jvm.Cond.arrayClass (newarray.typeOf t)).before a0 Z = true := hw _ (of_decide_eq_true hN)
          obtain ⟨cA, kA, comp, k1, k2, k3, X', st⟩ := X.newarrayPrim hx (mvA hZ hAC) (g := fm b m pc L (.int n :: r)) rfl hd rfl hn (Nat.le_trans (Nat.mul_le_mul hcap hcb) (by decide)) (by simp at hc; omega) (by omega)
          rw [hZ.alike.findClass] at k1
          obtain ⟨kZ, z1, -⟩ := Vm.findClass_spec k1
          obtain ⟨k', z2, z3⟩ := hZ.alike.2.2 _ _ z1
          cases k2.symm.trans z2
          have kk3 : kZ.kind = .array comp (newarray.typeOf t) := by rw [← k3, z3]
          have hg : (T.pushCell { cls := cA, slots := Array.replicate n.toNatClampNeg (defaultValue (newarray.typeOf t)), vm := .none }).heap = T.heap.push { cls := cA, slots := Array.replicate n.toNatClampNeg (defaultValue (newarray.typeOf t)), vm := .none } := rfl
          have hget : (T.heap.push { cls := cA, slots := Array.replicate n.toNatClampNeg (defaultValue (newarray.typeOf t)), vm := .none })[T.heap.size]? = some { cls := cA, slots := Array.replicate n.toNatClampNeg (defaultValue (newarray.typeOf t)), vm := .none } := by simp
          refine ⟨_, _, _, _, X', inv_push H X' hg ⟨by simp, fun a c hc => ?_⟩ (by simp) hz ⟨_, ⟨hget, ⟨by simp, kZ, z1, comp, kk3⟩, by simp⟩, ?_, ⟨_, kZ, hget, k1, z1, rfl, fun q => ?_⟩, fun u hu => ?_⟩, fun tt kk => st tt ?_⟩
          · rw [Array.getElem?_push_lt (Array.getElem?_eq_some_iff.mp hc).1]; exact (Array.getElem?_eq_getElem _).symm.trans hc
          · simp [def_up]
          · rw [kk3] at q; cases q
          · rw [List.eq_of_mem_replicate hu, def_up]; exact def_fits _
          · have e0 : T.heap.size = b + ah.length := hR.1
            rw [e0]
            exact kk
        · cases h
    · cases h
  case invokespecial idx =>
    dsimp only at h
    unfold w_invokespecial at h
    split at h
    · rename_i q a r hl
      split at h
      · rename_i hq3
        split at h
        · rename_i hroom
          cases h
          have hq := List.all_eq_true.mp hM5 _ (lk_mem hl)
          unfold okM at hq
          dsimp only at hq
          rw [hq3] at hq
          simp only [Bool.and_eq_true, decide_eq_true_eq] at hq
          obtain ⟨⟨w1, w2⟩, w3⟩ := hq
          obtain ⟨T', X', e', st⟩ := initO X hx hZ hown (hw _ w1) (hw _ w2) (hw _ w3) rfl (g := fm b m pc L (.ref a :: S')) rfl (by simpa using hsize) rfl hd (by omega) (W := sumC S') (by show 2 * 0 + _ ≤ _; rw [sumC_up]; omega) (by omega)
          refine ⟨T', _, _, _, X', ⟨by rw [e']; exact H.1, H.2⟩, st⟩
        · cases h
      · rename_i hq6
        split at h
        · rename_i k vs ho
          split at h
          · rename_i hkk
            split at h
            · rename_i hroom
              cases h
              have ek : k = q.2.2.1 := Nat.eq_of_beq_eq_true hkk
              have hq := List.all_eq_true.mp hM5 _ (lk_mem hl)
              unfold okM at hq
              dsimp only at hq
              rw [hq6] at hq
              simp only [okHandle, Bool.and_eq_true, decide_eq_true_eq] at hq
              obtain ⟨⟨⟨⟨⟨w1, w2⟩, w3⟩, w4⟩, w5⟩, w6⟩ := hq
              obtain ⟨C, g1, g5, g6, g7⟩ := hR.2.1 a _ ho
              rw [← ek, g1] at w6
              have hx6 : XOK W tab l Z b q := hX _ (lk_mem hl) hq6
              obtain ⟨bytes, maxL, fr, lo, c1, c2, c3, c4, c5⟩ := hx6
              have hmet := c5 T.heap ah a vs hR (by rw [← ek]; exact ho)
              obtain ⟨v1, vm1, ⟨T', L', k', n'⟩, -, X', ⟨Lc, hQ, l1, y1, z1⟩, st⟩ := X.specialBack hx (y := q.2.2.2) w3 hown (mvT hZ (hw _ w4)) (mvT hZ (hw _ w5)) (mvT hZ (hw _ c1)) w1 (backOf (W := sumC S') (rm := { frames := fr, cells := 0, slots := 0, locals := lo }) (Q := fun v h' L => v = none ∧ Fr b L ∧ Keep T.heap h' [b + a]) hmet hZ (hw _ c1) (hw _ c2) (by show fr + 1 ≤ _; omega) (by show sumC S' + (maxL + 11) + lo ≤ _; omega)) (g := fm b m pc L (.ref a :: S')) rfl (by simpa using hsize) (Steps.refl _) (a := b + a) (argsL := []) (rest := S'.map (up b)) (okArgs_len w2 rfl) rfl (by show 2 * 0 + _ ≤ _; rw [sumC_up]; omega) hd (fun _ _ => ⟨rfl, rfl, by show cells + 0 ≤ _; have := H.2.2.2.1; simp at hc; omega, by
                show slots + 0 ≤ _
                have := H.2.2.2.2
                have hz0 : sz W (ah.set a (.inl (k + 1, []))) = sz W ah := by
                  split at w6
                  · rename_i C1 C2 hC1 hC2
                    simp only [Bool.and_eq_true, decide_eq_true_eq] at w6
                    refine sz_set W ?_ ho
                    simp only [asz, hC2, g1]
                    cases hC1
                    exact w6.1.2
                  · cases w6
                rw [hz0] at hs
                omega⟩)
              dsimp only [Pt.U, Pt.locs, Pt.cells, Pt.slots] at X' l1 y1 z1 st hQ
              subst l1 y1 z1
              obtain ⟨rfl, hFr, hK⟩ := hQ
              split at w6
              · rename_i C1 C2 hC1 hC2
                simp only [Bool.and_eq_true, decide_eq_true_eq] at w6
                cases hC1
                obtain ⟨i1, i2, i3, i4, i5⟩ := H
                refine ⟨T', _, _, _, X', ⟨⟨?_, fun i o hi => ?_, fun x c hx hc => hK.2.1 x c (i1.2.2 x c hx hc) (fun z => by have e : x = b + a := List.mem_singleton.mp z; exact absurd hx (Nat.not_lt.mpr (by rw [e]; exact Nat.le_add_right b a)))⟩, i2.app hFr, i3, by simpa using i4, ?_⟩, fun t kk => st.trans kk⟩
                · have e1 := X'.heapSize
                  have e2 := hK.1
                  have e3 := i1.1
                  simp only [List.length_set]
                  try simp only [Nat.add_zero] at e1
                  omega
                · by_cases ei : a = i
                  · subst ei
                    rw [List.getElem?_set_self (lt_of_get ho)] at hi
                    cases hi
                    refine ⟨C2, hC2, by rw [w6.1.1]; exact g5.keep hK, by rw [w6.2]; rfl, fun j f u hf => by rw [w6.2] at hf; simp at hf⟩
                  · rw [List.getElem?_set_ne ei] at hi
                    exact (i1.2.1 i o hi).keep hK (fun z => ei (Nat.add_left_cancel (List.mem_singleton.mp z)).symm)
                · rw [sz_set W (o' := .inl (k + 1, [])) ?_ ho]
                  · exact i5
                  · simp only [asz, hC2, g1]
                    exact w6.1.2
              · cases w6
            · cases h
          · cases h
        · cases h
      · cases h
    · cases h
  case invokevirtual idx =>
    dsimp only at h
    unfold w_invokevirtual at h
    split at h
    · rename_i q a r hl
      split at h
      · rename_i vs hq5 ho
        split at h
        · rename_i hroom
          cases h
          have hq := List.all_eq_true.mp hM5 _ (lk_mem hl)
          unfold okM at hq
          dsimp only at hq
          rw [hq5] at hq
          simp only [Bool.and_eq_true, decide_eq_true_eq] at hq
          obtain ⟨⟨⟨⟨⟨w1, w2⟩, w3⟩, w4⟩, w5⟩, w6⟩ := hq
          obtain ⟨cl, g1, g2, g3, g4⟩ := hR.2.1 a _ ho
          have hz : asz W (.inr (FieldType.int, vs)) = vs.length := rfl
          have hcl : cl.slots.size = vs.length := by rw [g2]; simp
          rw [sz_app, hz] at hs
          have h4 := H.2.2.2.1
          have h5 := H.2.2.2.2
          have hfit : FitC Z cl := fun j u hu => by
            obtain ⟨hst, kc, hkc, comp, hkind⟩ := g1.2.1
            have hu' : u ∈ vs.map (up b) := by
              rw [g2] at hu
              exact List.mem_of_getElem? (by simpa using hu)
            obtain ⟨u0, hu0, rfl⟩ := List.mem_map.mp hu'
            simp [State.fitsSlot, State.slotType?, hkc, hkind, g4 u0 hu0]
          obtain ⟨T', h', X', e', E', A', EX', st⟩ := cloneA X hx hZ hown (hw _ w1) (hw _ w2) (hw _ w3) (hw _ w4) (hw _ w5) (hw _ w6) rfl g1 g3 hfit (g := fm b m pc L (.ref a :: r)) rfl (by simpa using hsize) rfl hd (by omega) (W := sumC r) (cap := vs.length) (by show 2 * 0 + _ ≤ _; rw [sumC_up]; omega) (by omega) (by omega) (by simp at hc; omega) (by omega)
          refine ⟨T', _, _, _, X', inv_push H X' e' E' A'.lt hz ⟨_, A', g2, EX', g4⟩, fun t kk => st t ?_⟩
          have e0 : T.heap.size = b + ah.length := hR.1
          rw [e0]
          exact kk
        · cases h
      · cases h
    · cases h
  all_goals (exact nomatch h)
end Write

/-! leaving, calling, running -/
def r_return (M : Mth) (S : List Value) : Option (Option Value) := match S, mRet M with | [], none => some none | _, _ => none
def r_ireturn (M : Mth) (S : List Value) : Option (Option Value) := match S, mRet M with | .int z :: _, some .int => some (some (.int z)) | .int z :: _, some .boolean => some (some (.int (z &&& 1))) | .int z :: _, some .byte => some (some (.int z.toInt8.toInt32)) | _, _ => none
def r_lreturn (M : Mth) (S : List Value) : Option (Option Value) := match S, mRet M with | .long z :: _, some .long => some (some (.long z)) | _, _ => none
def r_areturn (M : Mth) (S : List Value) : Option (Option Value) := match S, mRet M with | v :: _, some t => (match t.isReference, v.isRef with | true, true => some (some v) | _, _ => none) | _, _ => none
def rsel (i : Instr) : Option (Mth → List Value → Option (Option Value)) :=
  match i with
  | .return_ => some r_return
  | .ireturn => some r_ireturn
  | .lreturn => some r_lreturn
  | .areturn => some r_areturn
  | _ => none
def rstep (M : Mth) (i : Instr) (S : List Value) : Option (Option Value) :=
  match rsel i with
  | some f => f M S
  | none => none
def call0 (N : Mth) (F B : Nat) (S : List Value) : Option (List Value × List Value × Nat) :=
  if mArgs N ≤ S.length ∧ 1 ≤ F ∧ sumC (S.drop (mArgs N)) + (mMax N + 11) ≤ B ∧ (Jvm.Sym.laidSlots (S.take (mArgs N)).reverse).length ≤ mMax N then some ((S.take (mArgs N)).reverse, S.drop (mArgs N), B - (sumC (S.drop (mArgs N)) + (mMax N + 11))) else none
def c_invokestatic (W : Wld) (M : Mth) (F B : Nat) (_ah : AH) (idx : Nat) (S : List Value) : Option (Mth × List Value × List Value × Nat) :=
    (match lk (mMl M) idx with
    | none => none
    | some q =>
      (match q.1, W.1[q.2.1]? with
      | 0, some N => (match call0 N F B S with | some (as, rest, B') => some (N, as, rest, B') | none => none)
      | _, _ => none))
def c_invokespecial (W : Wld) (M : Mth) (F B : Nat) (_ah : AH) (idx : Nat) (S : List Value) : Option (Mth × List Value × List Value × Nat) :=
    (match lk (mMl M) idx with
    | none => none
    | some q =>
      (match q.1, W.1[q.2.1]? with
      | 1, some N => (match call0 N F B S with | some (.ref a :: as, rest, B') => some (N, .ref a :: as, rest, B') | _ => none)
      | _, _ => none))
def c_invokevirtual (W : Wld) (M : Mth) (F B : Nat) (ah : AH) (idx : Nat) (S : List Value) : Option (Mth × List Value × List Value × Nat) :=
    (match lk (mMl M) idx with
    | none => none
    | some q =>
      (match q.1, W.1[q.2.1]? with
      | 2, some N =>
        (match call0 N F B S with
        | some (.ref a :: as, rest, B') => (match ah[a]? with | some (.inl (k, _)) => (match Nat.beq k q.2.2.1 with | true => some (N, .ref a :: as, rest, B') | false => none) | _ => none)
        | _ => none)
      | 4, some N =>
        (match call0 N F B S with
        | some (.ref a :: as, rest, B') => (match ah[a]? with | some (.inl (_, _)) => some (N, .ref a :: as, rest, B') | _ => none)
        | _ => none)
      | _, _ => none))
def csel (i : Instr) : Option (Wld → Mth → Nat → Nat → AH → List Value → Option (Mth × List Value × List Value × Nat)) :=
  match i with
  | .invokestatic idx => some fun W M F B ah => c_invokestatic W M F B ah idx
  | .invokespecial idx => some fun W M F B ah => c_invokespecial W M F B ah idx
  | .invokevirtual idx => some fun W M F B ah => c_invokevirtual W M F B ah idx
  | _ => none
def cstep (W : Wld) (M : Mth) (F B : Nat) (ah : AH) (i : Instr) (S : List Value) : Option (Mth × List Value × List Value × Nat) :=
  match csel i with
  | some f => f W M F B ah S
  | none => none
def ent (as : List Value) (n : Nat) : List Slot := Jvm.Sym.laidSlots as ++ List.replicate (n - (Jvm.Sym.laidSlots as).length) .unset
def run (W : Wld) : Nat → Nat → Nat → Mth → Nat → List Slot → List Value → AH → Option (Option Value × AH)
  | 0, _, _, _, _, _, _, _ => none
  | n + 1, F, B, M, pc, L, S, ah =>
    match fetch M pc with
    | none => none
    | some (i, nx, tg) =>
      match pstep M ah i nx tg L S with
      | some (pc', L', S') => run W n F B M pc' L' S' ah
      | none =>
        match wstep W M F B ah i nx S with
        | some (pc', S', ah') => run W n F B M pc' L S' ah'
        | none =>
          match rstep M i S with
          | some v => some (v, ah)
          | none =>
            match cstep W M F B ah i S with
            | some (N, as, rest, B') =>
              (match run W n (F - 1) B' N 0 (ent as (mMax N)) [] ah with
              | some (v, ah') => run W n F B M nx L (v.toList ++ rest) ah'
              | none => none)
            | none => none
theorem wstep_mono {W : Wld} {tab : List Jvm.Cond} {M : Mth} (hMl : (mMl M).all (okM W tab M) = true) {F B : Nat} {ah ah' : AH} {i : Instr} {nx pc' : Nat} {S S' : List Value} (h : wstep W M F B ah i nx S = some (pc', S', ah')) : ah.length ≤ ah'.length ∧ sz W ah ≤ sz W ah' := by
  unfold wstep wsel at h
  cases i
  case putfield idx =>
    dsimp only at h
    unfold w_putfield at h
    split at h
    · split at h
      · rename_i ho
        split at h
        · split at h
          · cases h; exact ⟨by simp, Nat.le_of_eq (Eq.symm (sz_set W (by rfl) ho))⟩
          · cases h
        · cases h
      · cases h
    · cases h
  case iastore =>
    dsimp only at h
    unfold w_iastore at h
    split at h
    · split at h
      · rename_i ho
        split at h
        · cases h
        · split at h
          · cases h; exact ⟨by simp, Nat.le_of_eq (Eq.symm (sz_set W (by simp [asz]) ho))⟩
          · cases h
      · cases h
    · cases h
  case lastore =>
    dsimp only at h
    unfold w_lastore at h
    split at h
    · split at h
      · rename_i ho
        split at h
        · cases h
        · split at h
          · cases h; exact ⟨by simp, Nat.le_of_eq (Eq.symm (sz_set W (by simp [asz]) ho))⟩
          · cases h
      · cases h
    · cases h
  case bastore =>
    dsimp only at h
    unfold w_bastore at h
    split at h
    · split at h
      · rename_i ho
        split at h
        · cases h
        · split at h
          · cases h; exact ⟨by simp, Nat.le_of_eq (Eq.symm (sz_set W (by simp [asz]) ho))⟩
          · cases h
      · rename_i ho
        split at h
        · cases h
        · split at h
          · cases h; exact ⟨by simp, Nat.le_of_eq (Eq.symm (sz_set W (by simp [asz]) ho))⟩
          · cases h
      · cases h
    · cases h
  case invokevirtual idx =>
    dsimp only at h
    unfold w_invokevirtual at h
    split at h
    · split at h
      · split at h
        · cases h; exact ⟨by simp, by rw [sz_app]; omega⟩
        · cases h
      · cases h
    · cases h
  case new idx =>
    dsimp only at h
    unfold w_new at h
    split at h
    · cases h
    · split at h
      · cases h; exact ⟨by simp, by rw [sz_app]; omega⟩
      · cases h
    · cases h
  case newarray t =>
    dsimp only at h
    unfold w_newarray at h
    split at h
    · split at h
      · cases h
      · split at h
        · cases h; exact ⟨by simp, by rw [sz_app]; omega⟩
        · cases h
    · cases h
  case invokespecial idx =>
    dsimp only at h
    unfold w_invokespecial at h
    split at h
    · rename_i q a r hl
      split at h
      · split at h
        · cases h; exact ⟨Nat.le_refl _, Nat.le_refl _⟩
        · cases h
      · rename_i hq6
        split at h
        · rename_i k vs ho
          split at h
          · rename_i hkk
            split at h
            · cases h
              have ek : k = q.2.2.1 := Nat.eq_of_beq_eq_true hkk
              have hq := List.all_eq_true.mp hMl _ (lk_mem hl)
              unfold okM at hq
              dsimp only at hq
              rw [hq6] at hq
              simp only [Bool.and_eq_true] at hq
              have w6 := hq.2
              rw [← ek] at w6
              split at w6
              · rename_i C1 C2 hC1 hC2
                simp only [Bool.and_eq_true, decide_eq_true_eq] at w6
                refine ⟨by simp, Nat.le_of_eq (Eq.symm (sz_set W ?_ ho))⟩
                simp only [asz, hC1, hC2]
                exact w6.1.2
              · cases w6
            · cases h
          · cases h
        · cases h
      · cases h
    · cases h
  all_goals (exact nomatch h)
theorem call0_spec {N : Mth} {F B B' : Nat} {S as rest : List Value} (h : call0 N F B S = some (as, rest, B')) : as.length = mArgs N ∧ S = as.reverse ++ rest ∧ 1 ≤ F ∧ B' + (sumC rest + (mMax N + 11)) = B ∧ (Jvm.Sym.laidSlots as).length ≤ mMax N := by
  unfold call0 at h
  split at h
  · rename_i hq
    cases h
    refine ⟨by simp; omega, by simp, hq.2.1, by omega, hq.2.2.2⟩
  · cases h
theorem cstep_in {W : Wld} {M : Mth} {ah : AH} {F B : Nat} {i : Instr} {S : List Value} {q : Mth × List Value × List Value × Nat} (h : cstep W M F B ah i S = some q) : q.1 ∈ W.1 ∧ (Jvm.Sym.laidSlots q.2.1).length ≤ mMax q.1 := by
  unfold cstep csel at h
  cases i
  case invokestatic idx =>
    dsimp only at h
    unfold c_invokestatic at h
    split at h
    · cases h
    · split at h
      · rename_i hN
        split at h
        · rename_i hc0
          cases h
          exact ⟨List.mem_of_getElem? hN, (call0_spec hc0).2.2.2.2⟩
        · cases h
      · cases h
  case invokespecial idx =>
    dsimp only at h
    unfold c_invokespecial at h
    split at h
    · cases h
    · split at h
      · rename_i hN
        split at h
        · rename_i hc0
          cases h
          exact ⟨List.mem_of_getElem? hN, (call0_spec hc0).2.2.2.2⟩
        · cases h
      · cases h
  case invokevirtual idx =>
    dsimp only at h
    unfold c_invokevirtual at h
    split at h
    · cases h
    · split at h
      · rename_i hN
        split at h
        · rename_i hc0
          split at h
          · split at h
            · cases h
              exact ⟨List.mem_of_getElem? hN, (call0_spec hc0).2.2.2.2⟩
            · cases h
          · cases h
        · cases h
      · rename_i hN
        split at h
        · rename_i hc0
          split at h
          · cases h
            exact ⟨List.mem_of_getElem? hN, (call0_spec hc0).2.2.2.2⟩
          · cases h
        · cases h
      · cases h
  all_goals (exact nomatch h)
theorem run_mono {W : Wld} {tab : List Jvm.Cond} (hMs : ∀ M ∈ W.1, (mMl M).all (okM W tab M) = true) : ∀ (n F B : Nat) (M : Mth) (pc : Nat) (L : List Slot) (S : List Value) (ah : AH) (v : Option Value) (ah' : AH), M ∈ W.1 → run W n F B M pc L S ah = some (v, ah') → ah.length ≤ ah'.length ∧ sz W ah ≤ sz W ah'
  | 0, _, _, _, _, _, _, _, _, _, _, h => by unfold run at h; cases h
  | n + 1, F, B, M, pc, L, S, ah, v, ah', hin, h => by
    unfold run at h
    split at h
    · cases h
    · split at h
      · exact run_mono hMs n _ _ _ _ _ _ _ _ _ hin h
      · split at h
        · rename_i hq
          have h1 := wstep_mono (hMs M hin) hq
          have h2 := run_mono hMs n _ _ _ _ _ _ _ _ _ hin h
          exact ⟨Nat.le_trans h1.1 h2.1, Nat.le_trans h1.2 h2.2⟩
        · split at h
          · cases h; exact ⟨Nat.le_refl _, Nat.le_refl _⟩
          · split at h
            · rename_i hc
              split at h
              · rename_i hr
                have h1 := run_mono hMs n _ _ _ _ _ _ _ _ _ (cstep_in hc).1 hr
                have h2 := run_mono hMs n _ _ _ _ _ _ _ _ _ hin h
                exact ⟨Nat.le_trans h1.1 h2.1, Nat.le_trans h1.2 h2.2⟩
              · cases h
            · cases h
section Run
variable {p : Program} {l : Launch} {e : Env} {R : Room} {s : State} {m : MethodId} {args : Array Value} {below : List Frame} {meth : Method} {c : Code} {T : State} {locs : List Loc} {cells slots : Nat} {Z : State} {a0 : Array Value} {W : Wld} {M : Mth} {b c0 q0 : Nat} {ah : AH}
theorem narrow_ref {t : FieldType} {w : Value} (h : w.isRef = true) : narrow t w = w := by
  cases w <;> first | (simp [Value.isRef] at h; done) | (cases t <;> rfl)
theorem rstep_sound {i : Instr} {pc : Nat} {L : List Slot} {S : List Value} {v : Option Value} (X : Stand p l e R s m args below meth c T locs cells slots) (hx : p.tables.exec = Jvm.exec) (hret : meth.sig.returnType = mRet M) (hlocks : meth.locks = false)
    (hd : decode c.code pc = .ok (i, ilen i)) (h : rstep M i S = some v) :
    ∃ fs, Steps p.tables e below (T.setTop (fm b m pc L S)) (T.setFrames fs) ∧ (T.setFrames fs).status = .running ∧ Ended (T.setFrames fs) below (.returned (v.map (up b))) ∧ s.WarmedH (T.setFrames fs).vm ∧ s.sameButNew ({ T.setFrames fs with vm := s.vm } : State) locs cells slots := by
  unfold rstep rsel at h
  cases i
  case return_ =>
    dsimp only at h
    unfold r_return at h
    split at h
    · rename_i hr0
      cases h
      obtain ⟨fs, hr, h1, h2, h3, h4⟩ := X.leave (v := none) (fun _ => rfl) hlocks
      exact ⟨fs, X.returnOut hx (hret.trans hr0) hd hr, h1, h2, h3, h4⟩
    · cases h
  case ireturn =>
    dsimp only at h
    unfold r_ireturn at h
    split at h
    · rename_i z r hr0
      cases h
      obtain ⟨fs, hr, h1, h2, h3, h4⟩ := X.leave (v := some (.int z)) (fun q => by rw [hret, hr0] at q; cases q) hlocks
      exact ⟨fs, retOut X hx (hret.trans hr0) rfl (Or.inl ⟨rfl, Or.inl rfl, z, rfl⟩) hd hr, h1, h2, h3, h4⟩
    · rename_i z r hr0
      cases h
      obtain ⟨fs, hr, h1, h2, h3, h4⟩ := X.leave (v := some (.int (nar .boolean z))) (fun q => by rw [hret, hr0] at q; cases q) hlocks
      exact ⟨fs, retN X hx (hret.trans hr0) (Or.inl rfl) hd hr, h1, h2, h3, h4⟩
    · rename_i z r hr0
      cases h
      obtain ⟨fs, hr, h1, h2, h3, h4⟩ := X.leave (v := some (.int (nar .byte z))) (fun q => by rw [hret, hr0] at q; cases q) hlocks
      exact ⟨fs, retN X hx (hret.trans hr0) (Or.inr (Or.inl rfl)) hd hr, h1, h2, h3, h4⟩
    · cases h
  case lreturn =>
    dsimp only at h
    unfold r_lreturn at h
    split at h
    · rename_i z r hr0
      cases h
      obtain ⟨fs, hr, h1, h2, h3, h4⟩ := X.leave (v := some (.long z)) (fun q => by rw [hret, hr0] at q; cases q) hlocks
      exact ⟨fs, retOut X hx (hret.trans hr0) rfl (Or.inr (Or.inl ⟨rfl, rfl, z, rfl⟩)) hd hr, h1, h2, h3, h4⟩
    · cases h
  case areturn =>
    dsimp only at h
    unfold r_areturn at h
    split at h
    · rename_i w r t hr0
      split at h
      · rename_i ht hw
        cases h
        have hw' : (up b w).isRef = true := by rw [up_isRef]; exact hw
        obtain ⟨fs, hr, h1, h2, h3, h4⟩ := X.leave (v := some (up b w)) (fun q => by rw [hret, hr0] at q; cases q) hlocks
        exact ⟨fs, retOut X hx (hret.trans hr0) (narrow_ref hw') (Or.inr (Or.inr (Or.inr (Or.inr ⟨rfl, ht, hw'⟩)))) hd hr, h1, h2, h3, h4⟩
      · cases h
    · cases h
  all_goals (exact nomatch h)
theorem cstep_sound {tab : List Jvm.Cond} {F B B' dc ds : Nat} {i : Instr} {pc nx : Nat} {L : List Slot} {S as rest : List Value} {N : Mth} {Q : Option Value → Heap → List Loc → Prop} (X : Stand p l e R s m args below meth c T locs cells slots) (hx : p.tables.exec = Jvm.exec) (hZ : Z.Warmed39 s.vm) (hown : s.vm.findClass (mNm M).cls = some m.cls)
    (hsize : L.length = c.maxLocals) (hw : ∀ d ∈ tab, d.before a0 Z = true) (hM : okMth W tab M = true)
    (hR : Rel W Z b T.heap ah) (hF : F ≤ R.frames) (hB : B ≤ R.locals) (hc : cells + dc ≤ R.cells) (hs : slots + ds ≤ R.slots) (hd : decode c.code pc = .ok (i, ilen i)) (hnx : nx = pc + ilen i) (h : cstep W M F B ah i S = some (N, as, rest, B'))
    (hmet : MetFree l (mNm N) (head1 [Jvm.Cond.code (mNm N) (mCode N) (mMax N) (mRet N)] ({ frames := F - 1, cells := dc, slots := ds, locals := B' } : Room)) (fun a U => a = (as.map (up b)).toArray ∧ Z.Warmed39 U.vm ∧ U.heap = T.heap) (fun _ _ _ _ _ => True) (fun _ U o U' => ∃ v L, o = .returned v ∧ Q v U'.heap L ∧ FrameEnd U o U' L ({ frames := F - 1, cells := dc, slots := ds, locals := B' } : Room).cells ({ frames := F - 1, cells := dc, slots := ds, locals := B' } : Room).slots)) :
    ∃ v T' Lc, Stand p l e R s m args below meth c T' (locs ++ Lc) (cells + dc) (slots + ds) ∧ Q v T'.heap Lc ∧ ∀ target, Steps p.tables e below (T'.setTop (mkF m nx (L.map (upS b)).toArray (v.toList ++ rest.map (up b)))) target → Steps p.tables e below (T.setTop (fm b m pc L S)) target := by
  simp only [okMth, Bool.and_eq_true] at hM
  obtain ⟨⟨⟨⟨⟨hM1, hM2⟩, hM3⟩, hM4⟩, hM5⟩, hM6⟩ := hM
  have hsz : (fm b m pc L S).locals.size = c.maxLocals := by simpa using hsize
  subst hnx
  unfold cstep csel at h
  cases i
  case invokestatic idx =>
    dsimp only at h
    unfold c_invokestatic at h
    split at h
    · cases h
    · rename_i q hl
      split at h
      · rename_i N' hk hN
        split at h
        · rename_i as' rest' B'' hc0
          cases h
          obtain ⟨k1, k2, k3, k4, -⟩ := call0_spec hc0
          have hq := List.all_eq_true.mp hM5 _ (lk_mem hl)
          unfold okM at hq
          dsimp only at hq
          rw [hk, hN] at hq
          simp only [okCode, okHandle, Bool.and_eq_true, decide_eq_true_eq] at hq
          obtain ⟨⟨⟨⟨⟨w1, w2⟩, w3⟩, w4⟩, w5⟩, w6⟩ := hq
          obtain ⟨v, vm1, ⟨T', L', k', n'⟩, -, X', ⟨Lc, hQ, l1, y1, z1⟩, st⟩ := Jvm.LawKit.callS X hx (y := mNm N) hown (mvT hZ (hw _ w5)) (mvT hZ (hw _ w6)) (mvT hZ (hw _ w2)) (mvT hZ (hw _ w1)) w3 (backOf (W := sumC rest) hmet hZ (hw _ w1) (hw _ w2) (by show F - 1 + 1 ≤ _; omega) (by show sumC rest + (mMax N + 11) + B' ≤ _; omega)) (g := fm b m pc L S) rfl hsz (argsL := as.map (up b)) (rest := rest.map (up b)) (okArgs_len w4 (by simpa using k1)) (by show S.map (up b) = _; rw [k2]; simp) (by show 2 * 0 + _ ≤ _; rw [sumC_up]; omega) hd (fun _ _ => ⟨rfl, rfl, hc, hs⟩)
          dsimp only [Pt.U, Pt.locs, Pt.cells, Pt.slots] at X' l1 y1 z1 st hQ
          subst l1 y1 z1
          exact ⟨v, T', Lc, X', hQ, st⟩
        · cases h
      · cases h
  case invokespecial idx =>
    dsimp only at h
    unfold c_invokespecial at h
    split at h
    · cases h
    · rename_i q hl
      split at h
      · rename_i N' hk hN
        split at h
        · rename_i a as' rest' B'' hc0
          cases h
          obtain ⟨k1, k2, k3, k4, -⟩ := call0_spec hc0
          have hq := List.all_eq_true.mp hM5 _ (lk_mem hl)
          unfold okM at hq
          dsimp only at hq
          rw [hk, hN] at hq
          simp only [okCode, okHandle, Bool.and_eq_true, decide_eq_true_eq] at hq
          obtain ⟨⟨⟨⟨⟨⟨⟨w1, w2⟩, w3⟩, w4⟩, w5⟩, w6⟩, w7⟩, w8⟩ := hq
          rw [← k1] at w4
          obtain ⟨v, vm1, ⟨T', L', k', n'⟩, -, X', ⟨Lc, hQ, l1, y1, z1⟩, st⟩ := X.specialBack hx (y := mNm N) w7 hown (mvT hZ (hw _ w5)) (mvT hZ (hw _ w6)) (mvT hZ (show (Jvm.Cond.code (mNm N) (mCode N) (mMax N) none).before a0 Z = true from w8 ▸ hw _ w1)) w3 (backOf (W := sumC rest) hmet hZ (hw _ w1) (hw _ w2) (by show F - 1 + 1 ≤ _; omega) (by show sumC rest + (mMax N + 11) + B' ≤ _; omega)) (g := fm b m pc L S) rfl hsz (Steps.refl _) (a := b + a) (argsL := as'.map (up b)) (rest := rest.map (up b)) (okArgs_len w4 (by simp)) (by show S.map (up b) = _; rw [k2]; simp [up]) (by show 2 * 0 + _ ≤ _; rw [sumC_up]; omega) hd (fun _ _ => ⟨rfl, rfl, hc, hs⟩)
          dsimp only [Pt.U, Pt.locs, Pt.cells, Pt.slots] at X' l1 y1 z1 st hQ
          subst l1 y1 z1
          exact ⟨v, T', Lc, X', hQ, fun t k => st.trans k⟩
        · cases h
      · cases h
  case invokevirtual idx =>
    dsimp only at h
    unfold c_invokevirtual at h
    split at h
    · cases h
    · rename_i q hl
      split at h
      · rename_i N' hk hN
        split at h
        · rename_i a as' rest' B'' hc0
          split at h
          · rename_i k vs ho
            split at h
            · rename_i hkk
              cases h
              obtain ⟨k1, k2, k3, k4, -⟩ := call0_spec hc0
              obtain ⟨C, g1, g5, g6, g7⟩ := hR.2.1 a _ ho
              have ek : k = q.2.2.1 := Nat.eq_of_beq_eq_true hkk
              have hq := List.all_eq_true.mp hM5 _ (lk_mem hl)
              unfold okM at hq
              dsimp only at hq
              rw [hk, hN, ← ek, g1] at hq
              simp only [okCode, okHandle, Bool.and_eq_true, decide_eq_true_eq] at hq
              obtain ⟨⟨⟨⟨⟨⟨⟨w1, w2⟩, w3⟩, w4⟩, w5⟩, w6⟩, w7⟩, w8⟩ := hq
              rw [← k1] at w4
              obtain ⟨cq, kq, qa, qb, qc⟩ := isOf hZ rfl g5
              obtain ⟨v, vm1, ⟨T', L', k', n'⟩, -, X', ⟨Lc, hQ, l1, y1, z1⟩, st⟩ := X.virtualBack hx (y := mNm N) (z := mNm N) hown (mvT hZ (hw _ w5)) (mvT hZ (hw _ w6)) (notFace_of_selects (args := #[]) (mvT hZ (hw _ w8))) (mvT hZ (hw _ w8)) (mvT hZ (hw _ w7)) w3 (backOf (W := sumC rest) hmet hZ (hw _ w1) (hw _ w2) (by show F - 1 + 1 ≤ _; omega) (by show sumC rest + (mMax N + 11) + B' ≤ _; omega)) qa qc (g := fm b m pc L S) rfl hsz (Steps.refl _) (argsL := as'.map (up b)) (rest := rest.map (up b)) (okArgs_len w4 (by simp)) (by show S.map (up b) = _; rw [k2]; simp [up]) (by show 2 * 0 + _ ≤ _; rw [sumC_up]; omega) hd (fun _ _ => ⟨rfl, rfl, hc, hs⟩)
              dsimp only [Pt.U, Pt.locs, Pt.cells, Pt.slots] at X' l1 y1 z1 st hQ
              subst l1 y1 z1
              exact ⟨v, T', Lc, X', hQ, fun t k => st.trans k⟩
            · cases h
          · cases h
        · cases h
      · rename_i N' hk hN
        split at h
        · rename_i a as' rest' B'' hc0
          split at h
          · rename_i k vs ho
            cases h
            obtain ⟨k1, k2, k3, k4, -⟩ := call0_spec hc0
            obtain ⟨C, g1, g5, g6, g7⟩ := hR.2.1 a _ ho
            have hq := List.all_eq_true.mp hM5 _ (lk_mem hl)
            unfold okM at hq
            dsimp only at hq
            rw [hk, hN] at hq
            simp only [okCode, okHandle, Bool.and_eq_true, decide_eq_true_eq] at hq
            obtain ⟨⟨⟨⟨⟨⟨⟨w1, w2⟩, w3⟩, w4⟩, w5⟩, w6⟩, w7⟩, w8⟩ := hq
            rw [← k1] at w4
            obtain ⟨cq, qa, qb⟩ := g5.cell
            obtain ⟨v, vm1, ⟨T', L', k', n'⟩, -, X', ⟨Lc, hQ, l1, y1, z1⟩, st⟩ := X.privateBack hx (y := mNm N) hown (mvT hZ (hw _ w5)) (mvT hZ (hw _ w6)) (mvT hZ (hw _ w8)) (Cond.privateMethod_at (mvP hZ (hw _ w7) (args := #[]))) (mvT hZ (hw _ w1)) w3 (backOf (W := sumC rest) hmet hZ (hw _ w1) (hw _ w2) (by show F - 1 + 1 ≤ _; omega) (by show sumC rest + (mMax N + 11) + B' ≤ _; omega)) (g := fm b m pc L S) rfl hsz (Steps.refl _) (a := b + a) qa qb (argsL := as'.map (up b)) (rest := rest.map (up b)) (okArgs_len w4 (by simp)) (by show S.map (up b) = _; rw [k2]; simp [up]) (by show 2 * 0 + _ ≤ _; rw [sumC_up]; omega) hd (fun _ _ => ⟨rfl, rfl, hc, hs⟩)
            dsimp only [Pt.U, Pt.locs, Pt.cells, Pt.slots] at X' l1 y1 z1 st hQ
            subst l1 y1 z1
            exact ⟨v, T', Lc, X', hQ, fun t k => st.trans k⟩
          · cases h
        · cases h
      · cases h
  all_goals (exact nomatch h)
theorem laid_up (b : Nat) : ∀ as : List Value, Jvm.Sym.laidSlots (as.map (up b)) = (Jvm.Sym.laidSlots as).map (upS b)
  | [] => rfl
  | v :: vs => by
    simp only [List.map_cons, Jvm.Sym.laidSlots, up_cat]
    split
    · simp only [List.map_cons, laid_up b vs, upS]
    · simp only [List.map_cons, laid_up b vs, upS]
theorem ent_up (b : Nat) (as : List Value) (n : Nat) : Jvm.Sym.laidSlots (as.map (up b)).toArray.toList ++ List.replicate (n - (Jvm.Sym.laidSlots (as.map (up b)).toArray.toList).length) .unset = ((ent as n).map (upS b)).toArray.toList := by
  simp only [laid_up, List.toList_toArray, List.length_map, ent, List.map_append, List.map_replicate, upS]
/-- the whole world is right -/
def wok (W : Wld) (tab : List Jvm.Cond) : Bool := W.1.all (okMth W tab) && W.2.all (okC tab)
/-- what a run of a body says of the machine -/
def Sound (W : Wld) (tab : List Jvm.Cond) (l : Launch) (Z : State) (b n : Nat) : Prop :=
  ∀ (F B : Nat) (M : Mth) (pc : Nat) (L : List Slot) (S : List Value) (ah : AH) (v : Option Value) (ah' : AH), M ∈ W.1 → run W n F B M pc L S ah = some (v, ah') →
  ∀ (p : Program) (e : Env) (R : Room) (s : State) (m : MethodId) (args : Array Value) (below : List Frame) (meth : Method) (c : Code) (T : State) (locs : List Loc) (cells slots c0 q0 : Nat),
    Stand p l e R s m args below meth c T locs cells slots → p.tables.exec = Jvm.exec → Z.Warmed39 s.vm → s.vm.findClass (mNm M).cls = some m.cls → meth.name = (mNm M).name → meth.sig.returnType = mRet M → meth.locks = false → c.code = mCode M → L.length = c.maxLocals →
    Inv W Z b c0 q0 s T locs cells slots ah → F ≤ R.frames → B ≤ R.locals → ah'.length ≤ c0 + R.cells → sz W ah' ≤ q0 + R.slots →
    ∃ s₂, Steps p.tables e below (T.setTop (fm b m pc L S)) s₂ ∧ s₂.status = .running ∧ Ended s₂ below (.returned (v.map (up b))) ∧ Rel W Z b s₂.heap ah' ∧ s.WarmedH s₂.vm ∧ ∃ L' cells' slots', Fr b L' ∧ cells' + c0 = ah'.length ∧ slots' + q0 = sz W ah' ∧ s.sameButNew ({ s₂ with vm := s.vm } : State) L' cells' slots'
theorem met {tab : List Jvm.Cond} {n F B dc ds : Nat} {as : List Value} {v : Option Value} {ah' : AH} {h0 : Heap} {ws : List Jvm.Cond} (IH : Sound W tab l Z b n) (hM : M ∈ W.1) (hp : plainFor (mNm M) = true) (h : run W n F B M 0 (ent as (mMax M)) [] ah = some (v, ah')) (hl : (Jvm.Sym.laidSlots as).length ≤ mMax M) (hR : Rel W Z b h0 ah) (hdc : ah'.length ≤ ah.length + dc) (hds : sz W ah' ≤ sz W ah + ds) :
    MetFree l (mNm M) (head1 (Jvm.Cond.code (mNm M) (mCode M) (mMax M) (mRet M) :: ws) ({ frames := F, cells := dc, slots := ds, locals := B } : Room)) (fun a U => a = (as.map (up b)).toArray ∧ Z.Warmed39 U.vm ∧ U.heap = h0) (fun _ _ _ _ _ => True) (fun _ U o U' => ∃ v' L, o = .returned v' ∧ (v' = v.map (up b) ∧ Rel W Z b U'.heap ah' ∧ Fr b L) ∧ FrameEnd U o U' L ({ frames := F, cells := dc, slots := ds, locals := B } : Room).cells ({ frames := F, cells := dc, slots := ds, locals := B } : Room).slots) := by
  refine MetFree.of_bodySF hp hisR ?_
  intro p e s m args below meth c s₁ Bd hml0 hP hK
  obtain ⟨rfl, hZ, hh⟩ := hP
  have hx := Bd.exec
  have hby := Bd.bytes
  have hown : s.vm.findClass (mNm M).cls = some m.cls := findClass_of_methodNamed Bd.named
  have hnm := (name_of_methodNamed Bd.named Bd.method).1
  have X0 : Stand p l e ({ frames := F, cells := dc, slots := ds, locals := B } : Room) s m (as.map (up b)).toArray below meth c s₁ [] 0 0 := Stand.of_body Bd
  have e0 : s₁.heap = h0 := by rw [← hh, Bd.state]; rfl
  have hlk : meth.locks = false := Bd.notSynchronized
  have hLlen : (ent as (mMax M)).length = c.maxLocals := by rw [hml0]; simp [ent]; omega
  have hinv : Inv W Z b ah.length (sz W ah) s s₁ [] 0 0 ah := ⟨by rw [e0]; exact hR, Fr.nil b, by rw [hh]; exact hR.1, by omega, by omega⟩
  obtain ⟨s₂, g1, g2, g3, g4, g5, L', k', n', g6, g7, g8, g9⟩ := IH F B M 0 (ent as (mMax M)) [] ah v ah' hM h p e _ s m _ below meth c s₁ [] 0 0 ah.length (sz W ah) X0 hx hZ hown hnm Bd.returns hlk hby hLlen hinv (Nat.le_refl _) (Nat.le_refl _) hdc hds
  refine ⟨s₂, _, (XT.entry (Ls := ((ent as (mMax M)).map (upS b)).toArray) (ent_up b as (mMax M))).trans g1, g2, g3, _, L', rfl, ⟨rfl, g4, g6⟩, ⟨_, rfl⟩, g5, g9.mono ?_ ?_⟩
  · show k' ≤ dc; omega
  · show n' ≤ ds; omega
theorem sound {tab : List Jvm.Cond} (hw : ∀ d ∈ tab, d.before a0 Z = true) (hW : wok W tab = true) (hP : ∀ M ∈ W.1, plainFor (mNm M) = true) (hX : ∀ M ∈ W.1, ∀ q ∈ mMl M, q.2.1 = 6 → XOK W tab l Z b q.2) : ∀ n, Sound W tab l Z b n := by
  simp only [wok, Bool.and_eq_true] at hW
  obtain ⟨hW1, hW2⟩ := hW
  have hMs := List.all_eq_true.mp hW1
  have hCs := List.all_eq_true.mp hW2
  have hMm : ∀ M ∈ W.1, (mMl M).all (okM W tab M) = true := fun M hin => by
    have q := hMs M hin
    simp only [okMth, Bool.and_eq_true] at q
    exact q.1.2
  intro n
  induction n with
  | zero => intro F B M pc L S ah v ah' hM h; unfold run at h; cases h
  | succ n IH =>
    intro F B M pc L S ah v ah' hin h p e R s m args below meth c T locs cells slots c0 q0 X hx hZ hown hnm hret hlocks hby hL hI hF hB hc hs
    have hM := hMs M hin
    have hM' := hM
    simp only [okMth, Bool.and_eq_true] at hM'
    obtain ⟨⟨⟨⟨⟨hM1, hM2⟩, hM3⟩, hM4⟩, hM5⟩, hM6⟩ := hM'
    unfold run at h
    split at h
    · cases h
    · rename_i i nx tg hi
      obtain ⟨hd0, hN, hnx, htg⟩ := fetch_ok hM1 hi
      have hd : decode c.code pc = .ok (i, ilen i) := by rw [hby]; exact hd0
      split at h
      · rename_i pc' L' S' hq
        obtain ⟨hlen, T', X', eT, st⟩ := pstep_sound X hx hZ hown (fun q hq => hw _ (of_decide_eq_true (List.all_eq_true.mp hM2 q hq))) (fun q hq => hw _ (of_decide_eq_true (List.all_eq_true.mp hM3 q hq)))
          (fun q hq => by
            have z := List.all_eq_true.mp hM4 q hq
            unfold okF at z
            split at z
            · cases z
            · rename_i C hC
              split at z
              · cases z
              · rename_i f hf
                simp only [Bool.and_eq_true] at z
                refine ⟨C, f, hC, hf, ?_, ?_⟩
                · have z2 := z.2
                  split at z2
                  · simp only [Bool.and_eq_true, decide_eq_true_eq] at z2; exact Or.inl (hw _ z2.1)
                  · simp only [Bool.or_eq_true, decide_eq_true_eq] at z2; exact z2.imp (hw _) (hw _)
                · have z3 := z.1.2
                  simp only [Bool.or_eq_true, decide_eq_true_eq] at z3
                  rcases z3 with z3 | z3
                  · rw [z3]; exact Via.refl
                  · exact Via.of (hw _ z3))
          (fun q hq => by
            have z := List.all_eq_true.mp hM6 q hq
            obtain ⟨q1, q2⟩ := q
            cases q2 with
            | zero => exact hw _ (of_decide_eq_true z)
            | succ k =>
              dsimp only at z ⊢
              split at z
              · rename_i C hC; exact ⟨C, hC, hw _ (of_decide_eq_true z)⟩
              · cases z) hI.1 hd hnx htg hq
        obtain ⟨s₂, g1, g⟩ := IH F B M pc' L' S' ah v ah' hin h p e R s m args below meth c T' locs cells slots c0 q0 X' hx hZ hown hnm hret hlocks hby (hlen.trans hL) ⟨by rw [eT]; exact hI.1, hI.2⟩ hF hB hc hs
        exact ⟨s₂, st _ g1, g⟩
      · split at h
        · rename_i pc' S' ah1 hq
          have hmono := run_mono hMm n _ _ _ _ _ _ _ _ _ hin h
          obtain ⟨T', locs', cells', slots', X', hI', st⟩ := wstep_sound (L := L) X hx hZ hown hnm hL hw hCs hM (hX M hin) hN hI hF hB (Nat.le_trans hmono.1 hc) (Nat.le_trans hmono.2 hs) hd hnx hq
          obtain ⟨s₂, g1, g⟩ := IH F B M pc' L S' ah1 v ah' hin h p e R s m args below meth c T' locs' cells' slots' c0 q0 X' hx hZ hown hnm hret hlocks hby hL hI' hF hB hc hs
          exact ⟨s₂, st _ g1, g⟩
        · split at h
          · rename_i v' hv
            cases h
            obtain ⟨fs, g1, g2, g3, g4, g5⟩ := rstep_sound (b := b) (L := L) X hx hret hlocks hd hv
            exact ⟨_, g1, g2, g3, hI.1, g4, locs, cells, slots, hI.2.1, hI.2.2.2.1, hI.2.2.2.2, g5⟩
          · split at h
            · rename_i N as rest B' hq
              split at h
              · rename_i v1 ah1 hr
                have hNin := cstep_in hq
                have m1 := run_mono hMm n _ _ _ _ _ _ _ _ _ hNin.1 hr
                have m2 := run_mono hMm n _ _ _ _ _ _ _ _ _ hin h
                obtain ⟨i1, i2, i3, i4, i5⟩ := hI
                have hmet := met (M := N) (ws := []) (dc := ah1.length - ah.length) (ds := sz W ah1 - sz W ah) IH hNin.1 (hP _ hNin.1) hr hNin.2 i1 (by omega) (by omega)
                obtain ⟨v2, T', Lc, X', hQ, st⟩ := cstep_sound (L := L) (Q := fun v h L => v = v1.map (up b) ∧ Rel W Z b h ah1 ∧ Fr b L) (dc := ah1.length - ah.length) (ds := sz W ah1 - sz W ah) X hx hZ hown hL hw hM i1 hF hB (by omega) (by omega) hd hnx hq hmet
                obtain ⟨rfl, hR', hFr⟩ := hQ
                obtain ⟨s₂, g1, g⟩ := IH F B M nx L (v1.toList ++ rest) ah1 v ah' hin h p e R s m args below meth c T' _ _ _ c0 q0 X' hx hZ hown hnm hret hlocks hby hL ⟨hR', i2.app hFr, i3, by omega, by omega⟩ hF hB hc hs
                refine ⟨s₂, st _ ?_, g⟩
                have es : (v1.map (up b)).toList ++ rest.map (up b) = (v1.toList ++ rest).map (up b) := by cases v1 <;> simp
                rw [es]
                exact g1
              · cases h
            · cases h
theorem noX {tab : List Jvm.Cond} (h : (W.1.all fun M => (mMl M).all fun q => !Nat.beq q.2.1 6) = true) : ∀ M ∈ W.1, ∀ q ∈ mMl M, q.2.1 = 6 → XOK W tab l Z b q.2 := fun M hM q hq h6 => by
  have := List.all_eq_true.mp (List.all_eq_true.mp h M hM) q hq
  rw [h6] at this
  cases this
end Run

/-! running without counting -/
theorem run_more {W : Wld} : ∀ (n F B : Nat) (M : Mth) (pc : Nat) (L : List Slot) (S : List Value) (ah : AH) (r : Option Value × AH), run W n F B M pc L S ah = some r → run W (n + 1) F B M pc L S ah = some r
  | 0, _, _, _, _, _, _, _, _, h => by unfold run at h; cases h
  | n + 1, F, B, M, pc, L, S, ah, r, h => by
    unfold run at h
    unfold run
    split at h
    · cases h
    · rename_i hi
      try simp only [hi]
      split at h
      · rename_i hq
        try simp only [hq]
        exact run_more n _ _ _ _ _ _ _ _ h
      · rename_i hq
        try simp only [hq]
        split at h
        · rename_i hq
          try simp only [hq]
          exact run_more n _ _ _ _ _ _ _ _ h
        · rename_i hq
          try simp only [hq]
          split at h
          · rename_i hq
            try simp only [hq]
            exact h
          · rename_i hq
            try simp only [hq]
            split at h
            · rename_i hq
              try simp only [hq]
              split at h
              · rename_i hr1
                simp only [run_more n _ _ _ _ _ _ _ _ hr1]
                exact run_more n _ _ _ _ _ _ _ _ h
              · cases h
            · cases h
theorem run_le {W : Wld} {F B : Nat} {M : Mth} {pc : Nat} {L : List Slot} {S : List Value} {ah : AH} {r : Option Value × AH} {n : Nat} (h : run W n F B M pc L S ah = some r) : ∀ k, run W (n + k) F B M pc L S ah = some r
  | 0 => h
  | k + 1 => run_more _ _ _ _ _ _ _ _ _ (run_le h k)
/-- the body, from that place on, comes to its end with this answer and this heap -/
def Ev (W : Wld) (F B : Nat) (M : Mth) (pc : Nat) (L : List Slot) (S : List Value) (ah : AH) (r : Option Value × AH) : Prop := ∃ n, run W n F B M pc L S ah = some r
/-- so many steps without a call -/
def gsteps (W : Wld) (M : Mth) (F B : Nat) : Nat → Nat → List Slot → List Value → AH → Option (Nat × List Slot × List Value × AH)
  | 0, pc, L, S, ah => some (pc, L, S, ah)
  | k + 1, pc, L, S, ah =>
    match fetch M pc with
    | none => none
    | some (i, nx, tg) =>
      match pstep M ah i nx tg L S with
      | some (pc', L', S') => gsteps W M F B k pc' L' S' ah
      | none =>
        match wstep W M F B ah i nx S with
        | some (pc', S', ah') => gsteps W M F B k pc' L S' ah'
        | none => none
section Ev
variable {W : Wld} {F B : Nat} {M : Mth} {pc : Nat} {L : List Slot} {S : List Value} {ah : AH} {r : Option Value × AH}
theorem run_g {n : Nat} : ∀ (k : Nat) {pc : Nat} {L : List Slot} {S : List Value} {ah : AH} {pc' : Nat} {L' : List Slot} {S' : List Value} {ah' : AH}, gsteps W M F B k pc L S ah = some (pc', L', S', ah') → run W n F B M pc' L' S' ah' = some r → run W (n + k) F B M pc L S ah = some r
  | 0, _, _, _, _, _, _, _, _, h, hr => by unfold gsteps at h; cases h; exact hr
  | k + 1, _, _, _, _, _, _, _, _, h, hr => by
    unfold gsteps at h
    show run W ((n + k) + 1) F B M _ _ _ _ = some r
    unfold run
    split at h
    · cases h
    · rename_i hi
      try simp only [hi]
      split at h
      · rename_i hq
        try simp only [hq]
        exact run_g k h hr
      · rename_i hq
        try simp only [hq]
        split at h
        · rename_i hq
          try simp only [hq]
          exact run_g k h hr
        · cases h
theorem Ev.go {pc' : Nat} {L' : List Slot} {S' : List Value} {ah' : AH} (k : Nat) (h : gsteps W M F B k pc L S ah = some (pc', L', S', ah')) (hr : Ev W F B M pc' L' S' ah' r) : Ev W F B M pc L S ah r := by
  obtain ⟨n, hn⟩ := hr
  exact ⟨n + k, run_g k h hn⟩
theorem Ev.ret {i : Instr} {nx tg : Nat} {v : Option Value} (h1 : fetch M pc = some (i, nx, tg)) (h2 : pstep M ah i nx tg L S = none) (h3 : wstep W M F B ah i nx S = none) (h4 : rstep M i S = some v) : Ev W F B M pc L S ah (v, ah) := by
  refine ⟨1, ?_⟩
  unfold run
  simp only [h1, h2, h3, h4]
theorem Ev.call {i : Instr} {nx tg : Nat} {N : Mth} {as rest : List Value} {B' : Nat} {v : Option Value} {ah' : AH} (h1 : fetch M pc = some (i, nx, tg)) (h2 : pstep M ah i nx tg L S = none) (h3 : wstep W M F B ah i nx S = none) (h4 : rstep M i S = none) (h5 : cstep W M F B ah i S = some (N, as, rest, B'))
    (hc : Ev W (F - 1) B' N 0 (ent as (mMax N)) [] ah (v, ah')) (hr : Ev W F B M nx L (v.toList ++ rest) ah' r) : Ev W F B M pc L S ah r := by
  obtain ⟨n1, g1⟩ := hc
  obtain ⟨n2, g2⟩ := hr
  refine ⟨(n1 + n2) + 1, ?_⟩
  have g1' := run_le g1 n2
  have g2' := run_le g2 n1
  rw [Nat.add_comm] at g2'
  unfold run
  simp only [h1, h2, h3, h4, h5, g1']
  exact g2'
theorem Ev.cond {cd : ClassFile.Cond} {o : Int} {x : Int32} {nx tg : Nat} (h1 : fetch M pc = some (.ifCond cd o, nx, tg)) (hy : ifCond.holds cd x = true → Ev W F B M tg L S ah r) (hn : ifCond.holds cd x = false → Ev W F B M nx L S ah r) : Ev W F B M pc L (.int x :: S) ah r := by
  cases hc : ifCond.holds cd x with
  | true => exact (hy hc).go 1 (by unfold gsteps; simp only [h1, pstep, psel, p_ifCond, hc]; rfl)
  | false => exact (hn hc).go 1 (by unfold gsteps; simp only [h1, pstep, psel, p_ifCond, hc]; rfl)
theorem Ev.icmp {cd : ClassFile.Cond} {o : Int} {x y : Int32} {nx tg : Nat} (h1 : fetch M pc = some (.if_icmp cd o, nx, tg)) (hy : if_icmp.holds cd x y = true → Ev W F B M tg L S ah r) (hn : if_icmp.holds cd x y = false → Ev W F B M nx L S ah r) : Ev W F B M pc L (.int y :: .int x :: S) ah r := by
  cases hc : if_icmp.holds cd x y with
  | true => exact (hy hc).go 1 (by unfold gsteps; simp only [h1, pstep, psel, p_if_icmp, hc]; rfl)
  | false => exact (hn hc).go 1 (by unfold gsteps; simp only [h1, pstep, psel, p_if_icmp, hc]; rfl)
end Ev
theorem tn0 : (Int32.ofInt 0).toNatClampNeg = 0 := by decide
theorem tn1 : (Int32.ofInt 1).toNatClampNeg = 1 := by decide
theorem tn2 : (Int32.ofInt 2).toNatClampNeg = 2 := by decide
theorem tn3 : (Int32.ofInt 3).toNatClampNeg = 3 := by decide
theorem tn4 : (Int32.ofInt 4).toNatClampNeg = 4 := by decide
theorem tn5 : (Int32.ofInt 5).toNatClampNeg = 5 := by decide
theorem fv0 : ((0 : Fin 4) : Nat) = 0 := rfl
theorem fv1 : ((1 : Fin 4) : Nat) = 1 := rfl
theorem fv2 : ((2 : Fin 4) : Nat) = 2 := rfl
theorem fv3 : ((3 : Fin 4) : Nat) = 3 := rfl
/-! a local that isn't read any more may be forgotten -/
def LeS (a b : Slot) : Prop := a = b ∨ (a = .unset ∧ ∃ v : Value, b = .val v ∧ v.category = 1)
def Le (L L' : List Slot) : Prop := L.length = L'.length ∧ ∀ (i : Nat) (a b : Slot), L[i]? = some a → L'[i]? = some b → LeS a b
theorem Le.refl (L : List Slot) : Le L L := ⟨rfl, fun i a b h1 h2 => Or.inl (Option.some.inj (h1.symm.trans h2))⟩
theorem Le.get {L L' : List Slot} {i : Nat} {v : Value} (h : Le L L') (q : L[i]? = some (.val v)) : L'[i]? = some (.val v) := by
  have hi : i < L'.length := by rw [← h.1]; exact (List.getElem?_eq_some_iff.mp q).1
  have e : L'[i]? = some L'[i] := List.getElem?_eq_getElem hi
  rcases h.2 i _ _ q e with z | ⟨z, -⟩
  · rw [e, ← z]
  · cases z
theorem Le.set {L L' L1 : List Slot} {i : Nat} {x : Slot} (h : Le L L') (q : setL L i x = some L1) : ∃ L1', setL L' i x = some L1' ∧ Le L1 L1' := by
  unfold setL at q
  split at q
  · rename_i hi
    cases q
    refine ⟨L'.set i x, by unfold setL; rw [if_pos (by rw [← h.1]; exact hi)], by simp [h.1], fun j a b h1 h2 => ?_⟩
    by_cases e : i = j
    · subst e
      rw [List.getElem?_set_self hi] at h1
      rw [List.getElem?_set_self (by rw [← h.1]; exact hi)] at h2
      exact Or.inl (Option.some.inj (h1.symm.trans h2))
    · rw [List.getElem?_set_ne e] at h1 h2
      exact h.2 j a b h1 h2
  · cases q
theorem Le.self {L L' L1 : List Slot} {i : Nat} {v : Value} (h : Le L L') (q : stSelf L i v = some L1) : ∃ L1', stSelf L' i v = some L1' ∧ Le L1 L1' := by
  unfold stSelf at q
  split at q
  · cases q
  · rename_i La h1
    obtain ⟨La', h1', l1⟩ := h.set h1
    unfold stSelf
    rw [h1']
    dsimp only
    split at q
    · rename_i hc
      rw [if_pos hc]
      split at q
      · cases q
      · rename_i old ho
        rw [l1.get ho]
        dsimp only
        split at q
        · rename_i hc2
          rw [if_pos hc2]
          split at q
          · cases q
          · rename_i Lb h2
            obtain ⟨Lb', h2', l2⟩ := l1.set h2
            rw [h2']
            exact l2.set q
        · rename_i hc2
          rw [if_neg hc2]
          exact l1.set q
      · rename_i y hy1 hy2
        have hi : i + 1 < La'.length := by rw [← l1.1]; exact (List.getElem?_eq_some_iff.mp hy2).1
        have e : La'[i + 1]? = some La'[i + 1] := List.getElem?_eq_getElem hi
        obtain ⟨L1', g1, g2⟩ := l1.set q
        refine ⟨L1', ?_, g2⟩
        rcases l1.2 _ _ _ hy2 e with z | ⟨z, w, z2, z3⟩
        · rw [e, ← z]
          cases y with
          | unset => exact g1
          | second => exact g1
          | val w => exact absurd rfl (hy1 w)
        · rw [e, z2]
          dsimp only
          rw [if_neg (by omega)]
          exact g1
    · rename_i hc
      cases q
      rw [if_neg hc]
      exact ⟨La', rfl, l1⟩
theorem Le.store {L L' L1 : List Slot} {i : Nat} {v : Value} (h : Le L L') (q : stL L i v = some L1) : ∃ L1', stL L' i v = some L1' ∧ Le L1 L1' := by
  unfold stL at q
  split at q
  · cases q
  · rename_i h0
    have hi : i < L'.length := by rw [← h.1]; exact (List.getElem?_eq_some_iff.mp h0).1
    have e : L'[i]? = some L'[i] := List.getElem?_eq_getElem hi
    unfold stL
    rcases h.2 _ _ _ h0 e with z | ⟨z, -⟩
    · rw [e, ← z]
      dsimp only
      split at q
      · cases q
      · rename_i La h1
        obtain ⟨La', h1', l1⟩ := h.set h1
        rw [h1']
        exact l1.self q
    · cases z
  · rename_i old h0
    unfold stL
    rw [h.get h0]
    dsimp only
    split at q
    · rename_i hc
      rw [if_pos hc]
      split at q
      · cases q
      · rename_i La h1
        obtain ⟨La', h1', l1⟩ := h.set h1
        rw [h1']
        exact l1.self q
    · rename_i hc
      rw [if_neg hc]
      exact h.self q
  · rename_i h0
    have hi : i < L'.length := by rw [← h.1]; exact (List.getElem?_eq_some_iff.mp h0).1
    have e : L'[i]? = some L'[i] := List.getElem?_eq_getElem hi
    obtain ⟨L1', g1, g2⟩ := h.self q
    refine ⟨L1', ?_, g2⟩
    unfold stL
    rcases h.2 _ _ _ h0 e with z | ⟨z, w, z2, z3⟩
    · rw [e, ← z]; exact g1
    · rw [e, z2]
      dsimp only
      rw [if_neg (by omega)]
      exact g1
theorem pstep_le {M : Mth} {ah : AH} {i : Instr} {nx tg pc' : Nat} {L L' L1 : List Slot} {S S' : List Value} (hle : Le L L') (h : pstep M ah i nx tg L S = some (pc', L1, S')) : ∃ L1', pstep M ah i nx tg L' S = some (pc', L1', S') ∧ Le L1 L1' := by
  unfold pstep psel at h ⊢
  cases i
  case iload k =>
    dsimp only at h ⊢
    unfold p_iload at h ⊢
    split at h
    · rename_i hl; cases h; rw [hle.get hl]; exact ⟨L', rfl, hle⟩
    · cases h
  case iload_n k =>
    dsimp only at h ⊢
    unfold p_iload_n at h ⊢
    split at h
    · rename_i hl; cases h; rw [hle.get hl]; exact ⟨L', rfl, hle⟩
    · cases h
  case lload k =>
    dsimp only at h ⊢
    unfold p_lload at h ⊢
    split at h
    · rename_i hl; cases h; rw [hle.get hl]; exact ⟨L', rfl, hle⟩
    · cases h
  case lload_n k =>
    dsimp only at h ⊢
    unfold p_lload_n at h ⊢
    split at h
    · rename_i hl; cases h; rw [hle.get hl]; exact ⟨L', rfl, hle⟩
    · cases h
  case aload k =>
    dsimp only at h ⊢
    unfold p_aload at h ⊢
    split at h
    · rename_i hl
      split at h
      · rename_i hr; cases h; rw [hle.get hl]; (try dsimp only); rw [hr]; exact ⟨L', rfl, hle⟩
      · cases h
    · cases h
  case aload_n k =>
    dsimp only at h ⊢
    unfold p_aload_n at h ⊢
    split at h
    · rename_i hl
      split at h
      · rename_i hr; cases h; rw [hle.get hl]; (try dsimp only); rw [hr]; exact ⟨L', rfl, hle⟩
      · cases h
    · cases h
  case istore k =>
    dsimp only at h ⊢
    unfold p_istore at h ⊢
    split at h
    · split at h
      · rename_i hs; cases h; obtain ⟨L1', g1, g2⟩ := hle.store hs; (try dsimp only); rw [g1]; exact ⟨L1', rfl, g2⟩
      · cases h
    · cases h
  case istore_n k =>
    dsimp only at h ⊢
    unfold p_istore_n at h ⊢
    split at h
    · split at h
      · rename_i hs; cases h; obtain ⟨L1', g1, g2⟩ := hle.store hs; (try dsimp only); rw [g1]; exact ⟨L1', rfl, g2⟩
      · cases h
    · cases h
  case lstore k =>
    dsimp only at h ⊢
    unfold p_lstore at h ⊢
    split at h
    · split at h
      · rename_i hs; cases h; obtain ⟨L1', g1, g2⟩ := hle.store hs; (try dsimp only); rw [g1]; exact ⟨L1', rfl, g2⟩
      · cases h
    · cases h
  case lstore_n k =>
    dsimp only at h ⊢
    unfold p_lstore_n at h ⊢
    split at h
    · split at h
      · rename_i hs; cases h; obtain ⟨L1', g1, g2⟩ := hle.store hs; (try dsimp only); rw [g1]; exact ⟨L1', rfl, g2⟩
      · cases h
    · cases h
  case astore k =>
    dsimp only at h ⊢
    unfold p_astore at h ⊢
    split at h
    · split at h
      · rename_i hr
        split at h
        · rename_i hs; cases h; obtain ⟨L1', g1, g2⟩ := hle.store hs; (try rw [hr]); (try dsimp only); rw [g1]; exact ⟨L1', rfl, g2⟩
        · cases h
      · cases h
    · cases h
  case astore_n k =>
    dsimp only at h ⊢
    unfold p_astore_n at h ⊢
    split at h
    · split at h
      · rename_i hr
        split at h
        · rename_i hs; cases h; obtain ⟨L1', g1, g2⟩ := hle.store hs; (try rw [hr]); (try dsimp only); rw [g1]; exact ⟨L1', rfl, g2⟩
        · cases h
      · cases h
    · cases h
  case iinc k cst =>
    dsimp only at h ⊢
    unfold p_iinc at h ⊢
    split at h
    · rename_i hl
      split at h
      · rename_i hs; cases h; obtain ⟨L1', g1, g2⟩ := hle.store hs; rw [hle.get hl]; (try dsimp only); rw [g1]; exact ⟨L1', rfl, g2⟩
      · cases h
    · cases h
  all_goals
    dsimp only at h ⊢
    try (cases h; done)
  case iadd =>
    unfold p_iadd at h ⊢
    first
    | (cases h; exact ⟨L', rfl, hle⟩)
    | ((repeat' split at h) <;> first | (cases h; done) | (cases h; exact ⟨L', rfl, hle⟩) | (cases h; exact ⟨L', by simp only [*, ↓reduceIte], hle⟩) | (cases h; exact ⟨L', by simp_all, hle⟩))
    | skip
  case isub =>
    unfold p_isub at h ⊢
    first
    | (cases h; exact ⟨L', rfl, hle⟩)
    | ((repeat' split at h) <;> first | (cases h; done) | (cases h; exact ⟨L', rfl, hle⟩) | (cases h; exact ⟨L', by simp only [*, ↓reduceIte], hle⟩) | (cases h; exact ⟨L', by simp_all, hle⟩))
    | skip
  case imul =>
    unfold p_imul at h ⊢
    first
    | (cases h; exact ⟨L', rfl, hle⟩)
    | ((repeat' split at h) <;> first | (cases h; done) | (cases h; exact ⟨L', rfl, hle⟩) | (cases h; exact ⟨L', by simp only [*, ↓reduceIte], hle⟩) | (cases h; exact ⟨L', by simp_all, hle⟩))
    | skip
  case iand =>
    unfold p_iand at h ⊢
    first
    | (cases h; exact ⟨L', rfl, hle⟩)
    | ((repeat' split at h) <;> first | (cases h; done) | (cases h; exact ⟨L', rfl, hle⟩) | (cases h; exact ⟨L', by simp only [*, ↓reduceIte], hle⟩) | (cases h; exact ⟨L', by simp_all, hle⟩))
    | skip
  case ior =>
    unfold p_ior at h ⊢
    first
    | (cases h; exact ⟨L', rfl, hle⟩)
    | ((repeat' split at h) <;> first | (cases h; done) | (cases h; exact ⟨L', rfl, hle⟩) | (cases h; exact ⟨L', by simp only [*, ↓reduceIte], hle⟩) | (cases h; exact ⟨L', by simp_all, hle⟩))
    | skip
  case ixor =>
    unfold p_ixor at h ⊢
    first
    | (cases h; exact ⟨L', rfl, hle⟩)
    | ((repeat' split at h) <;> first | (cases h; done) | (cases h; exact ⟨L', rfl, hle⟩) | (cases h; exact ⟨L', by simp only [*, ↓reduceIte], hle⟩) | (cases h; exact ⟨L', by simp_all, hle⟩))
    | skip
  case ishl =>
    unfold p_ishl at h ⊢
    first
    | (cases h; exact ⟨L', rfl, hle⟩)
    | ((repeat' split at h) <;> first | (cases h; done) | (cases h; exact ⟨L', rfl, hle⟩) | (cases h; exact ⟨L', by simp only [*, ↓reduceIte], hle⟩) | (cases h; exact ⟨L', by simp_all, hle⟩))
    | skip
  case ishr =>
    unfold p_ishr at h ⊢
    first
    | (cases h; exact ⟨L', rfl, hle⟩)
    | ((repeat' split at h) <;> first | (cases h; done) | (cases h; exact ⟨L', rfl, hle⟩) | (cases h; exact ⟨L', by simp only [*, ↓reduceIte], hle⟩) | (cases h; exact ⟨L', by simp_all, hle⟩))
    | skip
  case iushr =>
    unfold p_iushr at h ⊢
    first
    | (cases h; exact ⟨L', rfl, hle⟩)
    | ((repeat' split at h) <;> first | (cases h; done) | (cases h; exact ⟨L', rfl, hle⟩) | (cases h; exact ⟨L', by simp only [*, ↓reduceIte], hle⟩) | (cases h; exact ⟨L', by simp_all, hle⟩))
    | skip
  case ladd =>
    unfold p_ladd at h ⊢
    first
    | (cases h; exact ⟨L', rfl, hle⟩)
    | ((repeat' split at h) <;> first | (cases h; done) | (cases h; exact ⟨L', rfl, hle⟩) | (cases h; exact ⟨L', by simp only [*, ↓reduceIte], hle⟩) | (cases h; exact ⟨L', by simp_all, hle⟩))
    | skip
  case lsub =>
    unfold p_lsub at h ⊢
    first
    | (cases h; exact ⟨L', rfl, hle⟩)
    | ((repeat' split at h) <;> first | (cases h; done) | (cases h; exact ⟨L', rfl, hle⟩) | (cases h; exact ⟨L', by simp only [*, ↓reduceIte], hle⟩) | (cases h; exact ⟨L', by simp_all, hle⟩))
    | skip
  case lmul =>
    unfold p_lmul at h ⊢
    first
    | (cases h; exact ⟨L', rfl, hle⟩)
    | ((repeat' split at h) <;> first | (cases h; done) | (cases h; exact ⟨L', rfl, hle⟩) | (cases h; exact ⟨L', by simp only [*, ↓reduceIte], hle⟩) | (cases h; exact ⟨L', by simp_all, hle⟩))
    | skip
  case land =>
    unfold p_land at h ⊢
    first
    | (cases h; exact ⟨L', rfl, hle⟩)
    | ((repeat' split at h) <;> first | (cases h; done) | (cases h; exact ⟨L', rfl, hle⟩) | (cases h; exact ⟨L', by simp only [*, ↓reduceIte], hle⟩) | (cases h; exact ⟨L', by simp_all, hle⟩))
    | skip
  case lor =>
    unfold p_lor at h ⊢
    first
    | (cases h; exact ⟨L', rfl, hle⟩)
    | ((repeat' split at h) <;> first | (cases h; done) | (cases h; exact ⟨L', rfl, hle⟩) | (cases h; exact ⟨L', by simp only [*, ↓reduceIte], hle⟩) | (cases h; exact ⟨L', by simp_all, hle⟩))
    | skip
  case lxor =>
    unfold p_lxor at h ⊢
    first
    | (cases h; exact ⟨L', rfl, hle⟩)
    | ((repeat' split at h) <;> first | (cases h; done) | (cases h; exact ⟨L', rfl, hle⟩) | (cases h; exact ⟨L', by simp only [*, ↓reduceIte], hle⟩) | (cases h; exact ⟨L', by simp_all, hle⟩))
    | skip
  case lshl =>
    unfold p_lshl at h ⊢
    first
    | (cases h; exact ⟨L', rfl, hle⟩)
    | ((repeat' split at h) <;> first | (cases h; done) | (cases h; exact ⟨L', rfl, hle⟩) | (cases h; exact ⟨L', by simp only [*, ↓reduceIte], hle⟩) | (cases h; exact ⟨L', by simp_all, hle⟩))
    | skip
  case lshr =>
    unfold p_lshr at h ⊢
    first
    | (cases h; exact ⟨L', rfl, hle⟩)
    | ((repeat' split at h) <;> first | (cases h; done) | (cases h; exact ⟨L', rfl, hle⟩) | (cases h; exact ⟨L', by simp only [*, ↓reduceIte], hle⟩) | (cases h; exact ⟨L', by simp_all, hle⟩))
    | skip
  case lushr =>
    unfold p_lushr at h ⊢
    first
    | (cases h; exact ⟨L', rfl, hle⟩)
    | ((repeat' split at h) <;> first | (cases h; done) | (cases h; exact ⟨L', rfl, hle⟩) | (cases h; exact ⟨L', by simp only [*, ↓reduceIte], hle⟩) | (cases h; exact ⟨L', by simp_all, hle⟩))
    | skip
  case ineg =>
    unfold p_ineg at h ⊢
    first
    | (cases h; exact ⟨L', rfl, hle⟩)
    | ((repeat' split at h) <;> first | (cases h; done) | (cases h; exact ⟨L', rfl, hle⟩) | (cases h; exact ⟨L', by simp only [*, ↓reduceIte], hle⟩) | (cases h; exact ⟨L', by simp_all, hle⟩))
    | skip
  case lneg =>
    unfold p_lneg at h ⊢
    first
    | (cases h; exact ⟨L', rfl, hle⟩)
    | ((repeat' split at h) <;> first | (cases h; done) | (cases h; exact ⟨L', rfl, hle⟩) | (cases h; exact ⟨L', by simp only [*, ↓reduceIte], hle⟩) | (cases h; exact ⟨L', by simp_all, hle⟩))
    | skip
  case i2l =>
    unfold p_i2l at h ⊢
    first
    | (cases h; exact ⟨L', rfl, hle⟩)
    | ((repeat' split at h) <;> first | (cases h; done) | (cases h; exact ⟨L', rfl, hle⟩) | (cases h; exact ⟨L', by simp only [*, ↓reduceIte], hle⟩) | (cases h; exact ⟨L', by simp_all, hle⟩))
    | skip
  case l2i =>
    unfold p_l2i at h ⊢
    first
    | (cases h; exact ⟨L', rfl, hle⟩)
    | ((repeat' split at h) <;> first | (cases h; done) | (cases h; exact ⟨L', rfl, hle⟩) | (cases h; exact ⟨L', by simp only [*, ↓reduceIte], hle⟩) | (cases h; exact ⟨L', by simp_all, hle⟩))
    | skip
  case i2b =>
    unfold p_i2b at h ⊢
    first
    | (cases h; exact ⟨L', rfl, hle⟩)
    | ((repeat' split at h) <;> first | (cases h; done) | (cases h; exact ⟨L', rfl, hle⟩) | (cases h; exact ⟨L', by simp only [*, ↓reduceIte], hle⟩) | (cases h; exact ⟨L', by simp_all, hle⟩))
    | skip
  case idiv =>
    unfold p_idiv at h ⊢
    first
    | (cases h; exact ⟨L', rfl, hle⟩)
    | ((repeat' split at h) <;> first | (cases h; done) | (cases h; exact ⟨L', rfl, hle⟩) | (cases h; exact ⟨L', by simp only [*, ↓reduceIte], hle⟩) | (cases h; exact ⟨L', by simp_all, hle⟩))
    | skip
  case irem =>
    unfold p_irem at h ⊢
    first
    | (cases h; exact ⟨L', rfl, hle⟩)
    | ((repeat' split at h) <;> first | (cases h; done) | (cases h; exact ⟨L', rfl, hle⟩) | (cases h; exact ⟨L', by simp only [*, ↓reduceIte], hle⟩) | (cases h; exact ⟨L', by simp_all, hle⟩))
    | skip
  case lcmp =>
    unfold p_lcmp at h ⊢
    first
    | (cases h; exact ⟨L', rfl, hle⟩)
    | ((repeat' split at h) <;> first | (cases h; done) | (cases h; exact ⟨L', rfl, hle⟩) | (cases h; exact ⟨L', by simp only [*, ↓reduceIte], hle⟩) | (cases h; exact ⟨L', by simp_all, hle⟩))
    | skip
  case iconst _ =>
    unfold p_iconst at h ⊢
    first
    | (cases h; exact ⟨L', rfl, hle⟩)
    | ((repeat' split at h) <;> first | (cases h; done) | (cases h; exact ⟨L', rfl, hle⟩) | (cases h; exact ⟨L', by simp only [*, ↓reduceIte], hle⟩) | (cases h; exact ⟨L', by simp_all, hle⟩))
    | skip
  case bipush _ =>
    unfold p_bipush at h ⊢
    first
    | (cases h; exact ⟨L', rfl, hle⟩)
    | ((repeat' split at h) <;> first | (cases h; done) | (cases h; exact ⟨L', rfl, hle⟩) | (cases h; exact ⟨L', by simp only [*, ↓reduceIte], hle⟩) | (cases h; exact ⟨L', by simp_all, hle⟩))
    | skip
  case sipush _ =>
    unfold p_sipush at h ⊢
    first
    | (cases h; exact ⟨L', rfl, hle⟩)
    | ((repeat' split at h) <;> first | (cases h; done) | (cases h; exact ⟨L', rfl, hle⟩) | (cases h; exact ⟨L', by simp only [*, ↓reduceIte], hle⟩) | (cases h; exact ⟨L', by simp_all, hle⟩))
    | skip
  case lconst _ =>
    unfold p_lconst at h ⊢
    first
    | (cases h; exact ⟨L', rfl, hle⟩)
    | ((repeat' split at h) <;> first | (cases h; done) | (cases h; exact ⟨L', rfl, hle⟩) | (cases h; exact ⟨L', by simp only [*, ↓reduceIte], hle⟩) | (cases h; exact ⟨L', by simp_all, hle⟩))
    | skip
  case aconst_null =>
    unfold p_aconst_null at h ⊢
    first
    | (cases h; exact ⟨L', rfl, hle⟩)
    | ((repeat' split at h) <;> first | (cases h; done) | (cases h; exact ⟨L', rfl, hle⟩) | (cases h; exact ⟨L', by simp only [*, ↓reduceIte], hle⟩) | (cases h; exact ⟨L', by simp_all, hle⟩))
    | skip
  case ldc _ =>
    unfold p_ldc at h ⊢
    first
    | (cases h; exact ⟨L', rfl, hle⟩)
    | ((repeat' split at h) <;> first | (cases h; done) | (cases h; exact ⟨L', rfl, hle⟩) | (cases h; exact ⟨L', by simp only [*, ↓reduceIte], hle⟩) | (cases h; exact ⟨L', by simp_all, hle⟩))
    | skip
  case ldc_w _ =>
    unfold p_ldc_w at h ⊢
    first
    | (cases h; exact ⟨L', rfl, hle⟩)
    | ((repeat' split at h) <;> first | (cases h; done) | (cases h; exact ⟨L', rfl, hle⟩) | (cases h; exact ⟨L', by simp only [*, ↓reduceIte], hle⟩) | (cases h; exact ⟨L', by simp_all, hle⟩))
    | skip
  case ldc2_w _ =>
    unfold p_ldc2_w at h ⊢
    first
    | (cases h; exact ⟨L', rfl, hle⟩)
    | ((repeat' split at h) <;> first | (cases h; done) | (cases h; exact ⟨L', rfl, hle⟩) | (cases h; exact ⟨L', by simp only [*, ↓reduceIte], hle⟩) | (cases h; exact ⟨L', by simp_all, hle⟩))
    | skip
  case dup =>
    unfold p_dup at h ⊢
    first
    | (cases h; exact ⟨L', rfl, hle⟩)
    | ((repeat' split at h) <;> first | (cases h; done) | (cases h; exact ⟨L', rfl, hle⟩) | (cases h; exact ⟨L', by simp only [*, ↓reduceIte], hle⟩) | (cases h; exact ⟨L', by simp_all, hle⟩))
    | skip
  case pop =>
    unfold p_pop at h ⊢
    first
    | (cases h; exact ⟨L', rfl, hle⟩)
    | ((repeat' split at h) <;> first | (cases h; done) | (cases h; exact ⟨L', rfl, hle⟩) | (cases h; exact ⟨L', by simp only [*, ↓reduceIte], hle⟩) | (cases h; exact ⟨L', by simp_all, hle⟩))
    | skip
  case dup_x1 =>
    unfold p_dup_x1 at h ⊢
    first
    | (cases h; exact ⟨L', rfl, hle⟩)
    | ((repeat' split at h) <;> first | (cases h; done) | (cases h; exact ⟨L', rfl, hle⟩) | (cases h; exact ⟨L', by simp only [*, ↓reduceIte], hle⟩) | (cases h; exact ⟨L', by simp_all, hle⟩))
    | skip
  case dup2 =>
    unfold p_dup2 at h ⊢
    first
    | (cases h; exact ⟨L', rfl, hle⟩)
    | ((repeat' split at h) <;> first | (cases h; done) | (cases h; exact ⟨L', rfl, hle⟩) | (cases h; exact ⟨L', by simp only [*, ↓reduceIte], hle⟩) | (cases h; exact ⟨L', by simp_all, hle⟩))
    | skip
  case goto _ =>
    unfold p_goto at h ⊢
    first
    | (cases h; exact ⟨L', rfl, hle⟩)
    | ((repeat' split at h) <;> first | (cases h; done) | (cases h; exact ⟨L', rfl, hle⟩) | (cases h; exact ⟨L', by simp only [*, ↓reduceIte], hle⟩) | (cases h; exact ⟨L', by simp_all, hle⟩))
    | skip
  case ifCond _ _ =>
    unfold p_ifCond at h ⊢
    first
    | (cases h; exact ⟨L', rfl, hle⟩)
    | ((repeat' split at h) <;> first | (cases h; done) | (cases h; exact ⟨L', rfl, hle⟩) | (cases h; exact ⟨L', by simp only [*, ↓reduceIte], hle⟩) | (cases h; exact ⟨L', by simp_all, hle⟩))
    | skip
  case if_icmp _ _ =>
    unfold p_if_icmp at h ⊢
    first
    | (cases h; exact ⟨L', rfl, hle⟩)
    | ((repeat' split at h) <;> first | (cases h; done) | (cases h; exact ⟨L', rfl, hle⟩) | (cases h; exact ⟨L', by simp only [*, ↓reduceIte], hle⟩) | (cases h; exact ⟨L', by simp_all, hle⟩))
    | skip
  case ifnull _ =>
    unfold p_ifnull at h ⊢
    first
    | (cases h; exact ⟨L', rfl, hle⟩)
    | ((repeat' split at h) <;> first | (cases h; done) | (cases h; exact ⟨L', rfl, hle⟩) | (cases h; exact ⟨L', by simp only [*, ↓reduceIte], hle⟩) | (cases h; exact ⟨L', by simp_all, hle⟩))
    | skip
  case ifnonnull _ =>
    unfold p_ifnonnull at h ⊢
    first
    | (cases h; exact ⟨L', rfl, hle⟩)
    | ((repeat' split at h) <;> first | (cases h; done) | (cases h; exact ⟨L', rfl, hle⟩) | (cases h; exact ⟨L', by simp only [*, ↓reduceIte], hle⟩) | (cases h; exact ⟨L', by simp_all, hle⟩))
    | skip
  case if_acmp _ _ =>
    unfold p_if_acmp at h ⊢
    first
    | (cases h; exact ⟨L', rfl, hle⟩)
    | ((repeat' split at h) <;> first | (cases h; done) | (cases h; exact ⟨L', rfl, hle⟩) | (cases h; exact ⟨L', by simp only [*, ↓reduceIte], hle⟩) | (cases h; exact ⟨L', by simp_all, hle⟩))
    | skip
  case getfield _ =>
    unfold p_getfield at h ⊢
    first
    | (cases h; exact ⟨L', rfl, hle⟩)
    | ((repeat' split at h) <;> first | (cases h; done) | (cases h; exact ⟨L', rfl, hle⟩) | (cases h; exact ⟨L', by simp only [*, ↓reduceIte], hle⟩) | (cases h; exact ⟨L', by simp_all, hle⟩))
    | skip
  case arraylength =>
    unfold p_arraylength at h ⊢
    first
    | (cases h; exact ⟨L', rfl, hle⟩)
    | ((repeat' split at h) <;> first | (cases h; done) | (cases h; exact ⟨L', rfl, hle⟩) | (cases h; exact ⟨L', by simp only [*, ↓reduceIte], hle⟩) | (cases h; exact ⟨L', by simp_all, hle⟩))
    | skip
  case iaload =>
    unfold p_iaload at h ⊢
    first
    | (cases h; exact ⟨L', rfl, hle⟩)
    | ((repeat' split at h) <;> first | (cases h; done) | (cases h; exact ⟨L', rfl, hle⟩) | (cases h; exact ⟨L', by simp only [*, ↓reduceIte], hle⟩) | (cases h; exact ⟨L', by simp_all, hle⟩))
    | skip
  case laload =>
    unfold p_laload at h ⊢
    first
    | (cases h; exact ⟨L', rfl, hle⟩)
    | ((repeat' split at h) <;> first | (cases h; done) | (cases h; exact ⟨L', rfl, hle⟩) | (cases h; exact ⟨L', by simp only [*, ↓reduceIte], hle⟩) | (cases h; exact ⟨L', by simp_all, hle⟩))
    | skip
  case baload =>
    unfold p_baload at h ⊢
    first
    | (cases h; exact ⟨L', rfl, hle⟩)
    | ((repeat' split at h) <;> first | (cases h; done) | (cases h; exact ⟨L', rfl, hle⟩) | (cases h; exact ⟨L', by simp only [*, ↓reduceIte], hle⟩) | (cases h; exact ⟨L', by simp_all, hle⟩))
    | skip
  case checkcast _ =>
    unfold p_checkcast at h ⊢
    first
    | (cases h; exact ⟨L', rfl, hle⟩)
    | ((repeat' split at h) <;> first | (cases h; done) | (cases h; exact ⟨L', rfl, hle⟩) | (cases h; exact ⟨L', by simp only [*, ↓reduceIte], hle⟩) | (cases h; exact ⟨L', by simp_all, hle⟩))
    | skip
  case instanceof _ =>
    unfold p_instanceof at h ⊢
    first
    | (cases h; exact ⟨L', rfl, hle⟩)
    | ((repeat' split at h) <;> first | (cases h; done) | (cases h; exact ⟨L', rfl, hle⟩) | (cases h; exact ⟨L', by simp only [*, ↓reduceIte], hle⟩) | (cases h; exact ⟨L', by simp_all, hle⟩))
    | skip
theorem pstep_excl {M : Mth} {ah : AH} {i : Instr} {nx tg : Nat} {L : List Slot} {S : List Value} {z : PF} (h : pstep M ah i nx tg L S = some z) : ∀ W F B, wstep W M F B ah i nx S = none ∧ rstep M i S = none ∧ cstep W M F B ah i S = none := by
  intro W F B
  cases i <;> first | exact ⟨rfl, rfl, rfl⟩ | (cases h; done)
theorem run_le_locals {W : Wld} : ∀ (n F B : Nat) (M : Mth) (pc : Nat) (L L' : List Slot) (S : List Value) (ah : AH) (r : Option Value × AH), Le L L' → run W n F B M pc L S ah = some r → run W n F B M pc L' S ah = some r
  | 0, _, _, _, _, _, _, _, _, _, _, h => by unfold run at h; cases h
  | n + 1, F, B, M, pc, L, L', S, ah, r, hle, h => by
    unfold run at h
    unfold run
    split at h
    · cases h
    · rename_i i nx tg hi
      try simp only [hi]
      split at h
      · rename_i hq
        obtain ⟨L1', g1, g2⟩ := pstep_le hle hq
        simp only [g1]
        exact run_le_locals n _ _ _ _ _ _ _ _ _ g2 h
      · rename_i hq
        have hq' : pstep M ah i nx tg L' S = none ∨ ∃ z, pstep M ah i nx tg L' S = some z := by
          cases pstep M ah i nx tg L' S with
          | none => exact Or.inl rfl
          | some z => exact Or.inr ⟨z, rfl⟩
        rcases hq' with hq' | ⟨z, hq'⟩
        · simp only [hq']
          split at h
          · rename_i hw
            try simp only [hw]
            exact run_le_locals n _ _ _ _ _ _ _ _ _ hle h
          · rename_i hw
            try simp only [hw]
            split at h
            · rename_i hr
              try simp only [hr]
              exact h
            · rename_i hr
              try simp only [hr]
              split at h
              · rename_i hc
                try simp only [hc]
                split at h
                · rename_i hr1
                  try simp only [hr1]
                  exact run_le_locals n _ _ _ _ _ _ _ _ _ hle h
                · cases h
              · cases h
        · exfalso
          obtain ⟨e1, e2, e3⟩ := pstep_excl hq' W F B
          simp only [e1, e2, e3] at h
          cases h
theorem Ev.forget {W : Wld} {F B : Nat} {M : Mth} {pc : Nat} {L L' : List Slot} {S : List Value} {ah : AH} {r : Option Value × AH} (h : Ev W F B M pc L S ah r) (hle : Le L L') : Ev W F B M pc L' S ah r := by
  obtain ⟨n, hn⟩ := h
  exact ⟨n, run_le_locals n _ _ _ _ _ _ _ _ _ hle hn⟩
end Jvm.RI

namespace Jvm.RI
open Sem ClassFile Op Lib Jvm.Stand Jvm.Free Jvm.LawKit Jvm.RoadKit
/-! numbers, and runs that the kernel makes -/
theorem ofNat_toInt (j : Nat) (h : j < 2 ^ 31) : (Int32.ofNat j).toInt = j := Int32.toInt_ofNat_of_lt h
theorem mask_nat (x : Int32) (m : Int32) (b : Nat) (hm : m.toBitVec.toNat = 2 ^ b - 1) : ∃ j, j < 2 ^ b ∧ x &&& m = Int32.ofNat j := by
  refine ⟨x.toBitVec.toNat % 2 ^ b, Nat.mod_lt _ (Nat.two_pow_pos b), ?_⟩
  apply Int32.toBitVec_inj.mp
  apply BitVec.eq_of_toNat_eq
  rw [Int32.toBitVec_and, BitVec.toNat_and, hm, Nat.and_two_pow_sub_one_eq_mod]
  have h1 : x.toBitVec.toNat % 2 ^ b < 2 ^ 32 := Nat.lt_of_le_of_lt (Nat.mod_le _ _) x.toBitVec.isLt
  show _ = (BitVec.ofNat 32 _).toNat
  rw [BitVec.toNat_ofNat, Nat.mod_eq_of_lt h1]
theorem rem_nat (x : Int32) (k : Nat) (hk : 0 < k) (hk2 : k < 2 ^ 31) : ∃ j, j < k ∧ (x &&& 2147483647) % Int32.ofNat k = Int32.ofNat j := by
  obtain ⟨m, hm, e⟩ := mask_nat x 2147483647 31 (by decide)
  rw [e]
  refine ⟨m % k, Nat.mod_lt _ hk, ?_⟩
  apply Int32.toInt_inj.mp
  rw [Int32.toInt_mod, ofNat_toInt _ hm, ofNat_toInt _ hk2, ofNat_toInt _ (Nat.lt_of_lt_of_le (Nat.mod_lt _ hk) (Nat.le_of_lt hk2))]
  exact (Int.ofNat_tmod m k).symm
theorem rem_of {m k : Nat} (hm : m < 2 ^ 31) (hk : 0 < k) (hk2 : k < 2 ^ 31) : Int32.ofNat m % Int32.ofNat k = Int32.ofNat (m % k) := by
  apply Int32.toInt_inj.mp
  rw [Int32.toInt_mod, ofNat_toInt _ hm, ofNat_toInt _ hk2, ofNat_toInt _ (Nat.lt_of_lt_of_le (Nat.mod_lt _ hk) (Nat.le_of_lt hk2))]
  exact (Int.ofNat_tmod m k).symm
theorem ushr_nat (x y : Int32) (n : Nat) (hn : ((y &&& 31).toUInt32.toBitVec % 32#32).toNat = n) : (XT.ushr x y).toBitVec.toNat = x.toBitVec.toNat / 2 ^ n := by
  subst hn
  have e : (XT.ushr x y).toBitVec = x.toBitVec >>> ((y &&& 31).toUInt32.toBitVec % 32#32) := rfl
  rw [e, BitVec.ushiftRight_eq', BitVec.toNat_ushiftRight, Nat.shiftRight_eq_div_pow]
theorem eq_ofNat {x : Int32} {m : Nat} (h : x.toBitVec.toNat = m) : x = Int32.ofNat m := by
  apply Int32.toBitVec_inj.mp
  apply BitVec.eq_of_toNat_eq
  show _ = (BitVec.ofNat 32 m).toNat
  rw [BitVec.toNat_ofNat, ← h, Nat.mod_eq_of_lt x.toBitVec.isLt]
theorem Ev.irem {W : Wld} {F B : Nat} {M : Mth} {pc nx tg : Nat} {L : List Slot} {S : List Value} {ah : AH} {r : Option Value × AH} {x y : Int32} (h1 : fetch M pc = some (.irem, nx, tg)) (hy : ¬ y = 0) (hr : Ev W F B M nx L (.int (x % y) :: S) ah r) : Ev W F B M pc L (.int y :: .int x :: S) ah r :=
  hr.go 1 (by unfold gsteps; simp only [h1, pstep, psel, p_irem, if_neg hy]; rfl)
theorem Ev.idiv {W : Wld} {F B : Nat} {M : Mth} {pc nx tg : Nat} {L : List Slot} {S : List Value} {ah : AH} {r : Option Value × AH} {x y : Int32} (h1 : fetch M pc = some (.idiv, nx, tg)) (hy : ¬ y = 0) (hr : Ev W F B M nx L (.int (x / y) :: S) ah r) : Ev W F B M pc L (.int y :: .int x :: S) ah r :=
  hr.go 1 (by unfold gsteps; simp only [h1, pstep, psel, p_idiv, if_neg hy]; rfl)
def chk1 (W : Wld) (N F B : Nat) (M : Mth) (pc : Nat) (L : List Slot) (S : List Value) (ah : AH) (cm sm : Nat) : Bool :=
  match run W N F B M pc L S ah with
  | some (some (.int z), ah') => decide (z = 1) && Nat.ble ah'.length cm && Nat.ble (sz W ah') sm
  | _ => false
def Good (W : Wld) (F B : Nat) (M : Mth) (pc : Nat) (L : List Slot) (S : List Value) (ah : AH) (cm sm : Nat) : Prop := ∃ ah', Ev W F B M pc L S ah (some (.int 1), ah') ∧ ah'.length ≤ cm ∧ sz W ah' ≤ sm
theorem chk1_good {W : Wld} {N F B : Nat} {M : Mth} {pc : Nat} {L : List Slot} {S : List Value} {ah : AH} {cm sm : Nat} (h : chk1 W N F B M pc L S ah cm sm = true) : Good W F B M pc L S ah cm sm := by
  unfold chk1 at h
  split at h
  · rename_i z ah' hr
    simp only [Bool.and_eq_true, decide_eq_true_eq] at h
    obtain ⟨⟨rfl, h1⟩, h2⟩ := h
    exact ⟨ah', ⟨N, hr⟩, Nat.le_of_ble_eq_true h1, Nat.le_of_ble_eq_true h2⟩
  · cases h
theorem Good.lift {W : Wld} {F B : Nat} {M : Mth} {pc pc' : Nat} {L L' : List Slot} {S S' : List Value} {ah ah' : AH} {cm sm : Nat} (h : Good W F B M pc' L' S' ah' cm sm) (f : ∀ r, Ev W F B M pc' L' S' ah' r → Ev W F B M pc L S ah r) : Good W F B M pc L S ah cm sm := by
  obtain ⟨x, h1, h2⟩ := h
  exact ⟨x, f _ h1, h2⟩
section Sym
variable {W : Wld} {F B : Nat} {M : Mth} {pc nx tg a : Nat} {L : List Slot} {S : List Value} {ah : AH} {r : Option Value × AH} {vs : List Value} {v : Value} {j x n : Int32}
theorem Ev.ialoadS (h1 : fetch M pc = some (.iaload, nx, tg)) (ho : ah[a]? = some (.inr (.int, vs))) (hj : ¬ j < 0) (hv : vs[j.toNatClampNeg]? = some v) (hr : Ev W F B M nx L (v :: S) ah r) : Ev W F B M pc L (.int j :: .ref a :: S) ah r :=
  hr.go 1 (by unfold gsteps; simp only [h1, pstep, psel, p_iaload, ho, if_neg hj, hv]; rfl)
theorem Ev.baloadS (h1 : fetch M pc = some (.baload, nx, tg)) (ho : ah[a]? = some (.inr (.byte, vs))) (hj : ¬ j < 0) (hv : vs[j.toNatClampNeg]? = some v) (hr : Ev W F B M nx L (v :: S) ah r) : Ev W F B M pc L (.int j :: .ref a :: S) ah r :=
  hr.go 1 (by unfold gsteps; simp only [h1, pstep, psel, p_baload, ho, if_neg hj, hv]; rfl)
theorem Ev.iastoreS (h1 : fetch M pc = some (.iastore, nx, tg)) (ho : ah[a]? = some (.inr (.int, vs))) (hj : ¬ j < 0) (hl : j.toNatClampNeg < vs.length) (hr : Ev W F B M nx L S (ah.set a (.inr (.int, vs.set j.toNatClampNeg (.int x)))) r) : Ev W F B M pc L (.int x :: .int j :: .ref a :: S) ah r :=
  hr.go 1 (by unfold gsteps; simp only [h1, pstep, psel, wstep, wsel, w_iastore, ho, if_neg hj, if_pos hl]; rfl)
theorem Ev.bastoreS (h1 : fetch M pc = some (.bastore, nx, tg)) (ho : ah[a]? = some (.inr (.byte, vs))) (hj : ¬ j < 0) (hl : j.toNatClampNeg < vs.length) (hr : Ev W F B M nx L S (ah.set a (.inr (.byte, vs.set j.toNatClampNeg (.int x.toInt8.toInt32)))) r) : Ev W F B M pc L (.int x :: .int j :: .ref a :: S) ah r :=
  hr.go 1 (by unfold gsteps; simp only [h1, pstep, psel, wstep, wsel, w_bastore, ho, if_neg hj, if_pos hl]; rfl)
theorem Ev.newarrayS {t : ArrayType} (h1 : fetch M pc = some (.newarray t, nx, tg)) (hn : ¬ n < 0) (hl : n.toNatClampNeg ≤ 67108864) (hr : Ev W F B M nx L (.ref ah.length :: S) (ah ++ [.inr (newarray.typeOf t, List.replicate n.toNatClampNeg (defaultValue (newarray.typeOf t)))]) r) : Ev W F B M pc L (.int n :: S) ah r :=
  hr.go 1 (by unfold gsteps; simp only [h1, pstep, psel, wstep, wsel, w_newarray, if_neg hn, if_pos hl]; rfl)
end Sym
theorem LeS.refl (a : Slot) : LeS a a := Or.inl rfl
theorem LeS.int (x : Int32) : LeS .unset (.val (.int x)) := Or.inr ⟨rfl, _, rfl, rfl⟩
theorem Le.nil : Le [] [] := Le.refl []
theorem Le.cons {a b : Slot} {L L' : List Slot} (h : LeS a b) (hl : Le L L') : Le (a :: L) (b :: L') := by
  refine ⟨by simp [hl.1], fun i x y h1 h2 => ?_⟩
  cases i with
  | zero =>
    have e1 : a = x := by simpa using h1
    have e2 : b = y := by simpa using h2
    subst e1 e2
    exact h
  | succ i => exact hl.2 i x y (by simpa using h1) (by simpa using h2)
end Jvm.RI

namespace Jvm.Pilot.@@N@@
open Jvm Jvm.ClassFile Sem Op Lib Jvm.Free Jvm.Stand Jvm.LawKit Jvm.RoadKit Bundle Jvm.Pilot.@@N@@.Jvm.D
def dec_0_0 (pc : Nat) : Option (Instr × Nat × Nat) := bif Nat.ble pc 4 then (bif Nat.ble pc 1 then (bif Nat.ble pc 0 then (bif Nat.beq pc 0 then some (.iload_n 0, 1, 0) else none) else (bif Nat.beq pc 1 then some (.ldc 7, 3, 0) else none)) else (bif Nat.ble pc 3 then (bif Nat.beq pc 3 then some (.iand, 4, 0) else none) else (bif Nat.beq pc 4 then some (.iconst 5, 5, 0) else none))) else (bif Nat.ble pc 6 then (bif Nat.ble pc 5 then (bif Nat.beq pc 5 then some (.irem, 6, 0) else none) else (bif Nat.beq pc 6 then some (.istore 6, 8, 0) else none)) else (bif Nat.ble pc 8 then (bif Nat.beq pc 8 then some (.iload 6, 10, 0) else none) else (bif Nat.beq pc 10 then some (.iconst 2, 11, 0) else none)))
def dec_0_1 (pc : Nat) : Option (Instr × Nat × Nat) := bif Nat.ble pc 16 then (bif Nat.ble pc 14 then (bif Nat.ble pc 11 then (bif Nat.beq pc 11 then some (.if_icmp .gt 121, 14, 132) else none) else (bif Nat.beq pc 14 then some (.iconst 1, 15, 0) else none)) else (bif Nat.ble pc 15 then (bif Nat.beq pc 15 then some (.iload_n 1, 16, 0) else none) else (bif Nat.beq pc 16 then some (.ldc 7, 18, 0) else none))) else (bif Nat.ble pc 19 then (bif Nat.ble pc 18 then (bif Nat.beq pc 18 then some (.iand, 19, 0) else none) else (bif Nat.beq pc 19 then some (.bipush 18, 21, 0) else none)) else (bif Nat.ble pc 21 then (bif Nat.beq pc 21 then some (.irem, 22, 0) else none) else (bif Nat.beq pc 22 then some (.iadd, 23, 0) else none)))
def dec_0_2 (pc : Nat) : Option (Instr × Nat × Nat) := bif Nat.ble pc 28 then (bif Nat.ble pc 25 then (bif Nat.ble pc 23 then (bif Nat.beq pc 23 then some (.istore 7, 25, 0) else none) else (bif Nat.beq pc 25 then some (.iconst 1, 26, 0) else none)) else (bif Nat.ble pc 26 then (bif Nat.beq pc 26 then some (.iload 7, 28, 0) else none) else (bif Nat.beq pc 28 then some (.ishl, 29, 0) else none))) else (bif Nat.ble pc 30 then (bif Nat.ble pc 29 then (bif Nat.beq pc 29 then some (.iconst 1, 30, 0) else none) else (bif Nat.beq pc 30 then some (.isub, 31, 0) else none)) else (bif Nat.ble pc 31 then (bif Nat.beq pc 31 then some (.istore 8, 33, 0) else none) else (bif Nat.beq pc 33 then some (.iload 5, 35, 0) else none)))
def dec_0_3 (pc : Nat) : Option (Instr × Nat × Nat) := bif Nat.ble pc 40 then (bif Nat.ble pc 37 then (bif Nat.ble pc 35 then (bif Nat.beq pc 35 then some (.iload 8, 37, 0) else none) else (bif Nat.beq pc 37 then some (.iand, 38, 0) else none)) else (bif Nat.ble pc 38 then (bif Nat.beq pc 38 then some (.istore 9, 40, 0) else none) else (bif Nat.beq pc 40 then some (.iconst 1, 41, 0) else none))) else (bif Nat.ble pc 42 then (bif Nat.ble pc 41 then (bif Nat.beq pc 41 then some (.iload_n 2, 42, 0) else none) else (bif Nat.beq pc 42 then some (.ldc 7, 44, 0) else none)) else (bif Nat.ble pc 44 then (bif Nat.beq pc 44 then some (.iand, 45, 0) else none) else (bif Nat.beq pc 45 then some (.iload 7, 47, 0) else none)))
def dec_0_4 (pc : Nat) : Option (Instr × Nat × Nat) := bif Nat.ble pc 51 then (bif Nat.ble pc 48 then (bif Nat.ble pc 47 then (bif Nat.beq pc 47 then some (.irem, 48, 0) else none) else (bif Nat.beq pc 48 then some (.ishl, 49, 0) else none)) else (bif Nat.ble pc 49 then (bif Nat.beq pc 49 then some (.istore 10, 51, 0) else none) else (bif Nat.beq pc 51 then some (.iconst 1, 52, 0) else none))) else (bif Nat.ble pc 53 then (bif Nat.ble pc 52 then (bif Nat.beq pc 52 then some (.iload_n 3, 53, 0) else none) else (bif Nat.beq pc 53 then some (.ldc 7, 55, 0) else none)) else (bif Nat.ble pc 55 then (bif Nat.beq pc 55 then some (.iand, 56, 0) else none) else (bif Nat.beq pc 56 then some (.iload 7, 58, 0) else none)))
def dec_0_5 (pc : Nat) : Option (Instr × Nat × Nat) := bif Nat.ble pc 62 then (bif Nat.ble pc 59 then (bif Nat.ble pc 58 then (bif Nat.beq pc 58 then some (.irem, 59, 0) else none) else (bif Nat.beq pc 59 then some (.ishl, 60, 0) else none)) else (bif Nat.ble pc 60 then (bif Nat.beq pc 60 then some (.istore 11, 62, 0) else none) else (bif Nat.beq pc 62 then some (.iload 6, 64, 0) else none))) else (bif Nat.ble pc 67 then (bif Nat.ble pc 64 then (bif Nat.beq pc 64 then some (.ifCond .ne 7, 67, 71) else none) else (bif Nat.beq pc 67 then some (.iconst 0, 68, 0) else none)) else (bif Nat.ble pc 68 then (bif Nat.beq pc 68 then some (.goto 19, 71, 87) else none) else (bif Nat.beq pc 71 then some (.iload 6, 73, 0) else none)))
def dec_0_6 (pc : Nat) : Option (Instr × Nat × Nat) := bif Nat.ble pc 79 then (bif Nat.ble pc 74 then (bif Nat.ble pc 73 then (bif Nat.beq pc 73 then some (.iconst 1, 74, 0) else none) else (bif Nat.beq pc 74 then some (.if_icmp .ne 8, 77, 82) else none)) else (bif Nat.ble pc 77 then (bif Nat.beq pc 77 then some (.iload 10, 79, 0) else none) else (bif Nat.beq pc 79 then some (.goto 8, 82, 87) else none))) else (bif Nat.ble pc 84 then (bif Nat.ble pc 82 then (bif Nat.beq pc 82 then some (.iload 10, 84, 0) else none) else (bif Nat.beq pc 84 then some (.iload 11, 86, 0) else none)) else (bif Nat.ble pc 86 then (bif Nat.beq pc 86 then some (.ior, 87, 0) else none) else (bif Nat.beq pc 87 then some (.istore 12, 89, 0) else none)))
def dec_0_7 (pc : Nat) : Option (Instr × Nat × Nat) := bif Nat.ble pc 94 then (bif Nat.ble pc 91 then (bif Nat.ble pc 89 then (bif Nat.beq pc 89 then some (.iload 8, 91, 0) else none) else (bif Nat.beq pc 91 then some (.iload 12, 93, 0) else none)) else (bif Nat.ble pc 93 then (bif Nat.beq pc 93 then some (.iconst (-1), 94, 0) else none) else (bif Nat.beq pc 94 then some (.ixor, 95, 0) else none))) else (bif Nat.ble pc 96 then (bif Nat.ble pc 95 then (bif Nat.beq pc 95 then some (.iand, 96, 0) else none) else (bif Nat.beq pc 96 then some (.istore 13, 98, 0) else none)) else (bif Nat.ble pc 98 then (bif Nat.beq pc 98 then some (.iload 8, 100, 0) else none) else (bif Nat.beq pc 100 then some (.iload 13, 102, 0) else none)))
def dec_0_8 (pc : Nat) : Option (Instr × Nat × Nat) := bif Nat.ble pc 109 then (bif Nat.ble pc 104 then (bif Nat.ble pc 102 then (bif Nat.beq pc 102 then some (.iload 4, 104, 0) else none) else (bif Nat.beq pc 104 then some (.iload 9, 106, 0) else none)) else (bif Nat.ble pc 106 then (bif Nat.beq pc 106 then some (.invokestatic 8, 109, 0) else none) else (bif Nat.beq pc 109 then some (.lstore 14, 111, 0) else none))) else (bif Nat.ble pc 113 then (bif Nat.ble pc 111 then (bif Nat.beq pc 111 then some (.lload 14, 113, 0) else none) else (bif Nat.beq pc 113 then some (.iload 12, 115, 0) else none)) else (bif Nat.ble pc 115 then (bif Nat.beq pc 115 then some (.iload 4, 117, 0) else none) else (bif Nat.beq pc 117 then some (.iload 9, 119, 0) else none)))
def dec_0_9 (pc : Nat) : Option (Instr × Nat × Nat) := bif Nat.ble pc 126 then (bif Nat.ble pc 122 then (bif Nat.ble pc 119 then (bif Nat.beq pc 119 then some (.invokestatic 14, 122, 0) else none) else (bif Nat.beq pc 122 then some (.lcmp, 123, 0) else none)) else (bif Nat.ble pc 123 then (bif Nat.beq pc 123 then some (.ifCond .ne 7, 126, 130) else none) else (bif Nat.beq pc 126 then some (.iconst 1, 127, 0) else none))) else (bif Nat.ble pc 130 then (bif Nat.ble pc 127 then (bif Nat.beq pc 127 then some (.goto 4, 130, 131) else none) else (bif Nat.beq pc 130 then some (.iconst 0, 131, 0) else none)) else (bif Nat.ble pc 131 then (bif Nat.beq pc 131 then some (.ireturn, 132, 0) else none) else (bif Nat.beq pc 132 then some (.iconst 1, 133, 0) else none)))
def dec_0_10 (pc : Nat) : Option (Instr × Nat × Nat) := bif Nat.ble pc 137 then (bif Nat.ble pc 134 then (bif Nat.ble pc 133 then (bif Nat.beq pc 133 then some (.iload_n 1, 134, 0) else none) else (bif Nat.beq pc 134 then some (.ldc 7, 136, 0) else none)) else (bif Nat.ble pc 136 then (bif Nat.beq pc 136 then some (.iand, 137, 0) else none) else (bif Nat.beq pc 137 then some (.bipush 10, 139, 0) else none))) else (bif Nat.ble pc 140 then (bif Nat.ble pc 139 then (bif Nat.beq pc 139 then some (.irem, 140, 0) else none) else (bif Nat.beq pc 140 then some (.iadd, 141, 0) else none)) else (bif Nat.ble pc 141 then (bif Nat.beq pc 141 then some (.istore 7, 143, 0) else none) else (bif Nat.beq pc 143 then some (.iconst 1, 144, 0) else none)))
def dec_0_11 (pc : Nat) : Option (Instr × Nat × Nat) := bif Nat.ble pc 148 then (bif Nat.ble pc 146 then (bif Nat.ble pc 144 then (bif Nat.beq pc 144 then some (.iload 7, 146, 0) else none) else (bif Nat.beq pc 146 then some (.ishl, 147, 0) else none)) else (bif Nat.ble pc 147 then (bif Nat.beq pc 147 then some (.iconst 1, 148, 0) else none) else (bif Nat.beq pc 148 then some (.isub, 149, 0) else none))) else (bif Nat.ble pc 151 then (bif Nat.ble pc 149 then (bif Nat.beq pc 149 then some (.istore 8, 151, 0) else none) else (bif Nat.beq pc 151 then some (.iload 6, 153, 0) else none)) else (bif Nat.ble pc 153 then (bif Nat.beq pc 153 then some (.iconst 3, 154, 0) else none) else (bif Nat.beq pc 154 then some (.if_icmp .ne 74, 157, 228) else none)))
def dec_0_12 (pc : Nat) : Option (Instr × Nat × Nat) := bif Nat.ble pc 161 then (bif Nat.ble pc 158 then (bif Nat.ble pc 157 then (bif Nat.beq pc 157 then some (.iload_n 2, 158, 0) else none) else (bif Nat.beq pc 158 then some (.iload 8, 160, 0) else none)) else (bif Nat.ble pc 160 then (bif Nat.beq pc 160 then some (.iand, 161, 0) else none) else (bif Nat.beq pc 161 then some (.istore 9, 163, 0) else none))) else (bif Nat.ble pc 165 then (bif Nat.ble pc 163 then (bif Nat.beq pc 163 then some (.iload 5, 165, 0) else none) else (bif Nat.beq pc 165 then some (.iload 8, 167, 0) else none)) else (bif Nat.ble pc 167 then (bif Nat.beq pc 167 then some (.iand, 168, 0) else none) else (bif Nat.beq pc 168 then some (.istore 10, 170, 0) else none)))
def dec_0_13 (pc : Nat) : Option (Instr × Nat × Nat) := bif Nat.ble pc 176 then (bif Nat.ble pc 172 then (bif Nat.ble pc 170 then (bif Nat.beq pc 170 then some (.iload 8, 172, 0) else none) else (bif Nat.beq pc 172 then some (.iload 9, 174, 0) else none)) else (bif Nat.ble pc 174 then (bif Nat.beq pc 174 then some (.iload 4, 176, 0) else none) else (bif Nat.beq pc 176 then some (.iload 10, 178, 0) else none))) else (bif Nat.ble pc 181 then (bif Nat.ble pc 178 then (bif Nat.beq pc 178 then some (.invokestatic 8, 181, 0) else none) else (bif Nat.beq pc 181 then some (.lstore 11, 183, 0) else none)) else (bif Nat.ble pc 183 then (bif Nat.beq pc 183 then some (.iload 8, 185, 0) else none) else (bif Nat.beq pc 185 then some (.iload 9, 187, 0) else none)))
def dec_0_14 (pc : Nat) : Option (Instr × Nat × Nat) := bif Nat.ble pc 194 then (bif Nat.ble pc 189 then (bif Nat.ble pc 187 then (bif Nat.beq pc 187 then some (.iload 7, 189, 0) else none) else (bif Nat.beq pc 189 then some (.invokestatic 20, 192, 0) else none)) else (bif Nat.ble pc 192 then (bif Nat.beq pc 192 then some (.iload 10, 194, 0) else none) else (bif Nat.beq pc 194 then some (.iload 7, 196, 0) else none))) else (bif Nat.ble pc 199 then (bif Nat.ble pc 196 then (bif Nat.beq pc 196 then some (.invokestatic 20, 199, 0) else none) else (bif Nat.beq pc 199 then some (.iload 4, 201, 0) else none)) else (bif Nat.ble pc 201 then (bif Nat.beq pc 201 then some (.iload 8, 203, 0) else none) else (bif Nat.beq pc 203 then some (.iand, 204, 0) else none)))
def dec_0_15 (pc : Nat) : Option (Instr × Nat × Nat) := bif Nat.ble pc 212 then (bif Nat.ble pc 206 then (bif Nat.ble pc 204 then (bif Nat.beq pc 204 then some (.iload 7, 206, 0) else none) else (bif Nat.beq pc 206 then some (.invokestatic 20, 209, 0) else none)) else (bif Nat.ble pc 209 then (bif Nat.beq pc 209 then some (.invokestatic 8, 212, 0) else none) else (bif Nat.beq pc 212 then some (.lstore 13, 214, 0) else none))) else (bif Nat.ble pc 216 then (bif Nat.ble pc 214 then (bif Nat.beq pc 214 then some (.lload 11, 216, 0) else none) else (bif Nat.beq pc 216 then some (.lload 13, 218, 0) else none)) else (bif Nat.ble pc 218 then (bif Nat.beq pc 218 then some (.lcmp, 219, 0) else none) else (bif Nat.beq pc 219 then some (.ifCond .ne 7, 222, 226) else none)))
def dec_0_16 (pc : Nat) : Option (Instr × Nat × Nat) := bif Nat.ble pc 227 then (bif Nat.ble pc 223 then (bif Nat.ble pc 222 then (bif Nat.beq pc 222 then some (.iconst 1, 223, 0) else none) else (bif Nat.beq pc 223 then some (.goto 4, 226, 227) else none)) else (bif Nat.ble pc 226 then (bif Nat.beq pc 226 then some (.iconst 0, 227, 0) else none) else (bif Nat.beq pc 227 then some (.ireturn, 228, 0) else none))) else (bif Nat.ble pc 230 then (bif Nat.ble pc 228 then (bif Nat.beq pc 228 then some (.bipush 10, 230, 0) else none) else (bif Nat.beq pc 230 then some (.newarray .long, 232, 0) else none)) else (bif Nat.ble pc 232 then (bif Nat.beq pc 232 then some (.dup, 233, 0) else none) else (bif Nat.beq pc 233 then some (.iconst 0, 234, 0) else none)))
def dec_0_17 (pc : Nat) : Option (Instr × Nat × Nat) := bif Nat.ble pc 237 then (bif Nat.ble pc 235 then (bif Nat.ble pc 234 then (bif Nat.beq pc 234 then some (.lconst 1, 235, 0) else none) else (bif Nat.beq pc 235 then some (.lastore, 236, 0) else none)) else (bif Nat.ble pc 236 then (bif Nat.beq pc 236 then some (.dup, 237, 0) else none) else (bif Nat.beq pc 237 then some (.iconst 1, 238, 0) else none))) else (bif Nat.ble pc 239 then (bif Nat.ble pc 238 then (bif Nat.beq pc 238 then some (.lconst 0, 239, 0) else none) else (bif Nat.beq pc 239 then some (.lastore, 240, 0) else none)) else (bif Nat.ble pc 240 then (bif Nat.beq pc 240 then some (.dup, 241, 0) else none) else (bif Nat.beq pc 241 then some (.iconst 2, 242, 0) else none)))
def dec_0_18 (pc : Nat) : Option (Instr × Nat × Nat) := bif Nat.ble pc 245 then (bif Nat.ble pc 243 then (bif Nat.ble pc 242 then (bif Nat.beq pc 242 then some (.lconst 0, 243, 0) else none) else (bif Nat.beq pc 243 then some (.lastore, 244, 0) else none)) else (bif Nat.ble pc 244 then (bif Nat.beq pc 244 then some (.dup, 245, 0) else none) else (bif Nat.beq pc 245 then some (.iconst 3, 246, 0) else none))) else (bif Nat.ble pc 249 then (bif Nat.ble pc 246 then (bif Nat.beq pc 246 then some (.ldc2_w 24, 249, 0) else none) else (bif Nat.beq pc 249 then some (.lastore, 250, 0) else none)) else (bif Nat.ble pc 250 then (bif Nat.beq pc 250 then some (.dup, 251, 0) else none) else (bif Nat.beq pc 251 then some (.iconst 4, 252, 0) else none)))
def dec_0_19 (pc : Nat) : Option (Instr × Nat × Nat) := bif Nat.ble pc 257 then (bif Nat.ble pc 255 then (bif Nat.ble pc 252 then (bif Nat.beq pc 252 then some (.ldc2_w 26, 255, 0) else none) else (bif Nat.beq pc 255 then some (.lastore, 256, 0) else none)) else (bif Nat.ble pc 256 then (bif Nat.beq pc 256 then some (.dup, 257, 0) else none) else (bif Nat.beq pc 257 then some (.iconst 5, 258, 0) else none))) else (bif Nat.ble pc 261 then (bif Nat.ble pc 258 then (bif Nat.beq pc 258 then some (.ldc2_w 28, 261, 0) else none) else (bif Nat.beq pc 261 then some (.lastore, 262, 0) else none)) else (bif Nat.ble pc 262 then (bif Nat.beq pc 262 then some (.dup, 263, 0) else none) else (bif Nat.beq pc 263 then some (.bipush 6, 265, 0) else none)))
def dec_0_20 (pc : Nat) : Option (Instr × Nat × Nat) := bif Nat.ble pc 270 then (bif Nat.ble pc 268 then (bif Nat.ble pc 265 then (bif Nat.beq pc 265 then some (.ldc2_w 30, 268, 0) else none) else (bif Nat.beq pc 268 then some (.lastore, 269, 0) else none)) else (bif Nat.ble pc 269 then (bif Nat.beq pc 269 then some (.dup, 270, 0) else none) else (bif Nat.beq pc 270 then some (.bipush 7, 272, 0) else none))) else (bif Nat.ble pc 275 then (bif Nat.ble pc 272 then (bif Nat.beq pc 272 then some (.ldc2_w 32, 275, 0) else none) else (bif Nat.beq pc 275 then some (.lastore, 276, 0) else none)) else (bif Nat.ble pc 276 then (bif Nat.beq pc 276 then some (.dup, 277, 0) else none) else (bif Nat.beq pc 277 then some (.bipush 8, 279, 0) else none)))
def dec_0_21 (pc : Nat) : Option (Instr × Nat × Nat) := bif Nat.ble pc 284 then (bif Nat.ble pc 282 then (bif Nat.ble pc 279 then (bif Nat.beq pc 279 then some (.ldc2_w 34, 282, 0) else none) else (bif Nat.beq pc 282 then some (.lastore, 283, 0) else none)) else (bif Nat.ble pc 283 then (bif Nat.beq pc 283 then some (.dup, 284, 0) else none) else (bif Nat.beq pc 284 then some (.bipush 9, 286, 0) else none))) else (bif Nat.ble pc 289 then (bif Nat.ble pc 286 then (bif Nat.beq pc 286 then some (.ldc2_w 36, 289, 0) else none) else (bif Nat.beq pc 289 then some (.lastore, 290, 0) else none)) else (bif Nat.ble pc 290 then (bif Nat.beq pc 290 then some (.astore 9, 292, 0) else none) else (bif Nat.beq pc 292 then some (.iload 8, 294, 0) else none)))
def dec_0_22 (pc : Nat) : Option (Instr × Nat × Nat) := bif Nat.ble pc 297 then (bif Nat.ble pc 295 then (bif Nat.ble pc 294 then (bif Nat.beq pc 294 then some (.iconst 0, 295, 0) else none) else (bif Nat.beq pc 295 then some (.iconst 0, 296, 0) else none)) else (bif Nat.ble pc 296 then (bif Nat.beq pc 296 then some (.iconst 0, 297, 0) else none) else (bif Nat.beq pc 297 then some (.invokestatic 8, 300, 0) else none))) else (bif Nat.ble pc 302 then (bif Nat.ble pc 300 then (bif Nat.beq pc 300 then some (.aload 9, 302, 0) else none) else (bif Nat.beq pc 302 then some (.iload 7, 304, 0) else none)) else (bif Nat.ble pc 304 then (bif Nat.beq pc 304 then some (.iconst 1, 305, 0) else none) else (bif Nat.beq pc 305 then some (.isub, 306, 0) else none)))
def dec_0_23 (pc : Nat) : Option (Instr × Nat × Nat) := bif Nat.ble pc 308 then (bif Nat.ble pc 306 then (bif Nat.beq pc 306 then some (.laload, 307, 0) else none) else (bif Nat.ble pc 307 then (bif Nat.beq pc 307 then some (.lcmp, 308, 0) else none) else (bif Nat.beq pc 308 then some (.ifCond .ne 7, 311, 315) else none))) else (bif Nat.ble pc 312 then (bif Nat.ble pc 311 then (bif Nat.beq pc 311 then some (.iconst 1, 312, 0) else none) else (bif Nat.beq pc 312 then some (.goto 4, 315, 316) else none)) else (bif Nat.ble pc 315 then (bif Nat.beq pc 315 then some (.iconst 0, 316, 0) else none) else (bif Nat.beq pc 316 then some (.ireturn, 317, 0) else none)))
def dec_0 (pc : Nat) : Option (Instr × Nat × Nat) := bif Nat.ble pc 154 then (bif Nat.ble pc 71 then (bif Nat.ble pc 33 then (bif Nat.ble pc 10 then (dec_0_0 pc) else (bif Nat.ble pc 22 then (dec_0_1 pc) else (dec_0_2 pc))) else (bif Nat.ble pc 45 then (dec_0_3 pc) else (bif Nat.ble pc 56 then (dec_0_4 pc) else (dec_0_5 pc)))) else (bif Nat.ble pc 117 then (bif Nat.ble pc 87 then (dec_0_6 pc) else (bif Nat.ble pc 100 then (dec_0_7 pc) else (dec_0_8 pc))) else (bif Nat.ble pc 132 then (dec_0_9 pc) else (bif Nat.ble pc 143 then (dec_0_10 pc) else (dec_0_11 pc))))) else (bif Nat.ble pc 241 then (bif Nat.ble pc 203 then (bif Nat.ble pc 168 then (dec_0_12 pc) else (bif Nat.ble pc 185 then (dec_0_13 pc) else (dec_0_14 pc))) else (bif Nat.ble pc 219 then (dec_0_15 pc) else (bif Nat.ble pc 233 then (dec_0_16 pc) else (dec_0_17 pc)))) else (bif Nat.ble pc 277 then (bif Nat.ble pc 251 then (dec_0_18 pc) else (bif Nat.ble pc 263 then (dec_0_19 pc) else (dec_0_20 pc))) else (bif Nat.ble pc 292 then (dec_0_21 pc) else (bif Nat.ble pc 305 then (dec_0_22 pc) else (dec_0_23 pc)))))
def m_0 : RI.Mth := (x, code, maxLocals, ret, 6, 317, dec_0, [(7, (2147483647 : Int32))], [(24, (2 : Int64)), (26, (10 : Int64)), (28, (4 : Int64)), (30, (40 : Int64)), (32, (92 : Int64)), (34, (352 : Int64)), (36, (724 : Int64))], [], [(8, 0, 1, 0, (⟨"com/example/postwire/postwire/NQueensExample", "solutions", "(IIII)J"⟩ : MethodName)), (14, 0, 2, 0, (⟨"com/example/postwire/postwire/NQueensExampleSolutionsPinLaw", "expectedFew", "(III)J"⟩ : MethodName)), (20, 0, 3, 0, (⟨"com/example/postwire/postwire/NQueensExampleSolutionsPinLaw", "rev", "(II)I"⟩ : MethodName))], [])
def dec_1_0 (pc : Nat) : Option (Instr × Nat × Nat) := bif Nat.ble pc 5 then (bif Nat.ble pc 1 then (bif Nat.ble pc 0 then (bif Nat.beq pc 0 then some (.iload_n 1, 1, 0) else none) else (bif Nat.beq pc 1 then some (.iload_n 0, 2, 0) else none)) else (bif Nat.ble pc 2 then (bif Nat.beq pc 2 then some (.if_icmp .ne 5, 5, 7) else none) else (bif Nat.beq pc 5 then some (.lconst 1, 6, 0) else none))) else (bif Nat.ble pc 7 then (bif Nat.ble pc 6 then (bif Nat.beq pc 6 then some (.lreturn, 7, 0) else none) else (bif Nat.beq pc 7 then some (.lconst 0, 8, 0) else none)) else (bif Nat.ble pc 8 then (bif Nat.beq pc 8 then some (.lstore 4, 10, 0) else none) else (bif Nat.beq pc 10 then some (.iload_n 0, 11, 0) else none)))
def dec_1_1 (pc : Nat) : Option (Instr × Nat × Nat) := bif Nat.ble pc 14 then (bif Nat.ble pc 12 then (bif Nat.ble pc 11 then (bif Nat.beq pc 11 then some (.iload_n 1, 12, 0) else none) else (bif Nat.beq pc 12 then some (.iload_n 2, 13, 0) else none)) else (bif Nat.ble pc 13 then (bif Nat.beq pc 13 then some (.ior, 14, 0) else none) else (bif Nat.beq pc 14 then some (.iload_n 3, 15, 0) else none))) else (bif Nat.ble pc 16 then (bif Nat.ble pc 15 then (bif Nat.beq pc 15 then some (.ior, 16, 0) else none) else (bif Nat.beq pc 16 then some (.iconst (-1), 17, 0) else none)) else (bif Nat.ble pc 17 then (bif Nat.beq pc 17 then some (.ixor, 18, 0) else none) else (bif Nat.beq pc 18 then some (.iand, 19, 0) else none)))
def dec_1_2 (pc : Nat) : Option (Instr × Nat × Nat) := bif Nat.ble pc 26 then (bif Nat.ble pc 21 then (bif Nat.ble pc 19 then (bif Nat.beq pc 19 then some (.istore 6, 21, 0) else none) else (bif Nat.beq pc 21 then some (.iload 6, 23, 0) else none)) else (bif Nat.ble pc 23 then (bif Nat.beq pc 23 then some (.ifCond .eq 46, 26, 69) else none) else (bif Nat.beq pc 26 then some (.iload 6, 28, 0) else none))) else (bif Nat.ble pc 30 then (bif Nat.ble pc 28 then (bif Nat.beq pc 28 then some (.iload 6, 30, 0) else none) else (bif Nat.beq pc 30 then some (.ineg, 31, 0) else none)) else (bif Nat.ble pc 31 then (bif Nat.beq pc 31 then some (.iand, 32, 0) else none) else (bif Nat.beq pc 32 then some (.istore 7, 34, 0) else none)))
def dec_1_3 (pc : Nat) : Option (Instr × Nat × Nat) := bif Nat.ble pc 39 then (bif Nat.ble pc 36 then (bif Nat.ble pc 34 then (bif Nat.beq pc 34 then some (.iload 6, 36, 0) else none) else (bif Nat.beq pc 36 then some (.iload 7, 38, 0) else none)) else (bif Nat.ble pc 38 then (bif Nat.beq pc 38 then some (.ixor, 39, 0) else none) else (bif Nat.beq pc 39 then some (.istore 6, 41, 0) else none))) else (bif Nat.ble pc 43 then (bif Nat.ble pc 41 then (bif Nat.beq pc 41 then some (.lload 4, 43, 0) else none) else (bif Nat.beq pc 43 then some (.iload_n 0, 44, 0) else none)) else (bif Nat.ble pc 44 then (bif Nat.beq pc 44 then some (.iload_n 1, 45, 0) else none) else (bif Nat.beq pc 45 then some (.iload 7, 47, 0) else none)))
def dec_1_4 (pc : Nat) : Option (Instr × Nat × Nat) := bif Nat.ble pc 51 then (bif Nat.ble pc 48 then (bif Nat.ble pc 47 then (bif Nat.beq pc 47 then some (.ior, 48, 0) else none) else (bif Nat.beq pc 48 then some (.iload_n 2, 49, 0) else none)) else (bif Nat.ble pc 49 then (bif Nat.beq pc 49 then some (.iload 7, 51, 0) else none) else (bif Nat.beq pc 51 then some (.ior, 52, 0) else none))) else (bif Nat.ble pc 53 then (bif Nat.ble pc 52 then (bif Nat.beq pc 52 then some (.iconst 1, 53, 0) else none) else (bif Nat.beq pc 53 then some (.ishl, 54, 0) else none)) else (bif Nat.ble pc 54 then (bif Nat.beq pc 54 then some (.iload_n 3, 55, 0) else none) else (bif Nat.beq pc 55 then some (.iload 7, 57, 0) else none)))
def dec_1_5 (pc : Nat) : Option (Instr × Nat × Nat) := bif Nat.ble pc 60 then (bif Nat.ble pc 58 then (bif Nat.ble pc 57 then (bif Nat.beq pc 57 then some (.ior, 58, 0) else none) else (bif Nat.beq pc 58 then some (.iconst 1, 59, 0) else none)) else (bif Nat.ble pc 59 then (bif Nat.beq pc 59 then some (.iushr, 60, 0) else none) else (bif Nat.beq pc 60 then some (.invokestatic 122, 63, 0) else none))) else (bif Nat.ble pc 64 then (bif Nat.ble pc 63 then (bif Nat.beq pc 63 then some (.ladd, 64, 0) else none) else (bif Nat.beq pc 64 then some (.lstore 4, 66, 0) else none)) else (bif Nat.ble pc 66 then (bif Nat.beq pc 66 then some (.goto (-45), 69, 21) else none) else (bif Nat.beq pc 69 then some (.lload 4, 71, 0) else none)))
def dec_1_6 (pc : Nat) : Option (Instr × Nat × Nat) := bif Nat.beq pc 71 then some (.lreturn, 72, 0) else none
def dec_1 (pc : Nat) : Option (Instr × Nat × Nat) := bif Nat.ble pc 32 then (bif Nat.ble pc 10 then (dec_1_0 pc) else (bif Nat.ble pc 18 then (dec_1_1 pc) else (dec_1_2 pc))) else (bif Nat.ble pc 55 then (bif Nat.ble pc 45 then (dec_1_3 pc) else (dec_1_4 pc)) else (bif Nat.ble pc 69 then (dec_1_5 pc) else (dec_1_6 pc)))
def m_1 : RI.Mth := ((⟨"com/example/postwire/postwire/NQueensExample", "solutions", "(IIII)J"⟩ : MethodName), prog_137_method_10_code, 8, (some .long), 4, 72, dec_1, [], [], [], [(122, 0, 1, 0, (⟨"com/example/postwire/postwire/NQueensExample", "solutions", "(IIII)J"⟩ : MethodName))], [])
def dec_2_0 (pc : Nat) : Option (Instr × Nat × Nat) := bif Nat.ble pc 5 then (bif Nat.ble pc 1 then (bif Nat.ble pc 0 then (bif Nat.beq pc 0 then some (.iload_n 0, 1, 0) else none) else (bif Nat.beq pc 1 then some (.ifCond .ne 5, 4, 6) else none)) else (bif Nat.ble pc 4 then (bif Nat.beq pc 4 then some (.lconst 1, 5, 0) else none) else (bif Nat.beq pc 5 then some (.lreturn, 6, 0) else none))) else (bif Nat.ble pc 7 then (bif Nat.ble pc 6 then (bif Nat.beq pc 6 then some (.iload_n 0, 7, 0) else none) else (bif Nat.beq pc 7 then some (.iload_n 0, 8, 0) else none)) else (bif Nat.ble pc 8 then (bif Nat.beq pc 8 then some (.ineg, 9, 0) else none) else (bif Nat.beq pc 9 then some (.iand, 10, 0) else none)))
def dec_2_1 (pc : Nat) : Option (Instr × Nat × Nat) := bif Nat.ble pc 13 then (bif Nat.ble pc 11 then (bif Nat.ble pc 10 then (bif Nat.beq pc 10 then some (.istore_n 3, 11, 0) else none) else (bif Nat.beq pc 11 then some (.iload_n 0, 12, 0) else none)) else (bif Nat.ble pc 12 then (bif Nat.beq pc 12 then some (.iload_n 3, 13, 0) else none) else (bif Nat.beq pc 13 then some (.ixor, 14, 0) else none))) else (bif Nat.ble pc 16 then (bif Nat.ble pc 14 then (bif Nat.beq pc 14 then some (.istore 4, 16, 0) else none) else (bif Nat.beq pc 16 then some (.iload 4, 18, 0) else none)) else (bif Nat.ble pc 18 then (bif Nat.beq pc 18 then some (.ifCond .ne 17, 21, 35) else none) else (bif Nat.beq pc 21 then some (.iload_n 3, 22, 0) else none)))
def dec_2_2 (pc : Nat) : Option (Instr × Nat × Nat) := bif Nat.ble pc 25 then (bif Nat.ble pc 23 then (bif Nat.ble pc 22 then (bif Nat.beq pc 22 then some (.iload_n 1, 23, 0) else none) else (bif Nat.beq pc 23 then some (.iload_n 2, 24, 0) else none)) else (bif Nat.ble pc 24 then (bif Nat.beq pc 24 then some (.ior, 25, 0) else none) else (bif Nat.beq pc 25 then some (.iand, 26, 0) else none))) else (bif Nat.ble pc 29 then (bif Nat.ble pc 26 then (bif Nat.beq pc 26 then some (.ifCond .ne 7, 29, 33) else none) else (bif Nat.beq pc 29 then some (.lconst 1, 30, 0) else none)) else (bif Nat.ble pc 30 then (bif Nat.beq pc 30 then some (.goto 4, 33, 34) else none) else (bif Nat.beq pc 33 then some (.lconst 0, 34, 0) else none)))
def dec_2_3 (pc : Nat) : Option (Instr × Nat × Nat) := bif Nat.ble pc 38 then (bif Nat.ble pc 35 then (bif Nat.ble pc 34 then (bif Nat.beq pc 34 then some (.lreturn, 35, 0) else none) else (bif Nat.beq pc 35 then some (.iload 4, 37, 0) else none)) else (bif Nat.ble pc 37 then (bif Nat.beq pc 37 then some (.iload_n 3, 38, 0) else none) else (bif Nat.beq pc 38 then some (.iconst 1, 39, 0) else none))) else (bif Nat.ble pc 40 then (bif Nat.ble pc 39 then (bif Nat.beq pc 39 then some (.ishl, 40, 0) else none) else (bif Nat.beq pc 40 then some (.if_icmp .ne 5, 43, 45) else none)) else (bif Nat.ble pc 43 then (bif Nat.beq pc 43 then some (.lconst 0, 44, 0) else none) else (bif Nat.beq pc 44 then some (.lreturn, 45, 0) else none)))
def dec_2_4 (pc : Nat) : Option (Instr × Nat × Nat) := bif Nat.ble pc 48 then (bif Nat.ble pc 46 then (bif Nat.ble pc 45 then (bif Nat.beq pc 45 then some (.iload_n 1, 46, 0) else none) else (bif Nat.beq pc 46 then some (.iload_n 2, 47, 0) else none)) else (bif Nat.ble pc 47 then (bif Nat.beq pc 47 then some (.ior, 48, 0) else none) else (bif Nat.beq pc 48 then some (.istore 5, 50, 0) else none))) else (bif Nat.ble pc 51 then (bif Nat.ble pc 50 then (bif Nat.beq pc 50 then some (.iload_n 1, 51, 0) else none) else (bif Nat.beq pc 51 then some (.iconst 1, 52, 0) else none)) else (bif Nat.ble pc 52 then (bif Nat.beq pc 52 then some (.ishl, 53, 0) else none) else (bif Nat.beq pc 53 then some (.iload_n 2, 54, 0) else none)))
def dec_2_5 (pc : Nat) : Option (Instr × Nat × Nat) := bif Nat.ble pc 57 then (bif Nat.ble pc 55 then (bif Nat.ble pc 54 then (bif Nat.beq pc 54 then some (.iconst 1, 55, 0) else none) else (bif Nat.beq pc 55 then some (.iushr, 56, 0) else none)) else (bif Nat.ble pc 56 then (bif Nat.beq pc 56 then some (.ior, 57, 0) else none) else (bif Nat.beq pc 57 then some (.istore 6, 59, 0) else none))) else (bif Nat.ble pc 60 then (bif Nat.ble pc 59 then (bif Nat.beq pc 59 then some (.lconst 0, 60, 0) else none) else (bif Nat.beq pc 60 then some (.lstore 7, 62, 0) else none)) else (bif Nat.ble pc 62 then (bif Nat.beq pc 62 then some (.iload_n 3, 63, 0) else none) else (bif Nat.beq pc 63 then some (.iload 5, 65, 0) else none)))
def dec_2_6 (pc : Nat) : Option (Instr × Nat × Nat) := bif Nat.ble pc 71 then (bif Nat.ble pc 66 then (bif Nat.ble pc 65 then (bif Nat.beq pc 65 then some (.iand, 66, 0) else none) else (bif Nat.beq pc 66 then some (.ifCond .ne 17, 69, 83) else none)) else (bif Nat.ble pc 69 then (bif Nat.beq pc 69 then some (.iload 4, 71, 0) else none) else (bif Nat.beq pc 71 then some (.iload 6, 73, 0) else none))) else (bif Nat.ble pc 74 then (bif Nat.ble pc 73 then (bif Nat.beq pc 73 then some (.iand, 74, 0) else none) else (bif Nat.beq pc 74 then some (.ifCond .ne 9, 77, 83) else none)) else (bif Nat.ble pc 77 then (bif Nat.beq pc 77 then some (.lload 7, 79, 0) else none) else (bif Nat.beq pc 79 then some (.lconst 1, 80, 0) else none)))
def dec_2_7 (pc : Nat) : Option (Instr × Nat × Nat) := bif Nat.ble pc 85 then (bif Nat.ble pc 81 then (bif Nat.ble pc 80 then (bif Nat.beq pc 80 then some (.ladd, 81, 0) else none) else (bif Nat.beq pc 81 then some (.lstore 7, 83, 0) else none)) else (bif Nat.ble pc 83 then (bif Nat.beq pc 83 then some (.iload 4, 85, 0) else none) else (bif Nat.beq pc 85 then some (.iload 5, 87, 0) else none))) else (bif Nat.ble pc 88 then (bif Nat.ble pc 87 then (bif Nat.beq pc 87 then some (.iand, 88, 0) else none) else (bif Nat.beq pc 88 then some (.ifCond .ne 16, 91, 104) else none)) else (bif Nat.ble pc 91 then (bif Nat.beq pc 91 then some (.iload_n 3, 92, 0) else none) else (bif Nat.beq pc 92 then some (.iload 6, 94, 0) else none)))
def dec_2_8 (pc : Nat) : Option (Instr × Nat × Nat) := bif Nat.ble pc 100 then (bif Nat.ble pc 95 then (bif Nat.ble pc 94 then (bif Nat.beq pc 94 then some (.iand, 95, 0) else none) else (bif Nat.beq pc 95 then some (.ifCond .ne 9, 98, 104) else none)) else (bif Nat.ble pc 98 then (bif Nat.beq pc 98 then some (.lload 7, 100, 0) else none) else (bif Nat.beq pc 100 then some (.lconst 1, 101, 0) else none))) else (bif Nat.ble pc 102 then (bif Nat.ble pc 101 then (bif Nat.beq pc 101 then some (.ladd, 102, 0) else none) else (bif Nat.beq pc 102 then some (.lstore 7, 104, 0) else none)) else (bif Nat.ble pc 104 then (bif Nat.beq pc 104 then some (.lload 7, 106, 0) else none) else (bif Nat.beq pc 106 then some (.lreturn, 107, 0) else none)))
def dec_2 (pc : Nat) : Option (Instr × Nat × Nat) := bif Nat.ble pc 44 then (bif Nat.ble pc 21 then (bif Nat.ble pc 9 then (dec_2_0 pc) else (dec_2_1 pc)) else (bif Nat.ble pc 33 then (dec_2_2 pc) else (dec_2_3 pc))) else (bif Nat.ble pc 63 then (bif Nat.ble pc 53 then (dec_2_4 pc) else (dec_2_5 pc)) else (bif Nat.ble pc 79 then (dec_2_6 pc) else (bif Nat.ble pc 92 then (dec_2_7 pc) else (dec_2_8 pc))))
def m_2 : RI.Mth := ((⟨"com/example/postwire/postwire/NQueensExampleSolutionsPinLaw", "expectedFew", "(III)J"⟩ : MethodName), method_3_code, 9, (some .long), 3, 107, dec_2, [], [], [], [], [])
def dec_3_0 (pc : Nat) : Option (Instr × Nat × Nat) := bif Nat.ble pc 3 then (bif Nat.ble pc 1 then (bif Nat.ble pc 0 then (bif Nat.beq pc 0 then some (.iload_n 0, 1, 0) else none) else (bif Nat.beq pc 1 then some (.iconst 1, 2, 0) else none)) else (bif Nat.ble pc 2 then (bif Nat.beq pc 2 then some (.iushr, 3, 0) else none) else (bif Nat.beq pc 3 then some (.ldc 38, 5, 0) else none))) else (bif Nat.ble pc 6 then (bif Nat.ble pc 5 then (bif Nat.beq pc 5 then some (.iand, 6, 0) else none) else (bif Nat.beq pc 6 then some (.iload_n 0, 7, 0) else none)) else (bif Nat.ble pc 7 then (bif Nat.beq pc 7 then some (.ldc 38, 9, 0) else none) else (bif Nat.beq pc 9 then some (.iand, 10, 0) else none)))
def dec_3_1 (pc : Nat) : Option (Instr × Nat × Nat) := bif Nat.ble pc 13 then (bif Nat.ble pc 11 then (bif Nat.ble pc 10 then (bif Nat.beq pc 10 then some (.iconst 1, 11, 0) else none) else (bif Nat.beq pc 11 then some (.ishl, 12, 0) else none)) else (bif Nat.ble pc 12 then (bif Nat.beq pc 12 then some (.ior, 13, 0) else none) else (bif Nat.beq pc 13 then some (.istore_n 0, 14, 0) else none))) else (bif Nat.ble pc 15 then (bif Nat.ble pc 14 then (bif Nat.beq pc 14 then some (.iload_n 0, 15, 0) else none) else (bif Nat.beq pc 15 then some (.iconst 2, 16, 0) else none)) else (bif Nat.ble pc 16 then (bif Nat.beq pc 16 then some (.iushr, 17, 0) else none) else (bif Nat.beq pc 17 then some (.ldc 39, 19, 0) else none)))
def dec_3_2 (pc : Nat) : Option (Instr × Nat × Nat) := bif Nat.ble pc 23 then (bif Nat.ble pc 20 then (bif Nat.ble pc 19 then (bif Nat.beq pc 19 then some (.iand, 20, 0) else none) else (bif Nat.beq pc 20 then some (.iload_n 0, 21, 0) else none)) else (bif Nat.ble pc 21 then (bif Nat.beq pc 21 then some (.ldc 39, 23, 0) else none) else (bif Nat.beq pc 23 then some (.iand, 24, 0) else none))) else (bif Nat.ble pc 25 then (bif Nat.ble pc 24 then (bif Nat.beq pc 24 then some (.iconst 2, 25, 0) else none) else (bif Nat.beq pc 25 then some (.ishl, 26, 0) else none)) else (bif Nat.ble pc 26 then (bif Nat.beq pc 26 then some (.ior, 27, 0) else none) else (bif Nat.beq pc 27 then some (.istore_n 0, 28, 0) else none)))
def dec_3_3 (pc : Nat) : Option (Instr × Nat × Nat) := bif Nat.ble pc 31 then (bif Nat.ble pc 29 then (bif Nat.ble pc 28 then (bif Nat.beq pc 28 then some (.iload_n 0, 29, 0) else none) else (bif Nat.beq pc 29 then some (.iconst 4, 30, 0) else none)) else (bif Nat.ble pc 30 then (bif Nat.beq pc 30 then some (.iushr, 31, 0) else none) else (bif Nat.beq pc 31 then some (.ldc 40, 33, 0) else none))) else (bif Nat.ble pc 34 then (bif Nat.ble pc 33 then (bif Nat.beq pc 33 then some (.iand, 34, 0) else none) else (bif Nat.beq pc 34 then some (.iload_n 0, 35, 0) else none)) else (bif Nat.ble pc 35 then (bif Nat.beq pc 35 then some (.ldc 40, 37, 0) else none) else (bif Nat.beq pc 37 then some (.iand, 38, 0) else none)))
def dec_3_4 (pc : Nat) : Option (Instr × Nat × Nat) := bif Nat.ble pc 41 then (bif Nat.ble pc 39 then (bif Nat.ble pc 38 then (bif Nat.beq pc 38 then some (.iconst 4, 39, 0) else none) else (bif Nat.beq pc 39 then some (.ishl, 40, 0) else none)) else (bif Nat.ble pc 40 then (bif Nat.beq pc 40 then some (.ior, 41, 0) else none) else (bif Nat.beq pc 41 then some (.istore_n 0, 42, 0) else none))) else (bif Nat.ble pc 43 then (bif Nat.ble pc 42 then (bif Nat.beq pc 42 then some (.iload_n 0, 43, 0) else none) else (bif Nat.beq pc 43 then some (.bipush 8, 45, 0) else none)) else (bif Nat.ble pc 45 then (bif Nat.beq pc 45 then some (.iushr, 46, 0) else none) else (bif Nat.beq pc 46 then some (.ldc 41, 48, 0) else none)))
def dec_3_5 (pc : Nat) : Option (Instr × Nat × Nat) := bif Nat.ble pc 52 then (bif Nat.ble pc 49 then (bif Nat.ble pc 48 then (bif Nat.beq pc 48 then some (.iand, 49, 0) else none) else (bif Nat.beq pc 49 then some (.iload_n 0, 50, 0) else none)) else (bif Nat.ble pc 50 then (bif Nat.beq pc 50 then some (.ldc 41, 52, 0) else none) else (bif Nat.beq pc 52 then some (.iand, 53, 0) else none))) else (bif Nat.ble pc 55 then (bif Nat.ble pc 53 then (bif Nat.beq pc 53 then some (.bipush 8, 55, 0) else none) else (bif Nat.beq pc 55 then some (.ishl, 56, 0) else none)) else (bif Nat.ble pc 56 then (bif Nat.beq pc 56 then some (.ior, 57, 0) else none) else (bif Nat.beq pc 57 then some (.istore_n 0, 58, 0) else none)))
def dec_3_6 (pc : Nat) : Option (Instr × Nat × Nat) := bif Nat.ble pc 62 then (bif Nat.ble pc 59 then (bif Nat.ble pc 58 then (bif Nat.beq pc 58 then some (.iload_n 0, 59, 0) else none) else (bif Nat.beq pc 59 then some (.bipush 16, 61, 0) else none)) else (bif Nat.ble pc 61 then (bif Nat.beq pc 61 then some (.iushr, 62, 0) else none) else (bif Nat.beq pc 62 then some (.iload_n 0, 63, 0) else none))) else (bif Nat.ble pc 65 then (bif Nat.ble pc 63 then (bif Nat.beq pc 63 then some (.bipush 16, 65, 0) else none) else (bif Nat.beq pc 65 then some (.ishl, 66, 0) else none)) else (bif Nat.ble pc 66 then (bif Nat.beq pc 66 then some (.ior, 67, 0) else none) else (bif Nat.beq pc 67 then some (.istore_n 0, 68, 0) else none)))
def dec_3_7 (pc : Nat) : Option (Instr × Nat × Nat) := bif Nat.ble pc 71 then (bif Nat.ble pc 68 then (bif Nat.beq pc 68 then some (.iload_n 0, 69, 0) else none) else (bif Nat.ble pc 69 then (bif Nat.beq pc 69 then some (.bipush 32, 71, 0) else none) else (bif Nat.beq pc 71 then some (.iload_n 1, 72, 0) else none))) else (bif Nat.ble pc 72 then (bif Nat.beq pc 72 then some (.isub, 73, 0) else none) else (bif Nat.ble pc 73 then (bif Nat.beq pc 73 then some (.iushr, 74, 0) else none) else (bif Nat.beq pc 74 then some (.ireturn, 75, 0) else none)))
def dec_3 (pc : Nat) : Option (Instr × Nat × Nat) := bif Nat.ble pc 37 then (bif Nat.ble pc 17 then (bif Nat.ble pc 9 then (dec_3_0 pc) else (dec_3_1 pc)) else (bif Nat.ble pc 27 then (dec_3_2 pc) else (dec_3_3 pc))) else (bif Nat.ble pc 57 then (bif Nat.ble pc 46 then (dec_3_4 pc) else (dec_3_5 pc)) else (bif Nat.ble pc 67 then (dec_3_6 pc) else (dec_3_7 pc)))
def m_3 : RI.Mth := ((⟨"com/example/postwire/postwire/NQueensExampleSolutionsPinLaw", "rev", "(II)I"⟩ : MethodName), method_4_code, 2, (some .int), 2, 75, dec_3, [(38, (1431655765 : Int32)), (39, (858993459 : Int32)), (40, (252645135 : Int32)), (41, (16711935 : Int32))], [], [], [], [])
def WW : RI.Wld := ([m_0, m_1, m_2, m_3], [])
def tab1 : List Jvm.Cond := Jvm.Cond.code x code maxLocals ret :: tables_1
set_option maxRecDepth 65536 in
theorem wok_1 : RI.wok WW tab1 = true := by decide +kernel
theorem no6_1 : (WW.1.all fun M => (RI.mMl M).all fun q => !Nat.beq q.2.1 6) = true := by decide +kernel
theorem pl_0 : plainFor (RI.mNm m_0) = true := plainFor_of_name (by first | (simp [RI.mNm, m_0, x, plainName, overriddenIn]; done) | decide +kernel)
theorem pl_1 : plainFor (RI.mNm m_1) = true := plainFor_of_name (by first | (simp [RI.mNm, m_1, x, plainName, overriddenIn]; done) | decide +kernel)
theorem pl_2 : plainFor (RI.mNm m_2) = true := plainFor_of_name (by first | (simp [RI.mNm, m_2, x, plainName, overriddenIn]; done) | decide +kernel)
theorem pl_3 : plainFor (RI.mNm m_3) = true := plainFor_of_name (by first | (simp [RI.mNm, m_3, x, plainName, overriddenIn]; done) | decide +kernel)
theorem plain_1 : ∀ M ∈ WW.1, plainFor (RI.mNm M) = true := by
  intro M hM
  simp only [WW, List.mem_cons, List.not_mem_nil, or_false] at hM
  rcases hM with rfl | rfl | rfl | rfl
  · exact pl_0
  · exact pl_1
  · exact pl_2
  · exact pl_3
/-! bits of an int -/
def own_b (x : Int32) (i : Nat) : Bool := x.toBitVec.getLsbD i
theorem own_b_and (x y : Int32) (i : Nat) : own_b (x &&& y) i = (own_b x i && own_b y i) := by simp [own_b]
theorem own_b_or (x y : Int32) (i : Nat) : own_b (x ||| y) i = (own_b x i || own_b y i) := by simp [own_b]
theorem own_b_xor (x y : Int32) (i : Nat) : own_b (x ^^^ y) i = (own_b x i ^^ own_b y i) := by simp [own_b]
theorem own_b_hi {x : Int32} {i : Nat} (h : 32 ≤ i) : own_b x i = false := BitVec.getLsbD_of_ge _ _ h
theorem own_b_m1 (i : Nat) : own_b (Int32.ofInt (-1)) i = decide (i < 32) := by
  show (BitVec.allOnes 32).getLsbD i = _
  rw [BitVec.getLsbD_allOnes]
theorem own_b_shl (x : Int32) (i : Nat) : own_b (x <<< (Int32.ofInt 1 &&& 31)) i = (decide (i < 32) && decide (0 < i) && own_b x (i - 1)) := by
  have e : (x <<< (Int32.ofInt 1 &&& 31)).toBitVec = x.toBitVec <<< ((Int32.ofInt 1 &&& 31).toBitVec.smod 32) := rfl
  have e2 : ((Int32.ofInt 1 &&& 31).toBitVec.smod 32) = 1#32 := by decide
  rw [own_b, e, e2, BitVec.shiftLeft_eq', BitVec.getLsbD_shiftLeft]
  by_cases h : 0 < i
  · simp [h, own_b, show ¬ i < 1 by omega]
  · simp [h, show i < 1 by omega]
theorem own_b_shr (x : Int32) (i : Nat) : own_b (XT.ushr x (Int32.ofInt 1)) i = own_b x (i + 1) := by
  have e : (XT.ushr x (Int32.ofInt 1)).toBitVec = x.toBitVec >>> ((Int32.ofInt 1 &&& 31).toUInt32.toBitVec % 32#32) := rfl
  have e2 : ((Int32.ofInt 1 &&& 31).toUInt32.toBitVec % 32#32) = 1#32 := by decide
  rw [own_b, e, e2, BitVec.ushiftRight_eq', BitVec.getLsbD_ushiftRight, own_b, Nat.add_comm]; rfl
theorem own_ext {x y : Int32} (h : ∀ i, i < 32 → own_b x i = own_b y i) : x = y := by
  apply Int32.toBitVec_inj.mp
  exact BitVec.eq_of_getLsbD_eq fun i hi => h i hi
def own_q (i : Nat) : Int32 := Int32.ofBitVec (BitVec.twoPow 32 i)
theorem own_b_q (i j : Nat) : own_b (own_q i) j = (decide (i < 32) && decide (i = j)) := by
  show (BitVec.twoPow 32 i).getLsbD j = _
  rw [BitVec.getLsbD_twoPow]
theorem own_b_0 (i : Nat) : own_b 0 i = false := by
  show (0#32).getLsbD i = false
  exact BitVec.getLsbD_zero
theorem own_low {x : Int32} {i : Nat} (hi : i < 32) (h : own_b x i = true) (h0 : ∀ j, j < i → own_b x j = false) : x &&& -x = own_q i := by
  apply own_ext
  intro j hj
  have e : own_b (-x) j = (decide (j < 32) && (own_b x j ^^ decide (∃ k, k < j ∧ own_b x k = true))) := by
    show (-x.toBitVec).getLsbD j = _
    rw [BitVec.getLsbD_neg]
    simp [own_b, hj]
    exact decide_eq_decide.mpr Iff.rfl
  rw [own_b_and, own_b_q, e]
  by_cases c1 : j < i
  · simp [h0 j c1]; omega
  · by_cases c2 : i = j
    · subst c2
      have : ¬ ∃ k, k < i ∧ own_b x k = true := fun ⟨k, hk, z⟩ => by rw [h0 k hk] at z; exact absurd z (by decide)
      simp [h, hi, this]
    · have : ∃ k, k < j ∧ own_b x k = true := ⟨i, by omega, h⟩
      simp [this, c2, hj]
theorem own_z {x : Int32} (h : ∀ i, own_b x i = false) : x = 0 := own_ext fun i _ => by rw [h, own_b_0]
theorem own_nz {x : Int32} {i : Nat} (h : own_b x i = true) : ¬ x = 0 := fun z => by rw [z, own_b_0] at h; exact absurd h (by decide)
/-! sums -/
def own_S (f : Nat → Nat) : Nat → Nat
  | 0 => 0
  | n + 1 => own_S f n + f n
theorem own_S_congr {f g : Nat → Nat} : ∀ {n : Nat}, (∀ i, i < n → f i = g i) → own_S f n = own_S g n
  | 0, _ => rfl
  | n + 1, h => by
    show own_S f n + f n = own_S g n + g n
    rw [own_S_congr (n := n) (fun i hi => h i (by omega)), h n (by omega)]
theorem own_S_0 {f : Nat → Nat} : ∀ {n : Nat}, (∀ i, i < n → f i = 0) → own_S f n = 0
  | 0, _ => rfl
  | n + 1, h => by
    show own_S f n + f n = 0
    rw [own_S_0 (n := n) (fun i hi => h i (by omega)), h n (by omega)]
theorem own_S_one {f : Nat → Nat} {a : Nat} : ∀ {n : Nat}, a < n → (∀ i, i < n → i ≠ a → f i = 0) → own_S f n = f a
  | 0, ha, _ => absurd ha (by omega)
  | n + 1, ha, h => by
    show own_S f n + f n = f a
    by_cases e : a = n
    · subst e
      rw [own_S_0 (n := a) (fun i hi => h i (by omega) (by omega)), Nat.zero_add]
    · rw [own_S_one (n := n) (by omega) (fun i hi hne => h i (by omega) hne), h n (by omega) (by omega), Nat.add_zero]
theorem own_S_two {f : Nat → Nat} {a b : Nat} : ∀ {n : Nat}, a < b → b < n → (∀ i, i < n → i ≠ a → i ≠ b → f i = 0) → own_S f n = f a + f b
  | 0, _, ha, _ => absurd ha (by omega)
  | n + 1, hab, hb, h => by
    show own_S f n + f n = f a + f b
    by_cases e : b = n
    · subst e
      rw [own_S_one (n := b) hab (fun i hi hne => h i (by omega) hne (by omega))]
    · rw [own_S_two (n := n) hab (by omega) (fun i hi hne => h i (by omega) hne), h n (by omega) (by omega) (by omega), Nat.add_zero]
theorem own_S_front (f : Nat → Nat) : ∀ n : Nat, own_S f (n + 1) = f 0 + own_S (fun i => f (i + 1)) n
  | 0 => by show 0 + f 0 = f 0 + 0; omega
  | n + 1 => by
    show own_S f (n + 1) + f (n + 1) = f 0 + (own_S (fun i => f (i + 1)) n + f (n + 1))
    rw [own_S_front f n]; omega
theorem own_S_rev (g : Nat → Nat) : ∀ n : Nat, own_S (fun i => g (n - 1 - i)) n = own_S g n
  | 0 => rfl
  | n + 1 => by
    rw [own_S_front]
    show g n + own_S (fun i => g (n - (i + 1))) n = own_S g n + g n
    rw [← own_S_rev g n, Nat.add_comm]
    congr 1
    exact own_S_congr fun i _ => by rw [show n - (i + 1) = n - 1 - i by omega]
theorem own_S_mono {f g : Nat → Nat} : ∀ {n : Nat}, (∀ i, i < n → f i ≤ g i) → own_S f n ≤ own_S g n
  | 0, _ => Nat.le_refl _
  | n + 1, h => Nat.add_le_add (own_S_mono (n := n) fun i hi => h i (by omega)) (h n (by omega))
theorem own_S_lt {f g : Nat → Nat} {a : Nat} : ∀ {n : Nat}, a < n → (∀ i, i < n → f i ≤ g i) → f a < g a → own_S f n < own_S g n
  | 0, ha, _, _ => absurd ha (by omega)
  | n + 1, ha, h, hlt => by
    show own_S f n + f n < own_S g n + g n
    by_cases e : a = n
    · subst e
      have := own_S_mono (n := a) fun i hi => h i (by omega)
      omega
    · have := own_S_lt (n := n) (by omega) (fun i hi => h i (by omega)) hlt
      have := h n (by omega)
      omega
/-! the count, on bits -/
def own_up (l : Nat → Bool) : Nat → Bool := fun i => decide (0 < i) && l (i - 1)
def own_dn (n : Nat) (r : Nat → Bool) : Nat → Bool := fun i => decide (i + 1 < n) && r (i + 1)
def own_ad (c : Nat → Bool) (i : Nat) : Nat → Bool := fun j => c j || decide (i = j)
def own_all (c : Nat → Bool) : Nat → Bool
  | 0 => true
  | n + 1 => own_all c n && c n
theorem own_all_t {c : Nat → Bool} : ∀ {n : Nat}, own_all c n = true ↔ ∀ i, i < n → c i = true
  | 0 => ⟨fun _ i hi => absurd hi (by omega), fun _ => rfl⟩
  | n + 1 => by
    show (own_all c n && c n) = true ↔ _
    rw [Bool.and_eq_true, own_all_t (n := n)]
    constructor
    · intro ⟨h1, h2⟩ i hi
      by_cases e : i = n
      · rw [e]; exact h2
      · exact h1 i (by omega)
    · intro h
      exact ⟨fun i hi => h i (by omega), h n (by omega)⟩
def own_cnt (c : Nat → Bool) (n : Nat) : Nat := own_S (fun i => bif c i then 0 else 1) n
def own_sol : Nat → Nat → (Nat → Bool) → (Nat → Bool) → (Nat → Bool) → Nat
  | 0, _, _, _, _ => 1
  | d + 1, n, c, l, r => bif own_all c n then 1 else own_S (fun i => bif (c i || l i || r i) then 0 else own_sol d n (own_ad c i) (own_up (own_ad l i)) (own_dn n (own_ad r i))) n
theorem own_all_congr {c c' : Nat → Bool} {n : Nat} (h : ∀ i, i < n → c i = c' i) : own_all c n = own_all c' n := by
  rw [Bool.eq_iff_iff, own_all_t, own_all_t]
  exact ⟨fun g i hi => by rw [← h i hi]; exact g i hi, fun g i hi => by rw [h i hi]; exact g i hi⟩
theorem own_sol_congr : ∀ (d n : Nat) {c c' l l' r r' : Nat → Bool}, (∀ i, i < n → c i = c' i) → (∀ i, i < n → l i = l' i) → (∀ i, i < n → r i = r' i) → own_sol d n c l r = own_sol d n c' l' r'
  | 0, _, _, _, _, _, _, _, _, _, _ => rfl
  | d + 1, n, c, c', l, l', r, r', hc, hl, hr => by
    show (bif own_all c n then 1 else _) = (bif own_all c' n then 1 else _)
    rw [own_all_congr hc]
    congr 1
    apply own_S_congr
    intro i hi
    show (bif (c i || l i || r i) then 0 else _) = (bif (c' i || l' i || r' i) then 0 else _)
    rw [hc i hi, hl i hi, hr i hi]
    congr 1
    apply own_sol_congr d n
    · intro j hj; unfold own_ad; rw [hc j hj]
    · intro j hj; unfold own_up own_ad; rw [hl (j - 1) (by omega)]
    · intro j hj; unfold own_dn own_ad
      by_cases e : j + 1 < n
      · rw [hr (j + 1) e]
      · simp [e]
def own_rv (n : Nat) (f : Nat → Bool) : Nat → Bool := fun i => f (n - 1 - i)
theorem own_all_rv (n : Nat) (c : Nat → Bool) : own_all (own_rv n c) n = own_all c n := by
  rw [Bool.eq_iff_iff, own_all_t, own_all_t]
  unfold own_rv
  exact ⟨fun g i hi => by have := g (n - 1 - i) (by omega); rwa [show n - 1 - (n - 1 - i) = i by omega] at this, fun g i hi => g _ (by omega)⟩
theorem own_sol_rv : ∀ (d n : Nat) (c l r : Nat → Bool), own_sol d n (own_rv n c) (own_rv n r) (own_rv n l) = own_sol d n c l r
  | 0, _, _, _, _ => rfl
  | d + 1, n, c, l, r => by
    show (bif own_all (own_rv n c) n then 1 else _) = (bif own_all c n then 1 else _)
    rw [own_all_rv]
    congr 1
    rw [← own_S_rev (fun i => bif (c i || l i || r i) then 0 else own_sol d n (own_ad c i) (own_up (own_ad l i)) (own_dn n (own_ad r i)))]
    apply own_S_congr
    intro i hi
    show (bif (own_rv n c i || own_rv n r i || own_rv n l i) then 0 else _) = (bif (c (n - 1 - i) || l (n - 1 - i) || r (n - 1 - i)) then 0 else _)
    rw [show (own_rv n c i || own_rv n r i || own_rv n l i) = (c (n - 1 - i) || l (n - 1 - i) || r (n - 1 - i)) by unfold own_rv; rw [Bool.or_assoc, Bool.or_comm (r _), ← Bool.or_assoc]]
    congr 1
    refine Eq.trans ?_ (own_sol_rv d n _ _ _)
    apply own_sol_congr d n
    · intro j hj; simp only [own_ad, own_rv]; congr 1; rw [decide_eq_decide]; omega
    · intro j hj; simp only [own_up, own_dn, own_ad, own_rv]
      by_cases e : 0 < j
      · rw [show n - 1 - j + 1 = n - 1 - (j - 1) by omega, decide_eq_true e, decide_eq_true (show n - 1 - (j - 1) < n by omega)]
        congr 2; rw [decide_eq_decide]; omega
      · rw [decide_eq_false e, decide_eq_false (show ¬ n - 1 - j + 1 < n by omega)]; rfl
    · intro j hj; simp only [own_up, own_dn, own_ad, own_rv]
      by_cases e : j + 1 < n
      · rw [show n - 1 - (j + 1) = n - 1 - j - 1 by omega, decide_eq_true e, decide_eq_true (show 0 < n - 1 - j by omega)]
        congr 2; rw [decide_eq_decide]; omega
      · rw [decide_eq_false e, decide_eq_false (show ¬ 0 < n - 1 - j by omega)]; rfl
theorem own_cnt_ad {c : Nat → Bool} {n i : Nat} (hi : i < n) (h : c i = false) : own_cnt (own_ad c i) n < own_cnt c n := by
  unfold own_cnt own_ad
  apply own_S_lt hi
  · intro j hj; cases c j <;> simp <;> cases decide (i = j) <;> simp
  · simp [h]
theorem own_cnt_le (c : Nat → Bool) : ∀ n, own_cnt c n ≤ n
  | 0 => Nat.le_refl _
  | n + 1 => by
    show own_cnt c n + (bif c n then 0 else 1) ≤ n + 1
    have := own_cnt_le c n
    cases c n <;> simp <;> omega
theorem own_cnt_0 {c : Nat → Bool} {n : Nat} (h : own_cnt c n ≤ 0) (i : Nat) (hi : i < n) : c i = true := by
  cases hc : c i with
  | true => rfl
  | false => have := own_cnt_ad hi hc; omega
theorem own_sol_all {c : Nat → Bool} {n : Nat} (h : own_all c n = true) (d : Nat) (l r : Nat → Bool) : own_sol d n c l r = 1 := by
  cases d with
  | zero => rfl
  | succ d => show (bif own_all c n then 1 else _) = 1; rw [h]; rfl
/-! the walk of solutions -/
theorem own_cs (F B : Nat) (hF : 1 ≤ F) (hB : 21 ≤ B) (ah : RI.AH) (full c l r : Int32) (a : Int64) : RI.cstep WW m_1 F B ah (.invokestatic 122) [.int r, .int l, .int c, .int full, .long a] = some (m_1, [.int full, .int c, .int l, .int r], [.long a], B - 21) := by
  have h : RI.call0 m_1 F B [.int r, .int l, .int c, .int full, .long a] = some ([.int full, .int c, .int l, .int r], [.long a], B - 21) := by
    unfold RI.call0
    rw [if_pos ⟨Nat.le_of_ble_eq_true rfl, hF, hB, Nat.le_of_ble_eq_true rfl⟩]
    rfl
  show (match RI.call0 m_1 F B _ with | some (as, rest, B') => some (m_1, as, rest, B') | none => none) = _
  rw [h]
def own_g (d n : Nat) (c l r : Nat → Bool) : Nat → Nat := fun i => bif (c i || l i || r i) then 0 else own_sol d n (own_ad c i) (own_up (own_ad l i)) (own_dn n (own_ad r i))
theorem own_add64 (a b : Nat) : Int64.ofNat a + Int64.ofNat b = Int64.ofNat (a + b) := (Int64.ofNat_add a b).symm
theorem own_ev_loop (d n F B : Nat) (hn : n < 32) (ah : RI.AH) (full c l r : Int32) (hF : 1 ≤ F) (hB : 21 ≤ B)
    (ih : ∀ i, i < n → own_b c i = false → RI.Ev WW (F - 1) (B - 21) m_1 0 (RI.ent [.int full, .int (c ||| own_q i), .int ((l ||| own_q i) <<< (Int32.ofInt 1 &&& 31)), .int (XT.ushr (r ||| own_q i) (Int32.ofInt 1))] 8) [] ah (some (.long (Int64.ofNat (own_sol d n (own_ad (own_b c) i) (own_up (own_ad (own_b l) i)) (own_dn n (own_ad (own_b r) i))))), ah)) :
    ∀ (k i : Nat) (x : Int32), k + i = n → (∀ j, own_b x j = (decide (i ≤ j) && (decide (j < n) && !(own_b c j || own_b l j || own_b r j)))) →
      RI.Ev WW F B m_1 21 [.val (.int full), .val (.int c), .val (.int l), .val (.int r), .val (.long (Int64.ofNat (own_S (own_g d n (own_b c) (own_b l) (own_b r)) i))), .second, .val (.int x), .unset] [] ah (some (.long (Int64.ofNat (own_S (own_g d n (own_b c) (own_b l) (own_b r)) n))), ah) := by
  intro k
  induction k with
  | zero =>
    intro i x hi hx
    have e : i = n := by omega
    subst e
    have hz : x = 0 := own_z fun j => by
      rw [hx]
      by_cases c1 : i ≤ j
      · simp [show ¬ j < i by omega]
      · simp [c1]
    refine RI.Ev.go 1 rfl ?_
    refine RI.Ev.cond rfl (fun h => ?_) (fun h => absurd (h.symm.trans (show ifCond.holds .eq x = true by rw [hz]; decide)) (by decide))
    refine RI.Ev.go 1 rfl ?_
    exact RI.Ev.ret rfl rfl rfl rfl
  | succ k ihk =>
    intro i x hi hx
    have hin : i < n := by omega
    cases hb : (own_b c i || own_b l i || own_b r i) with
    | true =>
      have := ihk i.succ x (by omega) (fun j => by
        rw [hx]
        by_cases c1 : i = j
        · subst c1; rw [hb]; simp
        · congr 1; rw [decide_eq_decide]; omega)
      rw [show own_S (own_g d n (own_b c) (own_b l) (own_b r)) i.succ = own_S (own_g d n (own_b c) (own_b l) (own_b r)) i by
        show own_S _ i + own_g d n (own_b c) (own_b l) (own_b r) i = own_S _ i
        unfold own_g; rw [hb]; rfl] at this
      exact this
    | false =>
      have hbi : own_b x i = true := by rw [hx, hb]; simp [hin]
      have hlo : x &&& -x = own_q i := own_low (by omega) hbi (fun j hj => by rw [hx]; simp [show ¬ i ≤ j by omega])
      refine RI.Ev.go 1 rfl ?_
      refine RI.Ev.cond rfl (fun h => absurd (h.symm.trans (show ifCond.holds .eq x = false from XT.i0_eq_f (own_nz hbi))) (by decide)) (fun h => ?_)
      refine RI.Ev.go 5 rfl ?_      -- pc 34
      try dsimp only [List.set, RI.fv0, RI.fv1, RI.fv2, RI.fv3, RI.tn0, RI.tn1, RI.tn2, RI.tn3, RI.tn4, RI.tn5, Nat.reduceAdd, List.cons_append, List.nil_append, Option.toList]
      rw [hlo]
      refine RI.Ev.go 4 rfl ?_      -- pc 41
      try dsimp only [List.set, RI.fv0, RI.fv1, RI.fv2, RI.fv3, RI.tn0, RI.tn1, RI.tn2, RI.tn3, RI.tn4, RI.tn5, Nat.reduceAdd, List.cons_append, List.nil_append, Option.toList]
      refine RI.Ev.go 15 rfl ?_      -- pc 60
      refine RI.Ev.call rfl rfl rfl rfl (own_cs F B hF hB _ _ _ _ _ _) (ih i hin (by simp at hb; exact hb.1.1)) ?_      -- pc 60: solutions
      try dsimp only [List.set, RI.fv0, RI.fv1, RI.fv2, RI.fv3, RI.tn0, RI.tn1, RI.tn2, RI.tn3, RI.tn4, RI.tn5, Nat.reduceAdd, List.cons_append, List.nil_append, Option.toList]
      refine RI.Ev.go 2 rfl ?_      -- pc 66
      try dsimp only [List.set, RI.fv0, RI.fv1, RI.fv2, RI.fv3, RI.tn0, RI.tn1, RI.tn2, RI.tn3, RI.tn4, RI.tn5, Nat.reduceAdd, List.cons_append, List.nil_append, Option.toList]
      refine RI.Ev.go 1 rfl ?_
      have := ihk i.succ (x ^^^ own_q i) (by omega) (fun j => by
        rw [own_b_xor, own_b_q, hx]
        by_cases c1 : i = j
        · subst c1; rw [hb]; simp [hin, show i < 32 by omega]
        · simp only [c1]
          rw [show decide (i.succ ≤ j) = decide (i ≤ j) by rw [decide_eq_decide]; omega]
          simp)
      rw [own_add64]
      rw [show own_S (own_g d n (own_b c) (own_b l) (own_b r)) i.succ = own_S (own_g d n (own_b c) (own_b l) (own_b r)) i + own_sol d n (own_ad (own_b c) i) (own_up (own_ad (own_b l) i)) (own_dn n (own_ad (own_b r) i)) by
        show own_S _ i + own_g d n (own_b c) (own_b l) (own_b r) i = own_S _ i + _
        congr 1
        show (bif (own_b c i || own_b l i || own_b r i) then 0 else _) = _
        rw [hb]; rfl] at this
      exact this.forget (.cons (.refl _) (.cons (.refl _) (.cons (.refl _) (.cons (.refl _) (.cons (.refl _) (.cons (.refl _) (.cons (.refl _) (.cons (.int _) (.refl _)))))))))
theorem own_ev_sol (n : Nat) (hn : n < 32) (ah : RI.AH) (full : Int32) (hfull : ∀ i, own_b full i = decide (i < n)) : ∀ (d F B : Nat) (c l r : Int32), (∀ i, n ≤ i → own_b c i = false) → (∀ i, n ≤ i → own_b r i = false) → own_cnt (own_b c) n ≤ d → d ≤ F → 21 * d ≤ B →
    RI.Ev WW F B m_1 0 (RI.ent [.int full, .int c, .int l, .int r] 8) [] ah (some (.long (Int64.ofNat (own_sol d n (own_b c) (own_b l) (own_b r)))), ah) := by
  intro d
  induction d with
  | zero =>
    intro F B c l r hc hr hcnt _ _
    have e : c = full := own_ext fun i _ => by
      rw [hfull]
      by_cases h : i < n
      · rw [own_cnt_0 hcnt i h]; simp [h]
      · rw [hc i (by omega)]; simp [h]
    rw [show RI.ent [.int full, .int c, .int l, .int r] 8 = [.val (.int full), .val (.int c), .val (.int l), .val (.int r), .unset, .unset, .unset, .unset] from rfl]
    refine RI.Ev.go 2 rfl ?_
    refine RI.Ev.icmp rfl (fun h => absurd (h.symm.trans (XT.ii_ne_f e)) (by decide)) (fun h => ?_)
    refine RI.Ev.go 1 rfl ?_
    exact RI.Ev.ret rfl rfl rfl rfl
  | succ d ih =>
    intro F B c l r hc hr hcnt hF hB
    rw [show RI.ent [.int full, .int c, .int l, .int r] 8 = [.val (.int full), .val (.int c), .val (.int l), .val (.int r), .unset, .unset, .unset, .unset] from rfl]
    refine RI.Ev.go 2 rfl ?_
    by_cases e : c = full
    · have ha : own_all (own_b c) n = true := own_all_t.mpr fun i hi => by rw [e, hfull]; simp [hi]
      rw [own_sol_all ha]
      refine RI.Ev.icmp rfl (fun h => absurd (h.symm.trans (XT.ii_ne_f e)) (by decide)) (fun h => ?_)
      refine RI.Ev.go 1 rfl ?_
      exact RI.Ev.ret rfl rfl rfl rfl
    · have ha : own_all (own_b c) n = false := by
        cases hx : own_all (own_b c) n with
        | false => rfl
        | true => exact absurd (own_ext fun i _ => by
            rw [hfull]
            by_cases h : i < n
            · rw [own_all_t.mp hx i h]; simp [h]
            · rw [hc i (by omega)]; simp [h]) e
      refine RI.Ev.icmp rfl (fun h => ?_) (fun h => absurd (h.symm.trans (XT.ii_ne_t e)) (by decide))
      refine RI.Ev.go 2 rfl ?_
      try dsimp only [List.set, RI.fv0, RI.fv1, RI.fv2, RI.fv3, RI.tn0, RI.tn1, RI.tn2, RI.tn3, RI.tn4, RI.tn5, Nat.reduceAdd, List.cons_append, List.nil_append, Option.toList]
      refine RI.Ev.go 10 rfl ?_
      try dsimp only [List.set, RI.fv0, RI.fv1, RI.fv2, RI.fv3, RI.tn0, RI.tn1, RI.tn2, RI.tn3, RI.tn4, RI.tn5, Nat.reduceAdd, List.cons_append, List.nil_append, Option.toList]
      rw [show own_sol (d + 1) n (own_b c) (own_b l) (own_b r) = own_S (own_g d n (own_b c) (own_b l) (own_b r)) n by
        show (bif own_all (own_b c) n then 1 else _) = _
        rw [ha]; rfl]
      refine own_ev_loop d n F B hn ah full c l r (by omega) (by omega) ?_ n 0 _ (by omega) ?_
      · intro i hi hci
        have := ih (F - 1) (B - 21) (c ||| own_q i) ((l ||| own_q i) <<< (Int32.ofInt 1 &&& 31)) (XT.ushr (r ||| own_q i) (Int32.ofInt 1))
          (fun j hj => by rw [own_b_or, own_b_q, hc j hj]; simp; omega)
          (fun j hj => by rw [own_b_shr, own_b_or, own_b_q, hr (j + 1) (by omega)]; simp; omega)
          (by
            have h1 := own_cnt_ad hi hci
            have h2 : own_cnt (own_b (c ||| own_q i)) n = own_cnt (own_ad (own_b c) i) n := own_S_congr fun j hj => by
              rw [own_b_or, own_b_q]; unfold own_ad; simp [show i < 32 by omega]
            omega) (by omega) (by omega)
        rw [own_sol_congr d n (c' := own_ad (own_b c) i) (l' := own_up (own_ad (own_b l) i)) (r' := own_dn n (own_ad (own_b r) i))] at this
        · exact this
        · intro j hj; rw [own_b_or, own_b_q]; unfold own_ad; simp [show i < 32 by omega]
        · intro j hj; rw [own_b_shl, own_b_or, own_b_q]; unfold own_up own_ad; simp [show i < 32 by omega, show j < 32 by omega]
        · intro j hj; rw [own_b_shr, own_b_or, own_b_q]; unfold own_dn own_ad
          by_cases h : j + 1 < n
          · simp [show i < 32 by omega, h]
          · rw [hr (j + 1) (by omega)]; simp [h]; omega
      · intro j
        rw [own_b_and, own_b_xor, own_b_m1, own_b_or, own_b_or, hfull]
        by_cases h : j < n
        · simp [h, show j < 32 by omega]
        · simp [h]
/-! few empty columns -/
theorem own_sol_one {c : Nat → Bool} {n a : Nat} (ha : a < n) (hc : ∀ i, i < n → c i = !decide (i = a)) (d : Nat) (l r : Nat → Bool) : own_sol (d + 1) n c l r = bif (l a || r a) then 0 else 1 := by
  have h0 : own_all c n = false := by
    cases hx : own_all c n with
    | false => rfl
    | true => have := own_all_t.mp hx a ha; rw [hc a ha] at this; simp at this
  show (bif own_all c n then 1 else _) = _
  rw [h0]
  show own_S _ n = _
  rw [own_S_one ha (fun i hi hne => by simp [hc i hi, hne])]
  rw [own_sol_all (own_all_t.mpr fun i hi => by unfold own_ad; rw [hc i hi]; by_cases e : a = i <;> simp [e]; omega)]
  rw [hc a ha]; simp
theorem own_sol_two {c : Nat → Bool} {n a b : Nat} (hab : a < b) (hb : b < n) (hc : ∀ i, i < n → c i = !(decide (i = a) || decide (i = b))) (d : Nat) (l r : Nat → Bool) : own_sol (d + 2) n c l r = (bif (l a || r a) then 0 else bif (own_up (own_ad l a) b || own_dn n (own_ad r a) b) then 0 else 1) + (bif (l b || r b) then 0 else bif (own_up (own_ad l b) a || own_dn n (own_ad r b) a) then 0 else 1) := by
  have h0 : own_all c n = false := by
    cases hx : own_all c n with
    | false => rfl
    | true => have := own_all_t.mp hx b hb; rw [hc b hb] at this; simp at this
  show (bif own_all c n then 1 else _) = _
  rw [h0]
  show own_S _ n = _
  rw [own_S_two hab hb (fun i hi h1 h2 => by simp [hc i hi, h1, h2])]
  rw [own_sol_one (a := b) hb (fun i hi => by
    unfold own_ad; rw [hc i hi]
    by_cases e1 : i = b
    · subst e1; simp; omega
    · by_cases e2 : i = a
      · subst e2; simp; omega
      · simp [e1, e2])]
  rw [own_sol_one (a := a) (by omega) (fun i hi => by
    unfold own_ad; rw [hc i hi]
    by_cases e1 : i = b
    · subst e1; simp; omega
    · by_cases e2 : i = a
      · subst e2; simp; omega
      · simp [e1, e2])]
  rw [hc a (by omega), hc b hb]; simp
def own_few2 (n a b : Nat) (l r : Nat → Bool) : Nat := (bif (l a || r a) then 0 else bif (own_up (own_ad l a) b || own_dn n (own_ad r a) b) then 0 else 1) + (bif (l b || r b) then 0 else bif (own_up (own_ad l b) a || own_dn n (own_ad r b) a) then 0 else 1)
theorem own_q_and (a : Nat) (ha : a < 32) (x : Int32) : own_q a &&& x = if own_b x a then own_q a else 0 := by
  apply own_ext
  intro j hj
  rw [own_b_and, own_b_q]
  by_cases e : a = j
  · subst e
    cases h : own_b x a
    · simp [own_b_0]
    · simp [own_b_q, ha]
  · split
    · rw [own_b_q]; simp [e]
    · rw [own_b_0]; simp [e]
theorem own_q_nz (a : Nat) (ha : a < 32) : ¬ own_q a = 0 := own_nz (i := a) (by rw [own_b_q]; simp [ha])
theorem own_ev_few0 (F B : Nat) (ah : RI.AH) (l r : Int32) : RI.Ev WW F B m_2 0 (RI.ent [.int 0, .int l, .int r] 9) [] ah (some (.long (Int64.ofNat 1)), ah) := by
  rw [show RI.ent [.int 0, .int l, .int r] 9 = [.val (.int 0), .val (.int l), .val (.int r), .unset, .unset, .unset, .unset, .unset, .unset] from rfl]
  refine RI.Ev.go 1 rfl ?_
  refine RI.Ev.cond rfl (fun h => absurd (h.symm.trans (show ifCond.holds .ne 0 = false by decide)) (by decide)) (fun h => ?_)
  refine RI.Ev.go 1 rfl ?_
  exact RI.Ev.ret rfl rfl rfl rfl
theorem own_q_low (a : Nat) (ha : a < 32) : own_q a &&& -own_q a = own_q a := own_low ha (by rw [own_b_q]; simp [ha]) (fun j hj => by rw [own_b_q]; simp; omega)
theorem own_xx (x : Int32) : x ^^^ x = 0 := own_z fun i => by rw [own_b_xor]; simp
theorem own_ev_few1 (F B : Nat) (ah : RI.AH) (a : Nat) (ha : a < 32) (l r : Int32) : RI.Ev WW F B m_2 0 (RI.ent [.int (own_q a), .int l, .int r] 9) [] ah (some (.long (Int64.ofNat (bif (own_b l a || own_b r a) then 0 else 1))), ah) := by
  rw [show RI.ent [.int (own_q a), .int l, .int r] 9 = [.val (.int (own_q a)), .val (.int l), .val (.int r), .unset, .unset, .unset, .unset, .unset, .unset] from rfl]
  refine RI.Ev.go 1 rfl ?_
  refine RI.Ev.cond rfl (fun h => ?_) (fun h => absurd (h.symm.trans (XT.i0_ne_t (own_q_nz a ha))) (by decide))
  refine RI.Ev.go 5 rfl ?_
  try dsimp only [List.set, RI.fv0, RI.fv1, RI.fv2, RI.fv3, RI.tn0, RI.tn1, RI.tn2, RI.tn3, RI.tn4, RI.tn5, Nat.reduceAdd, List.cons_append, List.nil_append, Option.toList]
  rw [own_q_low a ha]
  refine RI.Ev.go 4 rfl ?_
  try dsimp only [List.set, RI.fv0, RI.fv1, RI.fv2, RI.fv3, RI.tn0, RI.tn1, RI.tn2, RI.tn3, RI.tn4, RI.tn5, Nat.reduceAdd, List.cons_append, List.nil_append, Option.toList]
  rw [own_xx]
  refine RI.Ev.go 1 rfl ?_
  refine RI.Ev.cond rfl (fun h => absurd (h.symm.trans (show ifCond.holds .ne 0 = false by decide)) (by decide)) (fun h => ?_)
  refine RI.Ev.go 5 rfl ?_
  rw [own_q_and a ha, own_b_or]
  cases hx : (own_b l a || own_b r a) with
  | true =>
    refine RI.Ev.cond rfl (fun h => ?_) (fun h => absurd (h.symm.trans (XT.i0_ne_t (own_q_nz a ha))) (by decide))
    refine RI.Ev.go 1 rfl ?_
    exact RI.Ev.ret rfl rfl rfl rfl
  | false =>
    refine RI.Ev.cond rfl (fun h => absurd (h.symm.trans (show ifCond.holds .ne 0 = false by decide)) (by decide)) (fun h => ?_)
    refine RI.Ev.go 2 rfl ?_
    exact RI.Ev.ret rfl rfl rfl rfl
theorem own_ev_fewB (F B : Nat) (ah : RI.AH) (a b : Nat) (ha : a < 32) (hb : b < 32) (s0 l r V N : Int32) (w : Nat) : RI.Ev WW F B m_2 83 [.val (.int s0), .val (.int l), .val (.int r), .val (.int (own_q a)), .val (.int (own_q b)), .val (.int V), .val (.int N), .val (.long (Int64.ofNat w)), .second] [] ah (some (.long (Int64.ofNat (w + (bif own_b V b then 0 else bif own_b N a then 0 else 1)))), ah) := by
  refine RI.Ev.go 3 rfl ?_
  rw [own_q_and b hb]
  cases hx : own_b V b with
  | true =>
    refine RI.Ev.cond rfl (fun h => ?_) (fun h => absurd (h.symm.trans (XT.i0_ne_t (own_q_nz b hb))) (by decide))
    refine RI.Ev.go 1 rfl ?_
    exact RI.Ev.ret rfl rfl rfl rfl
  | false =>
    refine RI.Ev.cond rfl (fun h => absurd (h.symm.trans (show ifCond.holds .ne 0 = false by decide)) (by decide)) (fun h => ?_)
    refine RI.Ev.go 3 rfl ?_
    rw [own_q_and a ha]
    cases hy : own_b N a with
    | true =>
      refine RI.Ev.cond rfl (fun h => ?_) (fun h => absurd (h.symm.trans (XT.i0_ne_t (own_q_nz a ha))) (by decide))
      refine RI.Ev.go 1 rfl ?_
      exact RI.Ev.ret rfl rfl rfl rfl
    | false =>
      refine RI.Ev.cond rfl (fun h => absurd (h.symm.trans (show ifCond.holds .ne 0 = false by decide)) (by decide)) (fun h => ?_)
      refine RI.Ev.go 4 rfl ?_
      try dsimp only [List.set, RI.fv0, RI.fv1, RI.fv2, RI.fv3, RI.tn0, RI.tn1, RI.tn2, RI.tn3, RI.tn4, RI.tn5, Nat.reduceAdd, List.cons_append, List.nil_append, Option.toList]
      rw [own_add64]
      refine RI.Ev.go 1 rfl ?_
      exact RI.Ev.ret rfl rfl rfl rfl
theorem own_ev_fewA (F B : Nat) (ah : RI.AH) (a b : Nat) (ha : a < 32) (hb : b < 32) (s0 l r V N : Int32) : RI.Ev WW F B m_2 62 [.val (.int s0), .val (.int l), .val (.int r), .val (.int (own_q a)), .val (.int (own_q b)), .val (.int V), .val (.int N), .val (.long (Int64.ofNat 0)), .second] [] ah (some (.long (Int64.ofNat ((bif own_b V a then 0 else bif own_b N b then 0 else 1) + (bif own_b V b then 0 else bif own_b N a then 0 else 1)))), ah) := by
  refine RI.Ev.go 3 rfl ?_
  rw [own_q_and a ha]
  cases hx : own_b V a with
  | true =>
    refine RI.Ev.cond rfl (fun h => ?_) (fun h => absurd (h.symm.trans (XT.i0_ne_t (own_q_nz a ha))) (by decide))
    exact own_ev_fewB F B ah a b ha hb s0 l r V N 0
  | false =>
    refine RI.Ev.cond rfl (fun h => absurd (h.symm.trans (show ifCond.holds .ne 0 = false by decide)) (by decide)) (fun h => ?_)
    refine RI.Ev.go 3 rfl ?_
    rw [own_q_and b hb]
    cases hy : own_b N b with
    | true =>
      refine RI.Ev.cond rfl (fun h => ?_) (fun h => absurd (h.symm.trans (XT.i0_ne_t (own_q_nz b hb))) (by decide))
      exact own_ev_fewB F B ah a b ha hb s0 l r V N 0
    | false =>
      refine RI.Ev.cond rfl (fun h => absurd (h.symm.trans (show ifCond.holds .ne 0 = false by decide)) (by decide)) (fun h => ?_)
      refine RI.Ev.go 4 rfl ?_
      try dsimp only [List.set, RI.fv0, RI.fv1, RI.fv2, RI.fv3, RI.tn0, RI.tn1, RI.tn2, RI.tn3, RI.tn4, RI.tn5, Nat.reduceAdd, List.cons_append, List.nil_append, Option.toList]
      rw [own_add64]
      exact own_ev_fewB F B ah a b ha hb s0 l r V N 1
theorem own_q_shl (a : Nat) (ha : a + 1 < 32) : own_q a <<< (Int32.ofInt 1 &&& 31) = own_q (a + 1) := by
  apply own_ext
  intro j hj
  rw [own_b_shl, own_b_q, own_b_q]
  by_cases e : a + 1 = j
  · subst e; simp [hj, ha]; omega
  · simp [e, hj]; intro; omega
theorem own_q_inj {a b : Nat} (ha : a < 32) (h : own_q a = own_q b) : b = a := by
  have := congrArg (fun x => own_b x a) h
  simp only [own_b_q] at this
  simp [ha] at this
  exact this.2
theorem own_ev_few2 (F B : Nat) (ah : RI.AH) (n a b : Nat) (hab : a < b) (hb : b < n) (hn : n < 31) (l r : Int32) (hr : ∀ i, n ≤ i → own_b r i = false) : RI.Ev WW F B m_2 0 (RI.ent [.int (own_q a ||| own_q b), .int l, .int r] 9) [] ah (some (.long (Int64.ofNat (own_few2 n a b (own_b l) (own_b r)))), ah) := by
  have hlow : (own_q a ||| own_q b) &&& -(own_q a ||| own_q b) = own_q a := own_low (by omega) (by rw [own_b_or, own_b_q]; simp; omega) (fun j hj => by rw [own_b_or, own_b_q, own_b_q]; simp; omega)
  have hx : (own_q a ||| own_q b) ^^^ own_q a = own_q b := by
    apply own_ext
    intro j hj
    rw [own_b_xor, own_b_or, own_b_q, own_b_q]
    by_cases e : a = j
    · subst e; simp [show ¬ b = a by omega]
    · simp [e]
  rw [show RI.ent [.int (own_q a ||| own_q b), .int l, .int r] 9 = [.val (.int (own_q a ||| own_q b)), .val (.int l), .val (.int r), .unset, .unset, .unset, .unset, .unset, .unset] from rfl]
  refine RI.Ev.go 1 rfl ?_
  refine RI.Ev.cond rfl (fun h => ?_) (fun h => absurd (h.symm.trans (XT.i0_ne_t (own_nz (i := a) (by rw [own_b_or, own_b_q]; simp; omega)))) (by decide))
  refine RI.Ev.go 5 rfl ?_
  try dsimp only [List.set, RI.fv0, RI.fv1, RI.fv2, RI.fv3, RI.tn0, RI.tn1, RI.tn2, RI.tn3, RI.tn4, RI.tn5, Nat.reduceAdd, List.cons_append, List.nil_append, Option.toList]
  rw [hlow]
  refine RI.Ev.go 4 rfl ?_
  try dsimp only [List.set, RI.fv0, RI.fv1, RI.fv2, RI.fv3, RI.tn0, RI.tn1, RI.tn2, RI.tn3, RI.tn4, RI.tn5, Nat.reduceAdd, List.cons_append, List.nil_append, Option.toList]
  rw [hx]
  refine RI.Ev.go 1 rfl ?_
  refine RI.Ev.cond rfl (fun h => ?_) (fun h => absurd (h.symm.trans (XT.i0_ne_t (own_q_nz b (by omega)))) (by decide))
  refine RI.Ev.go 4 rfl ?_
  rw [own_q_shl a (by omega)]
  by_cases e : b = a + 1
  · subst e
    rw [show own_few2 n a (a + 1) (own_b l) (own_b r) = 0 by unfold own_few2 own_up own_dn own_ad; simp [hb]]
    refine RI.Ev.icmp rfl (fun h => absurd (h.symm.trans (XT.ii_ne_f rfl)) (by decide)) (fun h => ?_)
    refine RI.Ev.go 1 rfl ?_
    exact RI.Ev.ret rfl rfl rfl rfl
  · refine RI.Ev.icmp rfl (fun h => ?_) (fun h => absurd (h.symm.trans (XT.ii_ne_t (fun z => e (own_q_inj (by omega) z).symm))) (by decide))
    refine RI.Ev.go 4 rfl ?_
    try dsimp only [List.set, RI.fv0, RI.fv1, RI.fv2, RI.fv3, RI.tn0, RI.tn1, RI.tn2, RI.tn3, RI.tn4, RI.tn5, Nat.reduceAdd, List.cons_append, List.nil_append, Option.toList]
    refine RI.Ev.go 8 rfl ?_
    try dsimp only [List.set, RI.fv0, RI.fv1, RI.fv2, RI.fv3, RI.tn0, RI.tn1, RI.tn2, RI.tn3, RI.tn4, RI.tn5, Nat.reduceAdd, List.cons_append, List.nil_append, Option.toList]
    refine RI.Ev.go 2 rfl ?_
    try dsimp only [List.set, RI.fv0, RI.fv1, RI.fv2, RI.fv3, RI.tn0, RI.tn1, RI.tn2, RI.tn3, RI.tn4, RI.tn5, Nat.reduceAdd, List.cons_append, List.nil_append, Option.toList]
    have := own_ev_fewA F B ah a b (by omega) (by omega) (own_q a ||| own_q b) l r (l ||| r) (l <<< (Int32.ofInt 1 &&& 31) ||| XT.ushr r (Int32.ofInt 1))
    rw [show own_few2 n a b (own_b l) (own_b r) = (bif own_b (l ||| r) a then 0 else bif own_b (l <<< (Int32.ofInt 1 &&& 31) ||| XT.ushr r (Int32.ofInt 1)) b then 0 else 1) + (bif own_b (l ||| r) b then 0 else bif own_b (l <<< (Int32.ofInt 1 &&& 31) ||| XT.ushr r (Int32.ofInt 1)) a then 0 else 1) by
      rw [own_b_or, own_b_or, own_b_or, own_b_or, own_b_shl, own_b_shl, own_b_shr, own_b_shr]
      have h1 : own_up (own_ad (own_b l) a) b = (decide (b < 32) && decide (0 < b) && own_b l (b - 1)) := by
        unfold own_up own_ad; simp [show b < 32 by omega, show ¬ a = b - 1 by omega]
      have h2 : own_dn n (own_ad (own_b r) a) b = own_b r (b + 1) := by
        unfold own_dn own_ad
        by_cases h : b + 1 < n
        · simp [h, show ¬ a = b + 1 by omega]
        · rw [hr (b + 1) (by omega)]; simp [h]
      have h3 : own_up (own_ad (own_b l) b) a = (decide (a < 32) && decide (0 < a) && own_b l (a - 1)) := by
        unfold own_up own_ad; simp [show a < 32 by omega, show ¬ b = a - 1 by omega]
      have h4 : own_dn n (own_ad (own_b r) b) a = own_b r (a + 1) := by
        unfold own_dn own_ad
        simp [show a + 1 < n by omega, show ¬ b = a + 1 by omega]
      unfold own_few2
      rw [h1, h2, h3, h4]]
    exact this
/-! the empty boards, by the kernel -/
def own_force (f : Nat → Nat) (x : Nat) : Nat := Nat.rec (f 0) (fun k _ => f (Nat.succ k)) x
theorem own_force_eq (f : Nat → Nat) (x : Nat) : own_force f x = f x := by cases x <;> rfl
def own_nS (f : Nat → Nat) (n : Nat) : Nat := Nat.rec 0 (fun k s => Nat.add s (f k)) n
theorem own_nS_eq (f : Nat → Nat) : ∀ n, own_nS f n = own_S f n
  | 0 => rfl
  | n + 1 => by
    show own_nS f n + f n = own_S f n + f n
    rw [own_nS_eq f n]
def own_nb (u i : Nat) : Bool := Nat.beq (Nat.land (Nat.shiftRight u i) 1) 0
theorem own_nb_eq (u i : Nat) : own_nb u i = !u.testBit i := by
  unfold own_nb
  show Nat.beq ((u >>> i) &&& 1) 0 = !(1 &&& (u >>> i) != 0)
  rw [Nat.and_comm]
  cases h : Nat.beq (1 &&& u >>> i) 0 with
  | true => have := Nat.eq_of_beq_eq_true h; simp [this]
  | false =>
    have h1 : (1 &&& u >>> i != 0) = true := by rw [bne_iff_ne]; exact Nat.ne_of_beq_eq_false h
    rw [h1]; rfl
def own_nsol (n full d : Nat) : Nat → Nat → Nat → Nat :=
  Nat.rec (fun _ _ _ => 1) (fun _ ih c l r => own_force (fun c => own_force (fun l => own_force (fun r => own_force (fun u =>
    cond (Nat.beq c full) 1 (own_nS (fun i => cond (own_nb u i) (ih (Nat.lor c (Nat.shiftLeft 1 i)) (Nat.shiftLeft (Nat.lor l (Nat.shiftLeft 1 i)) 1) (Nat.shiftRight (Nat.lor r (Nat.shiftLeft 1 i)) 1)) 0) n)) (Nat.lor (Nat.lor c l) r)) r) l) c) d
theorem own_nsol_s (n full d c l r : Nat) : own_nsol n full (d + 1) c l r = cond (Nat.beq c full) 1 (own_S (fun i => cond (!(c ||| l ||| r).testBit i) (own_nsol n full d (c ||| 1 <<< i) ((l ||| 1 <<< i) <<< 1) ((r ||| 1 <<< i) >>> 1)) 0) n) := by
  have e : own_nsol n full (d + 1) c l r = own_force (fun c => own_force (fun l => own_force (fun r => own_force (fun u =>
    cond (Nat.beq c full) 1 (own_nS (fun i => cond (own_nb u i) (own_nsol n full d (Nat.lor c (Nat.shiftLeft 1 i)) (Nat.shiftLeft (Nat.lor l (Nat.shiftLeft 1 i)) 1) (Nat.shiftRight (Nat.lor r (Nat.shiftLeft 1 i)) 1)) 0) n)) (Nat.lor (Nat.lor c l) r)) r) l) c := rfl
  rw [e, own_force_eq, own_force_eq, own_force_eq, own_force_eq, own_nS_eq]
  congr 1
  apply own_S_congr
  intro i _
  rw [own_nb_eq]
  rfl
theorem own_tb1 (i j : Nat) : (1 <<< i).testBit j = decide (i = j) := by
  rw [Nat.one_shiftLeft, Nat.testBit_two_pow]
theorem own_nsol_eq (n : Nat) : ∀ (d c l r : Nat), (∀ i, n ≤ i → c.testBit i = false) → (∀ i, n ≤ i → r.testBit i = false) → own_nsol n (2 ^ n - 1) d c l r = own_sol d n c.testBit l.testBit r.testBit
  | 0, _, _, _, _, _ => rfl
  | d + 1, c, l, r, hc, hr => by
    rw [own_nsol_s]
    show _ = (bif own_all c.testBit n then 1 else _)
    have e : Nat.beq c (2 ^ n - 1) = own_all c.testBit n := by
      rw [Bool.eq_iff_iff, own_all_t, Nat.beq_eq]
      constructor
      · intro h i hi; rw [h, Nat.testBit_two_pow_sub_one]; simp [hi]
      · intro h
        apply Nat.eq_of_testBit_eq
        intro i
        rw [Nat.testBit_two_pow_sub_one]
        by_cases hi : i < n
        · rw [h i hi]; simp [hi]
        · rw [hc i (by omega)]; simp [hi]
    rw [e]
    congr 1
    apply own_S_congr
    intro i hi
    rw [Nat.testBit_or, Nat.testBit_or]
    cases hx : (c.testBit i || l.testBit i || r.testBit i) with
    | true => rfl
    | false =>
      show own_nsol _ _ d _ _ _ = own_sol d n _ _ _
      rw [own_nsol_eq n d _ _ _ (fun j hj => by rw [Nat.testBit_or, own_tb1, hc j hj]; simp; omega) (fun j hj => by rw [Nat.testBit_shiftRight, Nat.testBit_or, own_tb1, hr (1 + j) (by omega)]; simp; omega)]
      apply own_sol_congr d n
      · intro j hj; rw [Nat.testBit_or, own_tb1]; rfl
      · intro j hj; rw [Nat.testBit_shiftLeft, Nat.testBit_or, own_tb1]; rfl
      · intro j hj; rw [Nat.testBit_shiftRight, Nat.testBit_or, own_tb1]; unfold own_dn own_ad
        rw [Nat.add_comm 1 j]
        by_cases h : j + 1 < n
        · simp [h]
        · rw [hr (j + 1) (by omega)]; simp [h]; omega
theorem own_tab : own_nsol 1 1 10 0 0 0 = 1 ∧ own_nsol 2 3 10 0 0 0 = 0 ∧ own_nsol 3 7 10 0 0 0 = 0 ∧ own_nsol 4 15 10 0 0 0 = 2 ∧ own_nsol 5 31 10 0 0 0 = 10 ∧ own_nsol 6 63 10 0 0 0 = 4 ∧ own_nsol 7 127 10 0 0 0 = 40 ∧ own_nsol 8 255 10 0 0 0 = 92 := by decide +kernel
theorem own_tab9 : own_nsol 9 511 10 0 0 0 = 352 := by decide +kernel
theorem own_tab10 : own_nsol 10 1023 10 0 0 0 = 724 := by decide +kernel
/-! rev -/
theorem own_b_shlk (x y : Int32) (k : Nat) (hk : k < 32) (hy : (y &&& 31).toBitVec.smod 32 = BitVec.ofNat 32 k) (i : Nat) : own_b (x <<< (y &&& 31)) i = (decide (i < 32) && decide (k ≤ i) && own_b x (i - k)) := by
  have e : (x <<< (y &&& 31)).toBitVec = x.toBitVec <<< ((y &&& 31).toBitVec.smod 32) := rfl
  rw [own_b, e, hy, BitVec.shiftLeft_eq', BitVec.getLsbD_shiftLeft]
  rw [BitVec.toNat_ofNat, Nat.mod_eq_of_lt (by omega)]
  by_cases h : k ≤ i
  · simp [h, own_b, show ¬ i < k by omega]
  · simp [h, show i < k by omega]
theorem own_b_shrk (x y : Int32) (k : Nat) (hk : k < 32) (hy : (y &&& 31).toUInt32.toBitVec % 32#32 = BitVec.ofNat 32 k) (i : Nat) : own_b (XT.ushr x y) i = own_b x (i + k) := by
  have e : (XT.ushr x y).toBitVec = x.toBitVec >>> ((y &&& 31).toUInt32.toBitVec % 32#32) := rfl
  rw [own_b, e, hy, BitVec.ushiftRight_eq', BitVec.getLsbD_ushiftRight, own_b, BitVec.toNat_ofNat, Nat.mod_eq_of_lt (by omega), Nat.add_comm]
def own_r1 (y m x : Int32) : Int32 := XT.ushr x y &&& m ||| (x &&& m) <<< (y &&& 31)
def own_pi (m : Int32) (k i : Nat) : Nat := bif own_b m i then i + k else i - k
theorem own_b_r1 (y m x : Int32) (k : Nat) (hk : k < 32) (h1 : (y &&& 31).toBitVec.smod 32 = BitVec.ofNat 32 k) (h2 : (y &&& 31).toUInt32.toBitVec % 32#32 = BitVec.ofNat 32 k)
    (hm : ∀ i, i < 32 → (decide (k ≤ i) && own_b m (i - k)) = !own_b m i) (i : Nat) (hi : i < 32) : own_b (own_r1 y m x) i = own_b x (own_pi m k i) := by
  unfold own_r1 own_pi
  rw [own_b_or, own_b_and, own_b_shrk x y k hk h2, own_b_shlk _ y k hk h1, own_b_and]
  have := hm i hi
  cases hb : own_b m i with
  | true =>
    rw [hb] at this
    rw [show (decide (i < 32) && decide (k ≤ i) && (own_b x (i - k) && own_b m (i - k))) = (decide (i < 32) && own_b x (i - k) && (decide (k ≤ i) && own_b m (i - k))) by cases decide (i < 32) <;> cases decide (k ≤ i) <;> cases own_b x (i - k) <;> cases own_b m (i - k) <;> rfl, this]
    simp
  | false =>
    rw [hb] at this
    rw [show (decide (i < 32) && decide (k ≤ i) && (own_b x (i - k) && own_b m (i - k))) = (decide (i < 32) && own_b x (i - k) && (decide (k ≤ i) && own_b m (i - k))) by cases decide (i < 32) <;> cases decide (k ≤ i) <;> cases own_b x (i - k) <;> cases own_b m (i - k) <;> rfl, this]
    simp [hi]
def own_r16 (x : Int32) : Int32 := XT.ushr x (Int8.ofInt 16).toInt32 ||| x <<< ((Int8.ofInt 16).toInt32 &&& 31)
theorem own_b_r16 (x : Int32) (i : Nat) (hi : i < 32) : own_b (own_r16 x) i = own_b x (bif decide (i < 16) then i + 16 else i - 16) := by
  unfold own_r16
  rw [own_b_or, own_b_shrk x _ 16 (by decide) (by decide), own_b_shlk x _ 16 (by decide) (by decide)]
  by_cases h : i < 16
  · simp [h, show ¬ 16 ≤ i by omega]
  · rw [own_b_hi (show 32 ≤ i + 16 by omega)]; simp [h, hi, show 16 ≤ i by omega]
def own_rev32 (x : Int32) : Int32 := own_r16 (own_r1 (Int8.ofInt 8).toInt32 16711935 (own_r1 (Int32.ofInt 4) 252645135 (own_r1 (Int32.ofInt 2) 858993459 (own_r1 (Int32.ofInt 1) 1431655765 x))))
theorem own_pis : ∀ i, i < 32 → (bif decide (i < 16) then i + 16 else i - 16) < 32 ∧ own_pi 16711935 8 (bif decide (i < 16) then i + 16 else i - 16) < 32 ∧ own_pi 252645135 4 (own_pi 16711935 8 (bif decide (i < 16) then i + 16 else i - 16)) < 32 ∧ own_pi 858993459 2 (own_pi 252645135 4 (own_pi 16711935 8 (bif decide (i < 16) then i + 16 else i - 16))) < 32 ∧ own_pi 1431655765 1 (own_pi 858993459 2 (own_pi 252645135 4 (own_pi 16711935 8 (bif decide (i < 16) then i + 16 else i - 16)))) = 31 - i := by decide +kernel
theorem own_b_rev32 (x : Int32) (i : Nat) (hi : i < 32) : own_b (own_rev32 x) i = own_b x (31 - i) := by
  obtain ⟨p1, p2, p3, p4, p5⟩ := own_pis i hi
  unfold own_rev32
  rw [own_b_r16 _ i hi, own_b_r1 _ _ _ 8 (by decide) (by decide) (by decide) (by decide +kernel) _ p1, own_b_r1 _ _ _ 4 (by decide) (by decide) (by decide) (by decide +kernel) _ p2, own_b_r1 _ _ _ 2 (by decide) (by decide) (by decide) (by decide +kernel) _ p3, own_b_r1 _ _ _ 1 (by decide) (by decide) (by decide) (by decide +kernel) _ p4, p5]
def own_rev (x y : Int32) : Int32 := XT.ushr (own_rev32 x) ((Int8.ofInt 32).toInt32 - y)
theorem own_b_rev (x : Int32) (n : Nat) (h1 : 1 ≤ n) (h2 : n < 11) (i : Nat) : own_b (own_rev x (Int32.ofNat n)) i = (decide (i < n) && own_b x (n - 1 - i)) := by
  unfold own_rev
  have e : ∀ n, n < 11 → 1 ≤ n → (((Int8.ofInt 32).toInt32 - Int32.ofNat n) &&& 31).toUInt32.toBitVec % 32#32 = BitVec.ofNat 32 (32 - n) := by decide +kernel
  rw [own_b_shrk _ _ (32 - n) (by omega) (e n h2 h1)]
  by_cases h : i < n
  · rw [own_b_rev32 _ _ (by omega), show 31 - (i + (32 - n)) = n - 1 - i by omega]; simp [h]
  · rw [own_b_hi (by omega)]; simp [h]
theorem own_ev_rev (F B : Nat) (ah : RI.AH) (x y : Int32) : RI.Ev WW F B m_3 0 (RI.ent [.int x, .int y] 2) [] ah (some (.int (own_rev x y)), ah) := by
  rw [show RI.ent [.int x, .int y] 2 = [.val (.int x), .val (.int y)] from rfl]
  unfold own_rev own_rev32
  refine RI.Ev.go 12 rfl ?_      -- pc 14
  try dsimp only [List.set, RI.fv0, RI.fv1, RI.fv2, RI.fv3, RI.tn0, RI.tn1, RI.tn2, RI.tn3, RI.tn4, RI.tn5, Nat.reduceAdd, List.cons_append, List.nil_append, Option.toList]
  rw [show XT.ushr x (Int32.ofInt 1) &&& 1431655765 ||| (x &&& 1431655765) <<< (Int32.ofInt 1 &&& 31) = own_r1 (Int32.ofInt 1) 1431655765 x from rfl]
  generalize own_r1 (Int32.ofInt 1) 1431655765 x = x1
  refine RI.Ev.go 12 rfl ?_      -- pc 28
  try dsimp only [List.set, RI.fv0, RI.fv1, RI.fv2, RI.fv3, RI.tn0, RI.tn1, RI.tn2, RI.tn3, RI.tn4, RI.tn5, Nat.reduceAdd, List.cons_append, List.nil_append, Option.toList]
  rw [show XT.ushr x1 (Int32.ofInt 2) &&& 858993459 ||| (x1 &&& 858993459) <<< (Int32.ofInt 2 &&& 31) = own_r1 (Int32.ofInt 2) 858993459 x1 from rfl]
  generalize own_r1 (Int32.ofInt 2) 858993459 x1 = x2
  refine RI.Ev.go 12 rfl ?_      -- pc 42
  try dsimp only [List.set, RI.fv0, RI.fv1, RI.fv2, RI.fv3, RI.tn0, RI.tn1, RI.tn2, RI.tn3, RI.tn4, RI.tn5, Nat.reduceAdd, List.cons_append, List.nil_append, Option.toList]
  rw [show XT.ushr x2 (Int32.ofInt 4) &&& 252645135 ||| (x2 &&& 252645135) <<< (Int32.ofInt 4 &&& 31) = own_r1 (Int32.ofInt 4) 252645135 x2 from rfl]
  generalize own_r1 (Int32.ofInt 4) 252645135 x2 = x3
  refine RI.Ev.go 12 rfl ?_      -- pc 58
  try dsimp only [List.set, RI.fv0, RI.fv1, RI.fv2, RI.fv3, RI.tn0, RI.tn1, RI.tn2, RI.tn3, RI.tn4, RI.tn5, Nat.reduceAdd, List.cons_append, List.nil_append, Option.toList]
  rw [show XT.ushr x3 (Int8.ofInt 8).toInt32 &&& 16711935 ||| (x3 &&& 16711935) <<< ((Int8.ofInt 8).toInt32 &&& 31) = own_r1 (Int8.ofInt 8).toInt32 16711935 x3 from rfl]
  generalize own_r1 (Int8.ofInt 8).toInt32 16711935 x3 = x4
  refine RI.Ev.go 8 rfl ?_      -- pc 68
  try dsimp only [List.set, RI.fv0, RI.fv1, RI.fv2, RI.fv3, RI.tn0, RI.tn1, RI.tn2, RI.tn3, RI.tn4, RI.tn5, Nat.reduceAdd, List.cons_append, List.nil_append, Option.toList]
  refine RI.Ev.go 5 rfl ?_      -- pc 74
  exact RI.Ev.ret rfl rfl rfl rfl
/-! the law -/
theorem own_inj {a b : Nat} (ha : a < 2 ^ 31) (hb : b < 2 ^ 31) : Int32.ofNat a = Int32.ofNat b ↔ a = b := by
  constructor
  · intro h
    have := congrArg Int32.toInt h
    rw [RI.ofNat_toInt a ha, RI.ofNat_toInt b hb] at this
    omega
  · rintro rfl; rfl
theorem own_full : ∀ n, n < 19 → ∀ i, i < 32 → own_b (Int32.ofInt 1 <<< (Int32.ofNat n &&& 31) - Int32.ofInt 1) i = decide (i < n) := by decide +kernel
theorem own_fullb (n : Nat) (hn : n < 19) (i : Nat) : own_b (Int32.ofInt 1 <<< (Int32.ofNat n &&& 31) - Int32.ofInt 1) i = decide (i < n) := by
  by_cases h : i < 32
  · exact own_full n hn i h
  · rw [own_b_hi (by omega)]; simp; omega
theorem own_1n : ∀ j, j < 18 → Int32.ofInt 1 + Int32.ofNat j = Int32.ofNat (1 + j) := by decide +kernel
theorem own_1q : ∀ a, a < 18 → Int32.ofInt 1 <<< (Int32.ofNat a &&& 31) = own_q a := by decide +kernel
def own_L0 (i0 i1 i2 i3 i4 i5 : Int32) (m n : Nat) : List Slot := [.val (.int i0), .val (.int i1), .val (.int i2), .val (.int i3), .val (.int i4), .val (.int i5), .val (.int (Int32.ofNat m)), .val (.int (Int32.ofNat n)), .val (.int (Int32.ofInt 1 <<< (Int32.ofNat n &&& 31) - Int32.ofInt 1)), .unset, .unset, .unset, .unset, .unset, .unset, .unset]
/-- from the choice of rem on: rem with its columns, both counts alike -/
theorem own_ev_from89 (i0 i1 i2 i3 i4 i5 s9 s10 s11 rem : Int32) (m n : Nat) (hn : n < 19) (w : Nat)
    (hs : ∀ ah, RI.Ev WW 13 365 m_1 0 (RI.ent [.int (Int32.ofInt 1 <<< (Int32.ofNat n &&& 31) - Int32.ofInt 1), .int ((Int32.ofInt 1 <<< (Int32.ofNat n &&& 31) - Int32.ofInt 1) &&& (rem ^^^ Int32.ofInt (-1))), .int i4, .int s9] 8) [] ah (some (.long (Int64.ofNat w)), ah))
    (hf : ∀ F B ah, RI.Ev WW F B m_2 0 (RI.ent [.int rem, .int i4, .int s9] 9) [] ah (some (.long (Int64.ofNat w)), ah)) :
    RI.Ev WW 14 384 m_0 89 [.val (.int i0), .val (.int i1), .val (.int i2), .val (.int i3), .val (.int i4), .val (.int i5), .val (.int (Int32.ofNat m)), .val (.int (Int32.ofNat n)), .val (.int (Int32.ofInt 1 <<< (Int32.ofNat n &&& 31) - Int32.ofInt 1)), .val (.int s9), .val (.int s10), .val (.int s11), .val (.int rem), .unset, .unset, .unset] [] [] (some (.int 1), []) := by
  generalize Int32.ofInt 1 <<< (Int32.ofNat n &&& 31) - Int32.ofInt 1 = full at hs ⊢
  refine RI.Ev.go 6 rfl ?_      -- pc 98
  try dsimp only [List.set, RI.fv0, RI.fv1, RI.fv2, RI.fv3, RI.tn0, RI.tn1, RI.tn2, RI.tn3, RI.tn4, RI.tn5, Nat.reduceAdd, List.cons_append, List.nil_append, Option.toList]
  refine RI.Ev.go 4 rfl ?_
  refine RI.Ev.call rfl rfl rfl rfl rfl (hs []) ?_
  try dsimp only [List.set, RI.fv0, RI.fv1, RI.fv2, RI.fv3, RI.tn0, RI.tn1, RI.tn2, RI.tn3, RI.tn4, RI.tn5, Nat.reduceAdd, List.cons_append, List.nil_append, Option.toList]
  refine RI.Ev.go 1 rfl ?_
  try dsimp only [List.set, RI.fv0, RI.fv1, RI.fv2, RI.fv3, RI.tn0, RI.tn1, RI.tn2, RI.tn3, RI.tn4, RI.tn5, Nat.reduceAdd, List.cons_append, List.nil_append, Option.toList]
  refine RI.Ev.go 4 rfl ?_
  refine RI.Ev.call rfl rfl rfl rfl rfl (hf _ _ []) ?_
  try dsimp only [List.set, RI.fv0, RI.fv1, RI.fv2, RI.fv3, RI.tn0, RI.tn1, RI.tn2, RI.tn3, RI.tn4, RI.tn5, Nat.reduceAdd, List.cons_append, List.nil_append, Option.toList]
  refine RI.Ev.go 1 rfl ?_
  refine RI.Ev.cond rfl (fun h => absurd (h.symm.trans (XT.ll_ne_f rfl)) (by decide)) (fun h => ?_)
  refine RI.Ev.go 2 rfl ?_
  exact RI.Ev.ret rfl rfl rfl rfl
theorem own_r_hi (x : Int32) (n : Nat) (hn : n < 19) (i : Nat) (hi : n ≤ i) : own_b (x &&& (Int32.ofInt 1 <<< (Int32.ofNat n &&& 31) - Int32.ofInt 1)) i = false := by
  rw [own_b_and, own_fullb n hn]; simp; omega
theorem own_c_b (rem : Int32) (n : Nat) (hn : n < 19) (i : Nat) : own_b ((Int32.ofInt 1 <<< (Int32.ofNat n &&& 31) - Int32.ofInt 1) &&& (rem ^^^ Int32.ofInt (-1))) i = (decide (i < n) && !own_b rem i) := by
  rw [own_b_and, own_fullb n hn, own_b_xor, own_b_m1]
  by_cases h : i < n
  · simp [h, show i < 32 by omega]
  · simp [h]
theorem own_cnt_2 {c : Nat → Bool} {n a b : Nat} (hc : ∀ i, i < n → i ≠ a → i ≠ b → c i = true) : own_cnt c n ≤ 2 := by
  have h1 : ∀ n, own_S (fun i => if i = a then 1 else 0) n ≤ 1 := by
    intro n
    by_cases h : a < n
    · rw [own_S_one h (fun i _ hne => if_neg hne)]; simp
    · rw [own_S_0 (fun i hi => if_neg (by omega))]; omega
  have h2 : ∀ n, own_S (fun i => if i = b then 1 else 0) n ≤ 1 := by
    intro n
    by_cases h : b < n
    · rw [own_S_one h (fun i _ hne => if_neg hne)]; simp
    · rw [own_S_0 (fun i hi => if_neg (by omega))]; omega
  have h3 : ∀ n, own_S (fun i => (if i = a then 1 else 0) + (if i = b then 1 else 0)) n = own_S (fun i => if i = a then 1 else 0) n + own_S (fun i => if i = b then 1 else 0) n := by
    intro n
    induction n with
    | zero => rfl
    | succ n ih =>
      show own_S (fun i => (if i = a then 1 else 0) + (if i = b then 1 else 0)) n + _ = (own_S (fun i => if i = a then 1 else 0) n + _) + (own_S (fun i => if i = b then 1 else 0) n + _)
      rw [ih]; dsimp only; omega
  have h4 : own_cnt c n ≤ own_S (fun i => (if i = a then 1 else 0) + (if i = b then 1 else 0)) n := own_S_mono fun i hi => by
    by_cases e1 : i = a
    · simp only [e1, if_true]; cases c a <;> simp
    · by_cases e2 : i = b
      · simp only [e2, if_true]; cases c b <;> simp
      · rw [hc i hi e1 e2]; simp
  have := h1 n; have := h2 n; have := h3 n; omega
theorem own_ev_few_sol (n : Nat) (hn : n < 19) (rem l r : Int32) (a b : Nat) (hrem : ∀ i, i < n → i ≠ a → i ≠ b → own_b rem i = false) (hr : ∀ i, n ≤ i → own_b r i = false) (ah : RI.AH) :
    RI.Ev WW 13 365 m_1 0 (RI.ent [.int (Int32.ofInt 1 <<< (Int32.ofNat n &&& 31) - Int32.ofInt 1), .int ((Int32.ofInt 1 <<< (Int32.ofNat n &&& 31) - Int32.ofInt 1) &&& (rem ^^^ Int32.ofInt (-1))), .int l, .int r] 8) [] ah (some (.long (Int64.ofNat (own_sol 2 n (fun i => !own_b rem i) (own_b l) (own_b r)))), ah) := by
  have := own_ev_sol n (by omega) ah (Int32.ofInt 1 <<< (Int32.ofNat n &&& 31) - Int32.ofInt 1) (own_fullb n hn) 2 13 365 ((Int32.ofInt 1 <<< (Int32.ofNat n &&& 31) - Int32.ofInt 1) &&& (rem ^^^ Int32.ofInt (-1))) l r
    (fun i hi => by rw [own_c_b rem n hn]; simp; omega) hr
    (own_cnt_2 (a := a) (b := b) fun i hi e1 e2 => by rw [own_c_b rem n hn, hrem i hi e1 e2]; simp [hi]) (by omega) (by omega)
  rw [own_sol_congr 2 n (c' := fun i => !own_b rem i) (l' := own_b l) (r' := own_b r) (fun i hi => by rw [own_c_b rem n hn]; simp [hi]) (fun _ _ => rfl) (fun _ _ => rfl)] at this
  exact this
theorem own_law_few (i0 i1 i2 i3 i4 i5 : Int32) (m n : Nat) (hm : m < 3) (h1 : 1 ≤ n) (hn : n < 19) : RI.Ev WW 14 384 m_0 33 (own_L0 i0 i1 i2 i3 i4 i5 m n) [] [] (some (.int 1), []) := by
  obtain ⟨a, ha, ea⟩ := RI.rem_nat i2 n (by omega) (by omega)
  obtain ⟨b, hb, eb⟩ := RI.rem_nat i3 n (by omega) (by omega)
  have hn0 : ¬ Int32.ofNat n = 0 := fun z => by have := (own_inj (a := n) (b := 0) (by omega) (by omega)).mp z; omega
  unfold own_L0
  refine RI.Ev.go 4 rfl ?_      -- pc 40
  try dsimp only [List.set, RI.fv0, RI.fv1, RI.fv2, RI.fv3, RI.tn0, RI.tn1, RI.tn2, RI.tn3, RI.tn4, RI.tn5, Nat.reduceAdd, List.cons_append, List.nil_append, Option.toList]
  refine RI.Ev.go 5 rfl ?_
  refine RI.Ev.irem rfl hn0 ?_
  rw [ea]
  refine RI.Ev.go 2 rfl ?_
  try dsimp only [List.set, RI.fv0, RI.fv1, RI.fv2, RI.fv3, RI.tn0, RI.tn1, RI.tn2, RI.tn3, RI.tn4, RI.tn5, Nat.reduceAdd, List.cons_append, List.nil_append, Option.toList]
  rw [own_1q a (by omega)]
  refine RI.Ev.go 5 rfl ?_
  refine RI.Ev.irem rfl hn0 ?_
  rw [eb]
  refine RI.Ev.go 2 rfl ?_
  try dsimp only [List.set, RI.fv0, RI.fv1, RI.fv2, RI.fv3, RI.tn0, RI.tn1, RI.tn2, RI.tn3, RI.tn4, RI.tn5, Nat.reduceAdd, List.cons_append, List.nil_append, Option.toList]
  rw [own_1q b (by omega)]
  refine RI.Ev.go 1 rfl ?_
  match m, hm with
  | 0, _ =>
    refine RI.Ev.cond rfl (fun h => absurd (h.symm.trans (show ifCond.holds .ne (Int32.ofNat 0) = false by decide)) (by decide)) (fun h => ?_)
    refine RI.Ev.go 3 rfl ?_
    try dsimp only [List.set, RI.fv0, RI.fv1, RI.fv2, RI.fv3, RI.tn0, RI.tn1, RI.tn2, RI.tn3, RI.tn4, RI.tn5, Nat.reduceAdd, List.cons_append, List.nil_append, Option.toList]
    refine own_ev_from89 i0 i1 i2 i3 i4 i5 _ _ _ 0 0 n hn 1 (fun ah => ?_) (fun F B ah => own_ev_few0 F B ah _ _)
    have := own_ev_few_sol n hn 0 i4 (i5 &&& (Int32.ofInt 1 <<< (Int32.ofNat n &&& 31) - Int32.ofInt 1)) 0 0 (fun i _ _ _ => own_b_0 i) (own_r_hi i5 n hn) ah
    rw [own_sol_all (own_all_t.mpr fun i _ => by rw [own_b_0]; rfl)] at this
    exact this
  | 1, _ =>
    refine RI.Ev.cond rfl (fun h => ?_) (fun h => absurd (h.symm.trans (show ifCond.holds .ne (Int32.ofNat 1) = true by decide)) (by decide))
    refine RI.Ev.go 2 rfl ?_
    refine RI.Ev.icmp rfl (fun h => absurd (h.symm.trans (show if_icmp.holds .ne (Int32.ofNat 1) (Int32.ofInt 1) = false by decide)) (by decide)) (fun h => ?_)
    refine RI.Ev.go 3 rfl ?_
    try dsimp only [List.set, RI.fv0, RI.fv1, RI.fv2, RI.fv3, RI.tn0, RI.tn1, RI.tn2, RI.tn3, RI.tn4, RI.tn5, Nat.reduceAdd, List.cons_append, List.nil_append, Option.toList]
    refine own_ev_from89 i0 i1 i2 i3 i4 i5 _ _ _ (own_q a) 1 n hn _ (fun ah => ?_) (fun F B ah => own_ev_few1 F B ah a (by omega) _ _)
    have := own_ev_few_sol n hn (own_q a) i4 (i5 &&& (Int32.ofInt 1 <<< (Int32.ofNat n &&& 31) - Int32.ofInt 1)) a a (fun i _ e _ => by rw [own_b_q]; simp; omega) (own_r_hi i5 n hn) ah
    rw [own_sol_one ha (fun i hi => by rw [own_b_q]; simp [show a < 32 by omega, eq_comm])] at this
    exact this
  | 2, _ =>
    refine RI.Ev.cond rfl (fun h => ?_) (fun h => absurd (h.symm.trans (show ifCond.holds .ne (Int32.ofNat 2) = true by decide)) (by decide))
    refine RI.Ev.go 2 rfl ?_
    refine RI.Ev.icmp rfl (fun h => ?_) (fun h => absurd (h.symm.trans (show if_icmp.holds .ne (Int32.ofNat 2) (Int32.ofInt 1) = true by decide)) (by decide))
    refine RI.Ev.go 4 rfl ?_
    try dsimp only [List.set, RI.fv0, RI.fv1, RI.fv2, RI.fv3, RI.tn0, RI.tn1, RI.tn2, RI.tn3, RI.tn4, RI.tn5, Nat.reduceAdd, List.cons_append, List.nil_append, Option.toList]
    by_cases e : a = b
    · subst e
      rw [show own_q a ||| own_q a = own_q a from own_ext fun i _ => by rw [own_b_or, Bool.or_self]]
      refine own_ev_from89 i0 i1 i2 i3 i4 i5 _ _ _ (own_q a) 2 n hn _ (fun ah => ?_) (fun F B ah => own_ev_few1 F B ah a (by omega) _ _)
      have := own_ev_few_sol n hn (own_q a) i4 (i5 &&& (Int32.ofInt 1 <<< (Int32.ofNat n &&& 31) - Int32.ofInt 1)) a a (fun i _ e _ => by rw [own_b_q]; simp; omega) (own_r_hi i5 n hn) ah
      rw [own_sol_one ha (fun i hi => by rw [own_b_q]; simp [show a < 32 by omega, eq_comm])] at this
      exact this
    · have key : ∀ (s10 s11 : Int32) a b, a < b → b < n → RI.Ev WW 14 384 m_0 89 [.val (.int i0), .val (.int i1), .val (.int i2), .val (.int i3), .val (.int i4), .val (.int i5), .val (.int (Int32.ofNat 2)), .val (.int (Int32.ofNat n)), .val (.int (Int32.ofInt 1 <<< (Int32.ofNat n &&& 31) - Int32.ofInt 1)), .val (.int (i5 &&& (Int32.ofInt 1 <<< (Int32.ofNat n &&& 31) - Int32.ofInt 1))), .val (.int s10), .val (.int s11), .val (.int (own_q a ||| own_q b)), .unset, .unset, .unset] [] [] (some (.int 1), []) := by
        intro s10 s11 a b hab hb
        refine own_ev_from89 i0 i1 i2 i3 i4 i5 _ _ _ (own_q a ||| own_q b) 2 n hn _ (fun ah => ?_) (fun F B ah => own_ev_few2 F B ah n a b hab hb (by omega) i4 _ (own_r_hi i5 n hn))
        have := own_ev_few_sol n hn (own_q a ||| own_q b) i4 (i5 &&& (Int32.ofInt 1 <<< (Int32.ofNat n &&& 31) - Int32.ofInt 1)) a b (fun i _ e1 e2 => by rw [own_b_or, own_b_q, own_b_q]; simp; omega) (own_r_hi i5 n hn) ah
        rw [own_sol_two hab hb (fun i hi => by rw [own_b_or, own_b_q, own_b_q]; simp [show a < 32 by omega, show b < 32 by omega, eq_comm])] at this
        exact this
      rcases Nat.lt_or_gt_of_ne e with h | h
      · exact key _ _ a b h hb
      · rw [show own_q a ||| own_q b = own_q b ||| own_q a from own_ext fun i _ => by rw [own_b_or, own_b_or, Bool.or_comm]]
        exact key _ _ b a h ha
theorem own_law_mir (i0 i1 i2 i3 i4 i5 : Int32) (n : Nat) (h1 : 1 ≤ n) (hn : n < 11) : RI.Ev WW 14 384 m_0 151 (own_L0 i0 i1 i2 i3 i4 i5 3 n) [] [] (some (.int 1), []) := by
  unfold own_L0
  have hfull := own_fullb n (by omega)
  have hr := fun x => own_r_hi x n (by omega)
  generalize Int32.ofInt 1 <<< (Int32.ofNat n &&& 31) - Int32.ofInt 1 = full at hfull hr ⊢
  refine RI.Ev.go 2 rfl ?_      -- pc 154
  refine RI.Ev.icmp rfl (fun h => absurd (h.symm.trans (show if_icmp.holds .ne (Int32.ofNat 3) (Int32.ofInt 3) = false by decide)) (by decide)) (fun h => ?_)
  refine RI.Ev.go 4 rfl ?_      -- pc 163
  try dsimp only [List.set, RI.fv0, RI.fv1, RI.fv2, RI.fv3, RI.tn0, RI.tn1, RI.tn2, RI.tn3, RI.tn4, RI.tn5, Nat.reduceAdd, List.cons_append, List.nil_append, Option.toList]
  refine RI.Ev.go 4 rfl ?_      -- pc 170
  try dsimp only [List.set, RI.fv0, RI.fv1, RI.fv2, RI.fv3, RI.tn0, RI.tn1, RI.tn2, RI.tn3, RI.tn4, RI.tn5, Nat.reduceAdd, List.cons_append, List.nil_append, Option.toList]
  refine RI.Ev.go 4 rfl ?_      -- pc 178
  refine RI.Ev.call rfl rfl rfl rfl rfl (own_ev_sol n (by omega) [] full hfull 10 13 365 (i2 &&& full) i4 (i5 &&& full) (hr i2) (hr i5) (Nat.le_trans (own_cnt_le _ n) (by omega)) (by omega) (by omega)) ?_
  try dsimp only [List.set, RI.fv0, RI.fv1, RI.fv2, RI.fv3, RI.tn0, RI.tn1, RI.tn2, RI.tn3, RI.tn4, RI.tn5, Nat.reduceAdd, List.cons_append, List.nil_append, Option.toList]
  refine RI.Ev.go 1 rfl ?_      -- pc 183
  try dsimp only [List.set, RI.fv0, RI.fv1, RI.fv2, RI.fv3, RI.tn0, RI.tn1, RI.tn2, RI.tn3, RI.tn4, RI.tn5, Nat.reduceAdd, List.cons_append, List.nil_append, Option.toList]
  refine RI.Ev.go 3 rfl ?_      -- pc 189
  refine RI.Ev.call rfl rfl rfl rfl rfl (own_ev_rev _ _ _ _ _) ?_
  try dsimp only [List.set, RI.fv0, RI.fv1, RI.fv2, RI.fv3, RI.tn0, RI.tn1, RI.tn2, RI.tn3, RI.tn4, RI.tn5, Nat.reduceAdd, List.cons_append, List.nil_append, Option.toList]
  refine RI.Ev.go 2 rfl ?_      -- pc 196
  refine RI.Ev.call rfl rfl rfl rfl rfl (own_ev_rev _ _ _ _ _) ?_
  try dsimp only [List.set, RI.fv0, RI.fv1, RI.fv2, RI.fv3, RI.tn0, RI.tn1, RI.tn2, RI.tn3, RI.tn4, RI.tn5, Nat.reduceAdd, List.cons_append, List.nil_append, Option.toList]
  refine RI.Ev.go 4 rfl ?_      -- pc 206
  refine RI.Ev.call rfl rfl rfl rfl rfl (own_ev_rev _ _ _ _ _) ?_
  try dsimp only [List.set, RI.fv0, RI.fv1, RI.fv2, RI.fv3, RI.tn0, RI.tn1, RI.tn2, RI.tn3, RI.tn4, RI.tn5, Nat.reduceAdd, List.cons_append, List.nil_append, Option.toList]
  refine RI.Ev.call rfl rfl rfl rfl rfl (own_ev_sol n (by omega) [] full hfull 10 13 365 (own_rev (i2 &&& full) (Int32.ofNat n)) (own_rev (i5 &&& full) (Int32.ofNat n)) (own_rev (i4 &&& full) (Int32.ofNat n)) (fun i hi => by rw [own_b_rev _ n h1 hn]; simp; omega) (fun i hi => by rw [own_b_rev _ n h1 hn]; simp; omega) (Nat.le_trans (own_cnt_le _ n) (by omega)) (by omega) (by omega)) ?_
  try dsimp only [List.set, RI.fv0, RI.fv1, RI.fv2, RI.fv3, RI.tn0, RI.tn1, RI.tn2, RI.tn3, RI.tn4, RI.tn5, Nat.reduceAdd, List.cons_append, List.nil_append, Option.toList]
  refine RI.Ev.go 1 rfl ?_      -- pc 214
  try dsimp only [List.set, RI.fv0, RI.fv1, RI.fv2, RI.fv3, RI.tn0, RI.tn1, RI.tn2, RI.tn3, RI.tn4, RI.tn5, Nat.reduceAdd, List.cons_append, List.nil_append, Option.toList]
  refine RI.Ev.go 3 rfl ?_      -- pc 219
  have key : own_sol 10 n (own_b (own_rev (i2 &&& full) (Int32.ofNat n))) (own_b (own_rev (i5 &&& full) (Int32.ofNat n))) (own_b (own_rev (i4 &&& full) (Int32.ofNat n))) = own_sol 10 n (own_b (i2 &&& full)) (own_b i4) (own_b (i5 &&& full)) := by
    rw [← own_sol_rv 10 n (own_b (i2 &&& full)) (own_b i4) (own_b (i5 &&& full))]
    apply own_sol_congr 10 n
    · intro i hi; rw [own_b_rev _ n h1 hn]; unfold own_rv; simp [hi]
    · intro i hi; rw [own_b_rev _ n h1 hn]; unfold own_rv; simp [hi]
    · intro i hi; rw [own_b_rev _ n h1 hn, own_b_and, hfull]; unfold own_rv; simp [hi]; omega
  refine RI.Ev.cond rfl (fun h => absurd (h.symm.trans (XT.ll_ne_f (by rw [key]))) (by decide)) (fun h => ?_)
  refine RI.Ev.go 2 rfl ?_
  exact RI.Ev.ret rfl rfl rfl rfl
def own_T : List Value := [.long (Int64.ofNat 1), .long (Int64.ofNat 0), .long (Int64.ofNat 0), .long 2, .long 10, .long 4, .long 40, .long 92, .long 352, .long 724]
theorem own_law_tab0 (i0 i1 i2 i3 i4 i5 : Int32) (n : Nat) (h1 : 1 ≤ n) (hn : n < 11) (r) (hend : RI.Ev WW 14 384 m_0 308 [.val (.int i0), .val (.int i1), .val (.int i2), .val (.int i3), .val (.int i4), .val (.int i5), .val (.int (Int32.ofNat 4)), .val (.int (Int32.ofNat n)), .val (.int (Int32.ofInt 1 <<< (Int32.ofNat n &&& 31) - Int32.ofInt 1)), .val (.ref 0), .unset, .unset, .unset, .unset, .unset, .unset] [.int 0] [.inr (.long, own_T)] r) : RI.Ev WW 14 384 m_0 151 (own_L0 i0 i1 i2 i3 i4 i5 4 n) [] [] r := by
  unfold own_L0
  have hfull := own_fullb n (by omega)
  generalize Int32.ofInt 1 <<< (Int32.ofNat n &&& 31) - Int32.ofInt 1 = full at hfull hend ⊢
  refine RI.Ev.go 2 rfl ?_      -- pc 154
  refine RI.Ev.icmp rfl (fun h => ?_) (fun h => absurd (h.symm.trans (show if_icmp.holds .ne (Int32.ofNat 4) (Int32.ofInt 3) = true by decide)) (by decide))
  refine RI.Ev.go 2 (ah' := [.inr (.long, [.long 0, .long 0, .long 0, .long 0, .long 0, .long 0, .long 0, .long 0, .long 0, .long 0])]) rfl ?_      -- pc 232
  refine RI.Ev.go 4 (ah' := [.inr (.long, [.long (Int64.ofNat 1), .long 0, .long 0, .long 0, .long 0, .long 0, .long 0, .long 0, .long 0, .long 0])]) rfl ?_      -- pc 236
  refine RI.Ev.go 4 (ah' := [.inr (.long, [.long (Int64.ofNat 1), .long (Int64.ofNat 0), .long 0, .long 0, .long 0, .long 0, .long 0, .long 0, .long 0, .long 0])]) rfl ?_      -- pc 240
  refine RI.Ev.go 4 (ah' := [.inr (.long, [.long (Int64.ofNat 1), .long (Int64.ofNat 0), .long (Int64.ofNat 0), .long 0, .long 0, .long 0, .long 0, .long 0, .long 0, .long 0])]) rfl ?_      -- pc 244
  refine RI.Ev.go 4 (ah' := [.inr (.long, [.long (Int64.ofNat 1), .long (Int64.ofNat 0), .long (Int64.ofNat 0), .long 2, .long 0, .long 0, .long 0, .long 0, .long 0, .long 0])]) rfl ?_      -- pc 250
  refine RI.Ev.go 4 (ah' := [.inr (.long, [.long (Int64.ofNat 1), .long (Int64.ofNat 0), .long (Int64.ofNat 0), .long 2, .long 10, .long 0, .long 0, .long 0, .long 0, .long 0])]) rfl ?_      -- pc 256
  refine RI.Ev.go 4 (ah' := [.inr (.long, [.long (Int64.ofNat 1), .long (Int64.ofNat 0), .long (Int64.ofNat 0), .long 2, .long 10, .long 4, .long 0, .long 0, .long 0, .long 0])]) rfl ?_      -- pc 262
  refine RI.Ev.go 4 (ah' := [.inr (.long, [.long (Int64.ofNat 1), .long (Int64.ofNat 0), .long (Int64.ofNat 0), .long 2, .long 10, .long 4, .long 40, .long 0, .long 0, .long 0])]) rfl ?_      -- pc 269
  refine RI.Ev.go 4 (ah' := [.inr (.long, [.long (Int64.ofNat 1), .long (Int64.ofNat 0), .long (Int64.ofNat 0), .long 2, .long 10, .long 4, .long 40, .long 92, .long 0, .long 0])]) rfl ?_      -- pc 276
  refine RI.Ev.go 4 (ah' := [.inr (.long, [.long (Int64.ofNat 1), .long (Int64.ofNat 0), .long (Int64.ofNat 0), .long 2, .long 10, .long 4, .long 40, .long 92, .long 352, .long 0])]) rfl ?_      -- pc 283
  refine RI.Ev.go 4 (ah' := [.inr (.long, own_T)]) rfl ?_      -- pc 290
  refine RI.Ev.go 1 rfl ?_      -- pc 292
  try dsimp only [List.set, RI.fv0, RI.fv1, RI.fv2, RI.fv3, RI.tn0, RI.tn1, RI.tn2, RI.tn3, RI.tn4, RI.tn5, Nat.reduceAdd, List.cons_append, List.nil_append, Option.toList]
  refine RI.Ev.go 4 rfl ?_      -- pc 297
  refine RI.Ev.call rfl rfl rfl rfl rfl (own_ev_sol n (by omega) [.inr (.long, own_T)] full hfull 10 13 365 (Int32.ofInt 0) (Int32.ofInt 0) (Int32.ofInt 0) (fun i _ => own_b_0 i) (fun i _ => own_b_0 i) (Nat.le_trans (own_cnt_le _ n) (by omega)) (by omega) (by omega)) ?_
  try dsimp only [List.set, RI.fv0, RI.fv1, RI.fv2, RI.fv3, RI.tn0, RI.tn1, RI.tn2, RI.tn3, RI.tn4, RI.tn5, Nat.reduceAdd, List.cons_append, List.nil_append, Option.toList]
  have e : own_sol 10 n (own_b (Int32.ofInt 0)) (own_b (Int32.ofInt 0)) (own_b (Int32.ofInt 0)) = own_nsol n (2 ^ n - 1) 10 0 0 0 := by
    rw [own_nsol_eq n 10 0 0 0 (fun i _ => Nat.zero_testBit i) (fun i _ => Nat.zero_testBit i)]
    apply own_sol_congr 10 n
    · intro i _; rw [Nat.zero_testBit]; exact own_b_0 i
    · intro i _; rw [Nat.zero_testBit]; exact own_b_0 i
    · intro i _; rw [Nat.zero_testBit]; exact own_b_0 i
  rw [e]
  obtain ⟨t1, t2, t3, t4, t5, t6, t7, t8⟩ := own_tab
  match n, h1, hn with
  | 1, _, _ => rw [show own_nsol 1 (2 ^ 1 - 1) 10 0 0 0 = 1 from t1]; refine RI.Ev.go 6 rfl ?_; exact hend
  | 2, _, _ => rw [show own_nsol 2 (2 ^ 2 - 1) 10 0 0 0 = 0 from t2]; refine RI.Ev.go 6 rfl ?_; exact hend
  | 3, _, _ => rw [show own_nsol 3 (2 ^ 3 - 1) 10 0 0 0 = 0 from t3]; refine RI.Ev.go 6 rfl ?_; exact hend
  | 4, _, _ => rw [show own_nsol 4 (2 ^ 4 - 1) 10 0 0 0 = 2 from t4]; refine RI.Ev.go 6 rfl ?_; exact hend
  | 5, _, _ => rw [show own_nsol 5 (2 ^ 5 - 1) 10 0 0 0 = 10 from t5]; refine RI.Ev.go 6 rfl ?_; exact hend
  | 6, _, _ => rw [show own_nsol 6 (2 ^ 6 - 1) 10 0 0 0 = 4 from t6]; refine RI.Ev.go 6 rfl ?_; exact hend
  | 7, _, _ => rw [show own_nsol 7 (2 ^ 7 - 1) 10 0 0 0 = 40 from t7]; refine RI.Ev.go 6 rfl ?_; exact hend
  | 8, _, _ => rw [show own_nsol 8 (2 ^ 8 - 1) 10 0 0 0 = 92 from t8]; refine RI.Ev.go 6 rfl ?_; exact hend
  | 9, _, _ => rw [show own_nsol 9 (2 ^ 9 - 1) 10 0 0 0 = 352 from own_tab9]; refine RI.Ev.go 6 rfl ?_; exact hend
  | 10, _, _ => rw [show own_nsol 10 (2 ^ 10 - 1) 10 0 0 0 = 724 from own_tab10]; refine RI.Ev.go 6 rfl ?_; exact hend
theorem own_law_tab (i0 i1 i2 i3 i4 i5 : Int32) (n : Nat) (h1 : 1 ≤ n) (hn : n < 11) : RI.Ev WW 14 384 m_0 151 (own_L0 i0 i1 i2 i3 i4 i5 4 n) [] [] (some (.int 1), [.inr (.long, own_T)]) := by
  refine own_law_tab0 i0 i1 i2 i3 i4 i5 n h1 hn _ ?_
  refine RI.Ev.cond rfl (fun h => absurd (h.symm.trans (show ifCond.holds .ne 0 = false by decide)) (by decide)) (fun h => ?_)
  refine RI.Ev.go 2 rfl ?_
  exact RI.Ev.ret rfl rfl rfl rfl
theorem own_law (i0 i1 i2 i3 i4 i5 : Int32) : ∃ ah', (ah' = [] ∨ ah' = [.inr (.long, own_T)]) ∧ RI.Ev WW 14 384 m_0 0 (RI.ent [.int i0, .int i1, .int i2, .int i3, .int i4, .int i5] maxLocals) [] [] (some (.int 1), ah') := by
  rw [show RI.ent [.int i0, .int i1, .int i2, .int i3, .int i4, .int i5] maxLocals = [.val (.int i0), .val (.int i1), .val (.int i2), .val (.int i3), .val (.int i4), .val (.int i5), .unset, .unset, .unset, .unset, .unset, .unset, .unset, .unset, .unset, .unset] from rfl]
  obtain ⟨m, hm, em⟩ := RI.rem_nat i0 5 (by omega) (by omega)
  have em' : (i0 &&& 2147483647) % Int32.ofInt 5 = Int32.ofNat m := em
  by_cases h3 : m < 3
  · refine ⟨[], Or.inl rfl, ?_⟩
    obtain ⟨j, hj, ej⟩ := RI.rem_nat i1 18 (by omega) (by omega)
    have ej' : (i1 &&& 2147483647) % (Int8.ofInt 18).toInt32 = Int32.ofNat j := ej
    refine RI.Ev.go 6 rfl ?_      -- pc 8
    try dsimp only [List.set, RI.fv0, RI.fv1, RI.fv2, RI.fv3, RI.tn0, RI.tn1, RI.tn2, RI.tn3, RI.tn4, RI.tn5, Nat.reduceAdd, List.cons_append, List.nil_append, Option.toList]
    rw [em']
    refine RI.Ev.go 2 rfl ?_      -- pc 11
    refine RI.Ev.icmp rfl (fun h => absurd (h.symm.trans (show if_icmp.holds .gt (Int32.ofNat m) (Int32.ofInt 2) = false by
      have : m = 0 ∨ m = 1 ∨ m = 2 := by omega
      rcases this with rfl | rfl | rfl <;> decide)) (by decide)) (fun h => ?_)
    refine RI.Ev.go 8 rfl ?_      -- pc 25
    try dsimp only [List.set, RI.fv0, RI.fv1, RI.fv2, RI.fv3, RI.tn0, RI.tn1, RI.tn2, RI.tn3, RI.tn4, RI.tn5, Nat.reduceAdd, List.cons_append, List.nil_append, Option.toList]
    rw [ej', own_1n j (by omega)]
    refine RI.Ev.go 6 rfl ?_      -- pc 33
    try dsimp only [List.set, RI.fv0, RI.fv1, RI.fv2, RI.fv3, RI.tn0, RI.tn1, RI.tn2, RI.tn3, RI.tn4, RI.tn5, Nat.reduceAdd, List.cons_append, List.nil_append, Option.toList]
    exact own_law_few i0 i1 i2 i3 i4 i5 m (1 + j) h3 (by omega) (by omega)
  · obtain ⟨j, hj, ej⟩ := RI.rem_nat i1 10 (by omega) (by omega)
    have ej' : (i1 &&& 2147483647) % (Int8.ofInt 10).toInt32 = Int32.ofNat j := ej
    have key : ∀ r, RI.Ev WW 14 384 m_0 151 (own_L0 i0 i1 i2 i3 i4 i5 m (1 + j)) [] [] r → RI.Ev WW 14 384 m_0 0 [.val (.int i0), .val (.int i1), .val (.int i2), .val (.int i3), .val (.int i4), .val (.int i5), .unset, .unset, .unset, .unset, .unset, .unset, .unset, .unset, .unset, .unset] [] [] r := by
      intro r hr
      refine RI.Ev.go 6 rfl ?_      -- pc 8
      try dsimp only [List.set, RI.fv0, RI.fv1, RI.fv2, RI.fv3, RI.tn0, RI.tn1, RI.tn2, RI.tn3, RI.tn4, RI.tn5, Nat.reduceAdd, List.cons_append, List.nil_append, Option.toList]
      rw [em']
      refine RI.Ev.go 2 rfl ?_      -- pc 11
      refine RI.Ev.icmp rfl (fun h => ?_) (fun h => absurd (h.symm.trans (show if_icmp.holds .gt (Int32.ofNat m) (Int32.ofInt 2) = true by
        have : m = 3 ∨ m = 4 := by omega
        rcases this with rfl | rfl <;> decide)) (by decide))
      refine RI.Ev.go 8 rfl ?_      -- pc 143
      try dsimp only [List.set, RI.fv0, RI.fv1, RI.fv2, RI.fv3, RI.tn0, RI.tn1, RI.tn2, RI.tn3, RI.tn4, RI.tn5, Nat.reduceAdd, List.cons_append, List.nil_append, Option.toList]
      rw [ej', own_1n j (by omega)]
      refine RI.Ev.go 6 rfl ?_      -- pc 151
      try dsimp only [List.set, RI.fv0, RI.fv1, RI.fv2, RI.fv3, RI.tn0, RI.tn1, RI.tn2, RI.tn3, RI.tn4, RI.tn5, Nat.reduceAdd, List.cons_append, List.nil_append, Option.toList]
      exact hr
    have : m = 3 ∨ m = 4 := by omega
    rcases this with rfl | rfl
    · exact ⟨[], Or.inl rfl, key _ (own_law_mir i0 i1 i2 i3 i4 i5 (1 + j) (by omega) (by omega))⟩
    · exact ⟨_, Or.inr rfl, key _ (own_law_tab i0 i1 i2 i3 i4 i5 (1 + j) (by omega) (by omega))⟩
theorem law_run (i0 : Int32) (i1 : Int32) (i2 : Int32) (i3 : Int32) (i4 : Int32) (i5 : Int32) : ∃ N ah', RI.run WW N room_1.frames room_1.locals m_0 0 (RI.ent [.int i0, .int i1, .int i2, .int i3, .int i4, .int i5] maxLocals) [] [] = some (some (.int 1), ah') ∧ ah'.length ≤ room_1.cells ∧ RI.sz WW ah' ≤ room_1.slots := by
  obtain ⟨ah', h, N, hN⟩ := own_law i0 i1 i2 i3 i4 i5
  refine ⟨N, ah', hN, ?_⟩
  rcases h with rfl | rfl
  · exact ⟨Nat.le_of_ble_eq_true rfl, Nat.le_of_ble_eq_true rfl⟩
  · exact ⟨Nat.le_of_ble_eq_true rfl, Nat.le_of_ble_eq_true rfl⟩
/-! from the pure statement to the owed theorems -/
set_option maxRecDepth 65536 in
set_option maxHeartbeats 4000000 in
theorem comes_1 {Post : Tables → Env → Array Value → State → Outcome → State → Prop} (hpost : ∀ tb e args s v u, (limb_1_1.after args s (.returned v) u = true ∧ limb_1_2.after args s (.returned v) u = true ∧ True) → FrameEnd s (.returned v) u (Jvm.fieldLocs frame_1_writes args s ++ Jvm.arrayLocs frame_1_arrays args s ++ Jvm.staticLocs frame_1_statics s) 16 128 → Post tb e args s (.returned v) u) :
    ArmFor flags0 classFile x code maxLocals ret World_1 tables_1 room_1 Calls_1 rest_1 Pre_1 Post := by
  intro l hfl _ _ p e ha hc hk s m args below hf hA hF happ hP
  obtain ⟨hcalls, hrest, hpre⟩ := hP
  obtain ⟨-, -, -, hnamed, -, -, -, hat⟩ := (Spec.applies_iff hf).mp happ
  obtain ⟨hg, hn⟩ := and_e (Cond.before_iff.mp (show (Jvm.Cond.and given_1 narrow_1).before args s = true from hpre))
  obtain ⟨g1, g2⟩ := and_e hg
  obtain ⟨g3, g4⟩ := and_e g2
  obtain ⟨g5, g6⟩ := and_e g4
  obtain ⟨g7, g8⟩ := and_e g6
  obtain ⟨g9, g10⟩ := and_e g8
  obtain ⟨g11, g12⟩ := and_e g10
  obtain ⟨w0, w1, w2, w3, w4, w5, rfl⟩ : ∃ w0 w1 w2 w3 w4 w5 : Value, args = #[w0, w1, w2, w3, w4, w5] := by
    have hs : args.size = 6 := by simpa [Cond.value, given_1] using g1
    obtain ⟨L⟩ := args
    match L, hs with
    | [w0, w1, w2, w3, w4, w5], _ => exact ⟨w0, w1, w2, w3, w4, w5, rfl⟩
  obtain ⟨i0, ei0⟩ := is_v g3
  obtain rfl : w0 = (.int i0) := Option.some.inj ei0
  obtain ⟨i1, ei1⟩ := is_v g5
  obtain rfl : w1 = (.int i1) := Option.some.inj ei1
  obtain ⟨i2, ei2⟩ := is_v g7
  obtain rfl : w2 = (.int i2) := Option.some.inj ei2
  obtain ⟨i3, ei3⟩ := is_v g9
  obtain rfl : w3 = (.int i3) := Option.some.inj ei3
  obtain ⟨i4, ei4⟩ := is_v g11
  obtain rfl : w4 = (.int i4) := Option.some.inj ei4
  obtain ⟨i5, ei5⟩ := is_v g12
  obtain rfl : w5 = (.int i5) := Option.some.inj ei5
  have hw : ∀ d ∈ tab1, d.before #[.int i0, .int i1, .int i2, .int i3, .int i4, .int i5] s = true := fun d hd => atoms_spec (ws := Jvm.Cond.code x code maxLocals ret :: tables_1) hat d hd
  obtain ⟨N, ah', hrun, hcl, hsl⟩ := law_run i0 i1 i2 i3 i4 i5
  have hmet := RI.met (M := m_0) (l := l) (Z := s) (b := s.heap.size) (ah := []) (h0 := s.heap) (ws := tables_1) (dc := room_1.cells) (ds := room_1.slots) (RI.sound hw wok_1 plain_1 (RI.noX no6_1) N) (List.mem_cons_self ..) pl_0 hrun (Nat.le_of_ble_eq_true rfl) ⟨by simp, by simp, fun _ _ _ h => h⟩ (by simpa using hcl) (by simpa [RI.sz] using hsl)
  obtain ⟨n, o, h1, h2, h3, _, L, rfl, ⟨rfl, -, N⟩, hq⟩ := hmet p e ha hc hk s m _ below hf ((Spec.applies_iff_loose hf).mp happ).1 ⟨rfl, State.Warmed39.refl s, rfl⟩ trivial
  exact ⟨n, _, h1, h2, h3, hpost _ _ _ _ _ _ ⟨Cond.after_iff.mpr rfl, Cond.after_iff.mpr (eq_i res_at (Term.int_eval (1)) rfl), trivial⟩ ⟨hq.1, hq.2.1, (hq.2.2.sift fun y hy => Or.inr (N y hy)).mono (by decide) (by decide)⟩⟩
theorem main_1_1 : Claimed_1_1 := comes_1 fun _ _ _ _ _ _ h hF => ⟨h.1, hF⟩
theorem main_1_2 : Claimed_1_2 := comes_1 fun _ _ _ _ _ _ h hF => ⟨h.2.1, hF⟩
end Jvm.Pilot.@@N@@
namespace Jvm.Pilot.@@N@@
open Jvm Jvm.ClassFile Sem Op Lib Jvm.Free Jvm.Stand Jvm.Pilot.@@N@@.Jvm.D
/-! MADE BY PROGRAM (witnessworld.py) out of the Statement's table words and the real class files: 11 classes; the members and pool entries that the words name. The judged class is class 1, her method 1. -/
namespace start1
open Jvm.ClassFile
def u (s : String) : CpInfo := .utf8 (stringToUtf16 s)
/-- a pool by its gaps: so many unusable entries, then the entry; so many at the end -/
def gap : Nat → List CpInfo → List CpInfo
  | 0, r => r
  | n + 1, r => .unusable :: gap n r
def poolList (es : List (Nat × CpInfo)) (last : Nat) : List CpInfo := es.foldr (fun e r => gap e.1 (e.2 :: r)) (gap last [])
def pool (es : List (Nat × CpInfo)) (last : Nat) : Array CpInfo := ⟨poolList es last⟩
def fileOf (pool : Array CpInfo) (this : Nat) (attrs : Array Attribute := #[]) (ms : Array MethodInfo := #[]) (fl : Nat := 33) (sup : Nat := 0) (ifs : Array Nat := #[]) (fds : Array FieldInfo := #[]) : ClassFile where
  minorVersion := 0
  majorVersion := 65
  constantPool := pool
  accessFlags := fl
  thisClass := this
  superClass := sup
  interfaces := ifs
  fields := fds
  methods := ms
  attributes := attrs
def plain (name : String) (sup : Option ClassId) : Class where
  name := name
  kind := .ordinary
  loader := none
  accessFlags := 33
  super := sup
  interfaces := #[]
  cf := none
  fields := #[]
  methods := #[]
  instanceTypes := #[]
  staticTypes := #[]
  resolved := #[]
  callSites := []
  init := .initialized
  statics := none
  mirror := none

def pool0 : Array CpInfo := pool [(5, u "<init>"), (0, u "()V"), (1, .class_ 10), (1, u "java/lang/Object")] 113

def k0m0 : Method := { name := "<init>", desc := "()V", sig := { parameters := [], returnType := none }, accessFlags := 1, code := none }
/-- java/lang/Object -/
def k0 : Class := { plain "java/lang/Object" none with
  accessFlags := 33
  interfaces := #[]
  cf := some (fileOf pool0 8 #[] #[{ accessFlags := 1, nameIndex := 5, descriptorIndex := 6, attributes := #[] }] 33 0 #[] #[])
  fields := #[]
  methods := #[k0m0]
  instanceTypes := #[]
  staticTypes := #[]
  resolved := Array.replicate 124 none
  statics := none }

def pool1 : Array CpInfo := pool [(2, .class_ 4), (1, u "java/lang/Object"), (0, u "<init>"), (0, u "()V"), (0, .integer 2147483647), (0, .methodref 9 10), (0, .class_ 11), (0, .nameAndType 12 13), (0, u "com/example/postwire/postwire/NQueensExample"), (0, u "solutions"), (0, u "(IIII)J"), (0, .methodref 15 16), (0, .class_ 17), (0, .nameAndType 18 19), (0, u "com/example/postwire/postwire/NQueensExampleSolutionsPinLaw"), (0, u "expectedFew"), (0, u "(III)J"), (0, .methodref 15 21), (0, .nameAndType 22 23), (0, u "rev"), (0, u "(II)I"), (0, .long 2), (1, .long 10), (1, .long 4), (1, .long 40), (1, .long 92), (1, .long 352), (1, .long 724), (1, .integer 1431655765), (0, .integer 858993459), (0, .integer 252645135), (0, .integer 16711935), (2, u "law"), (0, u "(IIIIII)Z")] 5

def k1m0 : Method := { name := "<init>", desc := "()V", sig := { parameters := [], returnType := none }, accessFlags := 2, code := none }
def k1c1 : Code := { maxStack := 5, maxLocals := 16, code := code, exceptionTable := #[], attributes := #[] }
def k1m1 : Method := { name := "law", desc := "(IIIIII)Z", sig := { parameters := [.int, .int, .int, .int, .int, .int], returnType := some .boolean }, accessFlags := 9, code := some k1c1 }
def k1c2 : Code := { maxStack := 4, maxLocals := 9, code := method_3_code, exceptionTable := #[], attributes := #[] }
def k1m2 : Method := { name := "expectedFew", desc := "(III)J", sig := { parameters := [.int, .int, .int], returnType := some .long }, accessFlags := 10, code := some k1c2 }
def k1c3 : Code := { maxStack := 3, maxLocals := 2, code := method_4_code, exceptionTable := #[], attributes := #[] }
def k1m3 : Method := { name := "rev", desc := "(II)I", sig := { parameters := [.int, .int], returnType := some .int }, accessFlags := 10, code := some k1c3 }
/-- com/example/postwire/postwire/NQueensExampleSolutionsPinLaw -/
def k1 : Class := { plain "com/example/postwire/postwire/NQueensExampleSolutionsPinLaw" (some 0) with
  accessFlags := 49
  interfaces := #[]
  cf := some (fileOf pool1 15 #[] #[{ accessFlags := 2, nameIndex := 5, descriptorIndex := 6, attributes := #[] }, { accessFlags := 9, nameIndex := 44, descriptorIndex := 45, attributes := #[] }, { accessFlags := 10, nameIndex := 18, descriptorIndex := 19, attributes := #[] }, { accessFlags := 10, nameIndex := 22, descriptorIndex := 23, attributes := #[] }] 49 2 #[] #[])
  fields := #[]
  methods := #[k1m0, k1m1, k1m2, k1m3]
  instanceTypes := #[]
  staticTypes := #[]
  resolved := Array.replicate 51 none
  statics := none }

def pool2 : Array CpInfo := pool [(2, .class_ 4), (1, u "java/lang/Object"), (0, u "<init>"), (0, u "()V"), (1, .class_ 10), (1, u "com/example/postwire/postwire/NQueensExample"), (0, u "BOARD"), (0, u "Lcom/example/postwire/postwire/ExampleKit$NumberArgument;"), (37, u "NOTHING"), (0, u "[I"), (70, .methodref 8 123), (0, .nameAndType 124 125), (0, u "solutions"), (0, u "(IIII)J"), (68, u "SMALLEST_BOARD"), (0, u "I"), (2, u "LARGEST_BOARD"), (1, u "PIECES_PER_RANK"), (1, u "RUNS_PER_SHARE"), (1, u "READY"), (1, u "REQUEST"), (0, u "RUN"), (0, u "TOTAL"), (1, u "RUN_INTS")] 60

def k2m0 : Method := { name := "<init>", desc := "()V", sig := { parameters := [], returnType := none }, accessFlags := 2, code := none }
def k2c1 : Code := { maxStack := 7, maxLocals := 8, code := prog_137_method_10_code, exceptionTable := #[], attributes := #[] }
def k2m1 : Method := { name := "solutions", desc := "(IIII)J", sig := { parameters := [.int, .int, .int, .int], returnType := some .long }, accessFlags := 8, code := some k2c1 }
/-- com/example/postwire/postwire/NQueensExample -/
def k2 : Class := { plain "com/example/postwire/postwire/NQueensExample" (some 0) with
  accessFlags := 48
  interfaces := #[]
  cf := some (fileOf pool2 8 #[] #[{ accessFlags := 2, nameIndex := 5, descriptorIndex := 6, attributes := #[] }, { accessFlags := 8, nameIndex := 124, descriptorIndex := 125, attributes := #[] }] 48 2 #[] #[{ accessFlags := 24, nameIndex := 194, descriptorIndex := 195, attributes := #[] }, { accessFlags := 24, nameIndex := 198, descriptorIndex := 195, attributes := #[] }, { accessFlags := 24, nameIndex := 11, descriptorIndex := 12, attributes := #[] }, { accessFlags := 24, nameIndex := 200, descriptorIndex := 195, attributes := #[] }, { accessFlags := 24, nameIndex := 202, descriptorIndex := 195, attributes := #[] }, { accessFlags := 26, nameIndex := 204, descriptorIndex := 195, attributes := #[] }, { accessFlags := 26, nameIndex := 206, descriptorIndex := 195, attributes := #[] }, { accessFlags := 26, nameIndex := 207, descriptorIndex := 195, attributes := #[] }, { accessFlags := 26, nameIndex := 208, descriptorIndex := 195, attributes := #[] }, { accessFlags := 26, nameIndex := 210, descriptorIndex := 195, attributes := #[] }, { accessFlags := 26, nameIndex := 50, descriptorIndex := 51, attributes := #[] }])
  fields := #[{ name := "SMALLEST_BOARD", type := .int, accessFlags := 24, slot := 0, constantValue := 0 }, { name := "LARGEST_BOARD", type := .int, accessFlags := 24, slot := 1, constantValue := 0 }, { name := "BOARD", type := (.object "com/example/postwire/postwire/ExampleKit$NumberArgument"), accessFlags := 24, slot := 2, constantValue := 0 }, { name := "PIECES_PER_RANK", type := .int, accessFlags := 24, slot := 3, constantValue := 0 }, { name := "RUNS_PER_SHARE", type := .int, accessFlags := 24, slot := 4, constantValue := 0 }, { name := "READY", type := .int, accessFlags := 26, slot := 5, constantValue := 0 }, { name := "REQUEST", type := .int, accessFlags := 26, slot := 6, constantValue := 0 }, { name := "RUN", type := .int, accessFlags := 26, slot := 7, constantValue := 0 }, { name := "TOTAL", type := .int, accessFlags := 26, slot := 8, constantValue := 0 }, { name := "RUN_INTS", type := .int, accessFlags := 26, slot := 9, constantValue := 0 }, { name := "NOTHING", type := (.array .int), accessFlags := 26, slot := 10, constantValue := 0 }]
  methods := #[k2m0, k2m1]
  instanceTypes := #[]
  staticTypes := #[.int, .int, (.object "com/example/postwire/postwire/ExampleKit$NumberArgument"), .int, .int, .int, .int, .int, .int, .int, (.array .int)]
  resolved := Array.replicate 271 none
  statics := none }

def pool3 : Array CpInfo := pool [(1, u "java/lang/Cloneable"), (0, .class_ 1), (0, u "java/lang/Object"), (0, .class_ 3)] 3

/-- java/lang/Cloneable -/
def k3 : Class := { plain "java/lang/Cloneable" (some 0) with
  accessFlags := 1537
  interfaces := #[]
  cf := some (fileOf pool3 2 #[] #[] 1537 4 #[] #[])
  fields := #[]
  methods := #[]
  instanceTypes := #[]
  staticTypes := #[]
  resolved := Array.replicate 8 none
  statics := none }

def pool4 : Array CpInfo := pool [(1, u "java/io/Serializable"), (0, .class_ 1), (0, u "java/lang/Object"), (0, .class_ 3)] 3

/-- java/io/Serializable -/
def k4 : Class := { plain "java/io/Serializable" (some 0) with
  accessFlags := 1537
  interfaces := #[]
  cf := some (fileOf pool4 2 #[] #[] 1537 4 #[] #[])
  fields := #[]
  methods := #[]
  instanceTypes := #[]
  staticTypes := #[]
  resolved := Array.replicate 8 none
  statics := none }

/-- the primitive byte -/
def k5 : Class := { plain "byte" none with kind := .primitive 'B', accessFlags := 0x411 }
/-- [B -/
def k6 : Class := { plain "[B" (some 0) with kind := .array 5 .byte, interfaces := #[3, 4], accessFlags := 1041 }

/-- the primitive int -/
def k7 : Class := { plain "int" none with kind := .primitive 'I', accessFlags := 0x411 }
/-- [I -/
def k8 : Class := { plain "[I" (some 0) with kind := .array 7 .int, interfaces := #[3, 4], accessFlags := 1041 }

/-- the primitive long -/
def k9 : Class := { plain "long" none with kind := .primitive 'J', accessFlags := 0x411 }
/-- [J -/
def k10 : Class := { plain "[J" (some 0) with kind := .array 9 .long, interfaces := #[3, 4], accessFlags := 1041 }

def heap : Heap := #[]
def classes : Array Class := #[k0, k1, k2, k3, k4, k5, k6, k7, k8, k9, k10]
def interned : List (Array UInt16 × Addr) := []
def slotsUsed : Nat := 0
def theMethod : MethodId := ⟨1, 1⟩
def args0 : Array Value := #[.int 5, .int 1, .int 3, .int 4, .int 7, .int 5]
def aboutOver (below : List Frame) : State where
  vm := { classes := classes, interned := interned.toArray }
  heap := heap
  slotsUsed := slotsUsed
  threads := #[{ frames := .invoking theMethod args0 :: below }]
def below0 : List Frame := [.native { method := ⟨0, 0⟩, args := #[] }]
def about1 : State := aboutOver below0
def p0 : Program := .bare "" "" ""
def e0 : Env := launch0.env 0 0 0
theorem w_frames : about1.frames = Frame.invoking theMethod args0 :: below0 := rfl
set_option maxRecDepth 65536 in
theorem w_args : argsFit about1.vm theMethod args0 = true := by decide +kernel
set_option maxRecDepth 65536 in
theorem w_heap : heapFits about1 = true := by decide +kernel
set_option maxRecDepth 65536 in
theorem w_runnable : about1.curStatus? = some .runnable := by decide +kernel
set_option maxRecDepth 65536 in
theorem w_alone : about1.alone = true := by decide +kernel
set_option maxRecDepth 65536 in
theorem w_named : about1.methodNamed? x = some theMethod := by decide +kernel
set_option maxRecDepth 65536 in
theorem w_hears : about1.hears theMethod below0 = true := by decide +kernel
set_option maxRecDepth 65536 in
theorem w_ripe : about1.ripe theMethod args0 below0 = true := by decide +kernel
theorem w_running : about1.status = .running := rfl
set_option maxRecDepth 65536 in
theorem w_room : about1.hasRoom e0.platform room_1 = true :=
  launch0.hasRoom_least _ room_1 (by decide +kernel) (by decide +kernel) (by decide +kernel) (by decide +kernel) (by decide +kernel) (by decide +kernel)
theorem allAtoms_all (ts : List Jvm.Cond) (a : Array Jvm.Value) (st : Jvm.State) : (allAtoms ts).before a st = ts.all (fun c => c.before a st) := by
  induction ts with
  | nil => rfl
  | cons c t ih =>
    show (Jvm.Cond.and c (allAtoms t)).before a st = _
    rw [Jvm.Cond.before_and, ih, List.all_cons]
def words1 : List Jvm.Cond := Jvm.Cond.code x code maxLocals ret :: tables_1
/-- a 'code' word, met by the world's own term for the bytes: nothing is compared byte by byte -/
theorem code_word {y : MethodName} {bytes : ByteArray} {mx : Nat} {rt : Option FieldType} {a : Array Value} {s : State} {m : MethodId} {meth : Method} {c : Code} (h1 : s.methodNamed? y = some m) (h2 : s.vm.method? m = some meth) (h3 : meth.code = some c) (h4 : c.code = bytes)
    (h5 : (c.maxLocals == mx && c.exceptionTable.isEmpty && decide (c.maxStack ≤ mostOperands) && decide (meth.sig.returnType = rt) && !meth.locks && decide (parseMethodDescriptor y.desc = some meth.sig)) = true) : (Jvm.Cond.code y bytes mx rt).before a s = true := by
  simp only [Bool.and_eq_true, beq_iff_eq, Bool.not_eq_true', decide_eq_true_eq] at h5
  obtain ⟨⟨⟨⟨⟨g1, g2⟩, g3⟩, g4⟩, g5⟩, g6⟩ := h5
  simp [Cond.before, Cond.holds, Cond.value, h1, h2, h3, h4, g1, g2, g3, g4, g5, g6]
def isCode : Jvm.Cond → Bool
  | .code _ _ _ _ => true
  | _ => false
theorem all_split {L : List Jvm.Cond} {P : Jvm.Cond → Bool} (h1 : L.all (fun c => isCode c || P c) = true) (h2 : ∀ c ∈ L.filter isCode, P c = true) : L.all P = true := by
  refine List.all_eq_true.mpr fun c hc => ?_
  have h := List.all_eq_true.mp h1 c hc
  rcases Bool.eq_false_or_eq_true (isCode c) with hi | hi
  · exact h2 c (List.mem_filter.mpr ⟨hc, hi⟩)
  · simpa [hi] using h
set_option maxRecDepth 65536 in
theorem w_c0 : (Jvm.Cond.code x code maxLocals ret).before args0 about1 = true := code_word (m := ⟨1, 1⟩) (meth := k1m1) (c := k1c1) (by decide +kernel) rfl rfl rfl (by decide +kernel)
set_option maxRecDepth 65536 in
theorem w_c1 : (Jvm.Cond.code ({ cls := "com/example/postwire/postwire/NQueensExample", name := "solutions", desc := "(IIII)J" } : Jvm.MethodName) prog_137_method_10_code (8 : Nat) (Option.some Jvm.ClassFile.FieldType.long)).before args0 about1 = true := code_word (m := ⟨2, 1⟩) (meth := k2m1) (c := k2c1) (by decide +kernel) rfl rfl rfl (by decide +kernel)
set_option maxRecDepth 65536 in
theorem w_c2 : (Jvm.Cond.code ({ cls := "com/example/postwire/postwire/NQueensExampleSolutionsPinLaw", name := "expectedFew", desc := "(III)J" } : Jvm.MethodName) method_3_code (9 : Nat) (Option.some Jvm.ClassFile.FieldType.long)).before args0 about1 = true := code_word (m := ⟨1, 2⟩) (meth := k1m2) (c := k1c2) (by decide +kernel) rfl rfl rfl (by decide +kernel)
set_option maxRecDepth 65536 in
theorem w_c3 : (Jvm.Cond.code ({ cls := "com/example/postwire/postwire/NQueensExampleSolutionsPinLaw", name := "rev", desc := "(II)I" } : Jvm.MethodName) method_4_code (2 : Nat) (Option.some Jvm.ClassFile.FieldType.int)).before args0 about1 = true := code_word (m := ⟨1, 3⟩) (meth := k1m3) (c := k1c3) (by decide +kernel) rfl rfl rfl (by decide +kernel)
def codes1 : List Jvm.Cond := [Jvm.Cond.code x code maxLocals ret, Jvm.Cond.code ({ cls := "com/example/postwire/postwire/NQueensExample", name := "solutions", desc := "(IIII)J" } : Jvm.MethodName) prog_137_method_10_code (8 : Nat) (Option.some Jvm.ClassFile.FieldType.long), Jvm.Cond.code ({ cls := "com/example/postwire/postwire/NQueensExampleSolutionsPinLaw", name := "expectedFew", desc := "(III)J" } : Jvm.MethodName) method_3_code (9 : Nat) (Option.some Jvm.ClassFile.FieldType.long), Jvm.Cond.code ({ cls := "com/example/postwire/postwire/NQueensExampleSolutionsPinLaw", name := "rev", desc := "(II)I" } : Jvm.MethodName) method_4_code (2 : Nat) (Option.some Jvm.ClassFile.FieldType.int)]
set_option maxRecDepth 65536 in
theorem codes_eq : words1.filter isCode = codes1 := rfl
theorem w_codes : ∀ c ∈ words1.filter isCode, c.before args0 about1 = true := by
  rw [codes_eq]
  intro c hc
  simp only [codes1, List.mem_cons, List.not_mem_nil, or_false] at hc
  rcases hc with rfl | rfl | rfl | rfl
  · exact w_c0
  · exact w_c1
  · exact w_c2
  · exact w_c3
set_option maxRecDepth 65536 in
theorem w_t1 : (words1.take 24).all (fun c => isCode c || c.before args0 about1) = true := by decide +kernel
set_option maxRecDepth 65536 in
theorem w_t2 : (words1.drop 24).all (fun c => isCode c || c.before args0 about1) = true := by decide +kernel
theorem w_tables : (allAtoms (Jvm.Cond.code x code maxLocals ret :: tables_1)).before args0 about1 = true := by
  rw [allAtoms_all]
  show words1.all (fun c => c.before args0 about1) = true
  refine all_split ?_ w_codes
  rw [← List.take_append_drop 24 words1, List.all_append, w_t1, w_t2]
  rfl
set_option maxRecDepth 65536 in
theorem w_case : (Jvm.Cond.and given_1 narrow_1).before args0 about1 = true := by decide +kernel
theorem w_applies : (headSpec (Jvm.Cond.code x code maxLocals ret :: tables_1) room_1).applies x e0.platform about1 = true :=
  (Spec.applies_iff w_frames).mpr ⟨w_running, w_runnable, w_alone, w_named, w_hears, w_ripe, w_room, w_tables⟩
theorem atStart : AtStart classFile x code maxLocals ret World_1 tables_1 room_1 Calls_1 rest_1 Pre_1 launch0 p0 e0 about1 theMethod args0 below0 :=
  ⟨lists_1, trivial, launch0.admits_env _ _ _, launch0.least_env, fairChoices_fair.cas, fairChoices_fair.clock, w_frames, w_args, w_heap, w_applies, trivial, trivial, w_case⟩
end start1
theorem witness_1 : WitnessClaimed_1 := ⟨start1.p0, start1.e0, start1.about1, start1.theMethod, start1.args0, start1.below0, start1.atStart⟩
end Jvm.Pilot.@@N@@
