import JvmDerived
import JvmDerived.Pilot.@@N@@Statement
import JvmDerived.Pilot.@@N@@Code
set_option linter.unusedVariables false
set_option linter.unusedSimpArgs false

namespace Jvm.RI
open Sem ClassFile Op Lib Jvm.Stand Jvm.Free Jvm.LawKit Jvm.RoadKit
/-! THE LAYER: bytecode run over an abstract heap of the objects that the law itself makes. -/
abbrev FD : Type := String × String × String × FieldType × Bool
abbrev CL : Type := String × Nat × List FD
abbrev AObj : Type := (Nat × List Value) ⊕ (FieldType × List Value)
abbrev AH : Type := List AObj
abbrev FLk : Type := Nat × Nat × Bool × FieldType × String × String
abbrev MLk : Type := Nat × Nat × Nat × MethodName
abbrev Mth : Type := MethodName × ByteArray × Nat × Option FieldType × Nat × Nat × (Nat → Option (Instr × Nat × Nat)) × List (Nat × Int32) × List (Nat × Int64) × List (Nat × FLk) × List (Nat × MLk) × List (Nat × Nat)
abbrev Wld : Type := List Mth × List CL
def mNm (M : Mth) : MethodName := M.1
def mCode (M : Mth) : ByteArray := M.2.1
def mMax (M : Mth) : Nat := M.2.2.1
def mRet (M : Mth) : Option FieldType := M.2.2.2.1
def mArgs (M : Mth) : Nat := M.2.2.2.2.1
def mLen (M : Mth) : Nat := M.2.2.2.2.2.1
def mDec (M : Mth) : Nat → Option (Instr × Nat × Nat) := M.2.2.2.2.2.2.1
def mCi (M : Mth) : List (Nat × Int32) := M.2.2.2.2.2.2.2.1
def mCl (M : Mth) : List (Nat × Int64) := M.2.2.2.2.2.2.2.2.1
def mFl (M : Mth) : List (Nat × FLk) := M.2.2.2.2.2.2.2.2.2.1
def mMl (M : Mth) : List (Nat × MLk) := M.2.2.2.2.2.2.2.2.2.2.1
def mKl (M : Mth) : List (Nat × Nat) := M.2.2.2.2.2.2.2.2.2.2.2
def lk {α : Type} : List (Nat × α) → Nat → Option α
  | [], _ => none
  | q :: r, i => bif Nat.beq q.1 i then some q.2 else lk r i
theorem lk_mem {α : Type} {i : Nat} {v : α} : ∀ {l : List (Nat × α)}, lk l i = some v → (i, v) ∈ l
  | [], h => nomatch h
  | q :: r, h => by
    unfold lk at h
    cases hb : Nat.beq q.1 i with
    | true =>
      rw [hb] at h
      have e1 : q.1 = i := Nat.eq_of_beq_eq_true hb
      have e2 : q.2 = v := Option.some.inj h
      subst e1 e2
      exact List.mem_cons_self ..
    | false =>
      rw [hb] at h
      exact List.mem_cons_of_mem _ (lk_mem h)
def up (b : Nat) : Value → Value
  | .ref i => .ref (b + i)
  | v => v
def upS (b : Nat) : Slot → Slot
  | .val v => .val (up b v)
  | s => s
theorem up_cat (b : Nat) (v : Value) : (up b v).category = v.category := by cases v <;> rfl
theorem up_isRef (b : Nat) (v : Value) : (up b v).isRef = v.isRef := by cases v <;> rfl
theorem up_inj {b : Nat} {v w : Value} : up b v = up b w ↔ v = w := by
  constructor
  · intro h
    cases v <;> cases w <;> simp only [up, Value.ref.injEq, reduceCtorEq] at h <;> first | rfl | exact h | (have h' := Nat.add_left_cancel h; rw [h']) | cases h
  · rintro rfl; rfl
/-! the locals -/
def setL (L : List Slot) (i : Nat) (x : Slot) : Option (List Slot) := if i < L.length then some (L.set i x) else none
def stSelf (L : List Slot) (i : Nat) (v : Value) : Option (List Slot) :=
  match setL L i (.val v) with
  | none => none
  | some L =>
    if v.category = 2 then
      match L[i + 1]? with
      | none => none
      | some (.val old) => if old.category = 2 then (match setL L (i + 2) .unset with | none => none | some L => setL L (i + 1) .second) else setL L (i + 1) .second
      | some _ => setL L (i + 1) .second
    else some L
def stL (L : List Slot) (i : Nat) (v : Value) : Option (List Slot) :=
  match L[i]? with
  | none => none
  | some .second => (match setL L (i - 1) .unset with | none => none | some L => stSelf L i v)
  | some (.val old) => if old.category = 2 then (match setL L (i + 1) .unset with | none => none | some L => stSelf L i v) else stSelf L i v
  | some .unset => stSelf L i v
theorem setL_len {L L' : List Slot} {i : Nat} {x : Slot} (h : setL L i x = some L') : L'.length = L.length := by
  unfold setL at h; split at h
  · cases h; simp
  · cases h
theorem stSelf_len {L L' : List Slot} {i : Nat} {v : Value} (h : stSelf L i v = some L') : L'.length = L.length := by
  unfold stSelf at h
  split at h
  · cases h
  · rename_i L1 h1
    have e1 := setL_len h1
    split at h
    · split at h
      · cases h
      · split at h
        · split at h
          · cases h
          · rename_i L2 h2
            rw [setL_len h, setL_len h2, e1]
        · rw [setL_len h, e1]
      · rw [setL_len h, e1]
    · cases h; exact e1
theorem stL_len {L L' : List Slot} {i : Nat} {v : Value} (h : stL L i v = some L') : L'.length = L.length := by
  unfold stL at h
  split at h
  · cases h
  · split at h
    · cases h
    · rename_i L1 h1
      rw [stSelf_len h, setL_len h1]
  · split at h
    · split at h
      · cases h
      · rename_i L1 h1
        rw [stSelf_len h, setL_len h1]
    · exact stSelf_len h
  · exact stSelf_len h
theorem setAt_up (b : Nat) {L L' : List Slot} {i : Nat} {x : Slot} (h : setL L i x = some L') : setAt (L.map (upS b)).toArray i (upS b x) = some (L'.map (upS b)).toArray := by
  unfold setL at h
  split at h
  · rename_i hi
    cases h
    simp [setAt, hi, List.map_set]
  · cases h
theorem get_up (b : Nat) {L : List Slot} {i : Nat} {x : Slot} (h : L[i]? = some x) : (L.map (upS b)).toArray[i]? = some (upS b x) := by
  simp [h]
theorem stSelf_up (b : Nat) {L L' : List Slot} {i : Nat} {v : Value} (h : stSelf L i v = some L') : storeSelf (L.map (upS b)).toArray i (up b v) = some (L'.map (upS b)).toArray := by
  unfold stSelf at h
  split at h
  · cases h
  · rename_i L1 h1
    have e1 : setAt (L.map (upS b)).toArray i (.val (up b v)) = some (L1.map (upS b)).toArray := setAt_up b h1
    unfold storeSelf
    simp only [e1, Option.bind_eq_bind, Option.bind_some, up_cat]
    split at h
    · rename_i hc
      simp only [hc, if_true]
      split at h
      · cases h
      · rename_i old ho
        have e2 : (L1.map (upS b)).toArray[i + 1]? = some (.val (up b old)) := get_up b ho
        simp only [e2, Option.bind_some, up_cat]
        split at h
        · rename_i hc2
          simp only [hc2, if_true]
          split at h
          · cases h
          · rename_i L2 h2
            have e3 : setAt (L1.map (upS b)).toArray (i + 2) .unset = some (L2.map (upS b)).toArray := setAt_up b h2
            simp only [e3, Option.bind_some]
            exact setAt_up b h
        · rename_i hc2
          simp only [hc2, if_false]
          exact setAt_up b h
      · rename_i y hy1 hy2
        have e2 := get_up b hy2
        simp only [e2, Option.bind_some]
        cases y with
        | unset => exact setAt_up b h
        | second => exact setAt_up b h
        | val w => exact absurd rfl (hy1 w)
    · rename_i hc
      cases h
      simp only [hc, if_false]
theorem stL_up (b : Nat) {L L' : List Slot} {i : Nat} {v : Value} (h : stL L i v = some L') : storeLocals (L.map (upS b)).toArray i (up b v) = some (L'.map (upS b)).toArray := by
  unfold stL at h
  unfold storeLocals
  split at h
  · cases h
  · rename_i h0
    have e0 := get_up b h0
    simp only [e0, Option.bind_eq_bind, Option.bind_some, upS]
    split at h
    · cases h
    · rename_i L1 h1
      have e1 : setAt (L.map (upS b)).toArray (i - 1) .unset = some (L1.map (upS b)).toArray := setAt_up b h1
      simp only [e1, Option.bind_some]
      exact stSelf_up b h
  · rename_i old h0
    have e0 := get_up b h0
    simp only [e0, Option.bind_eq_bind, Option.bind_some, upS, up_cat]
    split at h
    · rename_i hc
      simp only [hc, if_true]
      split at h
      · cases h
      · rename_i L1 h1
        have e1 : setAt (L.map (upS b)).toArray (i + 1) .unset = some (L1.map (upS b)).toArray := setAt_up b h1
        simp only [e1, Option.bind_some]
        exact stSelf_up b h
    · rename_i hc
      simp only [hc, if_false]
      exact stSelf_up b h
  · rename_i h0
    have e0 := get_up b h0
    simp only [e0, Option.bind_eq_bind, Option.bind_some, upS]
    exact stSelf_up b h
def ilen : Instr → Nat
  | .aload _ | .iload _ | .lload _ | .istore _ | .lstore _ | .astore _ | .bipush _ | .ldc _ | .newarray _ => 2
  | .sipush _ | .ldc_w _ | .ldc2_w _ | .iinc _ _ | .goto _ | .ifCond _ _ | .if_icmp _ _ | .if_acmp _ _ | .ifnull _ | .ifnonnull _ | .getfield _ | .putfield _ | .getstatic _ | .invokevirtual _ | .invokespecial _ | .invokestatic _ | .new _ | .checkcast _ | .instanceof _ => 3
  | _ => 1
abbrev PF : Type := Nat × List Slot × List Value
def okTg (pc : Nat) (tg : Nat) : Instr → Bool
  | .goto o => decide ((pc : Int) + o = (tg : Int))
  | .ifCond _ o => decide ((pc : Int) + o = (tg : Int))
  | .if_icmp _ o => decide ((pc : Int) + o = (tg : Int))
  | .if_acmp _ o => decide ((pc : Int) + o = (tg : Int))
  | .ifnull o => decide ((pc : Int) + o = (tg : Int))
  | .ifnonnull o => decide ((pc : Int) + o = (tg : Int))
  | _ => true
theorem tg_spec {pc tg : Nat} {o : Int} (h : decide ((pc : Int) + o = (tg : Int)) = true) : 0 ≤ (pc : Int) + o ∧ ((pc : Int) + o).toNat = tg := by
  have q := of_decide_eq_true h
  rw [q]
  exact ⟨Int.natCast_nonneg _, rfl⟩

def p_iadd (nx tg : Nat) (L : List Slot) (S : List Value) : Option PF := (match S with | .int y :: .int x :: r => some (nx, L, .int (x + y) :: r) | _ => none)
def p_isub (nx tg : Nat) (L : List Slot) (S : List Value) : Option PF := (match S with | .int y :: .int x :: r => some (nx, L, .int (x - y) :: r) | _ => none)
def p_imul (nx tg : Nat) (L : List Slot) (S : List Value) : Option PF := (match S with | .int y :: .int x :: r => some (nx, L, .int (x * y) :: r) | _ => none)
def p_iand (nx tg : Nat) (L : List Slot) (S : List Value) : Option PF := (match S with | .int y :: .int x :: r => some (nx, L, .int (x &&& y) :: r) | _ => none)
def p_ior (nx tg : Nat) (L : List Slot) (S : List Value) : Option PF := (match S with | .int y :: .int x :: r => some (nx, L, .int (x ||| y) :: r) | _ => none)
def p_ixor (nx tg : Nat) (L : List Slot) (S : List Value) : Option PF := (match S with | .int y :: .int x :: r => some (nx, L, .int (x ^^^ y) :: r) | _ => none)
def p_ishl (nx tg : Nat) (L : List Slot) (S : List Value) : Option PF := (match S with | .int y :: .int x :: r => some (nx, L, .int (x <<< (y &&& 31)) :: r) | _ => none)
def p_ishr (nx tg : Nat) (L : List Slot) (S : List Value) : Option PF := (match S with | .int y :: .int x :: r => some (nx, L, .int (x >>> (y &&& 31)) :: r) | _ => none)
def p_iushr (nx tg : Nat) (L : List Slot) (S : List Value) : Option PF := (match S with | .int y :: .int x :: r => some (nx, L, .int (XT.ushr x y) :: r) | _ => none)
def p_ladd (nx tg : Nat) (L : List Slot) (S : List Value) : Option PF := (match S with | .long y :: .long x :: r => some (nx, L, .long (x + y) :: r) | _ => none)
def p_lsub (nx tg : Nat) (L : List Slot) (S : List Value) : Option PF := (match S with | .long y :: .long x :: r => some (nx, L, .long (x - y) :: r) | _ => none)
def p_lmul (nx tg : Nat) (L : List Slot) (S : List Value) : Option PF := (match S with | .long y :: .long x :: r => some (nx, L, .long (x * y) :: r) | _ => none)
def p_land (nx tg : Nat) (L : List Slot) (S : List Value) : Option PF := (match S with | .long y :: .long x :: r => some (nx, L, .long (x &&& y) :: r) | _ => none)
def p_lor (nx tg : Nat) (L : List Slot) (S : List Value) : Option PF := (match S with | .long y :: .long x :: r => some (nx, L, .long (x ||| y) :: r) | _ => none)
def p_lxor (nx tg : Nat) (L : List Slot) (S : List Value) : Option PF := (match S with | .long y :: .long x :: r => some (nx, L, .long (x ^^^ y) :: r) | _ => none)
def p_lshl (nx tg : Nat) (L : List Slot) (S : List Value) : Option PF := (match S with | .int y :: .long x :: r => some (nx, L, .long (x <<< (y.toInt64 &&& 63)) :: r) | _ => none)
def p_lshr (nx tg : Nat) (L : List Slot) (S : List Value) : Option PF := (match S with | .int y :: .long x :: r => some (nx, L, .long (x >>> (y.toInt64 &&& 63)) :: r) | _ => none)
def p_lushr (nx tg : Nat) (L : List Slot) (S : List Value) : Option PF := (match S with | .int y :: .long x :: r => some (nx, L, .long (XT.ushrL x y) :: r) | _ => none)
def p_ineg (nx tg : Nat) (L : List Slot) (S : List Value) : Option PF := (match S with | .int x :: r => some (nx, L, .int (-x) :: r) | _ => none)
def p_lneg (nx tg : Nat) (L : List Slot) (S : List Value) : Option PF := (match S with | .long x :: r => some (nx, L, .long (-x) :: r) | _ => none)
def p_i2l (nx tg : Nat) (L : List Slot) (S : List Value) : Option PF := (match S with | .int x :: r => some (nx, L, .long (x.toInt64) :: r) | _ => none)
def p_l2i (nx tg : Nat) (L : List Slot) (S : List Value) : Option PF := (match S with | .long x :: r => some (nx, L, .int (x.toInt32) :: r) | _ => none)
def p_i2b (nx tg : Nat) (L : List Slot) (S : List Value) : Option PF := (match S with | .int x :: r => some (nx, L, .int (x.toInt8.toInt32) :: r) | _ => none)
def p_idiv (nx tg : Nat) (L : List Slot) (S : List Value) : Option PF := (match S with | .int y :: .int x :: r => if y = 0 then none else some (nx, L, .int (x / y) :: r) | _ => none)
def p_irem (nx tg : Nat) (L : List Slot) (S : List Value) : Option PF := (match S with | .int y :: .int x :: r => if y = 0 then none else some (nx, L, .int (x % y) :: r) | _ => none)
def p_lcmp (nx tg : Nat) (L : List Slot) (S : List Value) : Option PF := (match S with | .long y :: .long x :: r => some (nx, L, .int (XT.cmpL x y) :: r) | _ => none)
def p_iload (k : Nat) (nx tg : Nat) (L : List Slot) (S : List Value) : Option PF := (match L[k]? with | some (.val (.int v)) => some (nx, L, .int v :: S) | _ => none)
def p_iload_n (j : Fin 4) (nx tg : Nat) (L : List Slot) (S : List Value) : Option PF := (match L[j.val]? with | some (.val (.int v)) => some (nx, L, .int v :: S) | _ => none)
def p_lload (k : Nat) (nx tg : Nat) (L : List Slot) (S : List Value) : Option PF := (match L[k]? with | some (.val (.long v)) => some (nx, L, .long v :: S) | _ => none)
def p_lload_n (j : Fin 4) (nx tg : Nat) (L : List Slot) (S : List Value) : Option PF := (match L[j.val]? with | some (.val (.long v)) => some (nx, L, .long v :: S) | _ => none)
def p_aload (k : Nat) (nx tg : Nat) (L : List Slot) (S : List Value) : Option PF := (match L[k]? with | some (.val v) => (match v.isRef with | true => some (nx, L, v :: S) | false => none) | _ => none)
def p_aload_n (j : Fin 4) (nx tg : Nat) (L : List Slot) (S : List Value) : Option PF := (match L[j.val]? with | some (.val v) => (match v.isRef with | true => some (nx, L, v :: S) | false => none) | _ => none)
def p_istore (k : Nat) (nx tg : Nat) (L : List Slot) (S : List Value) : Option PF := (match S with | .int x :: r => (match stL L k (.int x) with | some L' => some (nx, L', r) | none => none) | _ => none)
def p_istore_n (j : Fin 4) (nx tg : Nat) (L : List Slot) (S : List Value) : Option PF := (match S with | .int x :: r => (match stL L j.val (.int x) with | some L' => some (nx, L', r) | none => none) | _ => none)
def p_lstore (k : Nat) (nx tg : Nat) (L : List Slot) (S : List Value) : Option PF := (match S with | .long x :: r => (match stL L k (.long x) with | some L' => some (nx, L', r) | none => none) | _ => none)
def p_lstore_n (j : Fin 4) (nx tg : Nat) (L : List Slot) (S : List Value) : Option PF := (match S with | .long x :: r => (match stL L j.val (.long x) with | some L' => some (nx, L', r) | none => none) | _ => none)
def p_astore (k : Nat) (nx tg : Nat) (L : List Slot) (S : List Value) : Option PF := (match S with | x :: r => (match x.isRef with | true => (match stL L k x with | some L' => some (nx, L', r) | none => none) | false => none) | _ => none)
def p_astore_n (j : Fin 4) (nx tg : Nat) (L : List Slot) (S : List Value) : Option PF := (match S with | x :: r => (match x.isRef with | true => (match stL L j.val x with | some L' => some (nx, L', r) | none => none) | false => none) | _ => none)
def p_iinc (k : Nat) (cst : Int) (nx tg : Nat) (L : List Slot) (S : List Value) : Option PF := (match L[k]? with | some (.val (.int x)) => (match stL L k (.int (x + Int32.ofInt cst)) with | some L' => some (nx, L', S) | none => none) | _ => none)
def p_iconst (z : Int) (nx tg : Nat) (L : List Slot) (S : List Value) : Option PF := some (nx, L, .int (Int32.ofInt z) :: S)
def p_bipush (z : Int) (nx tg : Nat) (L : List Slot) (S : List Value) : Option PF := some (nx, L, .int (Int8.ofInt z).toInt32 :: S)
def p_sipush (z : Int) (nx tg : Nat) (L : List Slot) (S : List Value) : Option PF := some (nx, L, .int (Int16.ofInt z).toInt32 :: S)
def p_lconst (z : Fin 2) (nx tg : Nat) (L : List Slot) (S : List Value) : Option PF := some (nx, L, .long (Int64.ofNat z) :: S)
def p_aconst_null (nx tg : Nat) (L : List Slot) (S : List Value) : Option PF := some (nx, L, .null :: S)
def p_ldc (M : Mth) (idx : Nat) (nx tg : Nat) (L : List Slot) (S : List Value) : Option PF := (match lk (mCi M) idx with | some v => some (nx, L, .int v :: S) | none => none)
def p_ldc_w (M : Mth) (idx : Nat) (nx tg : Nat) (L : List Slot) (S : List Value) : Option PF := (match lk (mCi M) idx with | some v => some (nx, L, .int v :: S) | none => none)
def p_ldc2_w (M : Mth) (idx : Nat) (nx tg : Nat) (L : List Slot) (S : List Value) : Option PF := (match lk (mCl M) idx with | some v => some (nx, L, .long v :: S) | none => none)
def p_dup (nx tg : Nat) (L : List Slot) (S : List Value) : Option PF := (match S with | x :: r => (match x.category with | 1 => some (nx, L, x :: x :: r) | _ => none) | _ => none)
def p_pop (nx tg : Nat) (L : List Slot) (S : List Value) : Option PF := (match S with | x :: r => (match x.category with | 1 => some (nx, L, r) | _ => none) | _ => none)
def p_dup_x1 (nx tg : Nat) (L : List Slot) (S : List Value) : Option PF := (match S with | x :: y :: r => (match x.category, y.category with | 1, 1 => some (nx, L, x :: y :: x :: r) | _, _ => none) | _ => none)
def p_dup2 (nx tg : Nat) (L : List Slot) (S : List Value) : Option PF := (match S with | x :: y :: r => (match x.category, y.category with | 1, 1 => some (nx, L, x :: y :: x :: y :: r) | _, _ => none) | _ => none)
def p_goto (o : Int) (nx tg : Nat) (L : List Slot) (S : List Value) : Option PF := some (tg, L, S)
def p_ifCond (cd : ClassFile.Cond) (o : Int) (nx tg : Nat) (L : List Slot) (S : List Value) : Option PF := (match S with | .int x :: r => (match ifCond.holds cd x with | true => some (tg, L, r) | false => some (nx, L, r)) | _ => none)
def p_if_icmp (cd : ClassFile.Cond) (o : Int) (nx tg : Nat) (L : List Slot) (S : List Value) : Option PF := (match S with | .int y :: .int x :: r => (match if_icmp.holds cd x y with | true => some (tg, L, r) | false => some (nx, L, r)) | _ => none)
def p_ifnull (o : Int) (nx tg : Nat) (L : List Slot) (S : List Value) : Option PF := (match S with | .null :: r => some (tg, L, r) | .ref _ :: r => some (nx, L, r) | _ => none)
def p_ifnonnull (o : Int) (nx tg : Nat) (L : List Slot) (S : List Value) : Option PF := (match S with | .ref _ :: r => some (tg, L, r) | .null :: r => some (nx, L, r) | _ => none)
def p_if_acmp (cd : ACond) (o : Int) (nx tg : Nat) (L : List Slot) (S : List Value) : Option PF := (match S with | y :: x :: r => (match x.isRef, y.isRef with | true, true => (match acV cd (decide (x = y)) with | true => some (tg, L, r) | false => some (nx, L, r)) | _, _ => none) | _ => none)
def p_getfield (M : Mth) (ah : AH) (idx : Nat) (nx tg : Nat) (L : List Slot) (S : List Value) : Option PF := (match S with | .ref a :: r => (match lk (mFl M) idx, ah[a]? with | some q, some (.inl (k, vs)) => (match Nat.beq k q.1, vs[q.2.1]? with | true, some v => some (nx, L, v :: r) | _, _ => none) | _, _ => none) | _ => none)
def p_arraylength (ah : AH) (nx tg : Nat) (L : List Slot) (S : List Value) : Option PF := (match S with | .ref a :: r => (match ah[a]? with | some (.inr (_, vs)) => some (nx, L, .int vs.length.toInt32 :: r) | _ => none) | _ => none)
def p_iaload (ah : AH) (nx tg : Nat) (L : List Slot) (S : List Value) : Option PF := (match S with | .int j :: .ref a :: r => (match ah[a]? with | some (.inr (.int, vs)) => if j < 0 then none else (match vs[j.toNatClampNeg]? with | some v => some (nx, L, v :: r) | none => none) | _ => none) | _ => none)
def p_laload (ah : AH) (nx tg : Nat) (L : List Slot) (S : List Value) : Option PF := (match S with | .int j :: .ref a :: r => (match ah[a]? with | some (.inr (.long, vs)) => if j < 0 then none else (match vs[j.toNatClampNeg]? with | some v => some (nx, L, v :: r) | none => none) | _ => none) | _ => none)
def p_baload (ah : AH) (nx tg : Nat) (L : List Slot) (S : List Value) : Option PF := (match S with | .int j :: .ref a :: r => (match ah[a]? with | some (.inr (.byte, vs)) => if j < 0 then none else (match vs[j.toNatClampNeg]? with | some v => some (nx, L, v :: r) | none => none) | some (.inr (.boolean, vs)) => if j < 0 then none else (match vs[j.toNatClampNeg]? with | some v => some (nx, L, v :: r) | none => none) | _ => none) | _ => none)
def p_checkcast (M : Mth) (ah : AH) (idx : Nat) (nx tg : Nat) (L : List Slot) (S : List Value) : Option PF := (match S with | .ref a :: r => (match lk (mKl M) idx, ah[a]? with | some (k + 1), some (.inl (k', _)) => (match Nat.beq k' k with | true => some (nx, L, .ref a :: r) | false => none) | some 0, some (.inr (.int, _)) => some (nx, L, .ref a :: r) | _, _ => none) | _ => none)
def p_instanceof (M : Mth) (ah : AH) (idx : Nat) (nx tg : Nat) (L : List Slot) (S : List Value) : Option PF := (match S with | .ref a :: r => (match lk (mKl M) idx, ah[a]? with | some (k + 1), some (.inl (k', _)) => (match Nat.beq k' k with | true => some (nx, L, .int 1 :: r) | false => none) | _, _ => none) | _ => none)
def psel (i : Instr) : Option (Mth → AH → Nat → Nat → List Slot → List Value → Option PF) :=
  match i with
  | .iadd => some fun _ _ => p_iadd 
  | .isub => some fun _ _ => p_isub 
  | .imul => some fun _ _ => p_imul 
  | .iand => some fun _ _ => p_iand 
  | .ior => some fun _ _ => p_ior 
  | .ixor => some fun _ _ => p_ixor 
  | .ishl => some fun _ _ => p_ishl 
  | .ishr => some fun _ _ => p_ishr 
  | .iushr => some fun _ _ => p_iushr 
  | .ladd => some fun _ _ => p_ladd 
  | .lsub => some fun _ _ => p_lsub 
  | .lmul => some fun _ _ => p_lmul 
  | .land => some fun _ _ => p_land 
  | .lor => some fun _ _ => p_lor 
  | .lxor => some fun _ _ => p_lxor 
  | .lshl => some fun _ _ => p_lshl 
  | .lshr => some fun _ _ => p_lshr 
  | .lushr => some fun _ _ => p_lushr 
  | .ineg => some fun _ _ => p_ineg 
  | .lneg => some fun _ _ => p_lneg 
  | .i2l => some fun _ _ => p_i2l 
  | .l2i => some fun _ _ => p_l2i 
  | .i2b => some fun _ _ => p_i2b 
  | .idiv => some fun _ _ => p_idiv 
  | .irem => some fun _ _ => p_irem 
  | .lcmp => some fun _ _ => p_lcmp 
  | .iload k => some fun _ _ => p_iload k 
  | .iload_n j => some fun _ _ => p_iload_n j 
  | .lload k => some fun _ _ => p_lload k 
  | .lload_n j => some fun _ _ => p_lload_n j 
  | .aload k => some fun _ _ => p_aload k 
  | .aload_n j => some fun _ _ => p_aload_n j 
  | .istore k => some fun _ _ => p_istore k 
  | .istore_n j => some fun _ _ => p_istore_n j 
  | .lstore k => some fun _ _ => p_lstore k 
  | .lstore_n j => some fun _ _ => p_lstore_n j 
  | .astore k => some fun _ _ => p_astore k 
  | .astore_n j => some fun _ _ => p_astore_n j 
  | .iinc k cst => some fun _ _ => p_iinc k cst 
  | .iconst z => some fun _ _ => p_iconst z 
  | .bipush z => some fun _ _ => p_bipush z 
  | .sipush z => some fun _ _ => p_sipush z 
  | .lconst z => some fun _ _ => p_lconst z 
  | .aconst_null => some fun _ _ => p_aconst_null 
  | .ldc idx => some fun M _ => p_ldc M idx 
  | .ldc_w idx => some fun M _ => p_ldc_w M idx 
  | .ldc2_w idx => some fun M _ => p_ldc2_w M idx 
  | .dup => some fun _ _ => p_dup 
  | .pop => some fun _ _ => p_pop 
  | .dup_x1 => some fun _ _ => p_dup_x1 
  | .dup2 => some fun _ _ => p_dup2 
  | .goto o => some fun _ _ => p_goto o 
  | .ifCond cd o => some fun _ _ => p_ifCond cd o 
  | .if_icmp cd o => some fun _ _ => p_if_icmp cd o 
  | .ifnull o => some fun _ _ => p_ifnull o 
  | .ifnonnull o => some fun _ _ => p_ifnonnull o 
  | .if_acmp cd o => some fun _ _ => p_if_acmp cd o 
  | .getfield idx => some fun M ah => p_getfield M ah idx 
  | .arraylength => some fun _ ah => p_arraylength ah 
  | .iaload => some fun _ ah => p_iaload ah 
  | .laload => some fun _ ah => p_laload ah 
  | .baload => some fun _ ah => p_baload ah 
  | .checkcast idx => some fun M ah => p_checkcast M ah idx 
  | .instanceof idx => some fun M ah => p_instanceof M ah idx 
  | _ => none
def pstep (M : Mth) (ah : AH) (i : Instr) (nx tg : Nat) (L : List Slot) (S : List Value) : Option PF :=
  match psel i with
  | some f => f M ah nx tg L S
  | none => none
/-! what the abstract heap says of the real one -/
def OR (W : Wld) (Z : State) (b : Nat) (h : Heap) (a : Addr) : AObj → Prop
  | .inl (k, vs) => ∃ C : CL, W.2[k]? = some C ∧ Exa Z h a C.1 ∧ vs.length = C.2.2.length ∧ ∀ (i : Nat) (f : FD) (v : Value), C.2.2[i]? = some f → vs[i]? = some v → Fld Z h a f.1 f.2.1 f.2.2.1 (up b v)
  | .inr (ty, vs) => ∃ c : Cell, Arr Z h a c ty ∧ c.slots = (vs.map (up b)).toArray ∧ Exa Z h a ("[" ++ ty.toString) ∧ ∀ v ∈ vs, fits ty (up b v) = true
def Rel (W : Wld) (Z : State) (b : Nat) (h : Heap) (ah : AH) : Prop := h.size = b + ah.length ∧ (∀ (i : Nat) (o : AObj), ah[i]? = some o → OR W Z b h (b + i) o) ∧ ∀ (x : Nat) (c : Cell), x < b → Z.heap[x]? = some c → h[x]? = some c
section Facts
variable {W : Wld} {Z : State} {b : Nat} {h h' : Heap} {a a' : Addr} {o : AObj} {ah : AH} {sl : Nat} {v : Value}
theorem OR.ext (E : Ext h h') (H : OR W Z b h a o) : OR W Z b h' a o := by
  match o, H with
  | .inl (k, vs), ⟨C, h1, h2, h3, h4⟩ => exact ⟨C, h1, h2.ext E, h3, fun i f v q r => (h4 i f v q r).ext E⟩
  | .inr (ty, vs), ⟨c, h1, h2, h3, h4⟩ => exact ⟨c, h1.ext E, h2, h3.ext E, h4⟩
theorem OR.other (w : Wr h h' a' sl v) (ne : a ≠ a') (H : OR W Z b h a o) : OR W Z b h' a o := by
  match o, H with
  | .inl (k, vs), ⟨C, h1, h2, h3, h4⟩ => exact ⟨C, h1, h2.wr w, h3, fun i f v q r => (h4 i f v q r).other w (Or.inl ne)⟩
  | .inr (ty, vs), ⟨c, h1, h2, h3, h4⟩ => exact ⟨c, h1.other w ne, h2, h3.wr w, h4⟩
theorem Rel.push {o' : AObj} (H : Rel W Z b h ah) (E : Ext h h') (hs : h'.size = h.size + 1) (ho : OR W Z b h' h.size o') : Rel W Z b h' (ah ++ [o']) := by
  refine ⟨by rw [hs, H.1]; simp; omega, fun i o q => ?_, fun x c hx hc => E.2 x c (H.2.2 x c hx hc)⟩
  by_cases hi : i < ah.length
  · rw [List.getElem?_append_left hi] at q
    exact (H.2.1 i o q).ext E
  · rw [List.getElem?_append_right (Nat.le_of_not_lt hi)] at q
    have hi2 : i - ah.length = 0 := by
      rcases Nat.eq_zero_or_pos (i - ah.length) with z | z
      · exact z
      · rw [List.getElem?_eq_none (by simp only [List.length_singleton]; omega)] at q; cases q
    rw [hi2] at q
    have e : o' = o := by simpa using q
    have e2 : b + i = h.size := by rw [H.1]; omega
    rw [e2, ← e]
    exact ho
theorem Rel.set {i : Nat} {o' : AObj} (H : Rel W Z b h ah) (hi : i < ah.length) (w : Wr h h' (b + i) sl v) (ho : OR W Z b h' (b + i) o') : Rel W Z b h' (ah.set i o') := by
  refine ⟨by rw [w.size, H.1]; simp, fun j o q => ?_, fun x c hx hc => ?_⟩
  rotate_left
  · obtain ⟨cell, h1, -, -, rfl⟩ := w
    rw [Array.getElem?_setIfInBounds_ne (by omega)]
    exact H.2.2 x c hx hc
  by_cases e : i = j
  · subst e
    rw [List.getElem?_set_self hi] at q
    cases q
    exact ho
  · rw [List.getElem?_set_ne e] at q
    exact (H.2.1 j o q).other w (fun z => e (Nat.add_left_cancel z).symm)
theorem OR.keep {ws : List Addr} (K : Keep h h' ws) (ne : a ∉ ws) (H : OR W Z b h a o) : OR W Z b h' a o := by
  match o, H with
  | .inl (k, vs), ⟨C, h1, h2, h3, h4⟩ => exact ⟨C, h1, h2.keep K, h3, fun i f v q r => (h4 i f v q r).keep K ne⟩
  | .inr (ty, vs), ⟨c, h1, h2, h3, h4⟩ => exact ⟨c, ⟨K.2.1 a c h1.1 ne, h1.2⟩, h2, h3.keep K, h4⟩
end Facts
def asz (W : Wld) : AObj → Nat
  | .inl (k, _) => (match W.2[k]? with | some C => C.2.1 | none => 0)
  | .inr (_, vs) => vs.length
def sz (W : Wld) : AH → Nat
  | [] => 0
  | o :: r => asz W o + sz W r
theorem sz_app (W : Wld) (o : AObj) : ∀ ah : AH, sz W (ah ++ [o]) = sz W ah + asz W o
  | [] => by simp [sz]
  | q :: r => by simp only [List.cons_append, sz, sz_app W o r]; omega
theorem sz_set (W : Wld) {o o' : AObj} (e : asz W o' = asz W o) : ∀ {ah : AH} {i : Nat}, ah[i]? = some o → sz W (ah.set i o') = sz W ah
  | [], i, q => by simp at q
  | x :: r, 0, q => by
    have : x = o := by simpa using q
    subst this
    simp only [List.set_cons_zero, sz, e]
  | x :: r, i + 1, q => by
    have q' : r[i]? = some o := by simpa using q
    simp only [List.set_cons_succ, sz, sz_set W e q']
theorem lt_of_get {ah : AH} {i : Nat} {o : AObj} (h : ah[i]? = some o) : i < ah.length := (List.getElem?_eq_some_iff.mp h).1


abbrev fm (b : Nat) (m : MethodId) (pc : Nat) (L : List Slot) (S : List Value) : JFrame := mkF m pc (L.map (upS b)).toArray (S.map (up b))
section Step
variable {p : Program} {l : Launch} {e : Env} {R : Room} {s : State} {m : MethodId} {args : Array Value} {below : List Frame} {meth : Method} {c : Code} {T : State} {locs : List Loc} {cells slots : Nat} {Z : State} {a0 : Array Value}
theorem acmp' {g : JFrame} {target : State} (X : Stand p l e R s m args below meth c T locs cells slots) (hx : p.tables.exec = Jvm.exec) (hg : g.method = m) {cd : ACond} {x y : Value} (h1 : x.isRef = true) (h2 : y.isRef = true) {rest : List Value} {o : Int} {same : Bool}
    (hd : decode c.code g.pc = .ok (.if_acmp cd o, 3)) (hs : g.stack = y :: x :: rest) (hq : decide (x = y) = same) (hc : acV cd same = false)
    (hr : Steps p.tables e below (T.setTop { g with pc := g.pc + 3, stack := rest }) target) : Steps p.tables e below (T.setTop g) target := by
  subst hg hq
  rw [← acV_eq cd h1 h2] at hc
  rcases ref_cases h1 with rfl | ⟨a, rfl⟩ <;> rcases ref_cases h2 with rfl | ⟨b, rfl⟩ <;>
  · simp only [refO] at hc
    jvm_step X.here [X.here.top, hx, hd, hs, if_acmp.sem, hc]
    simpa using hr
theorem pstep_sound {W : Wld} {M : Mth} {b : Nat} {ah : AH} {i : Instr} {pc nx tg pc' : Nat} {L L' : List Slot} {S S' : List Value} (X : Stand p l e R s m args below meth c T locs cells slots) (hx : p.tables.exec = Jvm.exec) (hZ : Z.Warmed39 s.vm) (hown : s.vm.findClass (mNm M).cls = some m.cls)
    (hci : ∀ q ∈ mCi M, (Jvm.Cond.constant (mNm M).cls q.1 q.2).before a0 Z = true) (hcl : ∀ q ∈ mCl M, (Jvm.Cond.constantLong (mNm M).cls q.1 q.2).before a0 Z = true)
    (hfl : ∀ q ∈ mFl M, ∃ (C : CL) (f : FD), W.2[q.2.1]? = some C ∧ C.2.2[q.2.2.1]? = some f ∧ ((Jvm.Cond.fieldLink (mNm M).cls q.1 q.2.2.2.2.2.1 f.2.1 f.2.2.1).before a0 Z = true ∨ (Jvm.Cond.fieldLinkNest (mNm M).cls q.1 q.2.2.2.2.2.1 f.2.1 f.2.2.1 q.2.2.2.2.2.2).before a0 Z = true) ∧ Via Z q.2.2.2.2.2.1 f.1 f.2.1 f.2.2.1)
    (hkl : ∀ q ∈ mKl M, match q.2 with | 0 => (Jvm.Cond.classLink (mNm M).cls q.1 "[I").before a0 Z = true | k + 1 => ∃ C : CL, W.2[k]? = some C ∧ (Jvm.Cond.classLink (mNm M).cls q.1 C.1).before a0 Z = true)
    (hR : Rel W Z b T.heap ah) (hd : decode c.code pc = .ok (i, ilen i)) (hnx : nx = pc + ilen i) (htg : okTg pc tg i = true) (h : pstep M ah i nx tg L S = some (pc', L', S')) :
    L'.length = L.length ∧ ∃ T', Stand p l e R s m args below meth c T' locs cells slots ∧ T'.heap = T.heap ∧ ∀ target, Steps p.tables e below (T'.setTop (fm b m pc' L' S')) target → Steps p.tables e below (T.setTop (fm b m pc L S)) target := by
  suffices hh : L'.length = L.length ∧ ((∀ target, Steps p.tables e below (T.setTop (fm b m pc' L' S')) target → Steps p.tables e below (T.setTop (fm b m pc L S)) target) ∨ ∃ T', Stand p l e R s m args below meth c T' locs cells slots ∧ T'.heap = T.heap ∧ ∀ target, Steps p.tables e below (T'.setTop (fm b m pc' L' S')) target → Steps p.tables e below (T.setTop (fm b m pc L S)) target) by
    obtain ⟨h1, h2 | h2⟩ := hh
    · exact ⟨h1, T, X, rfl, h2⟩
    · exact ⟨h1, h2⟩
  subst hnx
  unfold pstep psel at h
  cases i
  case iadd =>
    dsimp only at h
    unfold p_iadd at h
    split at h
    · cases h; exact ⟨rfl, Or.inl fun t k => XS.iadd X.here hx rfl hd rfl k⟩
    · cases h
  case isub =>
    dsimp only at h
    unfold p_isub at h
    split at h
    · cases h; exact ⟨rfl, Or.inl fun t k => XS.isub X.here hx rfl hd rfl k⟩
    · cases h
  case imul =>
    dsimp only at h
    unfold p_imul at h
    split at h
    · cases h; exact ⟨rfl, Or.inl fun t k => XS.imul X.here hx rfl hd rfl k⟩
    · cases h
  case iand =>
    dsimp only at h
    unfold p_iand at h
    split at h
    · cases h; exact ⟨rfl, Or.inl fun t k => XS.iand X.here hx rfl hd rfl k⟩
    · cases h
  case ior =>
    dsimp only at h
    unfold p_ior at h
    split at h
    · cases h; exact ⟨rfl, Or.inl fun t k => XT.ior X.here hx rfl hd rfl k⟩
    · cases h
  case ixor =>
    dsimp only at h
    unfold p_ixor at h
    split at h
    · cases h; exact ⟨rfl, Or.inl fun t k => XT.ixor X.here hx rfl hd rfl k⟩
    · cases h
  case ishl =>
    dsimp only at h
    unfold p_ishl at h
    split at h
    · cases h; exact ⟨rfl, Or.inl fun t k => XT.ishl X.here hx rfl hd rfl k⟩
    · cases h
  case ishr =>
    dsimp only at h
    unfold p_ishr at h
    split at h
    · cases h; exact ⟨rfl, Or.inl fun t k => XT.ishr X.here hx rfl hd rfl k⟩
    · cases h
  case iushr =>
    dsimp only at h
    unfold p_iushr at h
    split at h
    · cases h; exact ⟨rfl, Or.inl fun t k => XT.iushr X.here hx rfl hd rfl k⟩
    · cases h
  case ladd =>
    dsimp only at h
    unfold p_ladd at h
    split at h
    · cases h; exact ⟨rfl, Or.inl fun t k => XT.ladd X.here hx rfl hd rfl k⟩
    · cases h
  case lsub =>
    dsimp only at h
    unfold p_lsub at h
    split at h
    · cases h; exact ⟨rfl, Or.inl fun t k => XT.lsub X.here hx rfl hd rfl k⟩
    · cases h
  case lmul =>
    dsimp only at h
    unfold p_lmul at h
    split at h
    · cases h; exact ⟨rfl, Or.inl fun t k => XT.lmul X.here hx rfl hd rfl k⟩
    · cases h
  case land =>
    dsimp only at h
    unfold p_land at h
    split at h
    · cases h; exact ⟨rfl, Or.inl fun t k => XT.land X.here hx rfl hd rfl k⟩
    · cases h
  case lor =>
    dsimp only at h
    unfold p_lor at h
    split at h
    · cases h; exact ⟨rfl, Or.inl fun t k => XT.lor X.here hx rfl hd rfl k⟩
    · cases h
  case lxor =>
    dsimp only at h
    unfold p_lxor at h
    split at h
    · cases h; exact ⟨rfl, Or.inl fun t k => XT.lxor X.here hx rfl hd rfl k⟩
    · cases h
  case lshl =>
    dsimp only at h
    unfold p_lshl at h
    split at h
    · cases h; exact ⟨rfl, Or.inl fun t k => XT.lshl X.here hx rfl hd rfl k⟩
    · cases h
  case lshr =>
    dsimp only at h
    unfold p_lshr at h
    split at h
    · cases h; exact ⟨rfl, Or.inl fun t k => XT.lshr X.here hx rfl hd rfl k⟩
    · cases h
  case lushr =>
    dsimp only at h
    unfold p_lushr at h
    split at h
    · cases h; exact ⟨rfl, Or.inl fun t k => XT.lushr X.here hx rfl hd rfl k⟩
    · cases h
  case ineg =>
    dsimp only at h
    unfold p_ineg at h
    split at h
    · cases h; exact ⟨rfl, Or.inl fun t k => XS.ineg X.here hx rfl hd rfl k⟩
    · cases h
  case lneg =>
    dsimp only at h
    unfold p_lneg at h
    split at h
    · cases h; exact ⟨rfl, Or.inl fun t k => XT.lneg X.here hx rfl hd rfl k⟩
    · cases h
  case i2l =>
    dsimp only at h
    unfold p_i2l at h
    split at h
    · cases h; exact ⟨rfl, Or.inl fun t k => XT.i2l X.here hx rfl hd rfl k⟩
    · cases h
  case l2i =>
    dsimp only at h
    unfold p_l2i at h
    split at h
    · cases h; exact ⟨rfl, Or.inl fun t k => XT.l2i X.here hx rfl hd rfl k⟩
    · cases h
  case i2b =>
    dsimp only at h
    unfold p_i2b at h
    split at h
    · cases h; exact ⟨rfl, Or.inl fun t k => XT.i2b X.here hx rfl hd rfl k⟩
    · cases h
  case idiv =>
    dsimp only at h
    unfold p_idiv at h
    split at h
    · split at h
      · cases h
      · rename_i hy; cases h; exact ⟨rfl, Or.inl fun t k => XS.idiv X.here hx rfl hd rfl hy k⟩
    · cases h
  case irem =>
    dsimp only at h
    unfold p_irem at h
    split at h
    · split at h
      · cases h
      · rename_i hy; cases h; exact ⟨rfl, Or.inl fun t k => iremM X hx rfl hd rfl hy k⟩
    · cases h
  case lcmp =>
    dsimp only at h
    unfold p_lcmp at h
    split at h
    · cases h; exact ⟨rfl, Or.inl fun t k => XT.lcmp X.here hx rfl hd rfl k⟩
    · cases h
  case iload k =>
    dsimp only at h
    unfold p_iload at h
    split at h
    · rename_i hl; cases h; exact ⟨rfl, Or.inl fun t k => XS.iload X.here hx rfl hd (get_up b hl) k⟩
    · cases h
  case iload_n k =>
    dsimp only at h
    unfold p_iload_n at h
    split at h
    · rename_i hl; cases h; exact ⟨rfl, Or.inl fun t k => XS.iloadN X.here hx rfl hd (get_up b hl) k⟩
    · cases h
  case lload k =>
    dsimp only at h
    unfold p_lload at h
    split at h
    · rename_i hl; cases h; exact ⟨rfl, Or.inl fun t k => XT.lload X.here hx rfl hd (get_up b hl) k⟩
    · cases h
  case lload_n k =>
    dsimp only at h
    unfold p_lload_n at h
    split at h
    · rename_i hl; cases h; exact ⟨rfl, Or.inl fun t k => XT.lloadN X.here hx rfl hd (get_up b hl) k⟩
    · cases h
  case aload k =>
    dsimp only at h
    unfold p_aload at h
    split at h
    · rename_i v hl
      split at h
      · rename_i hr; cases h; exact ⟨rfl, Or.inl fun t k => XS.aload X.here hx rfl hd (get_up b hl) (by rw [up_isRef]; exact hr) k⟩
      · cases h
    · cases h
  case aload_n k =>
    dsimp only at h
    unfold p_aload_n at h
    split at h
    · rename_i v hl
      split at h
      · rename_i hr; cases h; exact ⟨rfl, Or.inl fun t k => XS.aloadN X.here hx rfl hd (get_up b hl) (by rw [up_isRef]; exact hr) k⟩
      · cases h
    · cases h
  case istore k =>
    dsimp only at h
    unfold p_istore at h
    split at h
    · split at h
      · rename_i hs; cases h; exact ⟨stL_len hs, Or.inl fun t k => XS.istore X.here hx rfl hd rfl (stL_up b hs) k⟩
      · cases h
    · cases h
  case istore_n k =>
    dsimp only at h
    unfold p_istore_n at h
    split at h
    · split at h
      · rename_i hs; cases h; exact ⟨stL_len hs, Or.inl fun t k => XS.istoreN X.here hx rfl hd rfl (stL_up b hs) k⟩
      · cases h
    · cases h
  case lstore k =>
    dsimp only at h
    unfold p_lstore at h
    split at h
    · split at h
      · rename_i hs; cases h; exact ⟨stL_len hs, Or.inl fun t k => XT.lstore X.here hx rfl hd rfl (stL_up b hs) k⟩
      · cases h
    · cases h
  case lstore_n k =>
    dsimp only at h
    unfold p_lstore_n at h
    split at h
    · split at h
      · rename_i hs; cases h; exact ⟨stL_len hs, Or.inl fun t k => XT.lstoreN X.here hx rfl hd rfl (stL_up b hs) k⟩
      · cases h
    · cases h
  case astore k =>
    dsimp only at h
    unfold p_astore at h
    split at h
    · split at h
      · rename_i hr
        split at h
        · rename_i hs; cases h; exact ⟨stL_len hs, Or.inl fun t k => XS.astore X.here hx rfl hd rfl (by rw [up_isRef]; exact hr) (stL_up b hs) k⟩
        · cases h
      · cases h
    · cases h
  case astore_n k =>
    dsimp only at h
    unfold p_astore_n at h
    split at h
    · split at h
      · rename_i hr
        split at h
        · rename_i hs; cases h; exact ⟨stL_len hs, Or.inl fun t k => XS.astoreN X.here hx rfl hd rfl (by rw [up_isRef]; exact hr) (stL_up b hs) k⟩
        · cases h
      · cases h
    · cases h
  case iinc k cst =>
    dsimp only at h
    unfold p_iinc at h
    split at h
    · rename_i hl
      split at h
      · rename_i hs; cases h; exact ⟨stL_len hs, Or.inl fun t k => XS.iinc X.here hx rfl hd (get_up b hl) (stL_up b hs) k⟩
      · cases h
    · cases h
  case iconst z =>
    dsimp only at h
    unfold p_iconst at h
    cases h; exact ⟨rfl, Or.inl fun t k => XS.iconst X.here hx rfl hd k⟩
  case bipush z =>
    dsimp only at h
    unfold p_bipush at h
    cases h; exact ⟨rfl, Or.inl fun t k => XS.bipush X.here hx rfl hd k⟩
  case sipush z =>
    dsimp only at h
    unfold p_sipush at h
    cases h; exact ⟨rfl, Or.inl fun t k => XS.sipush X.here hx rfl hd k⟩
  case lconst z =>
    dsimp only at h
    unfold p_lconst at h
    cases h; exact ⟨rfl, Or.inl fun t k => XT.lconst X.here hx rfl hd k⟩
  case aconst_null =>
    dsimp only at h
    unfold p_aconst_null at h
    cases h; exact ⟨rfl, Or.inl fun t k => XS.aconstNull X.here hx rfl hd k⟩
  case ldc idx =>
    dsimp only at h
    unfold p_ldc at h
    split at h
    · rename_i v hl; cases h; exact ⟨rfl, Or.inl fun t k => X.ldcI hx hown (mvT hZ (hci _ (lk_mem hl))) rfl hd k⟩
    · cases h
  case ldc_w idx =>
    dsimp only at h
    unfold p_ldc_w at h
    split at h
    · rename_i v hl; cases h; exact ⟨rfl, Or.inl fun t k => X.ldcWI hx hown (mvT hZ (hci _ (lk_mem hl))) rfl hd k⟩
    · cases h
  case ldc2_w idx =>
    dsimp only at h
    unfold p_ldc2_w at h
    split at h
    · rename_i v hl; cases h; exact ⟨rfl, Or.inl fun t k => X.ldc2J hx hown (mvT hZ (hcl _ (lk_mem hl))) rfl hd k⟩
    · cases h
  case dup =>
    dsimp only at h
    unfold p_dup at h
    split at h
    · split at h
      · rename_i hc; cases h; exact ⟨rfl, Or.inl fun t k => XS.dup X.here hx rfl hd rfl (by rw [up_cat]; exact hc) k⟩
      · cases h
    · cases h
  case pop =>
    dsimp only at h
    unfold p_pop at h
    split at h
    · split at h
      · rename_i hc; cases h; exact ⟨rfl, Or.inl fun t k => XT.pop X.here hx rfl hd rfl (by rw [up_cat]; exact hc) k⟩
      · cases h
    · cases h
  case dup_x1 =>
    dsimp only at h
    unfold p_dup_x1 at h
    split at h
    · split at h
      · rename_i hc hc'; cases h; exact ⟨rfl, Or.inl fun t k => XT.dupX1 X.here hx rfl hd rfl (by rw [up_cat]; exact hc) (by rw [up_cat]; exact hc') k⟩
      · cases h
    · cases h
  case dup2 =>
    dsimp only at h
    unfold p_dup2 at h
    split at h
    · split at h
      · rename_i hc hc'; cases h; exact ⟨rfl, Or.inl fun t k => XT.dup2 X.here hx rfl hd rfl (by rw [up_cat]; exact hc) (by rw [up_cat]; exact hc') k⟩
      · cases h
    · cases h
  case goto o =>
    dsimp only at h
    unfold p_goto at h
    cases h; obtain ⟨h1, h2⟩ := tg_spec htg; exact ⟨rfl, Or.inl fun t k => XS.goto X.here hx rfl rfl hd h1 h2 k⟩
  case ifCond cd o =>
    dsimp only at h
    unfold p_ifCond at h
    split at h
    · split at h
      · rename_i hc; cases h; obtain ⟨h1, h2⟩ := tg_spec htg; exact ⟨rfl, Or.inl fun t k => XS.ifYes X.here hx rfl rfl hd rfl hc h1 h2 k⟩
      · rename_i hc; cases h; exact ⟨rfl, Or.inl fun t k => XS.ifNo X.here hx rfl hd rfl hc k⟩
    · cases h
  case if_icmp cd o =>
    dsimp only at h
    unfold p_if_icmp at h
    split at h
    · split at h
      · rename_i hc; cases h; obtain ⟨h1, h2⟩ := tg_spec htg; exact ⟨rfl, Or.inl fun t k => XS.icmpYes X.here hx rfl rfl hd rfl hc h1 h2 k⟩
      · rename_i hc; cases h; exact ⟨rfl, Or.inl fun t k => XS.icmpNo X.here hx rfl hd rfl hc k⟩
    · cases h
  case ifnull o =>
    dsimp only at h
    unfold p_ifnull at h
    split at h
    · cases h; obtain ⟨h1, h2⟩ := tg_spec htg; exact ⟨rfl, Or.inl fun t k => XS.ifnullYes X.here hx rfl rfl hd rfl h1 h2 k⟩
    · cases h; exact ⟨rfl, Or.inl fun t k => XS.ifnullNo X.here hx rfl hd rfl k⟩
    · cases h
  case ifnonnull o =>
    dsimp only at h
    unfold p_ifnonnull at h
    split at h
    · cases h; obtain ⟨h1, h2⟩ := tg_spec htg; exact ⟨rfl, Or.inl fun t k => XT.ifnonnullYes X.here hx rfl rfl hd rfl h1 h2 k⟩
    · cases h; exact ⟨rfl, Or.inl fun t k => XT.ifnonnullNo X.here hx rfl hd rfl k⟩
    · cases h
  case if_acmp cd o =>
    dsimp only at h
    unfold p_if_acmp at h
    split at h
    · rename_i y x r
      split at h
      · rename_i hx1 hy1
        have hxx : (up b x).isRef = true := by rw [up_isRef]; exact hx1
        have hyy : (up b y).isRef = true := by rw [up_isRef]; exact hy1
        have hq : decide (up b x = up b y) = decide (x = y) := by
          by_cases q : x = y
          · rw [decide_eq_true q, decide_eq_true (up_inj.mpr q)]
          · rw [decide_eq_false q, decide_eq_false (fun z => q (up_inj.mp z))]
        split at h
        · rename_i hc
          cases h
          obtain ⟨h1, h2⟩ := tg_spec htg
          exact ⟨rfl, Or.inl fun t k => acmp X hx rfl hxx hyy rfl hd rfl hq h1 (by rw [hc]; exact h2.symm) k⟩
        · rename_i hc
          cases h
          refine ⟨rfl, Or.inl fun t k => acmp' X hx rfl hxx hyy hd rfl hq hc k⟩
      · cases h
    · cases h
  case checkcast idx =>
    dsimp only at h
    unfold p_checkcast at h
    split at h
    · rename_i a r
      split at h
      · rename_i k k' vs hl ho
        split at h
        · rename_i hb
          cases h
          obtain ⟨C, g1, g5, g6, g7⟩ := hR.2.1 a _ ho
          have ek : k' = k := Nat.eq_of_beq_eq_true hb
          subst ek
          obtain ⟨C', g1', wl⟩ := hkl _ (lk_mem hl)
          cases g1.symm.trans g1'
          obtain ⟨T', X', e', st⟩ := castY X hx hZ hown wl rfl (Ins.self g5) (g := fm b m pc L (.ref a :: r)) rfl rfl hd
          exact ⟨rfl, Or.inr ⟨T', X', e', fun t k => st t k⟩⟩
        · cases h
      · rename_i vs hl ho
        cases h
        obtain ⟨cl, g1, g2, g3, g4⟩ := hR.2.1 a _ ho
        have wl := hkl _ (lk_mem hl)
        obtain ⟨T', X', e', st⟩ := castY X hx hZ hown (K := "[I") wl rfl (Ins.self g3) (g := fm b m pc L (.ref a :: r)) rfl rfl hd
        exact ⟨rfl, Or.inr ⟨T', X', e', fun t k => st t k⟩⟩
      · cases h
    · cases h
  case instanceof idx =>
    dsimp only at h
    unfold p_instanceof at h
    split at h
    · rename_i a r
      split at h
      · rename_i k k' vs hl ho
        split at h
        · rename_i hb
          cases h
          obtain ⟨C, g1, g5, g6, g7⟩ := hR.2.1 a _ ho
          have ek : k' = k := Nat.eq_of_beq_eq_true hb
          subst ek
          obtain ⟨C', g1', wl⟩ := hkl _ (lk_mem hl)
          cases g1.symm.trans g1'
          obtain ⟨T', X', e', st⟩ := instY X hx hZ hown wl rfl (Ins.self g5) (g := fm b m pc L (.ref a :: r)) rfl rfl hd
          exact ⟨rfl, Or.inr ⟨T', X', e', fun t k => st t k⟩⟩
        · cases h
      · cases h
    · cases h
  case getfield idx =>
    dsimp only at h
    unfold p_getfield at h
    split at h
    · rename_i a r
      split at h
      · rename_i q k vs hl ho
        split at h
        · rename_i v hk hv
          cases h
          obtain ⟨C, f, g1, g2, g3, g4⟩ := hfl _ (lk_mem hl)
          obtain ⟨C', g1', g5, g6, g7⟩ := hR.2.1 a _ ho
          have ek : k = q.1 := Nat.eq_of_beq_eq_true hk
          subst ek
          cases g1.symm.trans g1'
          obtain ⟨T', X', e', st⟩ := getF X hx hZ hown g3 g4 rfl (g7 _ f v g2 hv) (g := fm b m pc L (.ref a :: r)) rfl rfl hd
          exact ⟨rfl, Or.inr ⟨T', X', e', fun t k => st t k⟩⟩
        · cases h
      · cases h
    · cases h
  case arraylength =>
    dsimp only at h
    unfold p_arraylength at h
    split at h
    · rename_i a r
      split at h
      · rename_i ty vs ho
        cases h
        obtain ⟨cl, g1, g2, g3, g4⟩ := hR.2.1 a _ ho
        refine ⟨rfl, Or.inr ⟨T, X, rfl, fun t k => ?_⟩⟩
        refine X.arraylength hx g1.1 (State.isArrayOf_alike hZ.alike g1.2.1) (g := fm b m pc L (.ref a :: r)) rfl rfl hd t ?_
        have hsz : cl.slots.size = vs.length := by rw [g2]; simp
        rw [hsz]
        exact k
      · cases h
    · cases h
  case iaload =>
    dsimp only at h
    unfold p_iaload at h
    split at h
    · rename_i j a r
      split at h
      · rename_i vs ho
        split at h
        · cases h
        · rename_i hj
          split at h
          · rename_i v hv
            cases h
            obtain ⟨cl, g1, g2, g3, g4⟩ := hR.2.1 a _ ho
            have hv' : cl.slots[j.toNatClampNeg]? = some (up b v) := by rw [g2]; simp [hv]
            have hin : ¬ (j < 0 ∨ cl.slots.size ≤ j.toNatClampNeg) := fun q => q.elim hj fun q => by rw [Array.getElem?_eq_none q] at hv'; cases hv'
            exact ⟨rfl, Or.inr ⟨T, X, rfl, fun t k => X.iaload hx g1.1 (State.isArrayOf_alike hZ.alike g1.2.1) g1.2.2 hin hv' (g := fm b m pc L (.int j :: .ref a :: r)) rfl rfl hd t k⟩⟩
          · cases h
      · cases h
    · cases h
  case laload =>
    dsimp only at h
    unfold p_laload at h
    split at h
    · rename_i j a r
      split at h
      · rename_i vs ho
        split at h
        · cases h
        · rename_i hj
          split at h
          · rename_i v hv
            cases h
            obtain ⟨cl, g1, g2, g3, g4⟩ := hR.2.1 a _ ho
            have hv' : cl.slots[j.toNatClampNeg]? = some (up b v) := by rw [g2]; simp [hv]
            have hin : ¬ (j < 0 ∨ cl.slots.size ≤ j.toNatClampNeg) := fun q => q.elim hj fun q => by rw [Array.getElem?_eq_none q] at hv'; cases hv'
            exact ⟨rfl, Or.inr ⟨T, X, rfl, fun t k => X.laload hx g1.1 (State.isArrayOf_alike hZ.alike g1.2.1) g1.2.2 hin hv' (g := fm b m pc L (.int j :: .ref a :: r)) rfl rfl hd t k⟩⟩
          · cases h
      · cases h
    · cases h
  case baload =>
    dsimp only at h
    unfold p_baload at h
    split at h
    · rename_i j a r
      split at h
      · rename_i vs ho
        split at h
        · cases h
        · rename_i hj
          split at h
          · rename_i v hv
            cases h
            obtain ⟨cl, g1, g2, g3, g4⟩ := hR.2.1 a _ ho
            have hv' : cl.slots[j.toNatClampNeg]? = some (up b v) := by rw [g2]; simp [hv]
            have hin : ¬ (j < 0 ∨ cl.slots.size ≤ j.toNatClampNeg) := fun q => q.elim hj fun q => by rw [Array.getElem?_eq_none q] at hv'; cases hv'
            exact ⟨rfl, Or.inr ⟨T, X, rfl, fun t k => X.baloadBytes hx g1.1 (State.isArrayOf_alike hZ.alike g1.2.1) g1.2.2 hin hv' (g := fm b m pc L (.int j :: .ref a :: r)) rfl rfl hd t k⟩⟩
          · cases h
      · rename_i vs ho
        split at h
        · cases h
        · rename_i hj
          split at h
          · rename_i v hv
            cases h
            obtain ⟨cl, g1, g2, g3, g4⟩ := hR.2.1 a _ ho
            have hv' : cl.slots[j.toNatClampNeg]? = some (up b v) := by rw [g2]; simp [hv]
            have hin : ¬ (j < 0 ∨ cl.slots.size ≤ j.toNatClampNeg) := fun q => q.elim hj fun q => by rw [Array.getElem?_eq_none q] at hv'; cases hv'
            exact ⟨rfl, Or.inr ⟨T, X, rfl, fun t k => X.baloadBooleans hx g1.1 (State.isArrayOf_alike hZ.alike g1.2.1) g1.2.2 hin hv' (g := fm b m pc L (.int j :: .ref a :: r)) rfl rfl hd t k⟩⟩
          · cases h
      · cases h
    · cases h
  all_goals (exact nomatch h)
end Step
/-! the world's words, checked -/
def okF (W : Wld) (tab : List Jvm.Cond) (M : Mth) (q : Nat × FLk) : Bool :=
  match W.2[q.2.1]? with
  | none => false
  | some C =>
    match C.2.2[q.2.2.1]? with
    | none => false
    | some f => decide (f.2.2.2.1 = q.2.2.2.2.1) && (decide (q.2.2.2.2.2.1 = f.1) || decide (Jvm.Cond.sameField q.2.2.2.2.2.1 f.1 f.2.1 f.2.2.1 ∈ tab)) &&
      (match q.2.2.2.1 with
      | true => decide (Jvm.Cond.fieldLink (mNm M).cls q.1 q.2.2.2.2.2.1 f.2.1 f.2.2.1 ∈ tab) && (!f.2.2.2.2 || (decide ((mNm M).cls = f.1) && decide ((mNm M).name = "<init>")))
      | false => decide (Jvm.Cond.fieldLink (mNm M).cls q.1 q.2.2.2.2.2.1 f.2.1 f.2.2.1 ∈ tab) || decide (Jvm.Cond.fieldLinkNest (mNm M).cls q.1 q.2.2.2.2.2.1 f.2.1 f.2.2.1 q.2.2.2.2.2.2 ∈ tab))
def okC (tab : List Jvm.Cond) (C : CL) : Bool :=
  decide (Jvm.Cond.instantiable C.1 C.2.1 ∈ tab) && decide (Jvm.Cond.initialized C.1 ∈ tab) && decide ((C.2.2.map fun f => f.2.1).Nodup) &&
  C.2.2.all fun f => decide (parseFieldDescriptor f.2.2.1 = some f.2.2.2.1) && (match f.2.2.2.2 with | true => decide (Jvm.Cond.laysFinal C.1 f.1 f.2.1 f.2.2.1 ∈ tab) | false => decide (Jvm.Cond.lays C.1 f.1 f.2.1 f.2.2.1 ∈ tab))
def okCode (tab : List Jvm.Cond) (M : Mth) : Bool := decide (Jvm.Cond.code (mNm M) (mCode M) (mMax M) (mRet M) ∈ tab) && decide (Jvm.Cond.initialized (mNm M).cls ∈ tab)
def okHandle (y : MethodName) : Bool := decide (y.cls ≠ "java/lang/invoke/MethodHandle" ∧ y.cls ≠ "java/lang/invoke/VarHandle")
def okArgs (y : MethodName) (n : Nat) : Bool := match parseMethodDescriptor y.desc with | some sig => Nat.beq sig.parameters.length n | none => false
def okM (W : Wld) (tab : List Jvm.Cond) (M : Mth) (q : Nat × MLk) : Bool :=
  match q.2.1, W.1[q.2.2.1]? with
  | 0, some N => okCode tab N && okHandle (mNm N) && okArgs (mNm N) (mArgs N) && decide (Jvm.Cond.methodLink (mNm M).cls q.1 (mNm N) ∈ tab) && decide (Jvm.Cond.static (mNm N) ∈ tab)
  | 1, some N => okCode tab N && okHandle (mNm N) && (match mArgs N with | 0 => false | n + 1 => okArgs (mNm N) n) && decide (Jvm.Cond.methodLink (mNm M).cls q.1 (mNm N) ∈ tab) && decide (Jvm.Cond.instanceMethod (mNm N) ∈ tab) && decide ((mNm N).name = "<init>") && decide (mRet N = none)
  | 2, some N => okCode tab N && okHandle (mNm N) && (match mArgs N with | 0 => false | n + 1 => okArgs (mNm N) n) && decide (Jvm.Cond.methodLink (mNm M).cls q.1 (mNm N) ∈ tab) && decide (Jvm.Cond.declares (mNm N) ∈ tab) && decide (Jvm.Cond.instanceMethod (mNm N) ∈ tab) &&
      (match W.2[q.2.2.2.1]? with | some C => decide (Jvm.Cond.selects C.1 (mNm N) (mNm N) ∈ tab) | none => false)
  | 3, _ => decide (Jvm.Cond.methodLink (mNm M).cls q.1 Lib.objectInit ∈ tab) && decide (Jvm.Cond.instanceMethod Lib.objectInit ∈ tab) && decide (Jvm.Cond.code Lib.objectInit ⟨#[0xb1]⟩ 1 none ∈ tab)
  | 4, some N => okCode tab N && okHandle (mNm N) && (match mArgs N with | 0 => false | n + 1 => okArgs (mNm N) n) && decide (Jvm.Cond.methodLink (mNm M).cls q.1 (mNm N) ∈ tab) && decide (Jvm.Cond.instanceMethod (mNm N) ∈ tab) && decide (Jvm.Cond.privateMethod (mNm N) ∈ tab) && decide (Jvm.Cond.selects (mNm N).cls (mNm N) (mNm N) ∈ tab)
  | 5, _ => decide (Jvm.Cond.methodLink (mNm M).cls q.1 ⟨"[I", "clone", "()Ljava/lang/Object;"⟩ ∈ tab) && decide (Jvm.Cond.sameMethod "[I" "java/lang/Object" "clone" "()Ljava/lang/Object;" ∈ tab) && decide (Jvm.Cond.native ⟨"java/lang/Object", "clone", "()Ljava/lang/Object;"⟩ ∈ tab) &&
      decide (Jvm.Cond.instanceMethod ⟨"java/lang/Object", "clone", "()Ljava/lang/Object;"⟩ ∈ tab) && decide (Jvm.Cond.selects "[I" ⟨"[I", "clone", "()Ljava/lang/Object;"⟩ ⟨"java/lang/Object", "clone", "()Ljava/lang/Object;"⟩ ∈ tab) && decide (Jvm.Cond.castable "[I" "java/lang/Cloneable" ∈ tab)
  | 6, _ => okHandle q.2.2.2.2 && okArgs q.2.2.2.2 0 && decide (q.2.2.2.2.name = "<init>") && decide (Jvm.Cond.methodLink (mNm M).cls q.1 q.2.2.2.2 ∈ tab) && decide (Jvm.Cond.instanceMethod q.2.2.2.2 ∈ tab) &&
      (match W.2[q.2.2.2.1]?, W.2[q.2.2.2.1 + 1]? with | some C, some C' => decide (C'.1 = C.1) && decide (C'.2.1 = C.2.1) && decide (C'.2.2 = []) | _, _ => false)
  | _, _ => false
def okNew (tab : List Jvm.Cond) : Instr → Bool
  | .newarray t => decide (Jvm.Cond.arrayClass (newarray.typeOf t) ∈ tab)
  | _ => true
def okDec (tab : List Jvm.Cond) (M : Mth) : Bool := (List.range (mLen M)).all fun pc => match mDec M pc with | none => true | some (i, nx, tg) => decide (decode (mCode M) pc = .ok (i, ilen i)) && okNew tab i && Nat.beq nx (pc + ilen i) && okTg pc tg i
def okMth (W : Wld) (tab : List Jvm.Cond) (M : Mth) : Bool :=
  okDec tab M && (mCi M).all (fun q => decide (Jvm.Cond.constant (mNm M).cls q.1 q.2 ∈ tab)) && (mCl M).all (fun q => decide (Jvm.Cond.constantLong (mNm M).cls q.1 q.2 ∈ tab)) && (mFl M).all (okF W tab M) && (mMl M).all (okM W tab M) &&
  (mKl M).all (fun q => match q.2 with | 0 => decide (Jvm.Cond.classLink (mNm M).cls q.1 "[I" ∈ tab) | k + 1 => (match W.2[k]? with | some C => decide (Jvm.Cond.classLink (mNm M).cls q.1 C.1 ∈ tab) | none => false))
def fetch (M : Mth) (pc : Nat) : Option (Instr × Nat × Nat) := bif Nat.ble (mLen M) pc then none else mDec M pc
theorem fetch_ok {M : Mth} {pc nx tg : Nat} {i : Instr} {tab : List Jvm.Cond} (hM : okDec tab M = true) (h : fetch M pc = some (i, nx, tg)) : decode (mCode M) pc = .ok (i, ilen i) ∧ okNew tab i = true ∧ nx = pc + ilen i ∧ okTg pc tg i = true := by
  unfold fetch at h
  cases hb : Nat.ble (mLen M) pc with
  | true => rw [hb] at h; cases h
  | false =>
    rw [hb] at h
    have hlt : pc < mLen M := Nat.lt_of_not_le fun q => by rw [Nat.ble_eq_true_of_le q] at hb; cases hb
    have q := List.all_eq_true.mp hM pc (List.mem_range.mpr hlt)
    rw [show mDec M pc = some (i, nx, tg) from h] at q
    simp only [Bool.and_eq_true, decide_eq_true_eq] at q
    exact ⟨q.1.1.1, q.1.1.2, Nat.eq_of_beq_eq_true q.1.2, q.2⟩

/-! the writing step -/
def putV : FieldType → Value → Option Value
  | .int, .int x => some (.int x)
  | .long, .long x => some (.long x)
  | .boolean, .int x => some (.int (x &&& 1))
  | .byte, .int x => some (.int x.toInt8.toInt32)
  | .object _, .ref a => some (.ref a)
  | .object _, .null => some .null
  | .array _, .ref a => some (.ref a)
  | .array _, .null => some .null
  | _, _ => none
theorem putV_spec (b : Nat) {ty : FieldType} {v v' : Value} (h : putV ty v = some v') : narrow ty (up b v) = up b v' ∧ fits ty (up b v') = true := by
  unfold putV at h
  split at h <;> first | (cases h; exact ⟨rfl, rfl⟩) | (cases h; exact ⟨rfl, fits_nar_bool _⟩) | (cases h; exact ⟨rfl, fits_nar_byte _⟩) | cases h
def sumC (S : List Value) : Nat := (S.map fun v => v.category).sum
theorem sumC_up (b : Nat) (S : List Value) : ((S.map (up b)).map fun v => v.category).sum = sumC S := by
  unfold sumC
  rw [List.map_map]
  congr 1
  apply List.map_congr_left
  intro v _
  exact up_cat b v
def w_putfield (M : Mth) (ah : AH) (idx : Nat) (nx : Nat) (S : List Value) : Option (Nat × List Value × AH) :=
    (match S with
    | v :: .ref a :: r =>
      (match lk (mFl M) idx, ah[a]? with
      | some q, some (.inl (k, vs)) =>
        (match Nat.beq k q.1, q.2.2.1, putV q.2.2.2.1 v with
        | true, true, some v' => if q.2.1 < vs.length then some (nx, r, ah.set a (.inl (k, vs.set q.2.1 v'))) else none
        | _, _, _ => none)
      | _, _ => none)
    | _ => none)
def w_iastore (ah : AH) (nx : Nat) (S : List Value) : Option (Nat × List Value × AH) :=
    (match S with
    | .int x :: .int j :: .ref a :: r =>
      (match ah[a]? with
      | some (.inr (.int, vs)) => if j < 0 then none else if j.toNatClampNeg < vs.length then some (nx, r, ah.set a (.inr (.int, vs.set j.toNatClampNeg (.int x)))) else none
      | _ => none)
    | _ => none)
def w_lastore (ah : AH) (nx : Nat) (S : List Value) : Option (Nat × List Value × AH) :=
    (match S with
    | .long x :: .int j :: .ref a :: r =>
      (match ah[a]? with
      | some (.inr (.long, vs)) => if j < 0 then none else if j.toNatClampNeg < vs.length then some (nx, r, ah.set a (.inr (.long, vs.set j.toNatClampNeg (.long x)))) else none
      | _ => none)
    | _ => none)
def w_bastore (ah : AH) (nx : Nat) (S : List Value) : Option (Nat × List Value × AH) :=
    (match S with
    | .int x :: .int j :: .ref a :: r =>
      (match ah[a]? with
      | some (.inr (.byte, vs)) => if j < 0 then none else if j.toNatClampNeg < vs.length then some (nx, r, ah.set a (.inr (.byte, vs.set j.toNatClampNeg (.int (x.toInt8.toInt32))))) else none
      | some (.inr (.boolean, vs)) => if j < 0 then none else if j.toNatClampNeg < vs.length then some (nx, r, ah.set a (.inr (.boolean, vs.set j.toNatClampNeg (.int (x &&& 1))))) else none
      | _ => none)
    | _ => none)
def w_new (W : Wld) (M : Mth) (ah : AH) (idx : Nat) (nx : Nat) (S : List Value) : Option (Nat × List Value × AH) :=
    (match lk (mKl M) idx with
    | some 0 => none
    | some (k + 1) => (match W.2[k]? with | some C => some (nx, .ref ah.length :: S, ah ++ [.inl (k, C.2.2.map fun f => defaultValue f.2.2.2.1)]) | none => none)
    | none => none)
def w_newarray (ah : AH) (t : ArrayType) (nx : Nat) (S : List Value) : Option (Nat × List Value × AH) :=
    (match S with
    | .int n :: r => if n < 0 then none else if n.toNatClampNeg ≤ 67108864 then some (nx, .ref ah.length :: r, ah ++ [.inr (newarray.typeOf t, List.replicate n.toNatClampNeg (defaultValue (newarray.typeOf t)))]) else none
    | _ => none)
def w_invokespecial (M : Mth) (F : Nat) (B : Nat) (ah : AH) (idx : Nat) (nx : Nat) (S : List Value) : Option (Nat × List Value × AH) :=
    (match lk (mMl M) idx, S with
    | some q, .ref a :: r =>
      (match q.1 with
      | 3 => if 1 ≤ F ∧ sumC r + 12 ≤ B then some (nx, r, ah) else none
      | 6 => (match ah[a]? with | some (.inl (k, _)) => (match Nat.beq k q.2.2.1 with | true => if 5 ≤ F ∧ sumC r + 100 ≤ B then some (nx, r, ah.set a (.inl (k + 1, []))) else none | false => none) | _ => none)
      | _ => none)
    | _, _ => none)
def w_invokevirtual (M : Mth) (F : Nat) (B : Nat) (ah : AH) (idx : Nat) (nx : Nat) (S : List Value) : Option (Nat × List Value × AH) :=
    (match lk (mMl M) idx, S with
    | some q, .ref a :: r => (match q.1, ah[a]? with | 5, some (.inr (.int, vs)) => if 1 ≤ F ∧ sumC r + 14 ≤ B then some (nx, .ref ah.length :: r, ah ++ [.inr (.int, vs)]) else none | _, _ => none)
    | _, _ => none)
def wsel (i : Instr) : Option (Wld → Mth → Nat → Nat → AH → Nat → List Value → Option (Nat × List Value × AH)) :=
  match i with
  | .putfield idx => some fun _ M _ _ ah => w_putfield M ah idx
  | .iastore => some fun _ _ _ _ ah => w_iastore ah
  | .lastore => some fun _ _ _ _ ah => w_lastore ah
  | .bastore => some fun _ _ _ _ ah => w_bastore ah
  | .new idx => some fun W M _ _ ah => w_new W M ah idx
  | .newarray t => some fun _ _ _ _ ah => w_newarray ah t
  | .invokespecial idx => some fun _ M F B ah => w_invokespecial M F B ah idx
  | .invokevirtual idx => some fun _ M F B ah => w_invokevirtual M F B ah idx
  | _ => none
def wstep (W : Wld) (M : Mth) (F B : Nat) (ah : AH) (i : Instr) (nx : Nat) (S : List Value) : Option (Nat × List Value × AH) :=
  match wsel i with
  | some f => f W M F B ah nx S
  | none => none
theorem def_up (b : Nat) (ty : FieldType) : up b (defaultValue ty) = defaultValue ty := by cases ty <;> rfl
theorem def_fits (ty : FieldType) : fits ty (defaultValue ty) = true := by cases ty <;> rfl
/-- what the body knows of its own place -/
def Inv (W : Wld) (Z : State) (b c0 q0 : Nat) (s T : State) (locs : List Loc) (cells slots : Nat) (ah : AH) : Prop :=
  Rel W Z b T.heap ah ∧ Fr b locs ∧ s.heap.size = b + c0 ∧ cells + c0 = ah.length ∧ slots + q0 = sz W ah
/-- a constructor of the JDK that isn't run here: what is asked of its own contract -/
def XOK (W : Wld) (tab : List Jvm.Cond) (l : Launch) (Z : State) (b : Nat) (q : MLk) : Prop :=
  ∃ (bytes : ByteArray) (maxL fr lo : Nat), Jvm.Cond.code q.2.2.2 bytes maxL none ∈ tab ∧ Jvm.Cond.initialized q.2.2.2.cls ∈ tab ∧ fr + 1 ≤ 5 ∧ maxL + 11 + lo ≤ 100 ∧
  ∀ (h : Heap) (ah : AH) (a : Nat) (vs : List Value), Rel W Z b h ah → ah[a]? = some (.inl (q.2.2.1, vs)) →
    MetFree l q.2.2.2 (head1 [Jvm.Cond.code q.2.2.2 bytes maxL none] ({ frames := fr, cells := 0, slots := 0, locals := lo } : Room)) (fun x U => x = #[.ref (b + a)] ∧ Z.Warmed39 U.vm ∧ U.heap = h) (fun _ _ _ _ _ => True)
      (fun _ U o U' => ∃ v L, o = .returned v ∧ (v = none ∧ Fr b L ∧ Keep h U'.heap [b + a]) ∧ FrameEnd U o U' L ({ frames := fr, cells := 0, slots := 0, locals := lo } : Room).cells ({ frames := fr, cells := 0, slots := 0, locals := lo } : Room).slots)
theorem okArgs_len {y : MethodName} {n : Nat} {as : List Value} (h : okArgs y n = true) (ha : as.length = n) : ∀ sig, parseMethodDescriptor y.desc = some sig → as.length = sig.parameters.length := fun sig hs => by
  unfold okArgs at h
  rw [hs] at h
  rw [ha]
  exact (Nat.eq_of_beq_eq_true h).symm
section Write
variable {p : Program} {l : Launch} {e : Env} {R : Room} {s : State} {m : MethodId} {args : Array Value} {below : List Frame} {meth : Method} {c : Code} {T : State} {locs : List Loc} {cells slots : Nat} {Z : State} {a0 : Array Value} {W : Wld} {M : Mth} {b c0 q0 : Nat} {ah : AH}
theorem inv_set {T' : State} {h' : Heap} {a sl : Nat} {v : Value} {o o' : AObj} (H : Inv W Z b c0 q0 s T locs cells slots ah) (X' : Stand p l e R s m args below meth c T' (locs ++ [⟨b + a, sl⟩]) cells slots) (e' : T'.heap = h') (w : Wr T.heap h' (b + a) sl v) (ho : ah[a]? = some o) (hz : asz W o' = asz W o) (hor : OR W Z b h' (b + a) o') :
    Inv W Z b c0 q0 s T' (locs ++ [⟨b + a, sl⟩]) cells slots (ah.set a o') := by
  obtain ⟨h1, h2, h3, h4, h5⟩ := H
  refine ⟨?_, Fr.snoc X' h2 (Nat.le_add_right _ _), h3, by simpa using h4, by rw [sz_set W hz ho]; exact h5⟩
  rw [e']
  exact h1.set (lt_of_get ho) w hor
theorem inv_push {T' : State} {h' : Heap} {n : Nat} {o' : AObj} (H : Inv W Z b c0 q0 s T locs cells slots ah) (X' : Stand p l e R s m args below meth c T' locs (cells + 1) (slots + n)) (e' : T'.heap = h') (E : Ext T.heap h') (hlt : T.heap.size < h'.size) (hz : asz W o' = n) (hor : OR W Z b h' T.heap.size o') :
    Inv W Z b c0 q0 s T' locs (cells + 1) (slots + n) (ah ++ [o']) := by
  obtain ⟨h1, h2, h3, h4, h5⟩ := H
  have hs : h'.size = T.heap.size + 1 := by
    have q := X'.heapSize
    rw [e'] at q
    have q2 := h1.1
    omega
  refine ⟨?_, h2, h3, by simp; omega, by rw [sz_app, hz]; omega⟩
  rw [e']
  exact h1.push E hs hor
theorem arr_set {T' : State} {h' : Heap} {a : Nat} {j : Int32} {ty : FieldType} {vs : List Value} {v : Value} {cl : Cell} (A : Arr Z T.heap (b + a) cl ty) (g2 : cl.slots = (vs.map (up b)).toArray) (g3 : Exa Z T.heap (b + a) ("[" ++ ty.toString)) (g4 : ∀ v ∈ vs, fits ty (up b v) = true)
    (w : Wr T.heap h' (b + a) j.toNatClampNeg (up b v)) (hv : fits ty (up b v) = true) : OR W Z b h' (b + a) (.inr (ty, vs.set j.toNatClampNeg v)) := by
  refine ⟨_, A.same w, ?_, g3.wr w, fun u hu => ?_⟩
  · simp [Cell.setSlot, g2, List.map_set]
  · rcases List.mem_or_eq_of_mem_set hu with q | q
    · exact g4 u q
    · rw [q]; exact hv
theorem wstep_sound {tab : List Jvm.Cond} {F B : Nat} {i : Instr} {pc nx pc' : Nat} {L : List Slot} {S S' : List Value} {ah' : AH} (X : Stand p l e R s m args below meth c T locs cells slots) (hx : p.tables.exec = Jvm.exec) (hZ : Z.Warmed39 s.vm) (hown : s.vm.findClass (mNm M).cls = some m.cls) (hnm : meth.name = (mNm M).name)
    (hsize : L.length = c.maxLocals) (hw : ∀ d ∈ tab, d.before a0 Z = true) (hC : ∀ C ∈ W.2, okC tab C = true) (hM : okMth W tab M = true) (hX : ∀ q ∈ mMl M, q.2.1 = 6 → XOK W tab l Z b q.2) (hN : okNew tab i = true)
    (H : Inv W Z b c0 q0 s T locs cells slots ah) (hF : F ≤ R.frames) (hB : B ≤ R.locals) (hc : ah'.length ≤ c0 + R.cells) (hs : sz W ah' ≤ q0 + R.slots) (hd : decode c.code pc = .ok (i, ilen i)) (hnx : nx = pc + ilen i) (h : wstep W M F B ah i nx S = some (pc', S', ah')) :
    ∃ T' locs' cells' slots', Stand p l e R s m args below meth c T' locs' cells' slots' ∧ Inv W Z b c0 q0 s T' locs' cells' slots' ah' ∧ ∀ target, Steps p.tables e below (T'.setTop (fm b m pc' L S')) target → Steps p.tables e below (T.setTop (fm b m pc L S)) target := by
  have hR : Rel W Z b T.heap ah := H.1
  simp only [okMth, Bool.and_eq_true] at hM
  obtain ⟨⟨⟨⟨⟨hM1, hM2⟩, hM3⟩, hM4⟩, hM5⟩, hM6⟩ := hM
  subst hnx
  unfold wstep wsel at h
  cases i
  case putfield idx =>
    dsimp only at h
    unfold w_putfield at h
    split at h
    · rename_i v a r
      split at h
      · rename_i q k vs hl ho
        split at h
        · rename_i v' hk hwr hpv
          split at h
          · rename_i hpos
            cases h
            have hq := List.all_eq_true.mp hM4 _ (lk_mem hl)
            obtain ⟨C, g1, g5, g6, g7⟩ := hR.2.1 a _ ho
            have ek : k = q.1 := Nat.eq_of_beq_eq_true hk
            subst ek
            unfold okF at hq
            dsimp only at hq
            rw [g1] at hq
            dsimp only at hq
            obtain ⟨f, hf⟩ : ∃ f, C.2.2[q.2.1]? = some f := ⟨_, List.getElem?_eq_getElem (by omega)⟩
            rw [hf] at hq
            dsimp only at hq
            rw [hwr] at hq
            simp only [Bool.and_eq_true, Bool.or_eq_true, decide_eq_true_eq, Bool.not_eq_true'] at hq
            obtain ⟨⟨hty, hvia⟩, hlink, hfin⟩ := hq
            have hCk := hC C (List.mem_of_getElem? g1)
            simp only [okC, Bool.and_eq_true, decide_eq_true_eq] at hCk
            obtain ⟨⟨⟨hi1, hi2⟩, hnd⟩, hall⟩ := hCk
            have hfl := List.all_eq_true.mp hall f (List.mem_of_getElem? hf)
            simp only [Bool.and_eq_true, decide_eq_true_eq] at hfl
            have hlaid : ∀ g ∈ C.2.2, Laid Z a0 C.1 g.1 g.2.1 g.2.2.1 := fun g hg => by
              have q0 := List.all_eq_true.mp hall g hg
              simp only [Bool.and_eq_true] at q0
              have q1 := q0.2
              split at q1
              · exact Or.inr (hw _ (of_decide_eq_true q1))
              · exact Or.inl (hw _ (of_decide_eq_true q1))
            obtain ⟨old, hold⟩ : ∃ u, vs[q.2.1]? = some u := ⟨_, List.getElem?_eq_getElem hpos⟩
            obtain ⟨n1, n2⟩ := putV_spec b hpv
            have hL : (Jvm.Cond.lays C.1 f.1 f.2.1 f.2.2.1).before a0 Z = true ∨ ((Jvm.Cond.laysFinal C.1 f.1 f.2.1 f.2.2.1).before a0 Z = true ∧ (mNm M).cls = f.1 ∧ meth.name = "<init>") := by
              have q1 := hfl.2
              split at q1
              · rename_i hb
                rcases hfin with z | ⟨z1, z2⟩
                · rw [hb] at z; cases z
                · exact Or.inr ⟨hw _ (of_decide_eq_true q1), z1, by rw [hnm]; exact z2⟩
              · exact Or.inl (hw _ (of_decide_eq_true q1))
            have hVia : Via Z q.2.2.2.2.1 f.1 f.2.1 f.2.2.1 := by
              rcases hvia with z | z
              · rw [z]; exact Via.refl
              · exact Via.of (hw _ z)
            rw [← hty] at n1 n2
            obtain ⟨T', h', X', e', w', st⟩ := putFN X hx hZ hown (hw _ hlink) hVia rfl (g7 _ f old hf hold) g5 hL (hw _ hi1) hfl.1 n1 n2 (g := fm b m pc L (v :: .ref a :: _)) rfl rfl hd
            refine ⟨T', _, _, _, X', inv_set H X' e' w' ho rfl ?_, st⟩
            refine ⟨C, g1, g5.wr w', by simpa using g6, fun j g u hg hu => ?_⟩
            by_cases ej : q.2.1 = j
            · subst ej
              rw [List.getElem?_set_self hpos] at hu
              cases hu
              cases hf.symm.trans hg
              exact (g7 _ f old hf hold).same w'
            · rw [List.getElem?_set_ne ej] at hu
              refine (g7 _ g u hg hu).other w' (Or.inr ?_)
              have hpg := List.all_eq_true.mp hall g (List.mem_of_getElem? hg)
              simp only [Bool.and_eq_true, decide_eq_true_eq] at hpg
              refine slot_ne (hlaid g (List.mem_of_getElem? hg)) (hlaid f (List.mem_of_getElem? hf)) (fun en => ej ?_) hpg.1 hfl.1
              have l1 : (C.2.2.map fun f => f.2.1)[q.2.1]? = some f.2.1 := by simp [hf]
              have l2 : (C.2.2.map fun f => f.2.1)[j]? = some f.2.1 := by simp [hg, en]
              exact (List.getElem?_inj (by simpa using (List.getElem?_eq_some_iff.mp hf).1) hnd).mp (l1.trans l2.symm)
          · cases h
        · cases h
      · cases h
    · cases h
  case iastore =>
    dsimp only at h
    unfold w_iastore at h
    split at h
    · rename_i x j a r
      split at h
      · rename_i vs ho
        split at h
        · cases h
        · rename_i hj
          split at h
          · rename_i hlt
            cases h
            obtain ⟨cl, g1, g2, g3, g4⟩ := hR.2.1 a _ ho
            have hin : ¬ (j < 0 ∨ cl.slots.size ≤ j.toNatClampNeg) := fun q => q.elim hj fun q => by rw [g2] at q; simp at q; omega
            obtain ⟨T', h', X', e', w', st⟩ := stI X hx hZ rfl g1 (j := j) (x := x) hin (g := fm b m pc L (.int x :: .int j :: .ref a :: _)) rfl rfl hd
            exact ⟨T', _, _, _, X', inv_set H X' e' w' ho (by simp [asz]) (arr_set (T' := T') g1 g2 g3 g4 w' rfl), st⟩
          · cases h
      · cases h
    · cases h
  case lastore =>
    dsimp only at h
    unfold w_lastore at h
    split at h
    · rename_i x j a r
      split at h
      · rename_i vs ho
        split at h
        · cases h
        · rename_i hj
          split at h
          · rename_i hlt
            cases h
            obtain ⟨cl, g1, g2, g3, g4⟩ := hR.2.1 a _ ho
            have hin : ¬ (j < 0 ∨ cl.slots.size ≤ j.toNatClampNeg) := fun q => q.elim hj fun q => by rw [g2] at q; simp at q; omega
            obtain ⟨T', h', X', e', w', st⟩ := stJ X hx hZ rfl g1 (j := j) (x := x) hin (g := fm b m pc L (.long x :: .int j :: .ref a :: _)) rfl rfl hd
            exact ⟨T', _, _, _, X', inv_set H X' e' w' ho (by simp [asz]) (arr_set (T' := T') g1 g2 g3 g4 w' rfl), st⟩
          · cases h
      · cases h
    · cases h
  case bastore =>
    dsimp only at h
    unfold w_bastore at h
    split at h
    · rename_i x j a r
      split at h
      · rename_i vs ho
        split at h
        · cases h
        · rename_i hj
          split at h
          · rename_i hlt
            cases h
            obtain ⟨cl, g1, g2, g3, g4⟩ := hR.2.1 a _ ho
            have hin : ¬ (j < 0 ∨ cl.slots.size ≤ j.toNatClampNeg) := fun q => q.elim hj fun q => by rw [g2] at q; simp at q; omega
            obtain ⟨T', h', X', e', w', st⟩ := stB X hx hZ rfl g1 (j := j) (x := x) hin (g := fm b m pc L (.int x :: .int j :: .ref a :: _)) rfl rfl hd
            exact ⟨T', _, _, _, X', inv_set H X' e' w' ho (by simp [asz]) (arr_set (T' := T') (v := .int x.toInt8.toInt32) g1 g2 g3 g4 w' (fits_nar_byte _)), st⟩
          · cases h
      · rename_i vs ho
        split at h
        · cases h
        · rename_i hj
          split at h
          · rename_i hlt
            cases h
            obtain ⟨cl, g1, g2, g3, g4⟩ := hR.2.1 a _ ho
            have hin : ¬ (j < 0 ∨ cl.slots.size ≤ j.toNatClampNeg) := fun q => q.elim hj fun q => by rw [g2] at q; simp at q; omega
            obtain ⟨T', h', X', e', w', st⟩ := stZ X hx hZ rfl g1 (j := j) (x := x) hin (g := fm b m pc L (.int x :: .int j :: .ref a :: _)) rfl rfl hd
            exact ⟨T', _, _, _, X', inv_set H X' e' w' ho (by simp [asz]) (arr_set (T' := T') (v := .int (x &&& 1)) g1 g2 g3 g4 w' (fits_nar_bool _)), st⟩
          · cases h
      · cases h
    · cases h
  case new idx =>
    dsimp only at h
    unfold w_new at h
    split at h
    · cases h
    · rename_i k hl
      split at h
      · rename_i C hk
        cases h
        have hq := List.all_eq_true.mp hM6 _ (lk_mem hl)
        dsimp only at hq
        rw [hk] at hq
        dsimp only at hq
        have hlink := hw _ (of_decide_eq_true hq)
        have hCk := hC C (List.mem_of_getElem? hk)
        simp only [okC, Bool.and_eq_true, decide_eq_true_eq] at hCk
        obtain ⟨⟨⟨hi1, hi2⟩, hnd⟩, hall⟩ := hCk
        have hz : asz W (.inl (k, C.2.2.map fun f => defaultValue f.2.2.2.1)) = C.2.1 := by simp [asz, hk]
        rw [sz_app, hz] at hs
        have h4 := H.2.2.2.1
        have h5 := H.2.2.2.2
        obtain ⟨T', h', X', e', E', A', D', -, st⟩ := newO X hx hZ hown hlink (hw _ hi1) (hw _ hi2) rfl (g := fm b m pc L S) rfl hd (by simp at hc; omega) (by omega)
        refine ⟨T', _, _, _, X', inv_push H X' e' E' A'.lt hz ⟨C, hk, A', by simp, fun j f u hf hu => ?_⟩, fun t kk => st t ?_⟩
        · have hu' : u = defaultValue f.2.2.2.1 := by simpa [hf] using hu.symm
          rw [hu', def_up]
          have hpf := List.all_eq_true.mp hall f (List.mem_of_getElem? hf)
          simp only [Bool.and_eq_true, decide_eq_true_eq] at hpf
          refine D' (O := f.1) ?_ hpf.1
          have q1 := hpf.2
          split at q1
          · exact Or.inr (hw _ (of_decide_eq_true q1))
          · exact Or.inl (hw _ (of_decide_eq_true q1))
        · have e0 : T.heap.size = b + ah.length := hR.1
          rw [e0]
          exact kk
      · cases h
    · cases h
  case newarray t =>
    dsimp only at h
    unfold w_newarray at h
    split at h
    · rename_i n r
      split at h
      · cases h
      · rename_i hn
        split at h
        · rename_i hcap
          cases h
          have hz : asz W (.inr (newarray.typeOf t, List.replicate n.toNatClampNeg (defaultValue (newarray.typeOf t)))) = n.toNatClampNeg := by simp [asz]
          rw [sz_app, hz] at hs
          have h4 := H.2.2.2.1
          have h5 := H.2.2.2.2
          have hcb : componentBytes (newarray.typeOf t) ≤ 8 := by cases t <;> decide
          have hAC : (Jvm.Cond.arrayClass (newarray.typeOf t)).before a0 Z = true := hw _ (of_decide_eq_true hN)
          obtain ⟨cA, kA, comp, k1, k2, k3, X', st⟩ := X.newarrayPrim hx (mvA hZ hAC) (g := fm b m pc L (.int n :: r)) rfl hd rfl hn (Nat.le_trans (Nat.mul_le_mul hcap hcb) (by decide)) (by simp at hc; omega) (by omega)
          rw [hZ.alike.findClass] at k1
          obtain ⟨kZ, z1, -⟩ := Vm.findClass_spec k1
          obtain ⟨k', z2, z3⟩ := hZ.alike.2.2 _ _ z1
          cases k2.symm.trans z2
          have kk3 : kZ.kind = .array comp (newarray.typeOf t) := by rw [← k3, z3]
          have hg : (T.pushCell { cls := cA, slots := Array.replicate n.toNatClampNeg (defaultValue (newarray.typeOf t)), vm := .none }).heap = T.heap.push { cls := cA, slots := Array.replicate n.toNatClampNeg (defaultValue (newarray.typeOf t)), vm := .none } := rfl
          have hget : (T.heap.push { cls := cA, slots := Array.replicate n.toNatClampNeg (defaultValue (newarray.typeOf t)), vm := .none })[T.heap.size]? = some { cls := cA, slots := Array.replicate n.toNatClampNeg (defaultValue (newarray.typeOf t)), vm := .none } := by simp
          refine ⟨_, _, _, _, X', inv_push H X' hg ⟨by simp, fun a c hc => ?_⟩ (by simp) hz ⟨_, ⟨hget, ⟨by simp, kZ, z1, comp, kk3⟩, by simp⟩, ?_, ⟨_, kZ, hget, k1, z1, rfl, fun q => ?_⟩, fun u hu => ?_⟩, fun tt kk => st tt ?_⟩
          · rw [Array.getElem?_push_lt (Array.getElem?_eq_some_iff.mp hc).1]; exact (Array.getElem?_eq_getElem _).symm.trans hc
          · simp [def_up]
          · rw [kk3] at q; cases q
          · rw [List.eq_of_mem_replicate hu, def_up]; exact def_fits _
          · have e0 : T.heap.size = b + ah.length := hR.1
            rw [e0]
            exact kk
        · cases h
    · cases h
  case invokespecial idx =>
    dsimp only at h
    unfold w_invokespecial at h
    split at h
    · rename_i q a r hl
      split at h
      · rename_i hq3
        split at h
        · rename_i hroom
          cases h
          have hq := List.all_eq_true.mp hM5 _ (lk_mem hl)
          unfold okM at hq
          dsimp only at hq
          rw [hq3] at hq
          simp only [Bool.and_eq_true, decide_eq_true_eq] at hq
          obtain ⟨⟨w1, w2⟩, w3⟩ := hq
          obtain ⟨T', X', e', st⟩ := initO X hx hZ hown (hw _ w1) (hw _ w2) (hw _ w3) rfl (g := fm b m pc L (.ref a :: S')) rfl (by simpa using hsize) rfl hd (by omega) (W := sumC S') (by show 2 * 0 + _ ≤ _; rw [sumC_up]; omega) (by omega)
          refine ⟨T', _, _, _, X', ⟨by rw [e']; exact H.1, H.2⟩, st⟩
        · cases h
      · rename_i hq6
        split at h
        · rename_i k vs ho
          split at h
          · rename_i hkk
            split at h
            · rename_i hroom
              cases h
              have ek : k = q.2.2.1 := Nat.eq_of_beq_eq_true hkk
              have hq := List.all_eq_true.mp hM5 _ (lk_mem hl)
              unfold okM at hq
              dsimp only at hq
              rw [hq6] at hq
              simp only [okHandle, Bool.and_eq_true, decide_eq_true_eq] at hq
              obtain ⟨⟨⟨⟨⟨w1, w2⟩, w3⟩, w4⟩, w5⟩, w6⟩ := hq
              obtain ⟨C, g1, g5, g6, g7⟩ := hR.2.1 a _ ho
              rw [← ek, g1] at w6
              have hx6 : XOK W tab l Z b q := hX _ (lk_mem hl) hq6
              obtain ⟨bytes, maxL, fr, lo, c1, c2, c3, c4, c5⟩ := hx6
              have hmet := c5 T.heap ah a vs hR (by rw [← ek]; exact ho)
              obtain ⟨v1, vm1, ⟨T', L', k', n'⟩, -, X', ⟨Lc, hQ, l1, y1, z1⟩, st⟩ := X.specialBack hx (y := q.2.2.2) w3 hown (mvT hZ (hw _ w4)) (mvT hZ (hw _ w5)) (mvT hZ (hw _ c1)) w1 (backOf (W := sumC S') (rm := { frames := fr, cells := 0, slots := 0, locals := lo }) (Q := fun v h' L => v = none ∧ Fr b L ∧ Keep T.heap h' [b + a]) hmet hZ (hw _ c1) (hw _ c2) (by show fr + 1 ≤ _; omega) (by show sumC S' + (maxL + 11) + lo ≤ _; omega)) (g := fm b m pc L (.ref a :: S')) rfl (by simpa using hsize) (Steps.refl _) (a := b + a) (argsL := []) (rest := S'.map (up b)) (okArgs_len w2 rfl) rfl (by show 2 * 0 + _ ≤ _; rw [sumC_up]; omega) hd (fun _ _ => ⟨rfl, rfl, by show cells + 0 ≤ _; have := H.2.2.2.1; simp at hc; omega, by
                show slots + 0 ≤ _
                have := H.2.2.2.2
                have hz0 : sz W (ah.set a (.inl (k + 1, []))) = sz W ah := by
                  split at w6
                  · rename_i C1 C2 hC1 hC2
                    simp only [Bool.and_eq_true, decide_eq_true_eq] at w6
                    refine sz_set W ?_ ho
                    simp only [asz, hC2, g1]
                    cases hC1
                    exact w6.1.2
                  · cases w6
                rw [hz0] at hs
                omega⟩)
              dsimp only [Pt.U, Pt.locs, Pt.cells, Pt.slots] at X' l1 y1 z1 st hQ
              subst l1 y1 z1
              obtain ⟨rfl, hFr, hK⟩ := hQ
              split at w6
              · rename_i C1 C2 hC1 hC2
                simp only [Bool.and_eq_true, decide_eq_true_eq] at w6
                cases hC1
                obtain ⟨i1, i2, i3, i4, i5⟩ := H
                refine ⟨T', _, _, _, X', ⟨⟨?_, fun i o hi => ?_, fun x c hx hc => hK.2.1 x c (i1.2.2 x c hx hc) (fun z => by have e : x = b + a := List.mem_singleton.mp z; exact absurd hx (Nat.not_lt.mpr (by rw [e]; exact Nat.le_add_right b a)))⟩, i2.app hFr, i3, by simpa using i4, ?_⟩, fun t kk => st.trans kk⟩
                · have e1 := X'.heapSize
                  have e2 := hK.1
                  have e3 := i1.1
                  simp only [List.length_set]
                  try simp only [Nat.add_zero] at e1
                  omega
                · by_cases ei : a = i
                  · subst ei
                    rw [List.getElem?_set_self (lt_of_get ho)] at hi
                    cases hi
                    refine ⟨C2, hC2, by rw [w6.1.1]; exact g5.keep hK, by rw [w6.2]; rfl, fun j f u hf => by rw [w6.2] at hf; simp at hf⟩
                  · rw [List.getElem?_set_ne ei] at hi
                    exact (i1.2.1 i o hi).keep hK (fun z => ei (Nat.add_left_cancel (List.mem_singleton.mp z)).symm)
                · rw [sz_set W (o' := .inl (k + 1, [])) ?_ ho]
                  · exact i5
                  · simp only [asz, hC2, g1]
                    exact w6.1.2
              · cases w6
            · cases h
          · cases h
        · cases h
      · cases h
    · cases h
  case invokevirtual idx =>
    dsimp only at h
    unfold w_invokevirtual at h
    split at h
    · rename_i q a r hl
      split at h
      · rename_i vs hq5 ho
        split at h
        · rename_i hroom
          cases h
          have hq := List.all_eq_true.mp hM5 _ (lk_mem hl)
          unfold okM at hq
          dsimp only at hq
          rw [hq5] at hq
          simp only [Bool.and_eq_true, decide_eq_true_eq] at hq
          obtain ⟨⟨⟨⟨⟨w1, w2⟩, w3⟩, w4⟩, w5⟩, w6⟩ := hq
          obtain ⟨cl, g1, g2, g3, g4⟩ := hR.2.1 a _ ho
          have hz : asz W (.inr (FieldType.int, vs)) = vs.length := rfl
          have hcl : cl.slots.size = vs.length := by rw [g2]; simp
          rw [sz_app, hz] at hs
          have h4 := H.2.2.2.1
          have h5 := H.2.2.2.2
          have hfit : FitC Z cl := fun j u hu => by
            obtain ⟨hst, kc, hkc, comp, hkind⟩ := g1.2.1
            have hu' : u ∈ vs.map (up b) := by
              rw [g2] at hu
              exact List.mem_of_getElem? (by simpa using hu)
            obtain ⟨u0, hu0, rfl⟩ := List.mem_map.mp hu'
            simp [State.fitsSlot, State.slotType?, hkc, hkind, g4 u0 hu0]
          obtain ⟨T', h', X', e', E', A', EX', st⟩ := cloneA X hx hZ hown (hw _ w1) (hw _ w2) (hw _ w3) (hw _ w4) (hw _ w5) (hw _ w6) rfl g1 g3 hfit (g := fm b m pc L (.ref a :: r)) rfl (by simpa using hsize) rfl hd (by omega) (W := sumC r) (cap := vs.length) (by show 2 * 0 + _ ≤ _; rw [sumC_up]; omega) (by omega) (by omega) (by simp at hc; omega) (by omega)
          refine ⟨T', _, _, _, X', inv_push H X' e' E' A'.lt hz ⟨_, A', g2, EX', g4⟩, fun t kk => st t ?_⟩
          have e0 : T.heap.size = b + ah.length := hR.1
          rw [e0]
          exact kk
        · cases h
      · cases h
    · cases h
  all_goals (exact nomatch h)
end Write

/-! leaving, calling, running -/
def r_return (M : Mth) (S : List Value) : Option (Option Value) := match S, mRet M with | [], none => some none | _, _ => none
def r_ireturn (M : Mth) (S : List Value) : Option (Option Value) := match S, mRet M with | .int z :: _, some .int => some (some (.int z)) | .int z :: _, some .boolean => some (some (.int (z &&& 1))) | .int z :: _, some .byte => some (some (.int z.toInt8.toInt32)) | _, _ => none
def r_lreturn (M : Mth) (S : List Value) : Option (Option Value) := match S, mRet M with | .long z :: _, some .long => some (some (.long z)) | _, _ => none
def r_areturn (M : Mth) (S : List Value) : Option (Option Value) := match S, mRet M with | v :: _, some t => (match t.isReference, v.isRef with | true, true => some (some v) | _, _ => none) | _, _ => none
def rsel (i : Instr) : Option (Mth → List Value → Option (Option Value)) :=
  match i with
  | .return_ => some r_return
  | .ireturn => some r_ireturn
  | .lreturn => some r_lreturn
  | .areturn => some r_areturn
  | _ => none
def rstep (M : Mth) (i : Instr) (S : List Value) : Option (Option Value) :=
  match rsel i with
  | some f => f M S
  | none => none
def call0 (N : Mth) (F B : Nat) (S : List Value) : Option (List Value × List Value × Nat) :=
  if mArgs N ≤ S.length ∧ 1 ≤ F ∧ sumC (S.drop (mArgs N)) + (mMax N + 11) ≤ B ∧ (Jvm.Sym.laidSlots (S.take (mArgs N)).reverse).length ≤ mMax N then some ((S.take (mArgs N)).reverse, S.drop (mArgs N), B - (sumC (S.drop (mArgs N)) + (mMax N + 11))) else none
def c_invokestatic (W : Wld) (M : Mth) (F B : Nat) (_ah : AH) (idx : Nat) (S : List Value) : Option (Mth × List Value × List Value × Nat) :=
    (match lk (mMl M) idx with
    | none => none
    | some q =>
      (match q.1, W.1[q.2.1]? with
      | 0, some N => (match call0 N F B S with | some (as, rest, B') => some (N, as, rest, B') | none => none)
      | _, _ => none))
def c_invokespecial (W : Wld) (M : Mth) (F B : Nat) (_ah : AH) (idx : Nat) (S : List Value) : Option (Mth × List Value × List Value × Nat) :=
    (match lk (mMl M) idx with
    | none => none
    | some q =>
      (match q.1, W.1[q.2.1]? with
      | 1, some N => (match call0 N F B S with | some (.ref a :: as, rest, B') => some (N, .ref a :: as, rest, B') | _ => none)
      | _, _ => none))
def c_invokevirtual (W : Wld) (M : Mth) (F B : Nat) (ah : AH) (idx : Nat) (S : List Value) : Option (Mth × List Value × List Value × Nat) :=
    (match lk (mMl M) idx with
    | none => none
    | some q =>
      (match q.1, W.1[q.2.1]? with
      | 2, some N =>
        (match call0 N F B S with
        | some (.ref a :: as, rest, B') => (match ah[a]? with | some (.inl (k, _)) => (match Nat.beq k q.2.2.1 with | true => some (N, .ref a :: as, rest, B') | false => none) | _ => none)
        | _ => none)
      | 4, some N =>
        (match call0 N F B S with
        | some (.ref a :: as, rest, B') => (match ah[a]? with | some (.inl (_, _)) => some (N, .ref a :: as, rest, B') | _ => none)
        | _ => none)
      | _, _ => none))
def csel (i : Instr) : Option (Wld → Mth → Nat → Nat → AH → List Value → Option (Mth × List Value × List Value × Nat)) :=
  match i with
  | .invokestatic idx => some fun W M F B ah => c_invokestatic W M F B ah idx
  | .invokespecial idx => some fun W M F B ah => c_invokespecial W M F B ah idx
  | .invokevirtual idx => some fun W M F B ah => c_invokevirtual W M F B ah idx
  | _ => none
def cstep (W : Wld) (M : Mth) (F B : Nat) (ah : AH) (i : Instr) (S : List Value) : Option (Mth × List Value × List Value × Nat) :=
  match csel i with
  | some f => f W M F B ah S
  | none => none
def ent (as : List Value) (n : Nat) : List Slot := Jvm.Sym.laidSlots as ++ List.replicate (n - (Jvm.Sym.laidSlots as).length) .unset
def run (W : Wld) : Nat → Nat → Nat → Mth → Nat → List Slot → List Value → AH → Option (Option Value × AH)
  | 0, _, _, _, _, _, _, _ => none
  | n + 1, F, B, M, pc, L, S, ah =>
    match fetch M pc with
    | none => none
    | some (i, nx, tg) =>
      match pstep M ah i nx tg L S with
      | some (pc', L', S') => run W n F B M pc' L' S' ah
      | none =>
        match wstep W M F B ah i nx S with
        | some (pc', S', ah') => run W n F B M pc' L S' ah'
        | none =>
          match rstep M i S with
          | some v => some (v, ah)
          | none =>
            match cstep W M F B ah i S with
            | some (N, as, rest, B') =>
              (match run W n (F - 1) B' N 0 (ent as (mMax N)) [] ah with
              | some (v, ah') => run W n F B M nx L (v.toList ++ rest) ah'
              | none => none)
            | none => none
theorem wstep_mono {W : Wld} {tab : List Jvm.Cond} {M : Mth} (hMl : (mMl M).all (okM W tab M) = true) {F B : Nat} {ah ah' : AH} {i : Instr} {nx pc' : Nat} {S S' : List Value} (h : wstep W M F B ah i nx S = some (pc', S', ah')) : ah.length ≤ ah'.length ∧ sz W ah ≤ sz W ah' := by
  unfold wstep wsel at h
  cases i
  case putfield idx =>
    dsimp only at h
    unfold w_putfield at h
    split at h
    · split at h
      · rename_i ho
        split at h
        · split at h
          · cases h; exact ⟨by simp, Nat.le_of_eq (Eq.symm (sz_set W (by rfl) ho))⟩
          · cases h
        · cases h
      · cases h
    · cases h
  case iastore =>
    dsimp only at h
    unfold w_iastore at h
    split at h
    · split at h
      · rename_i ho
        split at h
        · cases h
        · split at h
          · cases h; exact ⟨by simp, Nat.le_of_eq (Eq.symm (sz_set W (by simp [asz]) ho))⟩
          · cases h
      · cases h
    · cases h
  case lastore =>
    dsimp only at h
    unfold w_lastore at h
    split at h
    · split at h
      · rename_i ho
        split at h
        · cases h
        · split at h
          · cases h; exact ⟨by simp, Nat.le_of_eq (Eq.symm (sz_set W (by simp [asz]) ho))⟩
          · cases h
      · cases h
    · cases h
  case bastore =>
    dsimp only at h
    unfold w_bastore at h
    split at h
    · split at h
      · rename_i ho
        split at h
        · cases h
        · split at h
          · cases h; exact ⟨by simp, Nat.le_of_eq (Eq.symm (sz_set W (by simp [asz]) ho))⟩
          · cases h
      · rename_i ho
        split at h
        · cases h
        · split at h
          · cases h; exact ⟨by simp, Nat.le_of_eq (Eq.symm (sz_set W (by simp [asz]) ho))⟩
          · cases h
      · cases h
    · cases h
  case invokevirtual idx =>
    dsimp only at h
    unfold w_invokevirtual at h
    split at h
    · split at h
      · split at h
        · cases h; exact ⟨by simp, by rw [sz_app]; omega⟩
        · cases h
      · cases h
    · cases h
  case new idx =>
    dsimp only at h
    unfold w_new at h
    split at h
    · cases h
    · split at h
      · cases h; exact ⟨by simp, by rw [sz_app]; omega⟩
      · cases h
    · cases h
  case newarray t =>
    dsimp only at h
    unfold w_newarray at h
    split at h
    · split at h
      · cases h
      · split at h
        · cases h; exact ⟨by simp, by rw [sz_app]; omega⟩
        · cases h
    · cases h
  case invokespecial idx =>
    dsimp only at h
    unfold w_invokespecial at h
    split at h
    · rename_i q a r hl
      split at h
      · split at h
        · cases h; exact ⟨Nat.le_refl _, Nat.le_refl _⟩
        · cases h
      · rename_i hq6
        split at h
        · rename_i k vs ho
          split at h
          · rename_i hkk
            split at h
            · cases h
              have ek : k = q.2.2.1 := Nat.eq_of_beq_eq_true hkk
              have hq := List.all_eq_true.mp hMl _ (lk_mem hl)
              unfold okM at hq
              dsimp only at hq
              rw [hq6] at hq
              simp only [Bool.and_eq_true] at hq
              have w6 := hq.2
              rw [← ek] at w6
              split at w6
              · rename_i C1 C2 hC1 hC2
                simp only [Bool.and_eq_true, decide_eq_true_eq] at w6
                refine ⟨by simp, Nat.le_of_eq (Eq.symm (sz_set W ?_ ho))⟩
                simp only [asz, hC1, hC2]
                exact w6.1.2
              · cases w6
            · cases h
          · cases h
        · cases h
      · cases h
    · cases h
  all_goals (exact nomatch h)
theorem call0_spec {N : Mth} {F B B' : Nat} {S as rest : List Value} (h : call0 N F B S = some (as, rest, B')) : as.length = mArgs N ∧ S = as.reverse ++ rest ∧ 1 ≤ F ∧ B' + (sumC rest + (mMax N + 11)) = B ∧ (Jvm.Sym.laidSlots as).length ≤ mMax N := by
  unfold call0 at h
  split at h
  · rename_i hq
    cases h
    refine ⟨by simp; omega, by simp, hq.2.1, by omega, hq.2.2.2⟩
  · cases h
theorem cstep_in {W : Wld} {M : Mth} {ah : AH} {F B : Nat} {i : Instr} {S : List Value} {q : Mth × List Value × List Value × Nat} (h : cstep W M F B ah i S = some q) : q.1 ∈ W.1 ∧ (Jvm.Sym.laidSlots q.2.1).length ≤ mMax q.1 := by
  unfold cstep csel at h
  cases i
  case invokestatic idx =>
    dsimp only at h
    unfold c_invokestatic at h
    split at h
    · cases h
    · split at h
      · rename_i hN
        split at h
        · rename_i hc0
          cases h
          exact ⟨List.mem_of_getElem? hN, (call0_spec hc0).2.2.2.2⟩
        · cases h
      · cases h
  case invokespecial idx =>
    dsimp only at h
    unfold c_invokespecial at h
    split at h
    · cases h
    · split at h
      · rename_i hN
        split at h
        · rename_i hc0
          cases h
          exact ⟨List.mem_of_getElem? hN, (call0_spec hc0).2.2.2.2⟩
        · cases h
      · cases h
  case invokevirtual idx =>
    dsimp only at h
    unfold c_invokevirtual at h
    split at h
    · cases h
    · split at h
      · rename_i hN
        split at h
        · rename_i hc0
          split at h
          · split at h
            · cases h
              exact ⟨List.mem_of_getElem? hN, (call0_spec hc0).2.2.2.2⟩
            · cases h
          · cases h
        · cases h
      · rename_i hN
        split at h
        · rename_i hc0
          split at h
          · cases h
            exact ⟨List.mem_of_getElem? hN, (call0_spec hc0).2.2.2.2⟩
          · cases h
        · cases h
      · cases h
  all_goals (exact nomatch h)
theorem run_mono {W : Wld} {tab : List Jvm.Cond} (hMs : ∀ M ∈ W.1, (mMl M).all (okM W tab M) = true) : ∀ (n F B : Nat) (M : Mth) (pc : Nat) (L : List Slot) (S : List Value) (ah : AH) (v : Option Value) (ah' : AH), M ∈ W.1 → run W n F B M pc L S ah = some (v, ah') → ah.length ≤ ah'.length ∧ sz W ah ≤ sz W ah'
  | 0, _, _, _, _, _, _, _, _, _, _, h => by unfold run at h; cases h
  | n + 1, F, B, M, pc, L, S, ah, v, ah', hin, h => by
    unfold run at h
    split at h
    · cases h
    · split at h
      · exact run_mono hMs n _ _ _ _ _ _ _ _ _ hin h
      · split at h
        · rename_i hq
          have h1 := wstep_mono (hMs M hin) hq
          have h2 := run_mono hMs n _ _ _ _ _ _ _ _ _ hin h
          exact ⟨Nat.le_trans h1.1 h2.1, Nat.le_trans h1.2 h2.2⟩
        · split at h
          · cases h; exact ⟨Nat.le_refl _, Nat.le_refl _⟩
          · split at h
            · rename_i hc
              split at h
              · rename_i hr
                have h1 := run_mono hMs n _ _ _ _ _ _ _ _ _ (cstep_in hc).1 hr
                have h2 := run_mono hMs n _ _ _ _ _ _ _ _ _ hin h
                exact ⟨Nat.le_trans h1.1 h2.1, Nat.le_trans h1.2 h2.2⟩
              · cases h
            · cases h
section Run
variable {p : Program} {l : Launch} {e : Env} {R : Room} {s : State} {m : MethodId} {args : Array Value} {below : List Frame} {meth : Method} {c : Code} {T : State} {locs : List Loc} {cells slots : Nat} {Z : State} {a0 : Array Value} {W : Wld} {M : Mth} {b c0 q0 : Nat} {ah : AH}
theorem narrow_ref {t : FieldType} {w : Value} (h : w.isRef = true) : narrow t w = w := by
  cases w <;> first | (simp [Value.isRef] at h; done) | (cases t <;> rfl)
theorem rstep_sound {i : Instr} {pc : Nat} {L : List Slot} {S : List Value} {v : Option Value} (X : Stand p l e R s m args below meth c T locs cells slots) (hx : p.tables.exec = Jvm.exec) (hret : meth.sig.returnType = mRet M) (hlocks : meth.locks = false)
    (hd : decode c.code pc = .ok (i, ilen i)) (h : rstep M i S = some v) :
    ∃ fs, Steps p.tables e below (T.setTop (fm b m pc L S)) (T.setFrames fs) ∧ (T.setFrames fs).status = .running ∧ Ended (T.setFrames fs) below (.returned (v.map (up b))) ∧ s.WarmedH (T.setFrames fs).vm ∧ s.sameButNew ({ T.setFrames fs with vm := s.vm } : State) locs cells slots := by
  unfold rstep rsel at h
  cases i
  case return_ =>
    dsimp only at h
    unfold r_return at h
    split at h
    · rename_i hr0
      cases h
      obtain ⟨fs, hr, h1, h2, h3, h4⟩ := X.leave (v := none) (fun _ => rfl) hlocks
      exact ⟨fs, X.returnOut hx (hret.trans hr0) hd hr, h1, h2, h3, h4⟩
    · cases h
  case ireturn =>
    dsimp only at h
    unfold r_ireturn at h
    split at h
    · rename_i z r hr0
      cases h
      obtain ⟨fs, hr, h1, h2, h3, h4⟩ := X.leave (v := some (.int z)) (fun q => by rw [hret, hr0] at q; cases q) hlocks
      exact ⟨fs, retOut X hx (hret.trans hr0) rfl (Or.inl ⟨rfl, Or.inl rfl, z, rfl⟩) hd hr, h1, h2, h3, h4⟩
    · rename_i z r hr0
      cases h
      obtain ⟨fs, hr, h1, h2, h3, h4⟩ := X.leave (v := some (.int (nar .boolean z))) (fun q => by rw [hret, hr0] at q; cases q) hlocks
      exact ⟨fs, retN X hx (hret.trans hr0) (Or.inl rfl) hd hr, h1, h2, h3, h4⟩
    · rename_i z r hr0
      cases h
      obtain ⟨fs, hr, h1, h2, h3, h4⟩ := X.leave (v := some (.int (nar .byte z))) (fun q => by rw [hret, hr0] at q; cases q) hlocks
      exact ⟨fs, retN X hx (hret.trans hr0) (Or.inr (Or.inl rfl)) hd hr, h1, h2, h3, h4⟩
    · cases h
  case lreturn =>
    dsimp only at h
    unfold r_lreturn at h
    split at h
    · rename_i z r hr0
      cases h
      obtain ⟨fs, hr, h1, h2, h3, h4⟩ := X.leave (v := some (.long z)) (fun q => by rw [hret, hr0] at q; cases q) hlocks
      exact ⟨fs, retOut X hx (hret.trans hr0) rfl (Or.inr (Or.inl ⟨rfl, rfl, z, rfl⟩)) hd hr, h1, h2, h3, h4⟩
    · cases h
  case areturn =>
    dsimp only at h
    unfold r_areturn at h
    split at h
    · rename_i w r t hr0
      split at h
      · rename_i ht hw
        cases h
        have hw' : (up b w).isRef = true := by rw [up_isRef]; exact hw
        obtain ⟨fs, hr, h1, h2, h3, h4⟩ := X.leave (v := some (up b w)) (fun q => by rw [hret, hr0] at q; cases q) hlocks
        exact ⟨fs, retOut X hx (hret.trans hr0) (narrow_ref hw') (Or.inr (Or.inr (Or.inr (Or.inr ⟨rfl, ht, hw'⟩)))) hd hr, h1, h2, h3, h4⟩
      · cases h
    · cases h
  all_goals (exact nomatch h)
theorem cstep_sound {tab : List Jvm.Cond} {F B B' dc ds : Nat} {i : Instr} {pc nx : Nat} {L : List Slot} {S as rest : List Value} {N : Mth} {Q : Option Value → Heap → List Loc → Prop} (X : Stand p l e R s m args below meth c T locs cells slots) (hx : p.tables.exec = Jvm.exec) (hZ : Z.Warmed39 s.vm) (hown : s.vm.findClass (mNm M).cls = some m.cls)
    (hsize : L.length = c.maxLocals) (hw : ∀ d ∈ tab, d.before a0 Z = true) (hM : okMth W tab M = true)
    (hR : Rel W Z b T.heap ah) (hF : F ≤ R.frames) (hB : B ≤ R.locals) (hc : cells + dc ≤ R.cells) (hs : slots + ds ≤ R.slots) (hd : decode c.code pc = .ok (i, ilen i)) (hnx : nx = pc + ilen i) (h : cstep W M F B ah i S = some (N, as, rest, B'))
    (hmet : MetFree l (mNm N) (head1 [Jvm.Cond.code (mNm N) (mCode N) (mMax N) (mRet N)] ({ frames := F - 1, cells := dc, slots := ds, locals := B' } : Room)) (fun a U => a = (as.map (up b)).toArray ∧ Z.Warmed39 U.vm ∧ U.heap = T.heap) (fun _ _ _ _ _ => True) (fun _ U o U' => ∃ v L, o = .returned v ∧ Q v U'.heap L ∧ FrameEnd U o U' L ({ frames := F - 1, cells := dc, slots := ds, locals := B' } : Room).cells ({ frames := F - 1, cells := dc, slots := ds, locals := B' } : Room).slots)) :
    ∃ v T' Lc, Stand p l e R s m args below meth c T' (locs ++ Lc) (cells + dc) (slots + ds) ∧ Q v T'.heap Lc ∧ ∀ target, Steps p.tables e below (T'.setTop (mkF m nx (L.map (upS b)).toArray (v.toList ++ rest.map (up b)))) target → Steps p.tables e below (T.setTop (fm b m pc L S)) target := by
  simp only [okMth, Bool.and_eq_true] at hM
  obtain ⟨⟨⟨⟨⟨hM1, hM2⟩, hM3⟩, hM4⟩, hM5⟩, hM6⟩ := hM
  have hsz : (fm b m pc L S).locals.size = c.maxLocals := by simpa using hsize
  subst hnx
  unfold cstep csel at h
  cases i
  case invokestatic idx =>
    dsimp only at h
    unfold c_invokestatic at h
    split at h
    · cases h
    · rename_i q hl
      split at h
      · rename_i N' hk hN
        split at h
        · rename_i as' rest' B'' hc0
          cases h
          obtain ⟨k1, k2, k3, k4, -⟩ := call0_spec hc0
          have hq := List.all_eq_true.mp hM5 _ (lk_mem hl)
          unfold okM at hq
          dsimp only at hq
          rw [hk, hN] at hq
          simp only [okCode, okHandle, Bool.and_eq_true, decide_eq_true_eq] at hq
          obtain ⟨⟨⟨⟨⟨w1, w2⟩, w3⟩, w4⟩, w5⟩, w6⟩ := hq
          obtain ⟨v, vm1, ⟨T', L', k', n'⟩, -, X', ⟨Lc, hQ, l1, y1, z1⟩, st⟩ := Jvm.LawKit.callS X hx (y := mNm N) hown (mvT hZ (hw _ w5)) (mvT hZ (hw _ w6)) (mvT hZ (hw _ w2)) (mvT hZ (hw _ w1)) w3 (backOf (W := sumC rest) hmet hZ (hw _ w1) (hw _ w2) (by show F - 1 + 1 ≤ _; omega) (by show sumC rest + (mMax N + 11) + B' ≤ _; omega)) (g := fm b m pc L S) rfl hsz (argsL := as.map (up b)) (rest := rest.map (up b)) (okArgs_len w4 (by simpa using k1)) (by show S.map (up b) = _; rw [k2]; simp) (by show 2 * 0 + _ ≤ _; rw [sumC_up]; omega) hd (fun _ _ => ⟨rfl, rfl, hc, hs⟩)
          dsimp only [Pt.U, Pt.locs, Pt.cells, Pt.slots] at X' l1 y1 z1 st hQ
          subst l1 y1 z1
          exact ⟨v, T', Lc, X', hQ, st⟩
        · cases h
      · cases h
  case invokespecial idx =>
    dsimp only at h
    unfold c_invokespecial at h
    split at h
    · cases h
    · rename_i q hl
      split at h
      · rename_i N' hk hN
        split at h
        · rename_i a as' rest' B'' hc0
          cases h
          obtain ⟨k1, k2, k3, k4, -⟩ := call0_spec hc0
          have hq := List.all_eq_true.mp hM5 _ (lk_mem hl)
          unfold okM at hq
          dsimp only at hq
          rw [hk, hN] at hq
          simp only [okCode, okHandle, Bool.and_eq_true, decide_eq_true_eq] at hq
          obtain ⟨⟨⟨⟨⟨⟨⟨w1, w2⟩, w3⟩, w4⟩, w5⟩, w6⟩, w7⟩, w8⟩ := hq
          rw [← k1] at w4
          obtain ⟨v, vm1, ⟨T', L', k', n'⟩, -, X', ⟨Lc, hQ, l1, y1, z1⟩, st⟩ := X.specialBack hx (y := mNm N) w7 hown (mvT hZ (hw _ w5)) (mvT hZ (hw _ w6)) (mvT hZ (show (Jvm.Cond.code (mNm N) (mCode N) (mMax N) none).before a0 Z = true from w8 ▸ hw _ w1)) w3 (backOf (W := sumC rest) hmet hZ (hw _ w1) (hw _ w2) (by show F - 1 + 1 ≤ _; omega) (by show sumC rest + (mMax N + 11) + B' ≤ _; omega)) (g := fm b m pc L S) rfl hsz (Steps.refl _) (a := b + a) (argsL := as'.map (up b)) (rest := rest.map (up b)) (okArgs_len w4 (by simp)) (by show S.map (up b) = _; rw [k2]; simp [up]) (by show 2 * 0 + _ ≤ _; rw [sumC_up]; omega) hd (fun _ _ => ⟨rfl, rfl, hc, hs⟩)
          dsimp only [Pt.U, Pt.locs, Pt.cells, Pt.slots] at X' l1 y1 z1 st hQ
          subst l1 y1 z1
          exact ⟨v, T', Lc, X', hQ, fun t k => st.trans k⟩
        · cases h
      · cases h
  case invokevirtual idx =>
    dsimp only at h
    unfold c_invokevirtual at h
    split at h
    · cases h
    · rename_i q hl
      split at h
      · rename_i N' hk hN
        split at h
        · rename_i a as' rest' B'' hc0
          split at h
          · rename_i k vs ho
            split at h
            · rename_i hkk
              cases h
              obtain ⟨k1, k2, k3, k4, -⟩ := call0_spec hc0
              obtain ⟨C, g1, g5, g6, g7⟩ := hR.2.1 a _ ho
              have ek : k = q.2.2.1 := Nat.eq_of_beq_eq_true hkk
              have hq := List.all_eq_true.mp hM5 _ (lk_mem hl)
              unfold okM at hq
              dsimp only at hq
              rw [hk, hN, ← ek, g1] at hq
              simp only [okCode, okHandle, Bool.and_eq_true, decide_eq_true_eq] at hq
              obtain ⟨⟨⟨⟨⟨⟨⟨w1, w2⟩, w3⟩, w4⟩, w5⟩, w6⟩, w7⟩, w8⟩ := hq
              rw [← k1] at w4
              obtain ⟨cq, kq, qa, qb, qc⟩ := isOf hZ rfl g5
              obtain ⟨v, vm1, ⟨T', L', k', n'⟩, -, X', ⟨Lc, hQ, l1, y1, z1⟩, st⟩ := X.virtualBack hx (y := mNm N) (z := mNm N) hown (mvT hZ (hw _ w5)) (mvT hZ (hw _ w6)) (notFace_of_selects (args := #[]) (mvT hZ (hw _ w8))) (mvT hZ (hw _ w8)) (mvT hZ (hw _ w7)) w3 (backOf (W := sumC rest) hmet hZ (hw _ w1) (hw _ w2) (by show F - 1 + 1 ≤ _; omega) (by show sumC rest + (mMax N + 11) + B' ≤ _; omega)) qa qc (g := fm b m pc L S) rfl hsz (Steps.refl _) (argsL := as'.map (up b)) (rest := rest.map (up b)) (okArgs_len w4 (by simp)) (by show S.map (up b) = _; rw [k2]; simp [up]) (by show 2 * 0 + _ ≤ _; rw [sumC_up]; omega) hd (fun _ _ => ⟨rfl, rfl, hc, hs⟩)
              dsimp only [Pt.U, Pt.locs, Pt.cells, Pt.slots] at X' l1 y1 z1 st hQ
              subst l1 y1 z1
              exact ⟨v, T', Lc, X', hQ, fun t k => st.trans k⟩
            · cases h
          · cases h
        · cases h
      · rename_i N' hk hN
        split at h
        · rename_i a as' rest' B'' hc0
          split at h
          · rename_i k vs ho
            cases h
            obtain ⟨k1, k2, k3, k4, -⟩ := call0_spec hc0
            obtain ⟨C, g1, g5, g6, g7⟩ := hR.2.1 a _ ho
            have hq := List.all_eq_true.mp hM5 _ (lk_mem hl)
            unfold okM at hq
            dsimp only at hq
            rw [hk, hN] at hq
            simp only [okCode, okHandle, Bool.and_eq_true, decide_eq_true_eq] at hq
            obtain ⟨⟨⟨⟨⟨⟨⟨w1, w2⟩, w3⟩, w4⟩, w5⟩, w6⟩, w7⟩, w8⟩ := hq
            rw [← k1] at w4
            obtain ⟨cq, qa, qb⟩ := g5.cell
            obtain ⟨v, vm1, ⟨T', L', k', n'⟩, -, X', ⟨Lc, hQ, l1, y1, z1⟩, st⟩ := X.privateBack hx (y := mNm N) hown (mvT hZ (hw _ w5)) (mvT hZ (hw _ w6)) (mvT hZ (hw _ w8)) (Cond.privateMethod_at (mvP hZ (hw _ w7) (args := #[]))) (mvT hZ (hw _ w1)) w3 (backOf (W := sumC rest) hmet hZ (hw _ w1) (hw _ w2) (by show F - 1 + 1 ≤ _; omega) (by show sumC rest + (mMax N + 11) + B' ≤ _; omega)) (g := fm b m pc L S) rfl hsz (Steps.refl _) (a := b + a) qa qb (argsL := as'.map (up b)) (rest := rest.map (up b)) (okArgs_len w4 (by simp)) (by show S.map (up b) = _; rw [k2]; simp [up]) (by show 2 * 0 + _ ≤ _; rw [sumC_up]; omega) hd (fun _ _ => ⟨rfl, rfl, hc, hs⟩)
            dsimp only [Pt.U, Pt.locs, Pt.cells, Pt.slots] at X' l1 y1 z1 st hQ
            subst l1 y1 z1
            exact ⟨v, T', Lc, X', hQ, fun t k => st.trans k⟩
          · cases h
        · cases h
      · cases h
  all_goals (exact nomatch h)
theorem laid_up (b : Nat) : ∀ as : List Value, Jvm.Sym.laidSlots (as.map (up b)) = (Jvm.Sym.laidSlots as).map (upS b)
  | [] => rfl
  | v :: vs => by
    simp only [List.map_cons, Jvm.Sym.laidSlots, up_cat]
    split
    · simp only [List.map_cons, laid_up b vs, upS]
    · simp only [List.map_cons, laid_up b vs, upS]
theorem ent_up (b : Nat) (as : List Value) (n : Nat) : Jvm.Sym.laidSlots (as.map (up b)).toArray.toList ++ List.replicate (n - (Jvm.Sym.laidSlots (as.map (up b)).toArray.toList).length) .unset = ((ent as n).map (upS b)).toArray.toList := by
  simp only [laid_up, List.toList_toArray, List.length_map, ent, List.map_append, List.map_replicate, upS]
/-- the whole world is right -/
def wok (W : Wld) (tab : List Jvm.Cond) : Bool := W.1.all (okMth W tab) && W.2.all (okC tab)
/-- what a run of a body says of the machine -/
def Sound (W : Wld) (tab : List Jvm.Cond) (l : Launch) (Z : State) (b n : Nat) : Prop :=
  ∀ (F B : Nat) (M : Mth) (pc : Nat) (L : List Slot) (S : List Value) (ah : AH) (v : Option Value) (ah' : AH), M ∈ W.1 → run W n F B M pc L S ah = some (v, ah') →
  ∀ (p : Program) (e : Env) (R : Room) (s : State) (m : MethodId) (args : Array Value) (below : List Frame) (meth : Method) (c : Code) (T : State) (locs : List Loc) (cells slots c0 q0 : Nat),
    Stand p l e R s m args below meth c T locs cells slots → p.tables.exec = Jvm.exec → Z.Warmed39 s.vm → s.vm.findClass (mNm M).cls = some m.cls → meth.name = (mNm M).name → meth.sig.returnType = mRet M → meth.locks = false → c.code = mCode M → L.length = c.maxLocals →
    Inv W Z b c0 q0 s T locs cells slots ah → F ≤ R.frames → B ≤ R.locals → ah'.length ≤ c0 + R.cells → sz W ah' ≤ q0 + R.slots →
    ∃ s₂, Steps p.tables e below (T.setTop (fm b m pc L S)) s₂ ∧ s₂.status = .running ∧ Ended s₂ below (.returned (v.map (up b))) ∧ Rel W Z b s₂.heap ah' ∧ s.WarmedH s₂.vm ∧ ∃ L' cells' slots', Fr b L' ∧ cells' + c0 = ah'.length ∧ slots' + q0 = sz W ah' ∧ s.sameButNew ({ s₂ with vm := s.vm } : State) L' cells' slots'
theorem met {tab : List Jvm.Cond} {n F B dc ds : Nat} {as : List Value} {v : Option Value} {ah' : AH} {h0 : Heap} {ws : List Jvm.Cond} (IH : Sound W tab l Z b n) (hM : M ∈ W.1) (hp : plainFor (mNm M) = true) (h : run W n F B M 0 (ent as (mMax M)) [] ah = some (v, ah')) (hl : (Jvm.Sym.laidSlots as).length ≤ mMax M) (hR : Rel W Z b h0 ah) (hdc : ah'.length ≤ ah.length + dc) (hds : sz W ah' ≤ sz W ah + ds) :
    MetFree l (mNm M) (head1 (Jvm.Cond.code (mNm M) (mCode M) (mMax M) (mRet M) :: ws) ({ frames := F, cells := dc, slots := ds, locals := B } : Room)) (fun a U => a = (as.map (up b)).toArray ∧ Z.Warmed39 U.vm ∧ U.heap = h0) (fun _ _ _ _ _ => True) (fun _ U o U' => ∃ v' L, o = .returned v' ∧ (v' = v.map (up b) ∧ Rel W Z b U'.heap ah' ∧ Fr b L) ∧ FrameEnd U o U' L ({ frames := F, cells := dc, slots := ds, locals := B } : Room).cells ({ frames := F, cells := dc, slots := ds, locals := B } : Room).slots) := by
  refine MetFree.of_bodySF hp hisR ?_
  intro p e s m args below meth c s₁ Bd hml0 hP hK
  obtain ⟨rfl, hZ, hh⟩ := hP
  have hx := Bd.exec
  have hby := Bd.bytes
  have hown : s.vm.findClass (mNm M).cls = some m.cls := findClass_of_methodNamed Bd.named
  have hnm := (name_of_methodNamed Bd.named Bd.method).1
  have X0 : Stand p l e ({ frames := F, cells := dc, slots := ds, locals := B } : Room) s m (as.map (up b)).toArray below meth c s₁ [] 0 0 := Stand.of_body Bd
  have e0 : s₁.heap = h0 := by rw [← hh, Bd.state]; rfl
  have hlk : meth.locks = false := Bd.notSynchronized
  have hLlen : (ent as (mMax M)).length = c.maxLocals := by rw [hml0]; simp [ent]; omega
  have hinv : Inv W Z b ah.length (sz W ah) s s₁ [] 0 0 ah := ⟨by rw [e0]; exact hR, Fr.nil b, by rw [hh]; exact hR.1, by omega, by omega⟩
  obtain ⟨s₂, g1, g2, g3, g4, g5, L', k', n', g6, g7, g8, g9⟩ := IH F B M 0 (ent as (mMax M)) [] ah v ah' hM h p e _ s m _ below meth c s₁ [] 0 0 ah.length (sz W ah) X0 hx hZ hown hnm Bd.returns hlk hby hLlen hinv (Nat.le_refl _) (Nat.le_refl _) hdc hds
  refine ⟨s₂, _, (XT.entry (Ls := ((ent as (mMax M)).map (upS b)).toArray) (ent_up b as (mMax M))).trans g1, g2, g3, _, L', rfl, ⟨rfl, g4, g6⟩, ⟨_, rfl⟩, g5, g9.mono ?_ ?_⟩
  · show k' ≤ dc; omega
  · show n' ≤ ds; omega
theorem sound {tab : List Jvm.Cond} (hw : ∀ d ∈ tab, d.before a0 Z = true) (hW : wok W tab = true) (hP : ∀ M ∈ W.1, plainFor (mNm M) = true) (hX : ∀ M ∈ W.1, ∀ q ∈ mMl M, q.2.1 = 6 → XOK W tab l Z b q.2) : ∀ n, Sound W tab l Z b n := by
  simp only [wok, Bool.and_eq_true] at hW
  obtain ⟨hW1, hW2⟩ := hW
  have hMs := List.all_eq_true.mp hW1
  have hCs := List.all_eq_true.mp hW2
  have hMm : ∀ M ∈ W.1, (mMl M).all (okM W tab M) = true := fun M hin => by
    have q := hMs M hin
    simp only [okMth, Bool.and_eq_true] at q
    exact q.1.2
  intro n
  induction n with
  | zero => intro F B M pc L S ah v ah' hM h; unfold run at h; cases h
  | succ n IH =>
    intro F B M pc L S ah v ah' hin h p e R s m args below meth c T locs cells slots c0 q0 X hx hZ hown hnm hret hlocks hby hL hI hF hB hc hs
    have hM := hMs M hin
    have hM' := hM
    simp only [okMth, Bool.and_eq_true] at hM'
    obtain ⟨⟨⟨⟨⟨hM1, hM2⟩, hM3⟩, hM4⟩, hM5⟩, hM6⟩ := hM'
    unfold run at h
    split at h
    · cases h
    · rename_i i nx tg hi
      obtain ⟨hd0, hN, hnx, htg⟩ := fetch_ok hM1 hi
      have hd : decode c.code pc = .ok (i, ilen i) := by rw [hby]; exact hd0
      split at h
      · rename_i pc' L' S' hq
        obtain ⟨hlen, T', X', eT, st⟩ := pstep_sound X hx hZ hown (fun q hq => hw _ (of_decide_eq_true (List.all_eq_true.mp hM2 q hq))) (fun q hq => hw _ (of_decide_eq_true (List.all_eq_true.mp hM3 q hq)))
          (fun q hq => by
            have z := List.all_eq_true.mp hM4 q hq
            unfold okF at z
            split at z
            · cases z
            · rename_i C hC
              split at z
              · cases z
              · rename_i f hf
                simp only [Bool.and_eq_true] at z
                refine ⟨C, f, hC, hf, ?_, ?_⟩
                · have z2 := z.2
                  split at z2
                  · simp only [Bool.and_eq_true, decide_eq_true_eq] at z2; exact Or.inl (hw _ z2.1)
                  · simp only [Bool.or_eq_true, decide_eq_true_eq] at z2; exact z2.imp (hw _) (hw _)
                · have z3 := z.1.2
                  simp only [Bool.or_eq_true, decide_eq_true_eq] at z3
                  rcases z3 with z3 | z3
                  · rw [z3]; exact Via.refl
                  · exact Via.of (hw _ z3))
          (fun q hq => by
            have z := List.all_eq_true.mp hM6 q hq
            obtain ⟨q1, q2⟩ := q
            cases q2 with
            | zero => exact hw _ (of_decide_eq_true z)
            | succ k =>
              dsimp only at z ⊢
              split at z
              · rename_i C hC; exact ⟨C, hC, hw _ (of_decide_eq_true z)⟩
              · cases z) hI.1 hd hnx htg hq
        obtain ⟨s₂, g1, g⟩ := IH F B M pc' L' S' ah v ah' hin h p e R s m args below meth c T' locs cells slots c0 q0 X' hx hZ hown hnm hret hlocks hby (hlen.trans hL) ⟨by rw [eT]; exact hI.1, hI.2⟩ hF hB hc hs
        exact ⟨s₂, st _ g1, g⟩
      · split at h
        · rename_i pc' S' ah1 hq
          have hmono := run_mono hMm n _ _ _ _ _ _ _ _ _ hin h
          obtain ⟨T', locs', cells', slots', X', hI', st⟩ := wstep_sound (L := L) X hx hZ hown hnm hL hw hCs hM (hX M hin) hN hI hF hB (Nat.le_trans hmono.1 hc) (Nat.le_trans hmono.2 hs) hd hnx hq
          obtain ⟨s₂, g1, g⟩ := IH F B M pc' L S' ah1 v ah' hin h p e R s m args below meth c T' locs' cells' slots' c0 q0 X' hx hZ hown hnm hret hlocks hby hL hI' hF hB hc hs
          exact ⟨s₂, st _ g1, g⟩
        · split at h
          · rename_i v' hv
            cases h
            obtain ⟨fs, g1, g2, g3, g4, g5⟩ := rstep_sound (b := b) (L := L) X hx hret hlocks hd hv
            exact ⟨_, g1, g2, g3, hI.1, g4, locs, cells, slots, hI.2.1, hI.2.2.2.1, hI.2.2.2.2, g5⟩
          · split at h
            · rename_i N as rest B' hq
              split at h
              · rename_i v1 ah1 hr
                have hNin := cstep_in hq
                have m1 := run_mono hMm n _ _ _ _ _ _ _ _ _ hNin.1 hr
                have m2 := run_mono hMm n _ _ _ _ _ _ _ _ _ hin h
                obtain ⟨i1, i2, i3, i4, i5⟩ := hI
                have hmet := met (M := N) (ws := []) (dc := ah1.length - ah.length) (ds := sz W ah1 - sz W ah) IH hNin.1 (hP _ hNin.1) hr hNin.2 i1 (by omega) (by omega)
                obtain ⟨v2, T', Lc, X', hQ, st⟩ := cstep_sound (L := L) (Q := fun v h L => v = v1.map (up b) ∧ Rel W Z b h ah1 ∧ Fr b L) (dc := ah1.length - ah.length) (ds := sz W ah1 - sz W ah) X hx hZ hown hL hw hM i1 hF hB (by omega) (by omega) hd hnx hq hmet
                obtain ⟨rfl, hR', hFr⟩ := hQ
                obtain ⟨s₂, g1, g⟩ := IH F B M nx L (v1.toList ++ rest) ah1 v ah' hin h p e R s m args below meth c T' _ _ _ c0 q0 X' hx hZ hown hnm hret hlocks hby hL ⟨hR', i2.app hFr, i3, by omega, by omega⟩ hF hB hc hs
                refine ⟨s₂, st _ ?_, g⟩
                have es : (v1.map (up b)).toList ++ rest.map (up b) = (v1.toList ++ rest).map (up b) := by cases v1 <;> simp
                rw [es]
                exact g1
              · cases h
            · cases h
theorem noX {tab : List Jvm.Cond} (h : (W.1.all fun M => (mMl M).all fun q => !Nat.beq q.2.1 6) = true) : ∀ M ∈ W.1, ∀ q ∈ mMl M, q.2.1 = 6 → XOK W tab l Z b q.2 := fun M hM q hq h6 => by
  have := List.all_eq_true.mp (List.all_eq_true.mp h M hM) q hq
  rw [h6] at this
  cases this
end Run

/-! running without counting -/
theorem run_more {W : Wld} : ∀ (n F B : Nat) (M : Mth) (pc : Nat) (L : List Slot) (S : List Value) (ah : AH) (r : Option Value × AH), run W n F B M pc L S ah = some r → run W (n + 1) F B M pc L S ah = some r
  | 0, _, _, _, _, _, _, _, _, h => by unfold run at h; cases h
  | n + 1, F, B, M, pc, L, S, ah, r, h => by
    unfold run at h
    unfold run
    split at h
    · cases h
    · rename_i hi
      try simp only [hi]
      split at h
      · rename_i hq
        try simp only [hq]
        exact run_more n _ _ _ _ _ _ _ _ h
      · rename_i hq
        try simp only [hq]
        split at h
        · rename_i hq
          try simp only [hq]
          exact run_more n _ _ _ _ _ _ _ _ h
        · rename_i hq
          try simp only [hq]
          split at h
          · rename_i hq
            try simp only [hq]
            exact h
          · rename_i hq
            try simp only [hq]
            split at h
            · rename_i hq
              try simp only [hq]
              split at h
              · rename_i hr1
                simp only [run_more n _ _ _ _ _ _ _ _ hr1]
                exact run_more n _ _ _ _ _ _ _ _ h
              · cases h
            · cases h
theorem run_le {W : Wld} {F B : Nat} {M : Mth} {pc : Nat} {L : List Slot} {S : List Value} {ah : AH} {r : Option Value × AH} {n : Nat} (h : run W n F B M pc L S ah = some r) : ∀ k, run W (n + k) F B M pc L S ah = some r
  | 0 => h
  | k + 1 => run_more _ _ _ _ _ _ _ _ _ (run_le h k)
/-- the body, from that place on, comes to its end with this answer and this heap -/
def Ev (W : Wld) (F B : Nat) (M : Mth) (pc : Nat) (L : List Slot) (S : List Value) (ah : AH) (r : Option Value × AH) : Prop := ∃ n, run W n F B M pc L S ah = some r
/-- so many steps without a call -/
def gsteps (W : Wld) (M : Mth) (F B : Nat) : Nat → Nat → List Slot → List Value → AH → Option (Nat × List Slot × List Value × AH)
  | 0, pc, L, S, ah => some (pc, L, S, ah)
  | k + 1, pc, L, S, ah =>
    match fetch M pc with
    | none => none
    | some (i, nx, tg) =>
      match pstep M ah i nx tg L S with
      | some (pc', L', S') => gsteps W M F B k pc' L' S' ah
      | none =>
        match wstep W M F B ah i nx S with
        | some (pc', S', ah') => gsteps W M F B k pc' L S' ah'
        | none => none
section Ev
variable {W : Wld} {F B : Nat} {M : Mth} {pc : Nat} {L : List Slot} {S : List Value} {ah : AH} {r : Option Value × AH}
theorem run_g {n : Nat} : ∀ (k : Nat) {pc : Nat} {L : List Slot} {S : List Value} {ah : AH} {pc' : Nat} {L' : List Slot} {S' : List Value} {ah' : AH}, gsteps W M F B k pc L S ah = some (pc', L', S', ah') → run W n F B M pc' L' S' ah' = some r → run W (n + k) F B M pc L S ah = some r
  | 0, _, _, _, _, _, _, _, _, h, hr => by unfold gsteps at h; cases h; exact hr
  | k + 1, _, _, _, _, _, _, _, _, h, hr => by
    unfold gsteps at h
    show run W ((n + k) + 1) F B M _ _ _ _ = some r
    unfold run
    split at h
    · cases h
    · rename_i hi
      try simp only [hi]
      split at h
      · rename_i hq
        try simp only [hq]
        exact run_g k h hr
      · rename_i hq
        try simp only [hq]
        split at h
        · rename_i hq
          try simp only [hq]
          exact run_g k h hr
        · cases h
theorem Ev.go {pc' : Nat} {L' : List Slot} {S' : List Value} {ah' : AH} (k : Nat) (h : gsteps W M F B k pc L S ah = some (pc', L', S', ah')) (hr : Ev W F B M pc' L' S' ah' r) : Ev W F B M pc L S ah r := by
  obtain ⟨n, hn⟩ := hr
  exact ⟨n + k, run_g k h hn⟩
theorem Ev.ret {i : Instr} {nx tg : Nat} {v : Option Value} (h1 : fetch M pc = some (i, nx, tg)) (h2 : pstep M ah i nx tg L S = none) (h3 : wstep W M F B ah i nx S = none) (h4 : rstep M i S = some v) : Ev W F B M pc L S ah (v, ah) := by
  refine ⟨1, ?_⟩
  unfold run
  simp only [h1, h2, h3, h4]
theorem Ev.call {i : Instr} {nx tg : Nat} {N : Mth} {as rest : List Value} {B' : Nat} {v : Option Value} {ah' : AH} (h1 : fetch M pc = some (i, nx, tg)) (h2 : pstep M ah i nx tg L S = none) (h3 : wstep W M F B ah i nx S = none) (h4 : rstep M i S = none) (h5 : cstep W M F B ah i S = some (N, as, rest, B'))
    (hc : Ev W (F - 1) B' N 0 (ent as (mMax N)) [] ah (v, ah')) (hr : Ev W F B M nx L (v.toList ++ rest) ah' r) : Ev W F B M pc L S ah r := by
  obtain ⟨n1, g1⟩ := hc
  obtain ⟨n2, g2⟩ := hr
  refine ⟨(n1 + n2) + 1, ?_⟩
  have g1' := run_le g1 n2
  have g2' := run_le g2 n1
  rw [Nat.add_comm] at g2'
  unfold run
  simp only [h1, h2, h3, h4, h5, g1']
  exact g2'
theorem Ev.cond {cd : ClassFile.Cond} {o : Int} {x : Int32} {nx tg : Nat} (h1 : fetch M pc = some (.ifCond cd o, nx, tg)) (hy : ifCond.holds cd x = true → Ev W F B M tg L S ah r) (hn : ifCond.holds cd x = false → Ev W F B M nx L S ah r) : Ev W F B M pc L (.int x :: S) ah r := by
  cases hc : ifCond.holds cd x with
  | true => exact (hy hc).go 1 (by unfold gsteps; simp only [h1, pstep, psel, p_ifCond, hc]; rfl)
  | false => exact (hn hc).go 1 (by unfold gsteps; simp only [h1, pstep, psel, p_ifCond, hc]; rfl)
theorem Ev.icmp {cd : ClassFile.Cond} {o : Int} {x y : Int32} {nx tg : Nat} (h1 : fetch M pc = some (.if_icmp cd o, nx, tg)) (hy : if_icmp.holds cd x y = true → Ev W F B M tg L S ah r) (hn : if_icmp.holds cd x y = false → Ev W F B M nx L S ah r) : Ev W F B M pc L (.int y :: .int x :: S) ah r := by
  cases hc : if_icmp.holds cd x y with
  | true => exact (hy hc).go 1 (by unfold gsteps; simp only [h1, pstep, psel, p_if_icmp, hc]; rfl)
  | false => exact (hn hc).go 1 (by unfold gsteps; simp only [h1, pstep, psel, p_if_icmp, hc]; rfl)
end Ev
theorem tn0 : (Int32.ofInt 0).toNatClampNeg = 0 := by decide
theorem tn1 : (Int32.ofInt 1).toNatClampNeg = 1 := by decide
theorem tn2 : (Int32.ofInt 2).toNatClampNeg = 2 := by decide
theorem tn3 : (Int32.ofInt 3).toNatClampNeg = 3 := by decide
theorem tn4 : (Int32.ofInt 4).toNatClampNeg = 4 := by decide
theorem tn5 : (Int32.ofInt 5).toNatClampNeg = 5 := by decide
theorem fv0 : ((0 : Fin 4) : Nat) = 0 := rfl
theorem fv1 : ((1 : Fin 4) : Nat) = 1 := rfl
theorem fv2 : ((2 : Fin 4) : Nat) = 2 := rfl
theorem fv3 : ((3 : Fin 4) : Nat) = 3 := rfl
/-! a local that isn't read any more may be forgotten -/
def LeS (a b : Slot) : Prop := a = b ∨ (a = .unset ∧ ∃ v : Value, b = .val v ∧ v.category = 1)
def Le (L L' : List Slot) : Prop := L.length = L'.length ∧ ∀ (i : Nat) (a b : Slot), L[i]? = some a → L'[i]? = some b → LeS a b
theorem Le.refl (L : List Slot) : Le L L := ⟨rfl, fun i a b h1 h2 => Or.inl (Option.some.inj (h1.symm.trans h2))⟩
theorem Le.get {L L' : List Slot} {i : Nat} {v : Value} (h : Le L L') (q : L[i]? = some (.val v)) : L'[i]? = some (.val v) := by
  have hi : i < L'.length := by rw [← h.1]; exact (List.getElem?_eq_some_iff.mp q).1
  have e : L'[i]? = some L'[i] := List.getElem?_eq_getElem hi
  rcases h.2 i _ _ q e with z | ⟨z, -⟩
  · rw [e, ← z]
  · cases z
theorem Le.set {L L' L1 : List Slot} {i : Nat} {x : Slot} (h : Le L L') (q : setL L i x = some L1) : ∃ L1', setL L' i x = some L1' ∧ Le L1 L1' := by
  unfold setL at q
  split at q
  · rename_i hi
    cases q
    refine ⟨L'.set i x, by unfold setL; rw [if_pos (by rw [← h.1]; exact hi)], by simp [h.1], fun j a b h1 h2 => ?_⟩
    by_cases e : i = j
    · subst e
      rw [List.getElem?_set_self hi] at h1
      rw [List.getElem?_set_self (by rw [← h.1]; exact hi)] at h2
      exact Or.inl (Option.some.inj (h1.symm.trans h2))
    · rw [List.getElem?_set_ne e] at h1 h2
      exact h.2 j a b h1 h2
  · cases q
theorem Le.self {L L' L1 : List Slot} {i : Nat} {v : Value} (h : Le L L') (q : stSelf L i v = some L1) : ∃ L1', stSelf L' i v = some L1' ∧ Le L1 L1' := by
  unfold stSelf at q
  split at q
  · cases q
  · rename_i La h1
    obtain ⟨La', h1', l1⟩ := h.set h1
    unfold stSelf
    rw [h1']
    dsimp only
    split at q
    · rename_i hc
      rw [if_pos hc]
      split at q
      · cases q
      · rename_i old ho
        rw [l1.get ho]
        dsimp only
        split at q
        · rename_i hc2
          rw [if_pos hc2]
          split at q
          · cases q
          · rename_i Lb h2
            obtain ⟨Lb', h2', l2⟩ := l1.set h2
            rw [h2']
            exact l2.set q
        · rename_i hc2
          rw [if_neg hc2]
          exact l1.set q
      · rename_i y hy1 hy2
        have hi : i + 1 < La'.length := by rw [← l1.1]; exact (List.getElem?_eq_some_iff.mp hy2).1
        have e : La'[i + 1]? = some La'[i + 1] := List.getElem?_eq_getElem hi
        obtain ⟨L1', g1, g2⟩ := l1.set q
        refine ⟨L1', ?_, g2⟩
        rcases l1.2 _ _ _ hy2 e with z | ⟨z, w, z2, z3⟩
        · rw [e, ← z]
          cases y with
          | unset => exact g1
          | second => exact g1
          | val w => exact absurd rfl (hy1 w)
        · rw [e, z2]
          dsimp only
          rw [if_neg (by omega)]
          exact g1
    · rename_i hc
      cases q
      rw [if_neg hc]
      exact ⟨La', rfl, l1⟩
theorem Le.store {L L' L1 : List Slot} {i : Nat} {v : Value} (h : Le L L') (q : stL L i v = some L1) : ∃ L1', stL L' i v = some L1' ∧ Le L1 L1' := by
  unfold stL at q
  split at q
  · cases q
  · rename_i h0
    have hi : i < L'.length := by rw [← h.1]; exact (List.getElem?_eq_some_iff.mp h0).1
    have e : L'[i]? = some L'[i] := List.getElem?_eq_getElem hi
    unfold stL
    rcases h.2 _ _ _ h0 e with z | ⟨z, -⟩
    · rw [e, ← z]
      dsimp only
      split at q
      · cases q
      · rename_i La h1
        obtain ⟨La', h1', l1⟩ := h.set h1
        rw [h1']
        exact l1.self q
    · cases z
  · rename_i old h0
    unfold stL
    rw [h.get h0]
    dsimp only
    split at q
    · rename_i hc
      rw [if_pos hc]
      split at q
      · cases q
      · rename_i La h1
        obtain ⟨La', h1', l1⟩ := h.set h1
        rw [h1']
        exact l1.self q
    · rename_i hc
      rw [if_neg hc]
      exact h.self q
  · rename_i h0
    have hi : i < L'.length := by rw [← h.1]; exact (List.getElem?_eq_some_iff.mp h0).1
    have e : L'[i]? = some L'[i] := List.getElem?_eq_getElem hi
    obtain ⟨L1', g1, g2⟩ := h.self q
    refine ⟨L1', ?_, g2⟩
    unfold stL
    rcases h.2 _ _ _ h0 e with z | ⟨z, w, z2, z3⟩
    · rw [e, ← z]; exact g1
    · rw [e, z2]
      dsimp only
      rw [if_neg (by omega)]
      exact g1
theorem pstep_le {M : Mth} {ah : AH} {i : Instr} {nx tg pc' : Nat} {L L' L1 : List Slot} {S S' : List Value} (hle : Le L L') (h : pstep M ah i nx tg L S = some (pc', L1, S')) : ∃ L1', pstep M ah i nx tg L' S = some (pc', L1', S') ∧ Le L1 L1' := by
  unfold pstep psel at h ⊢
  cases i
  case iload k =>
    dsimp only at h ⊢
    unfold p_iload at h ⊢
    split at h
    · rename_i hl; cases h; rw [hle.get hl]; exact ⟨L', rfl, hle⟩
    · cases h
  case iload_n k =>
    dsimp only at h ⊢
    unfold p_iload_n at h ⊢
    split at h
    · rename_i hl; cases h; rw [hle.get hl]; exact ⟨L', rfl, hle⟩
    · cases h
  case lload k =>
    dsimp only at h ⊢
    unfold p_lload at h ⊢
    split at h
    · rename_i hl; cases h; rw [hle.get hl]; exact ⟨L', rfl, hle⟩
    · cases h
  case lload_n k =>
    dsimp only at h ⊢
    unfold p_lload_n at h ⊢
    split at h
    · rename_i hl; cases h; rw [hle.get hl]; exact ⟨L', rfl, hle⟩
    · cases h
  case aload k =>
    dsimp only at h ⊢
    unfold p_aload at h ⊢
    split at h
    · rename_i hl
      split at h
      · rename_i hr; cases h; rw [hle.get hl]; (try dsimp only); rw [hr]; exact ⟨L', rfl, hle⟩
      · cases h
    · cases h
  case aload_n k =>
    dsimp only at h ⊢
    unfold p_aload_n at h ⊢
    split at h
    · rename_i hl
      split at h
      · rename_i hr; cases h; rw [hle.get hl]; (try dsimp only); rw [hr]; exact ⟨L', rfl, hle⟩
      · cases h
    · cases h
  case istore k =>
    dsimp only at h ⊢
    unfold p_istore at h ⊢
    split at h
    · split at h
      · rename_i hs; cases h; obtain ⟨L1', g1, g2⟩ := hle.store hs; (try dsimp only); rw [g1]; exact ⟨L1', rfl, g2⟩
      · cases h
    · cases h
  case istore_n k =>
    dsimp only at h ⊢
    unfold p_istore_n at h ⊢
    split at h
    · split at h
      · rename_i hs; cases h; obtain ⟨L1', g1, g2⟩ := hle.store hs; (try dsimp only); rw [g1]; exact ⟨L1', rfl, g2⟩
      · cases h
    · cases h
  case lstore k =>
    dsimp only at h ⊢
    unfold p_lstore at h ⊢
    split at h
    · split at h
      · rename_i hs; cases h; obtain ⟨L1', g1, g2⟩ := hle.store hs; (try dsimp only); rw [g1]; exact ⟨L1', rfl, g2⟩
      · cases h
    · cases h
  case lstore_n k =>
    dsimp only at h ⊢
    unfold p_lstore_n at h ⊢
    split at h
    · split at h
      · rename_i hs; cases h; obtain ⟨L1', g1, g2⟩ := hle.store hs; (try dsimp only); rw [g1]; exact ⟨L1', rfl, g2⟩
      · cases h
    · cases h
  case astore k =>
    dsimp only at h ⊢
    unfold p_astore at h ⊢
    split at h
    · split at h
      · rename_i hr
        split at h
        · rename_i hs; cases h; obtain ⟨L1', g1, g2⟩ := hle.store hs; (try rw [hr]); (try dsimp only); rw [g1]; exact ⟨L1', rfl, g2⟩
        · cases h
      · cases h
    · cases h
  case astore_n k =>
    dsimp only at h ⊢
    unfold p_astore_n at h ⊢
    split at h
    · split at h
      · rename_i hr
        split at h
        · rename_i hs; cases h; obtain ⟨L1', g1, g2⟩ := hle.store hs; (try rw [hr]); (try dsimp only); rw [g1]; exact ⟨L1', rfl, g2⟩
        · cases h
      · cases h
    · cases h
  case iinc k cst =>
    dsimp only at h ⊢
    unfold p_iinc at h ⊢
    split at h
    · rename_i hl
      split at h
      · rename_i hs; cases h; obtain ⟨L1', g1, g2⟩ := hle.store hs; rw [hle.get hl]; (try dsimp only); rw [g1]; exact ⟨L1', rfl, g2⟩
      · cases h
    · cases h
  all_goals
    dsimp only at h ⊢
    try (cases h; done)
  case iadd =>
    unfold p_iadd at h ⊢
    first
    | (cases h; exact ⟨L', rfl, hle⟩)
    | ((repeat' split at h) <;> first | (cases h; done) | (cases h; exact ⟨L', rfl, hle⟩) | (cases h; exact ⟨L', by simp only [*, ↓reduceIte], hle⟩) | (cases h; exact ⟨L', by simp_all, hle⟩))
    | skip
  case isub =>
    unfold p_isub at h ⊢
    first
    | (cases h; exact ⟨L', rfl, hle⟩)
    | ((repeat' split at h) <;> first | (cases h; done) | (cases h; exact ⟨L', rfl, hle⟩) | (cases h; exact ⟨L', by simp only [*, ↓reduceIte], hle⟩) | (cases h; exact ⟨L', by simp_all, hle⟩))
    | skip
  case imul =>
    unfold p_imul at h ⊢
    first
    | (cases h; exact ⟨L', rfl, hle⟩)
    | ((repeat' split at h) <;> first | (cases h; done) | (cases h; exact ⟨L', rfl, hle⟩) | (cases h; exact ⟨L', by simp only [*, ↓reduceIte], hle⟩) | (cases h; exact ⟨L', by simp_all, hle⟩))
    | skip
  case iand =>
    unfold p_iand at h ⊢
    first
    | (cases h; exact ⟨L', rfl, hle⟩)
    | ((repeat' split at h) <;> first | (cases h; done) | (cases h; exact ⟨L', rfl, hle⟩) | (cases h; exact ⟨L', by simp only [*, ↓reduceIte], hle⟩) | (cases h; exact ⟨L', by simp_all, hle⟩))
    | skip
  case ior =>
    unfold p_ior at h ⊢
    first
    | (cases h; exact ⟨L', rfl, hle⟩)
    | ((repeat' split at h) <;> first | (cases h; done) | (cases h; exact ⟨L', rfl, hle⟩) | (cases h; exact ⟨L', by simp only [*, ↓reduceIte], hle⟩) | (cases h; exact ⟨L', by simp_all, hle⟩))
    | skip
  case ixor =>
    unfold p_ixor at h ⊢
    first
    | (cases h; exact ⟨L', rfl, hle⟩)
    | ((repeat' split at h) <;> first | (cases h; done) | (cases h; exact ⟨L', rfl, hle⟩) | (cases h; exact ⟨L', by simp only [*, ↓reduceIte], hle⟩) | (cases h; exact ⟨L', by simp_all, hle⟩))
    | skip
  case ishl =>
    unfold p_ishl at h ⊢
    first
    | (cases h; exact ⟨L', rfl, hle⟩)
    | ((repeat' split at h) <;> first | (cases h; done) | (cases h; exact ⟨L', rfl, hle⟩) | (cases h; exact ⟨L', by simp only [*, ↓reduceIte], hle⟩) | (cases h; exact ⟨L', by simp_all, hle⟩))
    | skip
  case ishr =>
    unfold p_ishr at h ⊢
    first
    | (cases h; exact ⟨L', rfl, hle⟩)
    | ((repeat' split at h) <;> first | (cases h; done) | (cases h; exact ⟨L', rfl, hle⟩) | (cases h; exact ⟨L', by simp only [*, ↓reduceIte], hle⟩) | (cases h; exact ⟨L', by simp_all, hle⟩))
    | skip
  case iushr =>
    unfold p_iushr at h ⊢
    first
    | (cases h; exact ⟨L', rfl, hle⟩)
    | ((repeat' split at h) <;> first | (cases h; done) | (cases h; exact ⟨L', rfl, hle⟩) | (cases h; exact ⟨L', by simp only [*, ↓reduceIte], hle⟩) | (cases h; exact ⟨L', by simp_all, hle⟩))
    | skip
  case ladd =>
    unfold p_ladd at h ⊢
    first
    | (cases h; exact ⟨L', rfl, hle⟩)
    | ((repeat' split at h) <;> first | (cases h; done) | (cases h; exact ⟨L', rfl, hle⟩) | (cases h; exact ⟨L', by simp only [*, ↓reduceIte], hle⟩) | (cases h; exact ⟨L', by simp_all, hle⟩))
    | skip
  case lsub =>
    unfold p_lsub at h ⊢
    first
    | (cases h; exact ⟨L', rfl, hle⟩)
    | ((repeat' split at h) <;> first | (cases h; done) | (cases h; exact ⟨L', rfl, hle⟩) | (cases h; exact ⟨L', by simp only [*, ↓reduceIte], hle⟩) | (cases h; exact ⟨L', by simp_all, hle⟩))
    | skip
  case lmul =>
    unfold p_lmul at h ⊢
    first
    | (cases h; exact ⟨L', rfl, hle⟩)
    | ((repeat' split at h) <;> first | (cases h; done) | (cases h; exact ⟨L', rfl, hle⟩) | (cases h; exact ⟨L', by simp only [*, ↓reduceIte], hle⟩) | (cases h; exact ⟨L', by simp_all, hle⟩))
    | skip
  case land =>
    unfold p_land at h ⊢
    first
    | (cases h; exact ⟨L', rfl, hle⟩)
    | ((repeat' split at h) <;> first | (cases h; done) | (cases h; exact ⟨L', rfl, hle⟩) | (cases h; exact ⟨L', by simp only [*, ↓reduceIte], hle⟩) | (cases h; exact ⟨L', by simp_all, hle⟩))
    | skip
  case lor =>
    unfold p_lor at h ⊢
    first
    | (cases h; exact ⟨L', rfl, hle⟩)
    | ((repeat' split at h) <;> first | (cases h; done) | (cases h; exact ⟨L', rfl, hle⟩) | (cases h; exact ⟨L', by simp only [*, ↓reduceIte], hle⟩) | (cases h; exact ⟨L', by simp_all, hle⟩))
    | skip
  case lxor =>
    unfold p_lxor at h ⊢
    first
    | (cases h; exact ⟨L', rfl, hle⟩)
    | ((repeat' split at h) <;> first | (cases h; done) | (cases h; exact ⟨L', rfl, hle⟩) | (cases h; exact ⟨L', by simp only [*, ↓reduceIte], hle⟩) | (cases h; exact ⟨L', by simp_all, hle⟩))
    | skip
  case lshl =>
    unfold p_lshl at h ⊢
    first
    | (cases h; exact ⟨L', rfl, hle⟩)
    | ((repeat' split at h) <;> first | (cases h; done) | (cases h; exact ⟨L', rfl, hle⟩) | (cases h; exact ⟨L', by simp only [*, ↓reduceIte], hle⟩) | (cases h; exact ⟨L', by simp_all, hle⟩))
    | skip
  case lshr =>
    unfold p_lshr at h ⊢
    first
    | (cases h; exact ⟨L', rfl, hle⟩)
    | ((repeat' split at h) <;> first | (cases h; done) | (cases h; exact ⟨L', rfl, hle⟩) | (cases h; exact ⟨L', by simp only [*, ↓reduceIte], hle⟩) | (cases h; exact ⟨L', by simp_all, hle⟩))
    | skip
  case lushr =>
    unfold p_lushr at h ⊢
    first
    | (cases h; exact ⟨L', rfl, hle⟩)
    | ((repeat' split at h) <;> first | (cases h; done) | (cases h; exact ⟨L', rfl, hle⟩) | (cases h; exact ⟨L', by simp only [*, ↓reduceIte], hle⟩) | (cases h; exact ⟨L', by simp_all, hle⟩))
    | skip
  case ineg =>
    unfold p_ineg at h ⊢
    first
    | (cases h; exact ⟨L', rfl, hle⟩)
    | ((repeat' split at h) <;> first | (cases h; done) | (cases h; exact ⟨L', rfl, hle⟩) | (cases h; exact ⟨L', by simp only [*, ↓reduceIte], hle⟩) | (cases h; exact ⟨L', by simp_all, hle⟩))
    | skip
  case lneg =>
    unfold p_lneg at h ⊢
    first
    | (cases h; exact ⟨L', rfl, hle⟩)
    | ((repeat' split at h) <;> first | (cases h; done) | (cases h; exact ⟨L', rfl, hle⟩) | (cases h; exact ⟨L', by simp only [*, ↓reduceIte], hle⟩) | (cases h; exact ⟨L', by simp_all, hle⟩))
    | skip
  case i2l =>
    unfold p_i2l at h ⊢
    first
    | (cases h; exact ⟨L', rfl, hle⟩)
    | ((repeat' split at h) <;> first | (cases h; done) | (cases h; exact ⟨L', rfl, hle⟩) | (cases h; exact ⟨L', by simp only [*, ↓reduceIte], hle⟩) | (cases h; exact ⟨L', by simp_all, hle⟩))
    | skip
  case l2i =>
    unfold p_l2i at h ⊢
    first
    | (cases h; exact ⟨L', rfl, hle⟩)
    | ((repeat' split at h) <;> first | (cases h; done) | (cases h; exact ⟨L', rfl, hle⟩) | (cases h; exact ⟨L', by simp only [*, ↓reduceIte], hle⟩) | (cases h; exact ⟨L', by simp_all, hle⟩))
    | skip
  case i2b =>
    unfold p_i2b at h ⊢
    first
    | (cases h; exact ⟨L', rfl, hle⟩)
    | ((repeat' split at h) <;> first | (cases h; done) | (cases h; exact ⟨L', rfl, hle⟩) | (cases h; exact ⟨L', by simp only [*, ↓reduceIte], hle⟩) | (cases h; exact ⟨L', by simp_all, hle⟩))
    | skip
  case idiv =>
    unfold p_idiv at h ⊢
    first
    | (cases h; exact ⟨L', rfl, hle⟩)
    | ((repeat' split at h) <;> first | (cases h; done) | (cases h; exact ⟨L', rfl, hle⟩) | (cases h; exact ⟨L', by simp only [*, ↓reduceIte], hle⟩) | (cases h; exact ⟨L', by simp_all, hle⟩))
    | skip
  case irem =>
    unfold p_irem at h ⊢
    first
    | (cases h; exact ⟨L', rfl, hle⟩)
    | ((repeat' split at h) <;> first | (cases h; done) | (cases h; exact ⟨L', rfl, hle⟩) | (cases h; exact ⟨L', by simp only [*, ↓reduceIte], hle⟩) | (cases h; exact ⟨L', by simp_all, hle⟩))
    | skip
  case lcmp =>
    unfold p_lcmp at h ⊢
    first
    | (cases h; exact ⟨L', rfl, hle⟩)
    | ((repeat' split at h) <;> first | (cases h; done) | (cases h; exact ⟨L', rfl, hle⟩) | (cases h; exact ⟨L', by simp only [*, ↓reduceIte], hle⟩) | (cases h; exact ⟨L', by simp_all, hle⟩))
    | skip
  case iconst _ =>
    unfold p_iconst at h ⊢
    first
    | (cases h; exact ⟨L', rfl, hle⟩)
    | ((repeat' split at h) <;> first | (cases h; done) | (cases h; exact ⟨L', rfl, hle⟩) | (cases h; exact ⟨L', by simp only [*, ↓reduceIte], hle⟩) | (cases h; exact ⟨L', by simp_all, hle⟩))
    | skip
  case bipush _ =>
    unfold p_bipush at h ⊢
    first
    | (cases h; exact ⟨L', rfl, hle⟩)
    | ((repeat' split at h) <;> first | (cases h; done) | (cases h; exact ⟨L', rfl, hle⟩) | (cases h; exact ⟨L', by simp only [*, ↓reduceIte], hle⟩) | (cases h; exact ⟨L', by simp_all, hle⟩))
    | skip
  case sipush _ =>
    unfold p_sipush at h ⊢
    first
    | (cases h; exact ⟨L', rfl, hle⟩)
    | ((repeat' split at h) <;> first | (cases h; done) | (cases h; exact ⟨L', rfl, hle⟩) | (cases h; exact ⟨L', by simp only [*, ↓reduceIte], hle⟩) | (cases h; exact ⟨L', by simp_all, hle⟩))
    | skip
  case lconst _ =>
    unfold p_lconst at h ⊢
    first
    | (cases h; exact ⟨L', rfl, hle⟩)
    | ((repeat' split at h) <;> first | (cases h; done) | (cases h; exact ⟨L', rfl, hle⟩) | (cases h; exact ⟨L', by simp only [*, ↓reduceIte], hle⟩) | (cases h; exact ⟨L', by simp_all, hle⟩))
    | skip
  case aconst_null =>
    unfold p_aconst_null at h ⊢
    first
    | (cases h; exact ⟨L', rfl, hle⟩)
    | ((repeat' split at h) <;> first | (cases h; done) | (cases h; exact ⟨L', rfl, hle⟩) | (cases h; exact ⟨L', by simp only [*, ↓reduceIte], hle⟩) | (cases h; exact ⟨L', by simp_all, hle⟩))
    | skip
  case ldc _ =>
    unfold p_ldc at h ⊢
    first
    | (cases h; exact ⟨L', rfl, hle⟩)
    | ((repeat' split at h) <;> first | (cases h; done) | (cases h; exact ⟨L', rfl, hle⟩) | (cases h; exact ⟨L', by simp only [*, ↓reduceIte], hle⟩) | (cases h; exact ⟨L', by simp_all, hle⟩))
    | skip
  case ldc_w _ =>
    unfold p_ldc_w at h ⊢
    first
    | (cases h; exact ⟨L', rfl, hle⟩)
    | ((repeat' split at h) <;> first | (cases h; done) | (cases h; exact ⟨L', rfl, hle⟩) | (cases h; exact ⟨L', by simp only [*, ↓reduceIte], hle⟩) | (cases h; exact ⟨L', by simp_all, hle⟩))
    | skip
  case ldc2_w _ =>
    unfold p_ldc2_w at h ⊢
    first
    | (cases h; exact ⟨L', rfl, hle⟩)
    | ((repeat' split at h) <;> first | (cases h; done) | (cases h; exact ⟨L', rfl, hle⟩) | (cases h; exact ⟨L', by simp only [*, ↓reduceIte], hle⟩) | (cases h; exact ⟨L', by simp_all, hle⟩))
    | skip
  case dup =>
    unfold p_dup at h ⊢
    first
    | (cases h; exact ⟨L', rfl, hle⟩)
    | ((repeat' split at h) <;> first | (cases h; done) | (cases h; exact ⟨L', rfl, hle⟩) | (cases h; exact ⟨L', by simp only [*, ↓reduceIte], hle⟩) | (cases h; exact ⟨L', by simp_all, hle⟩))
    | skip
  case pop =>
    unfold p_pop at h ⊢
    first
    | (cases h; exact ⟨L', rfl, hle⟩)
    | ((repeat' split at h) <;> first | (cases h; done) | (cases h; exact ⟨L', rfl, hle⟩) | (cases h; exact ⟨L', by simp only [*, ↓reduceIte], hle⟩) | (cases h; exact ⟨L', by simp_all, hle⟩))
    | skip
  case dup_x1 =>
    unfold p_dup_x1 at h ⊢
    first
    | (cases h; exact ⟨L', rfl, hle⟩)
    | ((repeat' split at h) <;> first | (cases h; done) | (cases h; exact ⟨L', rfl, hle⟩) | (cases h; exact ⟨L', by simp only [*, ↓reduceIte], hle⟩) | (cases h; exact ⟨L', by simp_all, hle⟩))
    | skip
  case dup2 =>
    unfold p_dup2 at h ⊢
    first
    | (cases h; exact ⟨L', rfl, hle⟩)
    | ((repeat' split at h) <;> first | (cases h; done) | (cases h; exact ⟨L', rfl, hle⟩) | (cases h; exact ⟨L', by simp only [*, ↓reduceIte], hle⟩) | (cases h; exact ⟨L', by simp_all, hle⟩))
    | skip
  case goto _ =>
    unfold p_goto at h ⊢
    first
    | (cases h; exact ⟨L', rfl, hle⟩)
    | ((repeat' split at h) <;> first | (cases h; done) | (cases h; exact ⟨L', rfl, hle⟩) | (cases h; exact ⟨L', by simp only [*, ↓reduceIte], hle⟩) | (cases h; exact ⟨L', by simp_all, hle⟩))
    | skip
  case ifCond _ _ =>
    unfold p_ifCond at h ⊢
    first
    | (cases h; exact ⟨L', rfl, hle⟩)
    | ((repeat' split at h) <;> first | (cases h; done) | (cases h; exact ⟨L', rfl, hle⟩) | (cases h; exact ⟨L', by simp only [*, ↓reduceIte], hle⟩) | (cases h; exact ⟨L', by simp_all, hle⟩))
    | skip
  case if_icmp _ _ =>
    unfold p_if_icmp at h ⊢
    first
    | (cases h; exact ⟨L', rfl, hle⟩)
    | ((repeat' split at h) <;> first | (cases h; done) | (cases h; exact ⟨L', rfl, hle⟩) | (cases h; exact ⟨L', by simp only [*, ↓reduceIte], hle⟩) | (cases h; exact ⟨L', by simp_all, hle⟩))
    | skip
  case ifnull _ =>
    unfold p_ifnull at h ⊢
    first
    | (cases h; exact ⟨L', rfl, hle⟩)
    | ((repeat' split at h) <;> first | (cases h; done) | (cases h; exact ⟨L', rfl, hle⟩) | (cases h; exact ⟨L', by simp only [*, ↓reduceIte], hle⟩) | (cases h; exact ⟨L', by simp_all, hle⟩))
    | skip
  case ifnonnull _ =>
    unfold p_ifnonnull at h ⊢
    first
    | (cases h; exact ⟨L', rfl, hle⟩)
    | ((repeat' split at h) <;> first | (cases h; done) | (cases h; exact ⟨L', rfl, hle⟩) | (cases h; exact ⟨L', by simp only [*, ↓reduceIte], hle⟩) | (cases h; exact ⟨L', by simp_all, hle⟩))
    | skip
  case if_acmp _ _ =>
    unfold p_if_acmp at h ⊢
    first
    | (cases h; exact ⟨L', rfl, hle⟩)
    | ((repeat' split at h) <;> first | (cases h; done) | (cases h; exact ⟨L', rfl, hle⟩) | (cases h; exact ⟨L', by simp only [*, ↓reduceIte], hle⟩) | (cases h; exact ⟨L', by simp_all, hle⟩))
    | skip
  case getfield _ =>
    unfold p_getfield at h ⊢
    first
    | (cases h; exact ⟨L', rfl, hle⟩)
    | ((repeat' split at h) <;> first | (cases h; done) | (cases h; exact ⟨L', rfl, hle⟩) | (cases h; exact ⟨L', by simp only [*, ↓reduceIte], hle⟩) | (cases h; exact ⟨L', by simp_all, hle⟩))
    | skip
  case arraylength =>
    unfold p_arraylength at h ⊢
    first
    | (cases h; exact ⟨L', rfl, hle⟩)
    | ((repeat' split at h) <;> first | (cases h; done) | (cases h; exact ⟨L', rfl, hle⟩) | (cases h; exact ⟨L', by simp only [*, ↓reduceIte], hle⟩) | (cases h; exact ⟨L', by simp_all, hle⟩))
    | skip
  case iaload =>
    unfold p_iaload at h ⊢
    first
    | (cases h; exact ⟨L', rfl, hle⟩)
    | ((repeat' split at h) <;> first | (cases h; done) | (cases h; exact ⟨L', rfl, hle⟩) | (cases h; exact ⟨L', by simp only [*, ↓reduceIte], hle⟩) | (cases h; exact ⟨L', by simp_all, hle⟩))
    | skip
  case laload =>
    unfold p_laload at h ⊢
    first
    | (cases h; exact ⟨L', rfl, hle⟩)
    | ((repeat' split at h) <;> first | (cases h; done) | (cases h; exact ⟨L', rfl, hle⟩) | (cases h; exact ⟨L', by simp only [*, ↓reduceIte], hle⟩) | (cases h; exact ⟨L', by simp_all, hle⟩))
    | skip
  case baload =>
    unfold p_baload at h ⊢
    first
    | (cases h; exact ⟨L', rfl, hle⟩)
    | ((repeat' split at h) <;> first | (cases h; done) | (cases h; exact ⟨L', rfl, hle⟩) | (cases h; exact ⟨L', by simp only [*, ↓reduceIte], hle⟩) | (cases h; exact ⟨L', by simp_all, hle⟩))
    | skip
  case checkcast _ =>
    unfold p_checkcast at h ⊢
    first
    | (cases h; exact ⟨L', rfl, hle⟩)
    | ((repeat' split at h) <;> first | (cases h; done) | (cases h; exact ⟨L', rfl, hle⟩) | (cases h; exact ⟨L', by simp only [*, ↓reduceIte], hle⟩) | (cases h; exact ⟨L', by simp_all, hle⟩))
    | skip
  case instanceof _ =>
    unfold p_instanceof at h ⊢
    first
    | (cases h; exact ⟨L', rfl, hle⟩)
    | ((repeat' split at h) <;> first | (cases h; done) | (cases h; exact ⟨L', rfl, hle⟩) | (cases h; exact ⟨L', by simp only [*, ↓reduceIte], hle⟩) | (cases h; exact ⟨L', by simp_all, hle⟩))
    | skip
theorem pstep_excl {M : Mth} {ah : AH} {i : Instr} {nx tg : Nat} {L : List Slot} {S : List Value} {z : PF} (h : pstep M ah i nx tg L S = some z) : ∀ W F B, wstep W M F B ah i nx S = none ∧ rstep M i S = none ∧ cstep W M F B ah i S = none := by
  intro W F B
  cases i <;> first | exact ⟨rfl, rfl, rfl⟩ | (cases h; done)
theorem run_le_locals {W : Wld} : ∀ (n F B : Nat) (M : Mth) (pc : Nat) (L L' : List Slot) (S : List Value) (ah : AH) (r : Option Value × AH), Le L L' → run W n F B M pc L S ah = some r → run W n F B M pc L' S ah = some r
  | 0, _, _, _, _, _, _, _, _, _, _, h => by unfold run at h; cases h
  | n + 1, F, B, M, pc, L, L', S, ah, r, hle, h => by
    unfold run at h
    unfold run
    split at h
    · cases h
    · rename_i i nx tg hi
      try simp only [hi]
      split at h
      · rename_i hq
        obtain ⟨L1', g1, g2⟩ := pstep_le hle hq
        simp only [g1]
        exact run_le_locals n _ _ _ _ _ _ _ _ _ g2 h
      · rename_i hq
        have hq' : pstep M ah i nx tg L' S = none ∨ ∃ z, pstep M ah i nx tg L' S = some z := by
          cases pstep M ah i nx tg L' S with
          | none => exact Or.inl rfl
          | some z => exact Or.inr ⟨z, rfl⟩
        rcases hq' with hq' | ⟨z, hq'⟩
        · simp only [hq']
          split at h
          · rename_i hw
            try simp only [hw]
            exact run_le_locals n _ _ _ _ _ _ _ _ _ hle h
          · rename_i hw
            try simp only [hw]
            split at h
            · rename_i hr
              try simp only [hr]
              exact h
            · rename_i hr
              try simp only [hr]
              split at h
              · rename_i hc
                try simp only [hc]
                split at h
                · rename_i hr1
                  try simp only [hr1]
                  exact run_le_locals n _ _ _ _ _ _ _ _ _ hle h
                · cases h
              · cases h
        · exfalso
          obtain ⟨e1, e2, e3⟩ := pstep_excl hq' W F B
          simp only [e1, e2, e3] at h
          cases h
theorem Ev.forget {W : Wld} {F B : Nat} {M : Mth} {pc : Nat} {L L' : List Slot} {S : List Value} {ah : AH} {r : Option Value × AH} (h : Ev W F B M pc L S ah r) (hle : Le L L') : Ev W F B M pc L' S ah r := by
  obtain ⟨n, hn⟩ := h
  exact ⟨n, run_le_locals n _ _ _ _ _ _ _ _ _ hle hn⟩
end Jvm.RI

namespace Jvm.RI
open Sem ClassFile Op Lib Jvm.Stand Jvm.Free Jvm.LawKit Jvm.RoadKit
/-! numbers, and runs that the kernel makes -/
theorem ofNat_toInt (j : Nat) (h : j < 2 ^ 31) : (Int32.ofNat j).toInt = j := Int32.toInt_ofNat_of_lt h
theorem mask_nat (x : Int32) (m : Int32) (b : Nat) (hm : m.toBitVec.toNat = 2 ^ b - 1) : ∃ j, j < 2 ^ b ∧ x &&& m = Int32.ofNat j := by
  refine ⟨x.toBitVec.toNat % 2 ^ b, Nat.mod_lt _ (Nat.two_pow_pos b), ?_⟩
  apply Int32.toBitVec_inj.mp
  apply BitVec.eq_of_toNat_eq
  rw [Int32.toBitVec_and, BitVec.toNat_and, hm, Nat.and_two_pow_sub_one_eq_mod]
  have h1 : x.toBitVec.toNat % 2 ^ b < 2 ^ 32 := Nat.lt_of_le_of_lt (Nat.mod_le _ _) x.toBitVec.isLt
  show _ = (BitVec.ofNat 32 _).toNat
  rw [BitVec.toNat_ofNat, Nat.mod_eq_of_lt h1]
theorem rem_nat (x : Int32) (k : Nat) (hk : 0 < k) (hk2 : k < 2 ^ 31) : ∃ j, j < k ∧ (x &&& 2147483647) % Int32.ofNat k = Int32.ofNat j := by
  obtain ⟨m, hm, e⟩ := mask_nat x 2147483647 31 (by decide)
  rw [e]
  refine ⟨m % k, Nat.mod_lt _ hk, ?_⟩
  apply Int32.toInt_inj.mp
  rw [Int32.toInt_mod, ofNat_toInt _ hm, ofNat_toInt _ hk2, ofNat_toInt _ (Nat.lt_of_lt_of_le (Nat.mod_lt _ hk) (Nat.le_of_lt hk2))]
  exact (Int.ofNat_tmod m k).symm
theorem rem_of {m k : Nat} (hm : m < 2 ^ 31) (hk : 0 < k) (hk2 : k < 2 ^ 31) : Int32.ofNat m % Int32.ofNat k = Int32.ofNat (m % k) := by
  apply Int32.toInt_inj.mp
  rw [Int32.toInt_mod, ofNat_toInt _ hm, ofNat_toInt _ hk2, ofNat_toInt _ (Nat.lt_of_lt_of_le (Nat.mod_lt _ hk) (Nat.le_of_lt hk2))]
  exact (Int.ofNat_tmod m k).symm
theorem ushr_nat (x y : Int32) (n : Nat) (hn : ((y &&& 31).toUInt32.toBitVec % 32#32).toNat = n) : (XT.ushr x y).toBitVec.toNat = x.toBitVec.toNat / 2 ^ n := by
  subst hn
  have e : (XT.ushr x y).toBitVec = x.toBitVec >>> ((y &&& 31).toUInt32.toBitVec % 32#32) := rfl
  rw [e, BitVec.ushiftRight_eq', BitVec.toNat_ushiftRight, Nat.shiftRight_eq_div_pow]
theorem eq_ofNat {x : Int32} {m : Nat} (h : x.toBitVec.toNat = m) : x = Int32.ofNat m := by
  apply Int32.toBitVec_inj.mp
  apply BitVec.eq_of_toNat_eq
  show _ = (BitVec.ofNat 32 m).toNat
  rw [BitVec.toNat_ofNat, ← h, Nat.mod_eq_of_lt x.toBitVec.isLt]
theorem Ev.irem {W : Wld} {F B : Nat} {M : Mth} {pc nx tg : Nat} {L : List Slot} {S : List Value} {ah : AH} {r : Option Value × AH} {x y : Int32} (h1 : fetch M pc = some (.irem, nx, tg)) (hy : ¬ y = 0) (hr : Ev W F B M nx L (.int (x % y) :: S) ah r) : Ev W F B M pc L (.int y :: .int x :: S) ah r :=
  hr.go 1 (by unfold gsteps; simp only [h1, pstep, psel, p_irem, if_neg hy]; rfl)
theorem Ev.idiv {W : Wld} {F B : Nat} {M : Mth} {pc nx tg : Nat} {L : List Slot} {S : List Value} {ah : AH} {r : Option Value × AH} {x y : Int32} (h1 : fetch M pc = some (.idiv, nx, tg)) (hy : ¬ y = 0) (hr : Ev W F B M nx L (.int (x / y) :: S) ah r) : Ev W F B M pc L (.int y :: .int x :: S) ah r :=
  hr.go 1 (by unfold gsteps; simp only [h1, pstep, psel, p_idiv, if_neg hy]; rfl)
def chk1 (W : Wld) (N F B : Nat) (M : Mth) (pc : Nat) (L : List Slot) (S : List Value) (ah : AH) (cm sm : Nat) : Bool :=
  match run W N F B M pc L S ah with
  | some (some (.int z), ah') => decide (z = 1) && Nat.ble ah'.length cm && Nat.ble (sz W ah') sm
  | _ => false
def Good (W : Wld) (F B : Nat) (M : Mth) (pc : Nat) (L : List Slot) (S : List Value) (ah : AH) (cm sm : Nat) : Prop := ∃ ah', Ev W F B M pc L S ah (some (.int 1), ah') ∧ ah'.length ≤ cm ∧ sz W ah' ≤ sm
theorem chk1_good {W : Wld} {N F B : Nat} {M : Mth} {pc : Nat} {L : List Slot} {S : List Value} {ah : AH} {cm sm : Nat} (h : chk1 W N F B M pc L S ah cm sm = true) : Good W F B M pc L S ah cm sm := by
  unfold chk1 at h
  split at h
  · rename_i z ah' hr
    simp only [Bool.and_eq_true, decide_eq_true_eq] at h
    obtain ⟨⟨rfl, h1⟩, h2⟩ := h
    exact ⟨ah', ⟨N, hr⟩, Nat.le_of_ble_eq_true h1, Nat.le_of_ble_eq_true h2⟩
  · cases h
theorem Good.lift {W : Wld} {F B : Nat} {M : Mth} {pc pc' : Nat} {L L' : List Slot} {S S' : List Value} {ah ah' : AH} {cm sm : Nat} (h : Good W F B M pc' L' S' ah' cm sm) (f : ∀ r, Ev W F B M pc' L' S' ah' r → Ev W F B M pc L S ah r) : Good W F B M pc L S ah cm sm := by
  obtain ⟨x, h1, h2⟩ := h
  exact ⟨x, f _ h1, h2⟩
section Sym
variable {W : Wld} {F B : Nat} {M : Mth} {pc nx tg a : Nat} {L : List Slot} {S : List Value} {ah : AH} {r : Option Value × AH} {vs : List Value} {v : Value} {j x n : Int32}
theorem Ev.ialoadS (h1 : fetch M pc = some (.iaload, nx, tg)) (ho : ah[a]? = some (.inr (.int, vs))) (hj : ¬ j < 0) (hv : vs[j.toNatClampNeg]? = some v) (hr : Ev W F B M nx L (v :: S) ah r) : Ev W F B M pc L (.int j :: .ref a :: S) ah r :=
  hr.go 1 (by unfold gsteps; simp only [h1, pstep, psel, p_iaload, ho, if_neg hj, hv]; rfl)
theorem Ev.baloadS (h1 : fetch M pc = some (.baload, nx, tg)) (ho : ah[a]? = some (.inr (.byte, vs))) (hj : ¬ j < 0) (hv : vs[j.toNatClampNeg]? = some v) (hr : Ev W F B M nx L (v :: S) ah r) : Ev W F B M pc L (.int j :: .ref a :: S) ah r :=
  hr.go 1 (by unfold gsteps; simp only [h1, pstep, psel, p_baload, ho, if_neg hj, hv]; rfl)
theorem Ev.iastoreS (h1 : fetch M pc = some (.iastore, nx, tg)) (ho : ah[a]? = some (.inr (.int, vs))) (hj : ¬ j < 0) (hl : j.toNatClampNeg < vs.length) (hr : Ev W F B M nx L S (ah.set a (.inr (.int, vs.set j.toNatClampNeg (.int x)))) r) : Ev W F B M pc L (.int x :: .int j :: .ref a :: S) ah r :=
  hr.go 1 (by unfold gsteps; simp only [h1, pstep, psel, wstep, wsel, w_iastore, ho, if_neg hj, if_pos hl]; rfl)
theorem Ev.bastoreS (h1 : fetch M pc = some (.bastore, nx, tg)) (ho : ah[a]? = some (.inr (.byte, vs))) (hj : ¬ j < 0) (hl : j.toNatClampNeg < vs.length) (hr : Ev W F B M nx L S (ah.set a (.inr (.byte, vs.set j.toNatClampNeg (.int x.toInt8.toInt32)))) r) : Ev W F B M pc L (.int x :: .int j :: .ref a :: S) ah r :=
  hr.go 1 (by unfold gsteps; simp only [h1, pstep, psel, wstep, wsel, w_bastore, ho, if_neg hj, if_pos hl]; rfl)
theorem Ev.newarrayS {t : ArrayType} (h1 : fetch M pc = some (.newarray t, nx, tg)) (hn : ¬ n < 0) (hl : n.toNatClampNeg ≤ 67108864) (hr : Ev W F B M nx L (.ref ah.length :: S) (ah ++ [.inr (newarray.typeOf t, List.replicate n.toNatClampNeg (defaultValue (newarray.typeOf t)))]) r) : Ev W F B M pc L (.int n :: S) ah r :=
  hr.go 1 (by unfold gsteps; simp only [h1, pstep, psel, wstep, wsel, w_newarray, if_neg hn, if_pos hl]; rfl)
end Sym
theorem LeS.refl (a : Slot) : LeS a a := Or.inl rfl
theorem LeS.int (x : Int32) : LeS .unset (.val (.int x)) := Or.inr ⟨rfl, _, rfl, rfl⟩
theorem Le.nil : Le [] [] := Le.refl []
theorem Le.cons {a b : Slot} {L L' : List Slot} (h : LeS a b) (hl : Le L L') : Le (a :: L) (b :: L') := by
  refine ⟨by simp [hl.1], fun i x y h1 h2 => ?_⟩
  cases i with
  | zero =>
    have e1 : a = x := by simpa using h1
    have e2 : b = y := by simpa using h2
    subst e1 e2
    exact h
  | succ i => exact hl.2 i x y (by simpa using h1) (by simpa using h2)
end Jvm.RI

namespace Jvm.Pilot.@@N@@
open Jvm Jvm.ClassFile Sem Op Lib Jvm.Free Jvm.Stand Jvm.LawKit Jvm.RoadKit Bundle Jvm.Pilot.@@N@@.Jvm.D
def dec_0_0 (pc : Nat) : Option (Instr × Nat × Nat) := bif Nat.ble pc 4 then (bif Nat.ble pc 1 then (bif Nat.ble pc 0 then (bif Nat.beq pc 0 then some (.iconst 4, 1, 0) else none) else (bif Nat.beq pc 1 then some (.newarray .byte, 3, 0) else none)) else (bif Nat.ble pc 3 then (bif Nat.beq pc 3 then some (.dup, 4, 0) else none) else (bif Nat.beq pc 4 then some (.iconst 0, 5, 0) else none))) else (bif Nat.ble pc 6 then (bif Nat.ble pc 5 then (bif Nat.beq pc 5 then some (.iload_n 0, 6, 0) else none) else (bif Nat.beq pc 6 then some (.i2b, 7, 0) else none)) else (bif Nat.ble pc 7 then (bif Nat.beq pc 7 then some (.bastore, 8, 0) else none) else (bif Nat.beq pc 8 then some (.dup, 9, 0) else none)))
def dec_0_1 (pc : Nat) : Option (Instr × Nat × Nat) := bif Nat.ble pc 13 then (bif Nat.ble pc 10 then (bif Nat.ble pc 9 then (bif Nat.beq pc 9 then some (.iconst 1, 10, 0) else none) else (bif Nat.beq pc 10 then some (.iload_n 0, 11, 0) else none)) else (bif Nat.ble pc 11 then (bif Nat.beq pc 11 then some (.bipush 8, 13, 0) else none) else (bif Nat.beq pc 13 then some (.ishr, 14, 0) else none))) else (bif Nat.ble pc 15 then (bif Nat.ble pc 14 then (bif Nat.beq pc 14 then some (.i2b, 15, 0) else none) else (bif Nat.beq pc 15 then some (.bastore, 16, 0) else none)) else (bif Nat.ble pc 16 then (bif Nat.beq pc 16 then some (.dup, 17, 0) else none) else (bif Nat.beq pc 17 then some (.iconst 2, 18, 0) else none)))
def dec_0_2 (pc : Nat) : Option (Instr × Nat × Nat) := bif Nat.ble pc 22 then (bif Nat.ble pc 19 then (bif Nat.ble pc 18 then (bif Nat.beq pc 18 then some (.iload_n 0, 19, 0) else none) else (bif Nat.beq pc 19 then some (.bipush 16, 21, 0) else none)) else (bif Nat.ble pc 21 then (bif Nat.beq pc 21 then some (.ishr, 22, 0) else none) else (bif Nat.beq pc 22 then some (.i2b, 23, 0) else none))) else (bif Nat.ble pc 24 then (bif Nat.ble pc 23 then (bif Nat.beq pc 23 then some (.bastore, 24, 0) else none) else (bif Nat.beq pc 24 then some (.dup, 25, 0) else none)) else (bif Nat.ble pc 25 then (bif Nat.beq pc 25 then some (.iconst 3, 26, 0) else none) else (bif Nat.beq pc 26 then some (.iload_n 0, 27, 0) else none)))
def dec_0_3 (pc : Nat) : Option (Instr × Nat × Nat) := bif Nat.ble pc 31 then (bif Nat.ble pc 29 then (bif Nat.ble pc 27 then (bif Nat.beq pc 27 then some (.bipush 24, 29, 0) else none) else (bif Nat.beq pc 29 then some (.ishr, 30, 0) else none)) else (bif Nat.ble pc 30 then (bif Nat.beq pc 30 then some (.i2b, 31, 0) else none) else (bif Nat.beq pc 31 then some (.bastore, 32, 0) else none))) else (bif Nat.ble pc 34 then (bif Nat.ble pc 32 then (bif Nat.beq pc 32 then some (.astore 4, 34, 0) else none) else (bif Nat.beq pc 34 then some (.iload_n 1, 35, 0) else none)) else (bif Nat.ble pc 35 then (bif Nat.beq pc 35 then some (.ldc 7, 37, 0) else none) else (bif Nat.beq pc 37 then some (.iand, 38, 0) else none)))
def dec_0_4 (pc : Nat) : Option (Instr × Nat × Nat) := bif Nat.ble pc 42 then (bif Nat.ble pc 39 then (bif Nat.ble pc 38 then (bif Nat.beq pc 38 then some (.iconst 5, 39, 0) else none) else (bif Nat.beq pc 39 then some (.irem, 40, 0) else none)) else (bif Nat.ble pc 40 then (bif Nat.beq pc 40 then some (.istore 5, 42, 0) else none) else (bif Nat.beq pc 42 then some (.iload_n 1, 43, 0) else none))) else (bif Nat.ble pc 44 then (bif Nat.ble pc 43 then (bif Nat.beq pc 43 then some (.iconst 3, 44, 0) else none) else (bif Nat.beq pc 44 then some (.iushr, 45, 0) else none)) else (bif Nat.ble pc 45 then (bif Nat.beq pc 45 then some (.ldc 7, 47, 0) else none) else (bif Nat.beq pc 47 then some (.iand, 48, 0) else none)))
def dec_0_5 (pc : Nat) : Option (Instr × Nat × Nat) := bif Nat.ble pc 52 then (bif Nat.ble pc 49 then (bif Nat.ble pc 48 then (bif Nat.beq pc 48 then some (.iconst 5, 49, 0) else none) else (bif Nat.beq pc 49 then some (.irem, 50, 0) else none)) else (bif Nat.ble pc 50 then (bif Nat.beq pc 50 then some (.istore 6, 52, 0) else none) else (bif Nat.beq pc 52 then some (.iload 5, 54, 0) else none))) else (bif Nat.ble pc 56 then (bif Nat.ble pc 54 then (bif Nat.beq pc 54 then some (.iload 6, 56, 0) else none) else (bif Nat.beq pc 56 then some (.if_icmp .le 15, 59, 71) else none)) else (bif Nat.ble pc 59 then (bif Nat.beq pc 59 then some (.iload 5, 61, 0) else none) else (bif Nat.beq pc 61 then some (.istore 7, 63, 0) else none)))
def dec_0_6 (pc : Nat) : Option (Instr × Nat × Nat) := bif Nat.ble pc 69 then (bif Nat.ble pc 65 then (bif Nat.ble pc 63 then (bif Nat.beq pc 63 then some (.iload 6, 65, 0) else none) else (bif Nat.beq pc 65 then some (.istore 5, 67, 0) else none)) else (bif Nat.ble pc 67 then (bif Nat.beq pc 67 then some (.iload 7, 69, 0) else none) else (bif Nat.beq pc 69 then some (.istore 6, 71, 0) else none))) else (bif Nat.ble pc 73 then (bif Nat.ble pc 71 then (bif Nat.beq pc 71 then some (.iload 6, 73, 0) else none) else (bif Nat.beq pc 73 then some (.iload 5, 75, 0) else none)) else (bif Nat.ble pc 75 then (bif Nat.beq pc 75 then some (.isub, 76, 0) else none) else (bif Nat.beq pc 76 then some (.istore 7, 78, 0) else none)))
def dec_0_7 (pc : Nat) : Option (Instr × Nat × Nat) := bif Nat.ble pc 83 then (bif Nat.ble pc 80 then (bif Nat.ble pc 78 then (bif Nat.beq pc 78 then some (.bipush 6, 80, 0) else none) else (bif Nat.beq pc 80 then some (.newarray .byte, 82, 0) else none)) else (bif Nat.ble pc 82 then (bif Nat.beq pc 82 then some (.dup, 83, 0) else none) else (bif Nat.beq pc 83 then some (.iconst 0, 84, 0) else none))) else (bif Nat.ble pc 85 then (bif Nat.ble pc 84 then (bif Nat.beq pc 84 then some (.iload_n 2, 85, 0) else none) else (bif Nat.beq pc 85 then some (.i2b, 86, 0) else none)) else (bif Nat.ble pc 86 then (bif Nat.beq pc 86 then some (.bastore, 87, 0) else none) else (bif Nat.beq pc 87 then some (.dup, 88, 0) else none)))
def dec_0_8 (pc : Nat) : Option (Instr × Nat × Nat) := bif Nat.ble pc 92 then (bif Nat.ble pc 89 then (bif Nat.ble pc 88 then (bif Nat.beq pc 88 then some (.iconst 1, 89, 0) else none) else (bif Nat.beq pc 89 then some (.aload 4, 91, 0) else none)) else (bif Nat.ble pc 91 then (bif Nat.beq pc 91 then some (.iconst 0, 92, 0) else none) else (bif Nat.beq pc 92 then some (.baload, 93, 0) else none))) else (bif Nat.ble pc 94 then (bif Nat.ble pc 93 then (bif Nat.beq pc 93 then some (.bastore, 94, 0) else none) else (bif Nat.beq pc 94 then some (.dup, 95, 0) else none)) else (bif Nat.ble pc 95 then (bif Nat.beq pc 95 then some (.iconst 2, 96, 0) else none) else (bif Nat.beq pc 96 then some (.aload 4, 98, 0) else none)))
def dec_0_9 (pc : Nat) : Option (Instr × Nat × Nat) := bif Nat.ble pc 101 then (bif Nat.ble pc 99 then (bif Nat.ble pc 98 then (bif Nat.beq pc 98 then some (.iconst 1, 99, 0) else none) else (bif Nat.beq pc 99 then some (.baload, 100, 0) else none)) else (bif Nat.ble pc 100 then (bif Nat.beq pc 100 then some (.bastore, 101, 0) else none) else (bif Nat.beq pc 101 then some (.dup, 102, 0) else none))) else (bif Nat.ble pc 103 then (bif Nat.ble pc 102 then (bif Nat.beq pc 102 then some (.iconst 3, 103, 0) else none) else (bif Nat.beq pc 103 then some (.aload 4, 105, 0) else none)) else (bif Nat.ble pc 105 then (bif Nat.beq pc 105 then some (.iconst 2, 106, 0) else none) else (bif Nat.beq pc 106 then some (.baload, 107, 0) else none)))
def dec_0_10 (pc : Nat) : Option (Instr × Nat × Nat) := bif Nat.ble pc 110 then (bif Nat.ble pc 108 then (bif Nat.ble pc 107 then (bif Nat.beq pc 107 then some (.bastore, 108, 0) else none) else (bif Nat.beq pc 108 then some (.dup, 109, 0) else none)) else (bif Nat.ble pc 109 then (bif Nat.beq pc 109 then some (.iconst 4, 110, 0) else none) else (bif Nat.beq pc 110 then some (.aload 4, 112, 0) else none))) else (bif Nat.ble pc 113 then (bif Nat.ble pc 112 then (bif Nat.beq pc 112 then some (.iconst 3, 113, 0) else none) else (bif Nat.beq pc 113 then some (.baload, 114, 0) else none)) else (bif Nat.ble pc 114 then (bif Nat.beq pc 114 then some (.bastore, 115, 0) else none) else (bif Nat.beq pc 115 then some (.dup, 116, 0) else none)))
def dec_0_11 (pc : Nat) : Option (Instr × Nat × Nat) := bif Nat.ble pc 120 then (bif Nat.ble pc 117 then (bif Nat.ble pc 116 then (bif Nat.beq pc 116 then some (.iconst 5, 117, 0) else none) else (bif Nat.beq pc 117 then some (.iload_n 2, 118, 0) else none)) else (bif Nat.ble pc 118 then (bif Nat.beq pc 118 then some (.bipush 8, 120, 0) else none) else (bif Nat.beq pc 120 then some (.ishr, 121, 0) else none))) else (bif Nat.ble pc 122 then (bif Nat.ble pc 121 then (bif Nat.beq pc 121 then some (.i2b, 122, 0) else none) else (bif Nat.beq pc 122 then some (.bastore, 123, 0) else none)) else (bif Nat.ble pc 123 then (bif Nat.beq pc 123 then some (.astore 8, 125, 0) else none) else (bif Nat.beq pc 125 then some (.iconst 4, 126, 0) else none)))
def dec_0_12 (pc : Nat) : Option (Instr × Nat × Nat) := bif Nat.ble pc 130 then (bif Nat.ble pc 128 then (bif Nat.ble pc 126 then (bif Nat.beq pc 126 then some (.newarray .byte, 128, 0) else none) else (bif Nat.beq pc 128 then some (.dup, 129, 0) else none)) else (bif Nat.ble pc 129 then (bif Nat.beq pc 129 then some (.iconst 0, 130, 0) else none) else (bif Nat.beq pc 130 then some (.aload 4, 132, 0) else none))) else (bif Nat.ble pc 133 then (bif Nat.ble pc 132 then (bif Nat.beq pc 132 then some (.iconst 0, 133, 0) else none) else (bif Nat.beq pc 133 then some (.baload, 134, 0) else none)) else (bif Nat.ble pc 134 then (bif Nat.beq pc 134 then some (.bastore, 135, 0) else none) else (bif Nat.beq pc 135 then some (.dup, 136, 0) else none)))
def dec_0_13 (pc : Nat) : Option (Instr × Nat × Nat) := bif Nat.ble pc 140 then (bif Nat.ble pc 137 then (bif Nat.ble pc 136 then (bif Nat.beq pc 136 then some (.iconst 1, 137, 0) else none) else (bif Nat.beq pc 137 then some (.aload 4, 139, 0) else none)) else (bif Nat.ble pc 139 then (bif Nat.beq pc 139 then some (.iconst 1, 140, 0) else none) else (bif Nat.beq pc 140 then some (.baload, 141, 0) else none))) else (bif Nat.ble pc 142 then (bif Nat.ble pc 141 then (bif Nat.beq pc 141 then some (.bastore, 142, 0) else none) else (bif Nat.beq pc 142 then some (.dup, 143, 0) else none)) else (bif Nat.ble pc 143 then (bif Nat.beq pc 143 then some (.iconst 2, 144, 0) else none) else (bif Nat.beq pc 144 then some (.aload 4, 146, 0) else none)))
def dec_0_14 (pc : Nat) : Option (Instr × Nat × Nat) := bif Nat.ble pc 149 then (bif Nat.ble pc 147 then (bif Nat.ble pc 146 then (bif Nat.beq pc 146 then some (.iconst 2, 147, 0) else none) else (bif Nat.beq pc 147 then some (.baload, 148, 0) else none)) else (bif Nat.ble pc 148 then (bif Nat.beq pc 148 then some (.bastore, 149, 0) else none) else (bif Nat.beq pc 149 then some (.dup, 150, 0) else none))) else (bif Nat.ble pc 151 then (bif Nat.ble pc 150 then (bif Nat.beq pc 150 then some (.iconst 3, 151, 0) else none) else (bif Nat.beq pc 151 then some (.aload 4, 153, 0) else none)) else (bif Nat.ble pc 153 then (bif Nat.beq pc 153 then some (.iconst 3, 154, 0) else none) else (bif Nat.beq pc 154 then some (.baload, 155, 0) else none)))
def dec_0_15 (pc : Nat) : Option (Instr × Nat × Nat) := bif Nat.ble pc 160 then (bif Nat.ble pc 156 then (bif Nat.ble pc 155 then (bif Nat.beq pc 155 then some (.bastore, 156, 0) else none) else (bif Nat.beq pc 156 then some (.astore 9, 158, 0) else none)) else (bif Nat.ble pc 158 then (bif Nat.beq pc 158 then some (.iload 7, 160, 0) else none) else (bif Nat.beq pc 160 then some (.ifCond .le 41, 163, 201) else none))) else (bif Nat.ble pc 165 then (bif Nat.ble pc 163 then (bif Nat.beq pc 163 then some (.iload 5, 165, 0) else none) else (bif Nat.beq pc 165 then some (.iload_n 3, 166, 0) else none)) else (bif Nat.ble pc 166 then (bif Nat.beq pc 166 then some (.ldc 7, 168, 0) else none) else (bif Nat.beq pc 168 then some (.iand, 169, 0) else none)))
def dec_0_16 (pc : Nat) : Option (Instr × Nat × Nat) := bif Nat.ble pc 173 then (bif Nat.ble pc 171 then (bif Nat.ble pc 169 then (bif Nat.beq pc 169 then some (.iload 7, 171, 0) else none) else (bif Nat.beq pc 171 then some (.irem, 172, 0) else none)) else (bif Nat.ble pc 172 then (bif Nat.beq pc 172 then some (.iadd, 173, 0) else none) else (bif Nat.beq pc 173 then some (.istore 10, 175, 0) else none))) else (bif Nat.ble pc 176 then (bif Nat.ble pc 175 then (bif Nat.beq pc 175 then some (.iload_n 2, 176, 0) else none) else (bif Nat.beq pc 176 then some (.bipush 16, 178, 0) else none)) else (bif Nat.ble pc 178 then (bif Nat.beq pc 178 then some (.iushr, 179, 0) else none) else (bif Nat.beq pc 179 then some (.sipush 255, 182, 0) else none)))
def dec_0_17 (pc : Nat) : Option (Instr × Nat × Nat) := bif Nat.ble pc 185 then (bif Nat.ble pc 183 then (bif Nat.ble pc 182 then (bif Nat.beq pc 182 then some (.irem, 183, 0) else none) else (bif Nat.beq pc 183 then some (.iconst 1, 184, 0) else none)) else (bif Nat.ble pc 184 then (bif Nat.beq pc 184 then some (.iadd, 185, 0) else none) else (bif Nat.beq pc 185 then some (.istore 11, 187, 0) else none))) else (bif Nat.ble pc 189 then (bif Nat.ble pc 187 then (bif Nat.beq pc 187 then some (.aload 9, 189, 0) else none) else (bif Nat.beq pc 189 then some (.iload 10, 191, 0) else none)) else (bif Nat.ble pc 191 then (bif Nat.beq pc 191 then some (.aload 9, 193, 0) else none) else (bif Nat.beq pc 193 then some (.iload 10, 195, 0) else none)))
def dec_0_18 (pc : Nat) : Option (Instr × Nat × Nat) := bif Nat.ble pc 199 then (bif Nat.ble pc 196 then (bif Nat.ble pc 195 then (bif Nat.beq pc 195 then some (.baload, 196, 0) else none) else (bif Nat.beq pc 196 then some (.iload 11, 198, 0) else none)) else (bif Nat.ble pc 198 then (bif Nat.beq pc 198 then some (.ixor, 199, 0) else none) else (bif Nat.beq pc 199 then some (.i2b, 200, 0) else none))) else (bif Nat.ble pc 201 then (bif Nat.ble pc 200 then (bif Nat.beq pc 200 then some (.bastore, 201, 0) else none) else (bif Nat.beq pc 201 then some (.new 8, 204, 0) else none)) else (bif Nat.ble pc 204 then (bif Nat.beq pc 204 then some (.dup, 205, 0) else none) else (bif Nat.beq pc 205 then some (.invokespecial 10, 208, 0) else none)))
def dec_0_19 (pc : Nat) : Option (Instr × Nat × Nat) := bif Nat.ble pc 214 then (bif Nat.ble pc 210 then (bif Nat.ble pc 208 then (bif Nat.beq pc 208 then some (.astore 10, 210, 0) else none) else (bif Nat.beq pc 210 then some (.aload 10, 212, 0) else none)) else (bif Nat.ble pc 212 then (bif Nat.beq pc 212 then some (.aload 4, 214, 0) else none) else (bif Nat.beq pc 214 then some (.iconst 0, 215, 0) else none))) else (bif Nat.ble pc 216 then (bif Nat.ble pc 215 then (bif Nat.beq pc 215 then some (.iconst 4, 216, 0) else none) else (bif Nat.beq pc 216 then some (.invokevirtual 11, 219, 0) else none)) else (bif Nat.ble pc 219 then (bif Nat.beq pc 219 then some (.pop, 220, 0) else none) else (bif Nat.beq pc 220 then some (.aload 10, 222, 0) else none)))
def dec_0_20 (pc : Nat) : Option (Instr × Nat × Nat) := bif Nat.ble pc 228 then (bif Nat.ble pc 224 then (bif Nat.ble pc 222 then (bif Nat.beq pc 222 then some (.aload 4, 224, 0) else none) else (bif Nat.beq pc 224 then some (.iload 5, 226, 0) else none)) else (bif Nat.ble pc 226 then (bif Nat.beq pc 226 then some (.iload 6, 228, 0) else none) else (bif Nat.beq pc 228 then some (.invokevirtual 11, 231, 0) else none))) else (bif Nat.ble pc 233 then (bif Nat.ble pc 231 then (bif Nat.beq pc 231 then some (.astore 11, 233, 0) else none) else (bif Nat.beq pc 233 then some (.aload 11, 235, 0) else none)) else (bif Nat.ble pc 235 then (bif Nat.beq pc 235 then some (.aload 10, 237, 0) else none) else (bif Nat.beq pc 237 then some (.if_acmp .ne 24, 240, 261) else none)))
def dec_0_21 (pc : Nat) : Option (Instr × Nat × Nat) := bif Nat.ble pc 247 then (bif Nat.ble pc 242 then (bif Nat.ble pc 240 then (bif Nat.beq pc 240 then some (.aload 10, 242, 0) else none) else (bif Nat.beq pc 242 then some (.invokevirtual 15, 245, 0) else none)) else (bif Nat.ble pc 245 then (bif Nat.beq pc 245 then some (.aload 4, 247, 0) else none) else (bif Nat.beq pc 247 then some (.iload 5, 249, 0) else none))) else (bif Nat.ble pc 251 then (bif Nat.ble pc 249 then (bif Nat.beq pc 249 then some (.iload 7, 251, 0) else none) else (bif Nat.beq pc 251 then some (.invokestatic 19, 254, 0) else none)) else (bif Nat.ble pc 254 then (bif Nat.beq pc 254 then some (.if_icmp .ne 7, 257, 261) else none) else (bif Nat.beq pc 257 then some (.iconst 1, 258, 0) else none)))
def dec_0_22 (pc : Nat) : Option (Instr × Nat × Nat) := bif Nat.ble pc 264 then (bif Nat.ble pc 261 then (bif Nat.ble pc 258 then (bif Nat.beq pc 258 then some (.goto 4, 261, 262) else none) else (bif Nat.beq pc 261 then some (.iconst 0, 262, 0) else none)) else (bif Nat.ble pc 262 then (bif Nat.beq pc 262 then some (.istore 12, 264, 0) else none) else (bif Nat.beq pc 264 then some (.new 8, 267, 0) else none))) else (bif Nat.ble pc 268 then (bif Nat.ble pc 267 then (bif Nat.beq pc 267 then some (.dup, 268, 0) else none) else (bif Nat.beq pc 268 then some (.invokespecial 10, 271, 0) else none)) else (bif Nat.ble pc 271 then (bif Nat.beq pc 271 then some (.aload 8, 273, 0) else none) else (bif Nat.beq pc 273 then some (.iload 5, 275, 0) else none)))
def dec_0_23 (pc : Nat) : Option (Instr × Nat × Nat) := bif Nat.ble pc 279 then (bif Nat.ble pc 276 then (bif Nat.ble pc 275 then (bif Nat.beq pc 275 then some (.iconst 1, 276, 0) else none) else (bif Nat.beq pc 276 then some (.iadd, 277, 0) else none)) else (bif Nat.ble pc 277 then (bif Nat.beq pc 277 then some (.iload 6, 279, 0) else none) else (bif Nat.beq pc 279 then some (.iconst 1, 280, 0) else none))) else (bif Nat.ble pc 281 then (bif Nat.ble pc 280 then (bif Nat.beq pc 280 then some (.iadd, 281, 0) else none) else (bif Nat.beq pc 281 then some (.invokevirtual 11, 284, 0) else none)) else (bif Nat.ble pc 284 then (bif Nat.beq pc 284 then some (.astore 13, 286, 0) else none) else (bif Nat.beq pc 286 then some (.iload 12, 288, 0) else none)))
def dec_0_24 (pc : Nat) : Option (Instr × Nat × Nat) := bif Nat.ble pc 295 then (bif Nat.ble pc 291 then (bif Nat.ble pc 288 then (bif Nat.beq pc 288 then some (.ifCond .eq 17, 291, 305) else none) else (bif Nat.beq pc 291 then some (.aload 10, 293, 0) else none)) else (bif Nat.ble pc 293 then (bif Nat.beq pc 293 then some (.aload 13, 295, 0) else none) else (bif Nat.beq pc 295 then some (.invokevirtual 25, 298, 0) else none))) else (bif Nat.ble pc 301 then (bif Nat.ble pc 298 then (bif Nat.beq pc 298 then some (.ifCond .eq 7, 301, 305) else none) else (bif Nat.beq pc 301 then some (.iconst 1, 302, 0) else none)) else (bif Nat.ble pc 302 then (bif Nat.beq pc 302 then some (.goto 4, 305, 306) else none) else (bif Nat.beq pc 305 then some (.iconst 0, 306, 0) else none)))
def dec_0_25 (pc : Nat) : Option (Instr × Nat × Nat) := bif Nat.ble pc 312 then (bif Nat.ble pc 308 then (bif Nat.ble pc 306 then (bif Nat.beq pc 306 then some (.istore 12, 308, 0) else none) else (bif Nat.beq pc 308 then some (.new 8, 311, 0) else none)) else (bif Nat.ble pc 311 then (bif Nat.beq pc 311 then some (.dup, 312, 0) else none) else (bif Nat.beq pc 312 then some (.invokespecial 10, 315, 0) else none))) else (bif Nat.ble pc 317 then (bif Nat.ble pc 315 then (bif Nat.beq pc 315 then some (.aload 9, 317, 0) else none) else (bif Nat.beq pc 317 then some (.iload 5, 319, 0) else none)) else (bif Nat.ble pc 319 then (bif Nat.beq pc 319 then some (.iload 6, 321, 0) else none) else (bif Nat.beq pc 321 then some (.invokevirtual 11, 324, 0) else none)))
def dec_0_26 (pc : Nat) : Option (Instr × Nat × Nat) := bif Nat.ble pc 331 then (bif Nat.ble pc 326 then (bif Nat.ble pc 324 then (bif Nat.beq pc 324 then some (.astore 14, 326, 0) else none) else (bif Nat.beq pc 326 then some (.iload 12, 328, 0) else none)) else (bif Nat.ble pc 328 then (bif Nat.beq pc 328 then some (.ifCond .eq 27, 331, 355) else none) else (bif Nat.beq pc 331 then some (.aload 10, 333, 0) else none))) else (bif Nat.ble pc 335 then (bif Nat.ble pc 333 then (bif Nat.beq pc 333 then some (.aload 14, 335, 0) else none) else (bif Nat.beq pc 335 then some (.invokevirtual 25, 338, 0) else none)) else (bif Nat.ble pc 338 then (bif Nat.beq pc 338 then some (.iload 7, 340, 0) else none) else (bif Nat.beq pc 340 then some (.ifCond .ne 7, 343, 347) else none)))
def dec_0_27 (pc : Nat) : Option (Instr × Nat × Nat) := bif Nat.ble pc 348 then (bif Nat.ble pc 344 then (bif Nat.ble pc 343 then (bif Nat.beq pc 343 then some (.iconst 1, 344, 0) else none) else (bif Nat.beq pc 344 then some (.goto 4, 347, 348) else none)) else (bif Nat.ble pc 347 then (bif Nat.beq pc 347 then some (.iconst 0, 348, 0) else none) else (bif Nat.beq pc 348 then some (.if_icmp .ne 7, 351, 355) else none))) else (bif Nat.ble pc 352 then (bif Nat.ble pc 351 then (bif Nat.beq pc 351 then some (.iconst 1, 352, 0) else none) else (bif Nat.beq pc 352 then some (.goto 4, 355, 356) else none)) else (bif Nat.ble pc 355 then (bif Nat.beq pc 355 then some (.iconst 0, 356, 0) else none) else (bif Nat.beq pc 356 then some (.istore 12, 358, 0) else none)))
def dec_0_28 (pc : Nat) : Option (Instr × Nat × Nat) := bif Nat.ble pc 358 then (bif Nat.beq pc 358 then some (.iload 12, 360, 0) else none) else (bif Nat.beq pc 360 then some (.ireturn, 361, 0) else none)
def dec_0 (pc : Nat) : Option (Instr × Nat × Nat) := bif Nat.ble pc 144 then (bif Nat.ble pc 76 then (bif Nat.ble pc 26 then (bif Nat.ble pc 8 then (dec_0_0 pc) else (bif Nat.ble pc 17 then (dec_0_1 pc) else (dec_0_2 pc))) else (bif Nat.ble pc 47 then (bif Nat.ble pc 37 then (dec_0_3 pc) else (dec_0_4 pc)) else (bif Nat.ble pc 61 then (dec_0_5 pc) else (dec_0_6 pc)))) else (bif Nat.ble pc 106 then (bif Nat.ble pc 87 then (dec_0_7 pc) else (bif Nat.ble pc 96 then (dec_0_8 pc) else (dec_0_9 pc))) else (bif Nat.ble pc 125 then (bif Nat.ble pc 115 then (dec_0_10 pc) else (dec_0_11 pc)) else (bif Nat.ble pc 135 then (dec_0_12 pc) else (dec_0_13 pc))))) else (bif Nat.ble pc 237 then (bif Nat.ble pc 179 then (bif Nat.ble pc 154 then (dec_0_14 pc) else (bif Nat.ble pc 168 then (dec_0_15 pc) else (dec_0_16 pc))) else (bif Nat.ble pc 205 then (bif Nat.ble pc 193 then (dec_0_17 pc) else (dec_0_18 pc)) else (bif Nat.ble pc 220 then (dec_0_19 pc) else (dec_0_20 pc)))) else (bif Nat.ble pc 305 then (bif Nat.ble pc 273 then (bif Nat.ble pc 257 then (dec_0_21 pc) else (dec_0_22 pc)) else (bif Nat.ble pc 286 then (dec_0_23 pc) else (dec_0_24 pc))) else (bif Nat.ble pc 340 then (bif Nat.ble pc 321 then (dec_0_25 pc) else (dec_0_26 pc)) else (bif Nat.ble pc 356 then (dec_0_27 pc) else (dec_0_28 pc)))))
def m_0 : RI.Mth := (x, code, maxLocals, ret, 4, 361, dec_0, [(7, (2147483647 : Int32))], [], [], [(10, 1, 1, 0, (⟨"com/example/nymtrace/nymtrace/io/ByteKey", "<init>", "()V"⟩ : MethodName)), (11, 2, 2, 0, (⟨"com/example/nymtrace/nymtrace/io/ByteKey", "set", "([BII)Lcom/example/nymtrace/nymtrace/io/ByteKey;"⟩ : MethodName)), (15, 2, 3, 0, (⟨"com/example/nymtrace/nymtrace/io/ByteKey", "hashCode", "()I"⟩ : MethodName)), (19, 0, 4, 0, (⟨"com/example/nymtrace/nymtrace/io/ByteKeySetPinLaw", "ref", "([BII)I"⟩ : MethodName)), (25, 2, 7, 0, (⟨"com/example/nymtrace/nymtrace/io/ByteKey", "equals", "(Ljava/lang/Object;)Z"⟩ : MethodName))], [(8, 1)])
def dec_1_0 (pc : Nat) : Option (Instr × Nat × Nat) := bif Nat.ble pc 0 then (bif Nat.beq pc 0 then some (.aload_n 0, 1, 0) else none) else (bif Nat.ble pc 1 then (bif Nat.beq pc 1 then some (.invokespecial 1, 4, 0) else none) else (bif Nat.beq pc 4 then some (.return_, 5, 0) else none))
def dec_1 (pc : Nat) : Option (Instr × Nat × Nat) := dec_1_0 pc
def m_1 : RI.Mth := ((⟨"com/example/nymtrace/nymtrace/io/ByteKey", "<init>", "()V"⟩ : MethodName), prog_31_method_1_code, 1, none, 1, 5, dec_1, [], [], [], [(1, 3, 0, 0, (⟨"java/lang/Object", "<init>", "()V"⟩ : MethodName))], [])
def dec_2_0 (pc : Nat) : Option (Instr × Nat × Nat) := bif Nat.ble pc 5 then (bif Nat.ble pc 1 then (bif Nat.ble pc 0 then (bif Nat.beq pc 0 then some (.aload_n 0, 1, 0) else none) else (bif Nat.beq pc 1 then some (.aload_n 1, 2, 0) else none)) else (bif Nat.ble pc 2 then (bif Nat.beq pc 2 then some (.putfield 7, 5, 0) else none) else (bif Nat.beq pc 5 then some (.aload_n 0, 6, 0) else none))) else (bif Nat.ble pc 7 then (bif Nat.ble pc 6 then (bif Nat.beq pc 6 then some (.iload_n 2, 7, 0) else none) else (bif Nat.beq pc 7 then some (.putfield 13, 10, 0) else none)) else (bif Nat.ble pc 10 then (bif Nat.beq pc 10 then some (.aload_n 0, 11, 0) else none) else (bif Nat.beq pc 11 then some (.iload_n 3, 12, 0) else none)))
def dec_2_1 (pc : Nat) : Option (Instr × Nat × Nat) := bif Nat.ble pc 18 then (bif Nat.ble pc 15 then (bif Nat.ble pc 12 then (bif Nat.beq pc 12 then some (.putfield 17, 15, 0) else none) else (bif Nat.beq pc 15 then some (.iconst 0, 16, 0) else none)) else (bif Nat.ble pc 16 then (bif Nat.beq pc 16 then some (.istore 4, 18, 0) else none) else (bif Nat.beq pc 18 then some (.iload_n 2, 19, 0) else none))) else (bif Nat.ble pc 21 then (bif Nat.ble pc 19 then (bif Nat.beq pc 19 then some (.istore 5, 21, 0) else none) else (bif Nat.beq pc 21 then some (.iload 5, 23, 0) else none)) else (bif Nat.ble pc 23 then (bif Nat.beq pc 23 then some (.iload_n 3, 24, 0) else none) else (bif Nat.beq pc 24 then some (.if_icmp .ge 21, 27, 45) else none)))
def dec_2_2 (pc : Nat) : Option (Instr × Nat × Nat) := bif Nat.ble pc 32 then (bif Nat.ble pc 29 then (bif Nat.ble pc 27 then (bif Nat.beq pc 27 then some (.bipush 31, 29, 0) else none) else (bif Nat.beq pc 29 then some (.iload 4, 31, 0) else none)) else (bif Nat.ble pc 31 then (bif Nat.beq pc 31 then some (.imul, 32, 0) else none) else (bif Nat.beq pc 32 then some (.aload_n 1, 33, 0) else none))) else (bif Nat.ble pc 35 then (bif Nat.ble pc 33 then (bif Nat.beq pc 33 then some (.iload 5, 35, 0) else none) else (bif Nat.beq pc 35 then some (.baload, 36, 0) else none)) else (bif Nat.ble pc 36 then (bif Nat.beq pc 36 then some (.iadd, 37, 0) else none) else (bif Nat.beq pc 37 then some (.istore 4, 39, 0) else none)))
def dec_2_3 (pc : Nat) : Option (Instr × Nat × Nat) := bif Nat.ble pc 45 then (bif Nat.ble pc 39 then (bif Nat.beq pc 39 then some (.iinc 5 1, 42, 0) else none) else (bif Nat.ble pc 42 then (bif Nat.beq pc 42 then some (.goto (-21), 45, 21) else none) else (bif Nat.beq pc 45 then some (.aload_n 0, 46, 0) else none))) else (bif Nat.ble pc 48 then (bif Nat.ble pc 46 then (bif Nat.beq pc 46 then some (.iload 4, 48, 0) else none) else (bif Nat.beq pc 48 then some (.putfield 20, 51, 0) else none)) else (bif Nat.ble pc 51 then (bif Nat.beq pc 51 then some (.aload_n 0, 52, 0) else none) else (bif Nat.beq pc 52 then some (.areturn, 53, 0) else none)))
def dec_2 (pc : Nat) : Option (Instr × Nat × Nat) := bif Nat.ble pc 24 then (bif Nat.ble pc 11 then (dec_2_0 pc) else (dec_2_1 pc)) else (bif Nat.ble pc 37 then (dec_2_2 pc) else (dec_2_3 pc))
def m_2 : RI.Mth := ((⟨"com/example/nymtrace/nymtrace/io/ByteKey", "set", "([BII)Lcom/example/nymtrace/nymtrace/io/ByteKey;"⟩ : MethodName), prog_31_method_2_code, 6, (some (.object "com/example/nymtrace/nymtrace/io/ByteKey")), 4, 53, dec_2, [], [], [(7, 0, 0, true, (.array .byte), "com/example/nymtrace/nymtrace/io/ByteKey", ""), (13, 0, 1, true, .int, "com/example/nymtrace/nymtrace/io/ByteKey", ""), (17, 0, 2, true, .int, "com/example/nymtrace/nymtrace/io/ByteKey", ""), (20, 0, 3, true, .int, "com/example/nymtrace/nymtrace/io/ByteKey", "")], [], [])
def dec_3_0 (pc : Nat) : Option (Instr × Nat × Nat) := bif Nat.ble pc 0 then (bif Nat.beq pc 0 then some (.aload_n 0, 1, 0) else none) else (bif Nat.ble pc 1 then (bif Nat.beq pc 1 then some (.getfield 20, 4, 0) else none) else (bif Nat.beq pc 4 then some (.ireturn, 5, 0) else none))
def dec_3 (pc : Nat) : Option (Instr × Nat × Nat) := dec_3_0 pc
def m_3 : RI.Mth := ((⟨"com/example/nymtrace/nymtrace/io/ByteKey", "hashCode", "()I"⟩ : MethodName), prog_31_method_5_code, 1, (some .int), 1, 5, dec_3, [], [], [(20, 0, 3, true, .int, "com/example/nymtrace/nymtrace/io/ByteKey", "")], [], [])
def dec_4_0 (pc : Nat) : Option (Instr × Nat × Nat) := bif Nat.ble pc 3 then (bif Nat.ble pc 1 then (bif Nat.ble pc 0 then (bif Nat.beq pc 0 then some (.aload_n 0, 1, 0) else none) else (bif Nat.beq pc 1 then some (.iload_n 1, 2, 0) else none)) else (bif Nat.ble pc 2 then (bif Nat.beq pc 2 then some (.iconst 0, 3, 0) else none) else (bif Nat.beq pc 3 then some (.iload_n 2, 4, 0) else none))) else (bif Nat.ble pc 7 then (bif Nat.ble pc 4 then (bif Nat.beq pc 4 then some (.invokestatic 33, 7, 0) else none) else (bif Nat.beq pc 7 then some (.aload_n 0, 8, 0) else none)) else (bif Nat.ble pc 8 then (bif Nat.beq pc 8 then some (.iload_n 1, 9, 0) else none) else (bif Nat.beq pc 9 then some (.iconst 1, 10, 0) else none)))
def dec_4_1 (pc : Nat) : Option (Instr × Nat × Nat) := bif Nat.ble pc 15 then (bif Nat.ble pc 11 then (bif Nat.ble pc 10 then (bif Nat.beq pc 10 then some (.iload_n 2, 11, 0) else none) else (bif Nat.beq pc 11 then some (.invokestatic 33, 14, 0) else none)) else (bif Nat.ble pc 14 then (bif Nat.beq pc 14 then some (.iadd, 15, 0) else none) else (bif Nat.beq pc 15 then some (.aload_n 0, 16, 0) else none))) else (bif Nat.ble pc 17 then (bif Nat.ble pc 16 then (bif Nat.beq pc 16 then some (.iload_n 1, 17, 0) else none) else (bif Nat.beq pc 17 then some (.iconst 2, 18, 0) else none)) else (bif Nat.ble pc 18 then (bif Nat.beq pc 18 then some (.iload_n 2, 19, 0) else none) else (bif Nat.beq pc 19 then some (.invokestatic 33, 22, 0) else none)))
def dec_4_2 (pc : Nat) : Option (Instr × Nat × Nat) := bif Nat.ble pc 25 then (bif Nat.ble pc 23 then (bif Nat.ble pc 22 then (bif Nat.beq pc 22 then some (.iadd, 23, 0) else none) else (bif Nat.beq pc 23 then some (.aload_n 0, 24, 0) else none)) else (bif Nat.ble pc 24 then (bif Nat.beq pc 24 then some (.iload_n 1, 25, 0) else none) else (bif Nat.beq pc 25 then some (.iconst 3, 26, 0) else none))) else (bif Nat.ble pc 27 then (bif Nat.ble pc 26 then (bif Nat.beq pc 26 then some (.iload_n 2, 27, 0) else none) else (bif Nat.beq pc 27 then some (.invokestatic 33, 30, 0) else none)) else (bif Nat.ble pc 30 then (bif Nat.beq pc 30 then some (.iadd, 31, 0) else none) else (bif Nat.beq pc 31 then some (.ireturn, 32, 0) else none)))
def dec_4 (pc : Nat) : Option (Instr × Nat × Nat) := bif Nat.ble pc 9 then (dec_4_0 pc) else (bif Nat.ble pc 19 then (dec_4_1 pc) else (dec_4_2 pc))
def m_4 : RI.Mth := ((⟨"com/example/nymtrace/nymtrace/io/ByteKeySetPinLaw", "ref", "([BII)I"⟩ : MethodName), method_5_code, 3, (some .int), 3, 32, dec_4, [], [], [], [(33, 0, 5, 0, (⟨"com/example/nymtrace/nymtrace/io/ByteKeySetPinLaw", "term", "([BIII)I"⟩ : MethodName))], [])
def dec_5_0 (pc : Nat) : Option (Instr × Nat × Nat) := bif Nat.ble pc 5 then (bif Nat.ble pc 1 then (bif Nat.ble pc 0 then (bif Nat.beq pc 0 then some (.iload_n 2, 1, 0) else none) else (bif Nat.beq pc 1 then some (.iload_n 3, 2, 0) else none)) else (bif Nat.ble pc 2 then (bif Nat.beq pc 2 then some (.if_icmp .lt 5, 5, 7) else none) else (bif Nat.beq pc 5 then some (.iconst 0, 6, 0) else none))) else (bif Nat.ble pc 7 then (bif Nat.ble pc 6 then (bif Nat.beq pc 6 then some (.ireturn, 7, 0) else none) else (bif Nat.beq pc 7 then some (.aload_n 0, 8, 0) else none)) else (bif Nat.ble pc 8 then (bif Nat.beq pc 8 then some (.iload_n 1, 9, 0) else none) else (bif Nat.beq pc 9 then some (.iload_n 2, 10, 0) else none)))
def dec_5_1 (pc : Nat) : Option (Instr × Nat × Nat) := bif Nat.ble pc 13 then (bif Nat.ble pc 11 then (bif Nat.ble pc 10 then (bif Nat.beq pc 10 then some (.iadd, 11, 0) else none) else (bif Nat.beq pc 11 then some (.baload, 12, 0) else none)) else (bif Nat.ble pc 12 then (bif Nat.beq pc 12 then some (.iload_n 3, 13, 0) else none) else (bif Nat.beq pc 13 then some (.iconst 1, 14, 0) else none))) else (bif Nat.ble pc 15 then (bif Nat.ble pc 14 then (bif Nat.beq pc 14 then some (.isub, 15, 0) else none) else (bif Nat.beq pc 15 then some (.iload_n 2, 16, 0) else none)) else (bif Nat.ble pc 16 then (bif Nat.beq pc 16 then some (.isub, 17, 0) else none) else (bif Nat.beq pc 17 then some (.invokestatic 29, 20, 0) else none)))
def dec_5_2 (pc : Nat) : Option (Instr × Nat × Nat) := bif Nat.ble pc 20 then (bif Nat.beq pc 20 then some (.imul, 21, 0) else none) else (bif Nat.beq pc 21 then some (.ireturn, 22, 0) else none)
def dec_5 (pc : Nat) : Option (Instr × Nat × Nat) := bif Nat.ble pc 9 then (dec_5_0 pc) else (bif Nat.ble pc 17 then (dec_5_1 pc) else (dec_5_2 pc))
def m_5 : RI.Mth := ((⟨"com/example/nymtrace/nymtrace/io/ByteKeySetPinLaw", "term", "([BIII)I"⟩ : MethodName), method_4_code, 4, (some .int), 4, 22, dec_5, [], [], [], [(29, 0, 6, 0, (⟨"com/example/nymtrace/nymtrace/io/ByteKeySetPinLaw", "pow31", "(I)I"⟩ : MethodName))], [])
def dec_6_0 (pc : Nat) : Option (Instr × Nat × Nat) := bif Nat.ble pc 5 then (bif Nat.ble pc 1 then (bif Nat.ble pc 0 then (bif Nat.beq pc 0 then some (.iload_n 0, 1, 0) else none) else (bif Nat.beq pc 1 then some (.ifCond .ne 5, 4, 6) else none)) else (bif Nat.ble pc 4 then (bif Nat.beq pc 4 then some (.iconst 1, 5, 0) else none) else (bif Nat.beq pc 5 then some (.ireturn, 6, 0) else none))) else (bif Nat.ble pc 7 then (bif Nat.ble pc 6 then (bif Nat.beq pc 6 then some (.iload_n 0, 7, 0) else none) else (bif Nat.beq pc 7 then some (.iconst 1, 8, 0) else none)) else (bif Nat.ble pc 8 then (bif Nat.beq pc 8 then some (.if_icmp .ne 6, 11, 14) else none) else (bif Nat.beq pc 11 then some (.bipush 31, 13, 0) else none)))
def dec_6_1 (pc : Nat) : Option (Instr × Nat × Nat) := bif Nat.ble pc 16 then (bif Nat.ble pc 14 then (bif Nat.ble pc 13 then (bif Nat.beq pc 13 then some (.ireturn, 14, 0) else none) else (bif Nat.beq pc 14 then some (.iload_n 0, 15, 0) else none)) else (bif Nat.ble pc 15 then (bif Nat.beq pc 15 then some (.iconst 2, 16, 0) else none) else (bif Nat.beq pc 16 then some (.if_icmp .ne 7, 19, 23) else none))) else (bif Nat.ble pc 22 then (bif Nat.ble pc 19 then (bif Nat.beq pc 19 then some (.sipush 961, 22, 0) else none) else (bif Nat.beq pc 22 then some (.ireturn, 23, 0) else none)) else (bif Nat.ble pc 23 then (bif Nat.beq pc 23 then some (.sipush 29791, 26, 0) else none) else (bif Nat.beq pc 26 then some (.ireturn, 27, 0) else none)))
def dec_6 (pc : Nat) : Option (Instr × Nat × Nat) := bif Nat.ble pc 11 then (dec_6_0 pc) else (dec_6_1 pc)
def m_6 : RI.Mth := ((⟨"com/example/nymtrace/nymtrace/io/ByteKeySetPinLaw", "pow31", "(I)I"⟩ : MethodName), method_3_code, 1, (some .int), 1, 27, dec_6, [], [], [], [], [])
def dec_7_0 (pc : Nat) : Option (Instr × Nat × Nat) := bif Nat.ble pc 7 then (bif Nat.ble pc 1 then (bif Nat.ble pc 0 then (bif Nat.beq pc 0 then some (.aload_n 1, 1, 0) else none) else (bif Nat.beq pc 1 then some (.instanceof 8, 4, 0) else none)) else (bif Nat.ble pc 4 then (bif Nat.beq pc 4 then some (.ifCond .eq 53, 7, 57) else none) else (bif Nat.beq pc 7 then some (.aload_n 1, 8, 0) else none))) else (bif Nat.ble pc 11 then (bif Nat.ble pc 8 then (bif Nat.beq pc 8 then some (.checkcast 8, 11, 0) else none) else (bif Nat.beq pc 11 then some (.astore_n 2, 12, 0) else none)) else (bif Nat.ble pc 12 then (bif Nat.beq pc 12 then some (.aload_n 0, 13, 0) else none) else (bif Nat.beq pc 13 then some (.getfield 20, 16, 0) else none)))
def dec_7_1 (pc : Nat) : Option (Instr × Nat × Nat) := bif Nat.ble pc 23 then (bif Nat.ble pc 17 then (bif Nat.ble pc 16 then (bif Nat.beq pc 16 then some (.aload_n 2, 17, 0) else none) else (bif Nat.beq pc 17 then some (.getfield 20, 20, 0) else none)) else (bif Nat.ble pc 20 then (bif Nat.beq pc 20 then some (.if_icmp .ne 37, 23, 57) else none) else (bif Nat.beq pc 23 then some (.aload_n 0, 24, 0) else none))) else (bif Nat.ble pc 27 then (bif Nat.ble pc 24 then (bif Nat.beq pc 24 then some (.getfield 7, 27, 0) else none) else (bif Nat.beq pc 27 then some (.aload_n 0, 28, 0) else none)) else (bif Nat.ble pc 28 then (bif Nat.beq pc 28 then some (.getfield 13, 31, 0) else none) else (bif Nat.beq pc 31 then some (.aload_n 0, 32, 0) else none)))
def dec_7_2 (pc : Nat) : Option (Instr × Nat × Nat) := bif Nat.ble pc 39 then (bif Nat.ble pc 35 then (bif Nat.ble pc 32 then (bif Nat.beq pc 32 then some (.getfield 17, 35, 0) else none) else (bif Nat.beq pc 35 then some (.aload_n 2, 36, 0) else none)) else (bif Nat.ble pc 36 then (bif Nat.beq pc 36 then some (.getfield 7, 39, 0) else none) else (bif Nat.beq pc 39 then some (.aload_n 2, 40, 0) else none))) else (bif Nat.ble pc 43 then (bif Nat.ble pc 40 then (bif Nat.beq pc 40 then some (.getfield 13, 43, 0) else none) else (bif Nat.beq pc 43 then some (.aload_n 2, 44, 0) else none)) else (bif Nat.ble pc 44 then (bif Nat.beq pc 44 then some (.getfield 17, 47, 0) else none) else (bif Nat.beq pc 47 then some (.invokestatic 45, 50, 0) else none)))
def dec_7_3 (pc : Nat) : Option (Instr × Nat × Nat) := bif Nat.ble pc 53 then (bif Nat.ble pc 50 then (bif Nat.beq pc 50 then some (.ifCond .eq 7, 53, 57) else none) else (bif Nat.beq pc 53 then some (.iconst 1, 54, 0) else none)) else (bif Nat.ble pc 54 then (bif Nat.beq pc 54 then some (.goto 4, 57, 58) else none) else (bif Nat.ble pc 57 then (bif Nat.beq pc 57 then some (.iconst 0, 58, 0) else none) else (bif Nat.beq pc 58 then some (.ireturn, 59, 0) else none)))
def dec_7 (pc : Nat) : Option (Instr × Nat × Nat) := bif Nat.ble pc 31 then (bif Nat.ble pc 13 then (dec_7_0 pc) else (dec_7_1 pc)) else (bif Nat.ble pc 47 then (dec_7_2 pc) else (dec_7_3 pc))
def m_7 : RI.Mth := ((⟨"com/example/nymtrace/nymtrace/io/ByteKey", "equals", "(Ljava/lang/Object;)Z"⟩ : MethodName), prog_31_method_6_code, 3, (some .boolean), 2, 59, dec_7, [], [], [(20, 0, 3, true, .int, "com/example/nymtrace/nymtrace/io/ByteKey", ""), (7, 0, 0, true, (.array .byte), "com/example/nymtrace/nymtrace/io/ByteKey", ""), (13, 0, 1, true, .int, "com/example/nymtrace/nymtrace/io/ByteKey", ""), (17, 0, 2, true, .int, "com/example/nymtrace/nymtrace/io/ByteKey", "")], [(45, 0, 8, 0, (⟨"java/util/Arrays", "equals", "([BII[BII)Z"⟩ : MethodName))], [(8, 1)])
def dec_8_0 (pc : Nat) : Option (Instr × Nat × Nat) := bif Nat.ble pc 3 then (bif Nat.ble pc 1 then (bif Nat.ble pc 0 then (bif Nat.beq pc 0 then some (.aload_n 0, 1, 0) else none) else (bif Nat.beq pc 1 then some (.arraylength, 2, 0) else none)) else (bif Nat.ble pc 2 then (bif Nat.beq pc 2 then some (.iload_n 1, 3, 0) else none) else (bif Nat.beq pc 3 then some (.iload_n 2, 4, 0) else none))) else (bif Nat.ble pc 7 then (bif Nat.ble pc 4 then (bif Nat.beq pc 4 then some (.invokestatic 13, 7, 0) else none) else (bif Nat.beq pc 7 then some (.aload_n 3, 8, 0) else none)) else (bif Nat.ble pc 8 then (bif Nat.beq pc 8 then some (.arraylength, 9, 0) else none) else (bif Nat.beq pc 9 then some (.iload 4, 11, 0) else none)))
def dec_8_1 (pc : Nat) : Option (Instr × Nat × Nat) := bif Nat.ble pc 17 then (bif Nat.ble pc 13 then (bif Nat.ble pc 11 then (bif Nat.beq pc 11 then some (.iload 5, 13, 0) else none) else (bif Nat.beq pc 13 then some (.invokestatic 13, 16, 0) else none)) else (bif Nat.ble pc 16 then (bif Nat.beq pc 16 then some (.iload_n 2, 17, 0) else none) else (bif Nat.beq pc 17 then some (.iload_n 1, 18, 0) else none))) else (bif Nat.ble pc 19 then (bif Nat.ble pc 18 then (bif Nat.beq pc 18 then some (.isub, 19, 0) else none) else (bif Nat.beq pc 19 then some (.istore 6, 21, 0) else none)) else (bif Nat.ble pc 21 then (bif Nat.beq pc 21 then some (.iload 5, 23, 0) else none) else (bif Nat.beq pc 23 then some (.iload 4, 25, 0) else none)))
def dec_8_2 (pc : Nat) : Option (Instr × Nat × Nat) := bif Nat.ble pc 30 then (bif Nat.ble pc 26 then (bif Nat.ble pc 25 then (bif Nat.beq pc 25 then some (.isub, 26, 0) else none) else (bif Nat.beq pc 26 then some (.istore 7, 28, 0) else none)) else (bif Nat.ble pc 28 then (bif Nat.beq pc 28 then some (.iload 6, 30, 0) else none) else (bif Nat.beq pc 30 then some (.iload 7, 32, 0) else none))) else (bif Nat.ble pc 35 then (bif Nat.ble pc 32 then (bif Nat.beq pc 32 then some (.if_icmp .eq 5, 35, 37) else none) else (bif Nat.beq pc 35 then some (.iconst 0, 36, 0) else none)) else (bif Nat.ble pc 36 then (bif Nat.beq pc 36 then some (.ireturn, 37, 0) else none) else (bif Nat.beq pc 37 then some (.aload_n 0, 38, 0) else none)))
def dec_8_3 (pc : Nat) : Option (Instr × Nat × Nat) := bif Nat.ble pc 42 then (bif Nat.ble pc 39 then (bif Nat.ble pc 38 then (bif Nat.beq pc 38 then some (.iload_n 1, 39, 0) else none) else (bif Nat.beq pc 39 then some (.aload_n 3, 40, 0) else none)) else (bif Nat.ble pc 40 then (bif Nat.beq pc 40 then some (.iload 4, 42, 0) else none) else (bif Nat.beq pc 42 then some (.iload 6, 44, 0) else none))) else (bif Nat.ble pc 47 then (bif Nat.ble pc 44 then (bif Nat.beq pc 44 then some (.invokestatic 275, 47, 0) else none) else (bif Nat.beq pc 47 then some (.ifCond .ge 7, 50, 54) else none)) else (bif Nat.ble pc 50 then (bif Nat.beq pc 50 then some (.iconst 1, 51, 0) else none) else (bif Nat.beq pc 51 then some (.goto 4, 54, 55) else none)))
def dec_8_4 (pc : Nat) : Option (Instr × Nat × Nat) := bif Nat.ble pc 54 then (bif Nat.beq pc 54 then some (.iconst 0, 55, 0) else none) else (bif Nat.beq pc 55 then some (.ireturn, 56, 0) else none)
def dec_8 (pc : Nat) : Option (Instr × Nat × Nat) := bif Nat.ble pc 23 then (bif Nat.ble pc 9 then (dec_8_0 pc) else (dec_8_1 pc)) else (bif Nat.ble pc 37 then (dec_8_2 pc) else (bif Nat.ble pc 51 then (dec_8_3 pc) else (dec_8_4 pc)))
def m_8 : RI.Mth := ((⟨"java/util/Arrays", "equals", "([BII[BII)Z"⟩ : MethodName), jdk_65_method_90_code, 8, (some .boolean), 6, 56, dec_8, [], [], [], [(13, 0, 9, 0, (⟨"java/util/Arrays", "rangeCheck", "(III)V"⟩ : MethodName)), (275, 0, 10, 0, (⟨"jdk/internal/util/ArraysSupport", "mismatch", "([BI[BII)I"⟩ : MethodName))], [])
def dec_9_0 (pc : Nat) : Option (Instr × Nat × Nat) := bif Nat.ble pc 5 then (bif Nat.ble pc 1 then (bif Nat.ble pc 0 then (bif Nat.beq pc 0 then some (.iload_n 1, 1, 0) else none) else (bif Nat.beq pc 1 then some (.iload_n 2, 2, 0) else none)) else (bif Nat.ble pc 2 then (bif Nat.beq pc 2 then some (.if_icmp .le 44, 5, 46) else none) else (bif Nat.beq pc 5 then some (.new 43, 8, 0) else none))) else (bif Nat.ble pc 9 then (bif Nat.ble pc 8 then (bif Nat.beq pc 8 then some (.dup, 9, 0) else none) else (bif Nat.beq pc 9 then some (.new 45, 12, 0) else none)) else (bif Nat.ble pc 12 then (bif Nat.beq pc 12 then some (.dup, 13, 0) else none) else (bif Nat.beq pc 13 then some (.invokespecial 47, 16, 0) else none)))
def dec_9_1 (pc : Nat) : Option (Instr × Nat × Nat) := bif Nat.ble pc 22 then (bif Nat.ble pc 18 then (bif Nat.ble pc 16 then (bif Nat.beq pc 16 then some (.ldc 48, 18, 0) else none) else (bif Nat.beq pc 18 then some (.invokevirtual 50, 21, 0) else none)) else (bif Nat.ble pc 21 then (bif Nat.beq pc 21 then some (.iload_n 1, 22, 0) else none) else (bif Nat.beq pc 22 then some (.invokevirtual 54, 25, 0) else none))) else (bif Nat.ble pc 27 then (bif Nat.ble pc 25 then (bif Nat.beq pc 25 then some (.ldc 57, 27, 0) else none) else (bif Nat.beq pc 27 then some (.invokevirtual 50, 30, 0) else none)) else (bif Nat.ble pc 30 then (bif Nat.beq pc 30 then some (.iload_n 2, 31, 0) else none) else (bif Nat.beq pc 31 then some (.invokevirtual 54, 34, 0) else none)))
def dec_9_2 (pc : Nat) : Option (Instr × Nat × Nat) := bif Nat.ble pc 42 then (bif Nat.ble pc 36 then (bif Nat.ble pc 34 then (bif Nat.beq pc 34 then some (.ldc 59, 36, 0) else none) else (bif Nat.beq pc 36 then some (.invokevirtual 50, 39, 0) else none)) else (bif Nat.ble pc 39 then (bif Nat.beq pc 39 then some (.invokevirtual 61, 42, 0) else none) else (bif Nat.beq pc 42 then some (.invokespecial 65, 45, 0) else none))) else (bif Nat.ble pc 47 then (bif Nat.ble pc 46 then (bif Nat.beq pc 46 then some (.iload_n 1, 47, 0) else none) else (bif Nat.beq pc 47 then some (.ifCond .ge 12, 50, 59) else none)) else (bif Nat.ble pc 50 then (bif Nat.beq pc 50 then some (.new 68, 53, 0) else none) else (bif Nat.beq pc 53 then some (.dup, 54, 0) else none)))
def dec_9_3 (pc : Nat) : Option (Instr × Nat × Nat) := bif Nat.ble pc 60 then (bif Nat.ble pc 55 then (bif Nat.ble pc 54 then (bif Nat.beq pc 54 then some (.iload_n 1, 55, 0) else none) else (bif Nat.beq pc 55 then some (.invokespecial 70, 58, 0) else none)) else (bif Nat.ble pc 59 then (bif Nat.beq pc 59 then some (.iload_n 2, 60, 0) else none) else (bif Nat.beq pc 60 then some (.iload_n 0, 61, 0) else none))) else (bif Nat.ble pc 64 then (bif Nat.ble pc 61 then (bif Nat.beq pc 61 then some (.if_icmp .le 12, 64, 73) else none) else (bif Nat.beq pc 64 then some (.new 68, 67, 0) else none)) else (bif Nat.ble pc 67 then (bif Nat.beq pc 67 then some (.dup, 68, 0) else none) else (bif Nat.beq pc 68 then some (.iload_n 2, 69, 0) else none)))
def dec_9_4 (pc : Nat) : Option (Instr × Nat × Nat) := bif Nat.ble pc 69 then (bif Nat.beq pc 69 then some (.invokespecial 70, 72, 0) else none) else (bif Nat.beq pc 73 then some (.return_, 74, 0) else none)
def dec_9 (pc : Nat) : Option (Instr × Nat × Nat) := bif Nat.ble pc 31 then (bif Nat.ble pc 13 then (dec_9_0 pc) else (dec_9_1 pc)) else (bif Nat.ble pc 53 then (dec_9_2 pc) else (bif Nat.ble pc 68 then (dec_9_3 pc) else (dec_9_4 pc)))
def m_9 : RI.Mth := ((⟨"java/util/Arrays", "rangeCheck", "(III)V"⟩ : MethodName), jdk_65_method_30_code, 3, none, 3, 74, dec_9, [], [], [], [], [])
def dec_10_0 (pc : Nat) : Option (Instr × Nat × Nat) := bif Nat.ble pc 5 then (bif Nat.ble pc 1 then (bif Nat.ble pc 0 then (bif Nat.beq pc 0 then some (.iconst 0, 1, 0) else none) else (bif Nat.beq pc 1 then some (.istore 5, 3, 0) else none)) else (bif Nat.ble pc 3 then (bif Nat.beq pc 3 then some (.iload 4, 5, 0) else none) else (bif Nat.beq pc 5 then some (.bipush 7, 7, 0) else none))) else (bif Nat.ble pc 10 then (bif Nat.ble pc 7 then (bif Nat.beq pc 7 then some (.if_icmp .le 63, 10, 70) else none) else (bif Nat.beq pc 10 then some (.aload_n 0, 11, 0) else none)) else (bif Nat.ble pc 11 then (bif Nat.beq pc 11 then some (.iload_n 1, 12, 0) else none) else (bif Nat.beq pc 12 then some (.baload, 13, 0) else none)))
def dec_10_1 (pc : Nat) : Option (Instr × Nat × Nat) := bif Nat.ble pc 16 then (bif Nat.ble pc 14 then (bif Nat.ble pc 13 then (bif Nat.beq pc 13 then some (.aload_n 2, 14, 0) else none) else (bif Nat.beq pc 14 then some (.iload_n 3, 15, 0) else none)) else (bif Nat.ble pc 15 then (bif Nat.beq pc 15 then some (.baload, 16, 0) else none) else (bif Nat.beq pc 16 then some (.if_icmp .eq 5, 19, 21) else none))) else (bif Nat.ble pc 20 then (bif Nat.ble pc 19 then (bif Nat.beq pc 19 then some (.iconst 0, 20, 0) else none) else (bif Nat.beq pc 20 then some (.ireturn, 21, 0) else none)) else (bif Nat.ble pc 21 then (bif Nat.beq pc 21 then some (.getstatic 126, 24, 0) else none) else (bif Nat.beq pc 24 then some (.iload_n 1, 25, 0) else none)))
def dec_10_2 (pc : Nat) : Option (Instr × Nat × Nat) := bif Nat.ble pc 31 then (bif Nat.ble pc 26 then (bif Nat.ble pc 25 then (bif Nat.beq pc 25 then some (.iadd, 26, 0) else none) else (bif Nat.beq pc 26 then some (.istore 6, 28, 0) else none)) else (bif Nat.ble pc 28 then (bif Nat.beq pc 28 then some (.getstatic 126, 31, 0) else none) else (bif Nat.beq pc 31 then some (.iload_n 3, 32, 0) else none))) else (bif Nat.ble pc 33 then (bif Nat.ble pc 32 then (bif Nat.beq pc 32 then some (.iadd, 33, 0) else none) else (bif Nat.beq pc 33 then some (.istore 7, 35, 0) else none)) else (bif Nat.ble pc 35 then (bif Nat.beq pc 35 then some (.aload_n 0, 36, 0) else none) else (bif Nat.beq pc 36 then some (.iload 6, 38, 0) else none)))
def dec_10_3 (pc : Nat) : Option (Instr × Nat × Nat) := bif Nat.ble pc 42 then (bif Nat.ble pc 39 then (bif Nat.ble pc 38 then (bif Nat.beq pc 38 then some (.i2l, 39, 0) else none) else (bif Nat.beq pc 39 then some (.aload_n 2, 40, 0) else none)) else (bif Nat.ble pc 40 then (bif Nat.beq pc 40 then some (.iload 7, 42, 0) else none) else (bif Nat.beq pc 42 then some (.i2l, 43, 0) else none))) else (bif Nat.ble pc 45 then (bif Nat.ble pc 43 then (bif Nat.beq pc 43 then some (.iload 4, 45, 0) else none) else (bif Nat.beq pc 45 then some (.getstatic 129, 48, 0) else none)) else (bif Nat.ble pc 48 then (bif Nat.beq pc 48 then some (.invokestatic 122, 51, 0) else none) else (bif Nat.beq pc 51 then some (.istore 5, 53, 0) else none)))
def dec_10_4 (pc : Nat) : Option (Instr × Nat × Nat) := bif Nat.ble pc 60 then (bif Nat.ble pc 55 then (bif Nat.ble pc 53 then (bif Nat.beq pc 53 then some (.iload 5, 55, 0) else none) else (bif Nat.beq pc 55 then some (.ifCond .lt 6, 58, 61) else none)) else (bif Nat.ble pc 58 then (bif Nat.beq pc 58 then some (.iload 5, 60, 0) else none) else (bif Nat.beq pc 60 then some (.ireturn, 61, 0) else none))) else (bif Nat.ble pc 63 then (bif Nat.ble pc 61 then (bif Nat.beq pc 61 then some (.iload 4, 63, 0) else none) else (bif Nat.beq pc 63 then some (.iload 5, 65, 0) else none)) else (bif Nat.ble pc 65 then (bif Nat.beq pc 65 then some (.iconst (-1), 66, 0) else none) else (bif Nat.beq pc 66 then some (.ixor, 67, 0) else none)))
def dec_10_5 (pc : Nat) : Option (Instr × Nat × Nat) := bif Nat.ble pc 72 then (bif Nat.ble pc 68 then (bif Nat.ble pc 67 then (bif Nat.beq pc 67 then some (.isub, 68, 0) else none) else (bif Nat.beq pc 68 then some (.istore 5, 70, 0) else none)) else (bif Nat.ble pc 70 then (bif Nat.beq pc 70 then some (.iload 5, 72, 0) else none) else (bif Nat.beq pc 72 then some (.iload 4, 74, 0) else none))) else (bif Nat.ble pc 77 then (bif Nat.ble pc 74 then (bif Nat.beq pc 74 then some (.if_icmp .ge 27, 77, 101) else none) else (bif Nat.beq pc 77 then some (.aload_n 0, 78, 0) else none)) else (bif Nat.ble pc 78 then (bif Nat.beq pc 78 then some (.iload_n 1, 79, 0) else none) else (bif Nat.beq pc 79 then some (.iload 5, 81, 0) else none)))
def dec_10_6 (pc : Nat) : Option (Instr × Nat × Nat) := bif Nat.ble pc 84 then (bif Nat.ble pc 82 then (bif Nat.ble pc 81 then (bif Nat.beq pc 81 then some (.iadd, 82, 0) else none) else (bif Nat.beq pc 82 then some (.baload, 83, 0) else none)) else (bif Nat.ble pc 83 then (bif Nat.beq pc 83 then some (.aload_n 2, 84, 0) else none) else (bif Nat.beq pc 84 then some (.iload_n 3, 85, 0) else none))) else (bif Nat.ble pc 87 then (bif Nat.ble pc 85 then (bif Nat.beq pc 85 then some (.iload 5, 87, 0) else none) else (bif Nat.beq pc 87 then some (.iadd, 88, 0) else none)) else (bif Nat.ble pc 88 then (bif Nat.beq pc 88 then some (.baload, 89, 0) else none) else (bif Nat.beq pc 89 then some (.if_icmp .eq 6, 92, 95) else none)))
def dec_10_7 (pc : Nat) : Option (Instr × Nat × Nat) := bif Nat.ble pc 95 then (bif Nat.ble pc 92 then (bif Nat.beq pc 92 then some (.iload 5, 94, 0) else none) else (bif Nat.ble pc 94 then (bif Nat.beq pc 94 then some (.ireturn, 95, 0) else none) else (bif Nat.beq pc 95 then some (.iinc 5 1, 98, 0) else none))) else (bif Nat.ble pc 98 then (bif Nat.beq pc 98 then some (.goto (-28), 101, 70) else none) else (bif Nat.ble pc 101 then (bif Nat.beq pc 101 then some (.iconst (-1), 102, 0) else none) else (bif Nat.beq pc 102 then some (.ireturn, 103, 0) else none)))
def dec_10 (pc : Nat) : Option (Instr × Nat × Nat) := bif Nat.ble pc 51 then (bif Nat.ble pc 24 then (bif Nat.ble pc 12 then (dec_10_0 pc) else (dec_10_1 pc)) else (bif Nat.ble pc 36 then (dec_10_2 pc) else (dec_10_3 pc))) else (bif Nat.ble pc 79 then (bif Nat.ble pc 66 then (dec_10_4 pc) else (dec_10_5 pc)) else (bif Nat.ble pc 89 then (dec_10_6 pc) else (dec_10_7 pc)))
def m_10 : RI.Mth := ((⟨"jdk/internal/util/ArraysSupport", "mismatch", "([BI[BII)I"⟩ : MethodName), jdk_48_method_14_code, 8, (some .int), 5, 103, dec_10, [], [], [], [], [])
def WW : RI.Wld := ([m_0, m_1, m_2, m_3, m_4, m_5, m_6, m_7, m_8, m_9, m_10], [("com/example/nymtrace/nymtrace/io/ByteKey", 4, [("com/example/nymtrace/nymtrace/io/ByteKey", "bytes", "[B", (.array .byte), false), ("com/example/nymtrace/nymtrace/io/ByteKey", "from", "I", .int, false), ("com/example/nymtrace/nymtrace/io/ByteKey", "to", "I", .int, false), ("com/example/nymtrace/nymtrace/io/ByteKey", "hash", "I", .int, false)])])
def tab1 : List Jvm.Cond := Jvm.Cond.code x code maxLocals ret :: tables_1
set_option maxRecDepth 65536 in
theorem wok_1 : RI.wok WW tab1 = true := by decide +kernel
theorem no6_1 : (WW.1.all fun M => (RI.mMl M).all fun q => !Nat.beq q.2.1 6) = true := by decide +kernel
theorem pl_0 : plainFor (RI.mNm m_0) = true := plainFor_of_name (by first | (simp [RI.mNm, m_0, x, plainName, overriddenIn]; done) | decide +kernel)
theorem pl_1 : plainFor (RI.mNm m_1) = true := plainFor_of_name (by first | (simp [RI.mNm, m_1, x, plainName, overriddenIn]; done) | decide +kernel)
theorem pl_2 : plainFor (RI.mNm m_2) = true := plainFor_of_name (by first | (simp [RI.mNm, m_2, x, plainName, overriddenIn]; done) | decide +kernel)
theorem pl_3 : plainFor (RI.mNm m_3) = true := plainFor_of_name (by first | (simp [RI.mNm, m_3, x, plainName, overriddenIn]; done) | decide +kernel)
theorem pl_4 : plainFor (RI.mNm m_4) = true := plainFor_of_name (by first | (simp [RI.mNm, m_4, x, plainName, overriddenIn]; done) | decide +kernel)
theorem pl_5 : plainFor (RI.mNm m_5) = true := plainFor_of_name (by first | (simp [RI.mNm, m_5, x, plainName, overriddenIn]; done) | decide +kernel)
theorem pl_6 : plainFor (RI.mNm m_6) = true := plainFor_of_name (by first | (simp [RI.mNm, m_6, x, plainName, overriddenIn]; done) | decide +kernel)
theorem pl_7 : plainFor (RI.mNm m_7) = true := plainFor_of_name (by first | (simp [RI.mNm, m_7, x, plainName, overriddenIn]; done) | decide +kernel)
theorem pl_8 : plainFor (RI.mNm m_8) = true := plainFor_of_name (by first | (simp [RI.mNm, m_8, x, plainName, overriddenIn]; done) | decide +kernel)
theorem pl_9 : plainFor (RI.mNm m_9) = true := plainFor_of_name (by first | (simp [RI.mNm, m_9, x, plainName, overriddenIn]; done) | decide +kernel)
theorem pl_10 : plainFor (RI.mNm m_10) = true := plainFor_of_name (by first | (simp [RI.mNm, m_10, x, plainName, overriddenIn]; done) | decide +kernel)
theorem plain_1 : ∀ M ∈ WW.1, plainFor (RI.mNm M) = true := by
  intro M hM
  simp only [WW, List.mem_cons, List.not_mem_nil, or_false] at hM
  rcases hM with rfl | rfl | rfl | rfl | rfl | rfl | rfl | rfl | rfl | rfl | rfl
  · exact pl_0
  · exact pl_1
  · exact pl_2
  · exact pl_3
  · exact pl_4
  · exact pl_5
  · exact pl_6
  · exact pl_7
  · exact pl_8
  · exact pl_9
  · exact pl_10
/-! arrays as functions; small ints as naturals -/
def own_rk (f : Nat → Int32) (n : Nat) : List Value := (List.range n).map fun i => .int (f i)
theorem own_rk_len (f : Nat → Int32) (n : Nat) : (own_rk f n).length = n := by simp [own_rk]
theorem own_rk_get (f : Nat → Int32) {n j : Nat} (h : j < n) : (own_rk f n)[j]? = some (.int (f j)) := by simp [own_rk, h]
theorem own_rk_set (f : Nat → Int32) (n j : Nat) (v : Int32) : (own_rk f n).set j (.int v) = own_rk (fun i => if i = j then v else f i) n := by
  apply List.ext_getElem?
  intro i
  by_cases e : j = i
  · subst e
    by_cases h : j < n
    · rw [List.getElem?_set_self (by rw [own_rk_len]; exact h), own_rk_get _ h, if_pos rfl]
    · rw [List.getElem?_eq_none (by simp [own_rk_len]; omega), List.getElem?_eq_none (by simp [own_rk_len]; omega)]
  · rw [List.getElem?_set_ne e]
    by_cases h : i < n
    · rw [own_rk_get _ h, own_rk_get _ h, if_neg (Ne.symm e)]
    · rw [List.getElem?_eq_none (by simp [own_rk_len]; omega), List.getElem?_eq_none (by simp [own_rk_len]; omega)]
theorem own_rk_congr {f g : Nat → Int32} {n : Nat} (h : ∀ i, i < n → f i = g i) : own_rk f n = own_rk g n := by
  apply List.map_congr_left
  intro i hi
  rw [h i (List.mem_range.mp hi)]
theorem own_tn {a : Nat} (h : a < 2 ^ 31) : (Int32.ofNat a).toNatClampNeg = a := by
  rw [Int32.toNatClampNeg, RI.ofNat_toInt a h]; rfl
theorem own_lt {a b : Nat} (ha : a < 2 ^ 31) (hb : b < 2 ^ 31) : Int32.ofNat a < Int32.ofNat b ↔ a < b := by
  rw [Int32.lt_iff_toInt_lt, RI.ofNat_toInt a ha, RI.ofNat_toInt b hb]; omega
theorem own_nn {a : Nat} (h : a < 2 ^ 31) : ¬ Int32.ofNat a < 0 := by
  rw [Int32.lt_iff_toInt_lt, RI.ofNat_toInt a h]
  have : (0 : Int32).toInt = 0 := rfl
  omega
theorem own_inj {a b : Nat} (ha : a < 2 ^ 31) (hb : b < 2 ^ 31) : Int32.ofNat a = Int32.ofNat b ↔ a = b := by
  constructor
  · intro h
    have := congrArg Int32.toInt h
    rw [RI.ofNat_toInt a ha, RI.ofNat_toInt b hb] at this
    omega
  · rintro rfl; rfl
theorem own_succ {a : Nat} (h : a + 1 < 2 ^ 31) : Int32.ofNat a + 1 = Int32.ofNat (a + 1) := by
  apply Int32.toInt_inj.mp
  rw [XT.add32 (by rw [RI.ofNat_toInt a (by omega)]; have : (1 : Int32).toInt = 1 := rfl; constructor <;> omega), RI.ofNat_toInt a (by omega), RI.ofNat_toInt (a + 1) h]
  have : (1 : Int32).toInt = 1 := rfl
  omega
theorem own_add (a b : Nat) : Int32.ofNat a + Int32.ofNat b = Int32.ofNat (a + b) := (Int32.ofNat_add a b).symm
theorem own_sub {a b : Nat} (h : b ≤ a) (ha : a < 2 ^ 31) : Int32.ofNat a - Int32.ofNat b = Int32.ofNat (a - b) := by
  apply Int32.toInt_inj.mp
  rw [XT.sub32 (by rw [RI.ofNat_toInt a ha, RI.ofNat_toInt b (by omega)]; constructor <;> omega), RI.ofNat_toInt a ha, RI.ofNat_toInt b (by omega), RI.ofNat_toInt (a - b) (by omega)]
  omega
theorem own_of_ne {x y : Int32} (h : if_icmp.holds .ne x y = true) : ¬ x = y := fun e => by rw [XT.ii_ne_f e] at h; cases h
def own_hash (g : Nat → Int32) : Nat → Nat → Int32 → Int32
  | _, 0, s => s
  | i, k + 1, s => own_hash g (i + 1) k (31 * s + g i)
theorem own_set_loop {F B : Nat} {ah : RI.AH} {o r : Nat} {f : Int32} {g : Nat → Int32} {n t : Nat} {res : Option Value × RI.AH} (hn : n < 2 ^ 30) (ht : t ≤ n) (ho : ah[r]? = some (.inr (.byte, own_rk g n))) : ∀ (d i : Nat) (s : Int32), i + d = t →
    RI.Ev WW F B m_2 45 [.val (.ref o), .val (.ref r), .val (.int f), .val (.int (Int32.ofNat t)), .val (.int (own_hash g i d s)), .val (.int (Int32.ofNat t))] [] ah res → RI.Ev WW F B m_2 21 [.val (.ref o), .val (.ref r), .val (.int f), .val (.int (Int32.ofNat t)), .val (.int s), .val (.int (Int32.ofNat i))] [] ah res := by
  intro d
  induction d with
  | zero =>
    intro i s hi hr
    have e : i = t := by omega
    subst e
    refine RI.Ev.go 2 rfl ?_
    refine RI.Ev.icmp rfl (fun q => hr) (fun q => absurd (q.symm.trans (XT.ii_ge_t (fun z => by rw [own_lt (by omega) (by omega)] at z; omega))) (by decide))
  | succ d ih =>
    intro i s hi hr
    refine RI.Ev.go 2 rfl ?_
    refine RI.Ev.icmp rfl (fun q => absurd (q.symm.trans (XT.ii_ge_f ((own_lt (by omega) (by omega)).mpr (by omega)))) (by decide)) (fun q => ?_)
    refine RI.Ev.go 5 rfl ?_
    refine RI.Ev.baloadS rfl ho (own_nn (by omega)) (by rw [own_tn (by omega)]; exact own_rk_get g (by omega)) ?_
    refine RI.Ev.go 2 rfl ?_
    try dsimp only [List.set, RI.fv0, RI.fv1, RI.fv2, RI.fv3, RI.tn0, RI.tn1, RI.tn2, RI.tn3, RI.tn4, RI.tn5, Nat.reduceAdd, List.cons_append, List.nil_append, Option.toList]
    refine RI.Ev.go 1 rfl ?_
    try dsimp only [List.set, RI.fv0, RI.fv1, RI.fv2, RI.fv3, RI.tn0, RI.tn1, RI.tn2, RI.tn3, RI.tn4, RI.tn5, Nat.reduceAdd, List.cons_append, List.nil_append, Option.toList]
    rw [show Int32.ofNat i + Int32.ofInt 1 = Int32.ofNat (i + 1) from own_succ (by omega)]
    refine RI.Ev.go 1 rfl ?_
    exact ih (i + 1) _ (by omega) hr
theorem own_set3 {F B : Nat} (A1 A2 : RI.AObj) (u0 u1 u2 u3 : Value) (g : Nat → Int32) (n f t : Nat) (hn : n < 2 ^ 30) (hf : f ≤ t) (ht : t ≤ n) : RI.Ev WW F B m_2 0 (RI.ent [.ref 3, .ref 0, .int (Int32.ofNat f), .int (Int32.ofNat t)] 6) [] [.inr (.byte, own_rk g n), A1, A2, .inl (0, [u0, u1, u2, u3])] (some (.ref 3), [.inr (.byte, own_rk g n), A1, A2, .inl (0, [.ref 0, .int (Int32.ofNat f), .int (Int32.ofNat t), .int (own_hash g f (t - f) 0)])]) := by
  rw [show RI.ent [.ref 3, .ref 0, .int (Int32.ofNat f), .int (Int32.ofNat t)] 6 = [.val (.ref 3), .val (.ref 0), .val (.int (Int32.ofNat f)), .val (.int (Int32.ofNat t)), .unset, .unset] from rfl]
  refine RI.Ev.go 3 rfl ?_
  try dsimp only [List.set, RI.fv0, RI.fv1, RI.fv2, RI.fv3, RI.tn0, RI.tn1, RI.tn2, RI.tn3, RI.tn4, RI.tn5, Nat.reduceAdd, List.cons_append, List.nil_append, Option.toList]
  refine RI.Ev.go 3 rfl ?_
  try dsimp only [List.set, RI.fv0, RI.fv1, RI.fv2, RI.fv3, RI.tn0, RI.tn1, RI.tn2, RI.tn3, RI.tn4, RI.tn5, Nat.reduceAdd, List.cons_append, List.nil_append, Option.toList]
  refine RI.Ev.go 3 rfl ?_
  try dsimp only [List.set, RI.fv0, RI.fv1, RI.fv2, RI.fv3, RI.tn0, RI.tn1, RI.tn2, RI.tn3, RI.tn4, RI.tn5, Nat.reduceAdd, List.cons_append, List.nil_append, Option.toList]
  refine RI.Ev.go 2 rfl ?_
  try dsimp only [List.set, RI.fv0, RI.fv1, RI.fv2, RI.fv3, RI.tn0, RI.tn1, RI.tn2, RI.tn3, RI.tn4, RI.tn5, Nat.reduceAdd, List.cons_append, List.nil_append, Option.toList]
  refine RI.Ev.go 2 rfl ?_
  try dsimp only [List.set, RI.fv0, RI.fv1, RI.fv2, RI.fv3, RI.tn0, RI.tn1, RI.tn2, RI.tn3, RI.tn4, RI.tn5, Nat.reduceAdd, List.cons_append, List.nil_append, Option.toList]
  refine own_set_loop hn ht rfl (t - f) f _ (by omega) ?_
  refine RI.Ev.go 3 rfl ?_
  try dsimp only [List.set, RI.fv0, RI.fv1, RI.fv2, RI.fv3, RI.tn0, RI.tn1, RI.tn2, RI.tn3, RI.tn4, RI.tn5, Nat.reduceAdd, List.cons_append, List.nil_append, Option.toList]
  refine RI.Ev.go 1 rfl ?_
  exact RI.Ev.ret rfl rfl rfl rfl
theorem own_set4 {F B : Nat} (A0 A2 A3 : RI.AObj) (u0 u1 u2 u3 : Value) (g : Nat → Int32) (n f t : Nat) (hn : n < 2 ^ 30) (hf : f ≤ t) (ht : t ≤ n) : RI.Ev WW F B m_2 0 (RI.ent [.ref 4, .ref 1, .int (Int32.ofNat f), .int (Int32.ofNat t)] 6) [] [A0, .inr (.byte, own_rk g n), A2, A3, .inl (0, [u0, u1, u2, u3])] (some (.ref 4), [A0, .inr (.byte, own_rk g n), A2, A3, .inl (0, [.ref 1, .int (Int32.ofNat f), .int (Int32.ofNat t), .int (own_hash g f (t - f) 0)])]) := by
  rw [show RI.ent [.ref 4, .ref 1, .int (Int32.ofNat f), .int (Int32.ofNat t)] 6 = [.val (.ref 4), .val (.ref 1), .val (.int (Int32.ofNat f)), .val (.int (Int32.ofNat t)), .unset, .unset] from rfl]
  refine RI.Ev.go 3 rfl ?_
  try dsimp only [List.set, RI.fv0, RI.fv1, RI.fv2, RI.fv3, RI.tn0, RI.tn1, RI.tn2, RI.tn3, RI.tn4, RI.tn5, Nat.reduceAdd, List.cons_append, List.nil_append, Option.toList]
  refine RI.Ev.go 3 rfl ?_
  try dsimp only [List.set, RI.fv0, RI.fv1, RI.fv2, RI.fv3, RI.tn0, RI.tn1, RI.tn2, RI.tn3, RI.tn4, RI.tn5, Nat.reduceAdd, List.cons_append, List.nil_append, Option.toList]
  refine RI.Ev.go 3 rfl ?_
  try dsimp only [List.set, RI.fv0, RI.fv1, RI.fv2, RI.fv3, RI.tn0, RI.tn1, RI.tn2, RI.tn3, RI.tn4, RI.tn5, Nat.reduceAdd, List.cons_append, List.nil_append, Option.toList]
  refine RI.Ev.go 2 rfl ?_
  try dsimp only [List.set, RI.fv0, RI.fv1, RI.fv2, RI.fv3, RI.tn0, RI.tn1, RI.tn2, RI.tn3, RI.tn4, RI.tn5, Nat.reduceAdd, List.cons_append, List.nil_append, Option.toList]
  refine RI.Ev.go 2 rfl ?_
  try dsimp only [List.set, RI.fv0, RI.fv1, RI.fv2, RI.fv3, RI.tn0, RI.tn1, RI.tn2, RI.tn3, RI.tn4, RI.tn5, Nat.reduceAdd, List.cons_append, List.nil_append, Option.toList]
  refine own_set_loop hn ht rfl (t - f) f _ (by omega) ?_
  refine RI.Ev.go 3 rfl ?_
  try dsimp only [List.set, RI.fv0, RI.fv1, RI.fv2, RI.fv3, RI.tn0, RI.tn1, RI.tn2, RI.tn3, RI.tn4, RI.tn5, Nat.reduceAdd, List.cons_append, List.nil_append, Option.toList]
  refine RI.Ev.go 1 rfl ?_
  exact RI.Ev.ret rfl rfl rfl rfl
theorem own_set5 {F B : Nat} (A0 A1 A3 A4 : RI.AObj) (u0 u1 u2 u3 : Value) (g : Nat → Int32) (n f t : Nat) (hn : n < 2 ^ 30) (hf : f ≤ t) (ht : t ≤ n) : RI.Ev WW F B m_2 0 (RI.ent [.ref 5, .ref 2, .int (Int32.ofNat f), .int (Int32.ofNat t)] 6) [] [A0, A1, .inr (.byte, own_rk g n), A3, A4, .inl (0, [u0, u1, u2, u3])] (some (.ref 5), [A0, A1, .inr (.byte, own_rk g n), A3, A4, .inl (0, [.ref 2, .int (Int32.ofNat f), .int (Int32.ofNat t), .int (own_hash g f (t - f) 0)])]) := by
  rw [show RI.ent [.ref 5, .ref 2, .int (Int32.ofNat f), .int (Int32.ofNat t)] 6 = [.val (.ref 5), .val (.ref 2), .val (.int (Int32.ofNat f)), .val (.int (Int32.ofNat t)), .unset, .unset] from rfl]
  refine RI.Ev.go 3 rfl ?_
  try dsimp only [List.set, RI.fv0, RI.fv1, RI.fv2, RI.fv3, RI.tn0, RI.tn1, RI.tn2, RI.tn3, RI.tn4, RI.tn5, Nat.reduceAdd, List.cons_append, List.nil_append, Option.toList]
  refine RI.Ev.go 3 rfl ?_
  try dsimp only [List.set, RI.fv0, RI.fv1, RI.fv2, RI.fv3, RI.tn0, RI.tn1, RI.tn2, RI.tn3, RI.tn4, RI.tn5, Nat.reduceAdd, List.cons_append, List.nil_append, Option.toList]
  refine RI.Ev.go 3 rfl ?_
  try dsimp only [List.set, RI.fv0, RI.fv1, RI.fv2, RI.fv3, RI.tn0, RI.tn1, RI.tn2, RI.tn3, RI.tn4, RI.tn5, Nat.reduceAdd, List.cons_append, List.nil_append, Option.toList]
  refine RI.Ev.go 2 rfl ?_
  try dsimp only [List.set, RI.fv0, RI.fv1, RI.fv2, RI.fv3, RI.tn0, RI.tn1, RI.tn2, RI.tn3, RI.tn4, RI.tn5, Nat.reduceAdd, List.cons_append, List.nil_append, Option.toList]
  refine RI.Ev.go 2 rfl ?_
  try dsimp only [List.set, RI.fv0, RI.fv1, RI.fv2, RI.fv3, RI.tn0, RI.tn1, RI.tn2, RI.tn3, RI.tn4, RI.tn5, Nat.reduceAdd, List.cons_append, List.nil_append, Option.toList]
  refine own_set_loop hn ht rfl (t - f) f _ (by omega) ?_
  refine RI.Ev.go 3 rfl ?_
  try dsimp only [List.set, RI.fv0, RI.fv1, RI.fv2, RI.fv3, RI.tn0, RI.tn1, RI.tn2, RI.tn3, RI.tn4, RI.tn5, Nat.reduceAdd, List.cons_append, List.nil_append, Option.toList]
  refine RI.Ev.go 1 rfl ?_
  exact RI.Ev.ret rfl rfl rfl rfl
def own_pw (e : Nat) : Int32 := match e with | 0 => 1 | 1 => 31 | 2 => 961 | _ => 29791
theorem own_ev_pw (F B : Nat) (ah : RI.AH) (e : Nat) (he : e < 4) : RI.Ev WW F B m_6 0 (RI.ent [.int (Int32.ofNat e)] 1) [] ah (some (.int (own_pw e)), ah) := by
  have : e = 0 ∨ e = 1 ∨ e = 2 ∨ e = 3 := by omega
  rcases this with rfl | rfl | rfl | rfl
  · refine RI.Ev.go 1 rfl ?_
    refine RI.Ev.cond rfl (fun q => absurd q (by decide)) (fun q => ?_)
    refine RI.Ev.go 1 rfl ?_
    exact RI.Ev.ret rfl rfl rfl rfl
  · refine RI.Ev.go 1 rfl ?_
    refine RI.Ev.cond rfl (fun q => ?_) (fun q => absurd q (by decide))
    refine RI.Ev.go 2 rfl ?_
    refine RI.Ev.icmp rfl (fun q => absurd q (by decide)) (fun q => ?_)
    refine RI.Ev.go 1 rfl ?_
    exact RI.Ev.ret rfl rfl rfl rfl
  · refine RI.Ev.go 1 rfl ?_
    refine RI.Ev.cond rfl (fun q => ?_) (fun q => absurd q (by decide))
    refine RI.Ev.go 2 rfl ?_
    refine RI.Ev.icmp rfl (fun q => ?_) (fun q => absurd q (by decide))
    refine RI.Ev.go 2 rfl ?_
    refine RI.Ev.icmp rfl (fun q => absurd q (by decide)) (fun q => ?_)
    refine RI.Ev.go 1 rfl ?_
    exact RI.Ev.ret rfl rfl rfl rfl
  · refine RI.Ev.go 1 rfl ?_
    refine RI.Ev.cond rfl (fun q => ?_) (fun q => absurd q (by decide))
    refine RI.Ev.go 2 rfl ?_
    refine RI.Ev.icmp rfl (fun q => ?_) (fun q => absurd q (by decide))
    refine RI.Ev.go 2 rfl ?_
    refine RI.Ev.icmp rfl (fun q => ?_) (fun q => absurd q (by decide))
    refine RI.Ev.go 1 rfl ?_
    exact RI.Ev.ret rfl rfl rfl rfl
def own_term (g : Nat → Int32) (f k len : Nat) : Int32 := if k < len then g (f + k) * own_pw (len - 1 - k) else 0
theorem own_ev_term130 (ah : RI.AH) (g : Nat → Int32) (f k len : Nat) (ho : ah[0]? = some (.inr (.byte, own_rk g 4))) (hl : f + len ≤ 4) (hk : k < 4) : RI.Ev WW 4 130 m_5 0 (RI.ent [.ref 0, .int (Int32.ofNat f), .int (Int32.ofNat k), .int (Int32.ofNat len)] 4) [] ah (some (.int (own_term g f k len)), ah) := by
  rw [show RI.ent [.ref 0, .int (Int32.ofNat f), .int (Int32.ofNat k), .int (Int32.ofNat len)] 4 = [.val (.ref 0), .val (.int (Int32.ofNat f)), .val (.int (Int32.ofNat k)), .val (.int (Int32.ofNat len))] from rfl]
  unfold own_term
  refine RI.Ev.go 2 rfl ?_
  by_cases h : k < len
  · rw [if_pos h]
    refine RI.Ev.icmp rfl (fun q => ?_) (fun q => absurd (q.symm.trans (XT.ii_lt_t ((own_lt (by omega) (by omega)).mpr h))) (by decide))
    refine RI.Ev.go 4 rfl ?_
    rw [own_add]
    refine RI.Ev.baloadS rfl ho (own_nn (by omega)) (by rw [own_tn (by omega)]; exact own_rk_get g (by omega)) ?_
    refine RI.Ev.go 5 rfl ?_
    rw [show Int32.ofNat len - Int32.ofInt 1 - Int32.ofNat k = Int32.ofNat (len - 1 - k) by rw [show Int32.ofInt 1 = Int32.ofNat 1 from rfl, own_sub (by omega) (by omega), own_sub (by omega) (by omega)]]
    refine RI.Ev.call rfl rfl rfl rfl rfl (own_ev_pw _ _ _ (len - 1 - k) (by omega)) ?_
    try dsimp only [List.set, RI.fv0, RI.fv1, RI.fv2, RI.fv3, RI.tn0, RI.tn1, RI.tn2, RI.tn3, RI.tn4, RI.tn5, Nat.reduceAdd, List.cons_append, List.nil_append, Option.toList]
    refine RI.Ev.go 1 rfl ?_
    exact RI.Ev.ret rfl rfl rfl rfl
  · rw [if_neg h]
    refine RI.Ev.icmp rfl (fun q => absurd (q.symm.trans (XT.ii_lt_f (fun z => h ((own_lt (by omega) (by omega)).mp z)))) (by decide)) (fun q => ?_)
    refine RI.Ev.go 1 rfl ?_
    exact RI.Ev.ret rfl rfl rfl rfl
theorem own_ev_term129 (ah : RI.AH) (g : Nat → Int32) (f k len : Nat) (ho : ah[0]? = some (.inr (.byte, own_rk g 4))) (hl : f + len ≤ 4) (hk : k < 4) : RI.Ev WW 4 129 m_5 0 (RI.ent [.ref 0, .int (Int32.ofNat f), .int (Int32.ofNat k), .int (Int32.ofNat len)] 4) [] ah (some (.int (own_term g f k len)), ah) := by
  rw [show RI.ent [.ref 0, .int (Int32.ofNat f), .int (Int32.ofNat k), .int (Int32.ofNat len)] 4 = [.val (.ref 0), .val (.int (Int32.ofNat f)), .val (.int (Int32.ofNat k)), .val (.int (Int32.ofNat len))] from rfl]
  unfold own_term
  refine RI.Ev.go 2 rfl ?_
  by_cases h : k < len
  · rw [if_pos h]
    refine RI.Ev.icmp rfl (fun q => ?_) (fun q => absurd (q.symm.trans (XT.ii_lt_t ((own_lt (by omega) (by omega)).mpr h))) (by decide))
    refine RI.Ev.go 4 rfl ?_
    rw [own_add]
    refine RI.Ev.baloadS rfl ho (own_nn (by omega)) (by rw [own_tn (by omega)]; exact own_rk_get g (by omega)) ?_
    refine RI.Ev.go 5 rfl ?_
    rw [show Int32.ofNat len - Int32.ofInt 1 - Int32.ofNat k = Int32.ofNat (len - 1 - k) by rw [show Int32.ofInt 1 = Int32.ofNat 1 from rfl, own_sub (by omega) (by omega), own_sub (by omega) (by omega)]]
    refine RI.Ev.call rfl rfl rfl rfl rfl (own_ev_pw _ _ _ (len - 1 - k) (by omega)) ?_
    try dsimp only [List.set, RI.fv0, RI.fv1, RI.fv2, RI.fv3, RI.tn0, RI.tn1, RI.tn2, RI.tn3, RI.tn4, RI.tn5, Nat.reduceAdd, List.cons_append, List.nil_append, Option.toList]
    refine RI.Ev.go 1 rfl ?_
    exact RI.Ev.ret rfl rfl rfl rfl
  · rw [if_neg h]
    refine RI.Ev.icmp rfl (fun q => absurd (q.symm.trans (XT.ii_lt_f (fun z => h ((own_lt (by omega) (by omega)).mp z)))) (by decide)) (fun q => ?_)
    refine RI.Ev.go 1 rfl ?_
    exact RI.Ev.ret rfl rfl rfl rfl
theorem own_ev_ref (ah : RI.AH) (g : Nat → Int32) (f len : Nat) (ho : ah[0]? = some (.inr (.byte, own_rk g 4))) (hl : f + len ≤ 4) : RI.Ev WW 5 145 m_4 0 (RI.ent [.ref 0, .int (Int32.ofNat f), .int (Int32.ofNat len)] 3) [] ah (some (.int (own_term g f 0 len + own_term g f 1 len + own_term g f 2 len + own_term g f 3 len)), ah) := by
  refine RI.Ev.go 4 rfl ?_
  refine RI.Ev.call rfl rfl rfl rfl rfl (own_ev_term130 ah g f 0 len ho hl (by decide)) ?_
  try dsimp only [List.set, RI.fv0, RI.fv1, RI.fv2, RI.fv3, RI.tn0, RI.tn1, RI.tn2, RI.tn3, RI.tn4, RI.tn5, Nat.reduceAdd, List.cons_append, List.nil_append, Option.toList]
  refine RI.Ev.go 4 rfl ?_
  refine RI.Ev.call rfl rfl rfl rfl rfl (own_ev_term129 ah g f 1 len ho hl (by decide)) ?_
  try dsimp only [List.set, RI.fv0, RI.fv1, RI.fv2, RI.fv3, RI.tn0, RI.tn1, RI.tn2, RI.tn3, RI.tn4, RI.tn5, Nat.reduceAdd, List.cons_append, List.nil_append, Option.toList]
  refine RI.Ev.go 5 rfl ?_
  refine RI.Ev.call rfl rfl rfl rfl rfl (own_ev_term129 ah g f 2 len ho hl (by decide)) ?_
  try dsimp only [List.set, RI.fv0, RI.fv1, RI.fv2, RI.fv3, RI.tn0, RI.tn1, RI.tn2, RI.tn3, RI.tn4, RI.tn5, Nat.reduceAdd, List.cons_append, List.nil_append, Option.toList]
  refine RI.Ev.go 5 rfl ?_
  refine RI.Ev.call rfl rfl rfl rfl rfl (own_ev_term129 ah g f 3 len ho hl (by decide)) ?_
  try dsimp only [List.set, RI.fv0, RI.fv1, RI.fv2, RI.fv3, RI.tn0, RI.tn1, RI.tn2, RI.tn3, RI.tn4, RI.tn5, Nat.reduceAdd, List.cons_append, List.nil_append, Option.toList]
  refine RI.Ev.go 1 rfl ?_
  exact RI.Ev.ret rfl rfl rfl rfl
theorem own_href (g : Nat → Int32) (f len : Nat) (hl : len ≤ 4) : own_hash g f len 0 = own_term g f 0 len + own_term g f 1 len + own_term g f 2 len + own_term g f 3 len := by
  have : len = 0 ∨ len = 1 ∨ len = 2 ∨ len = 3 ∨ len = 4 := by omega
  rcases this with rfl | rfl | rfl | rfl | rfl
  · rfl
  · simp only [own_hash, own_term, own_pw, Nat.reduceLT, if_true, if_false, Nat.reduceSub, Nat.add_zero]
    generalize g f = a
    simp [own_pw]
  · simp only [own_hash, own_term, Nat.reduceLT, if_true, if_false, Nat.reduceSub, Nat.add_zero]
    generalize g f = a
    generalize g (f + 1) = b
    show 31 * (31 * 0 + a) + b = a * 31 + b * 1 + 0 + 0
    grind
  · simp only [own_hash, own_term, Nat.reduceLT, if_true, if_false, Nat.reduceSub, Nat.add_zero, Nat.add_assoc, Nat.reduceAdd]
    generalize g f = a
    generalize g (f + 1) = b
    generalize g (f + 2) = c
    show 31 * (31 * (31 * 0 + a) + b) + c = a * 961 + b * 31 + c * 1 + 0
    grind
  · simp only [own_hash, own_term, Nat.reduceLT, if_true, if_false, Nat.reduceSub, Nat.add_zero, Nat.add_assoc, Nat.reduceAdd]
    generalize g f = a
    generalize g (f + 1) = b
    generalize g (f + 2) = c
    generalize g (f + 3) = d
    show 31 * (31 * (31 * (31 * 0 + a) + b) + c) + d = a * 29791 + b * 961 + c * 31 + d * 1
    grind
theorem own_ev_rng (F B : Nat) (ah : RI.AH) (n f t : Nat) (hn : n < 2 ^ 30) (hf : f ≤ t) (ht : t ≤ n) : RI.Ev WW F B m_9 0 (RI.ent [.int (Int32.ofNat n), .int (Int32.ofNat f), .int (Int32.ofNat t)] 3) [] ah (none, ah) := by
  refine RI.Ev.go 2 rfl ?_
  refine RI.Ev.icmp rfl (fun q => ?_) (fun q => absurd (q.symm.trans (XT.ii_le_t (fun z => by rw [own_lt (by omega) (by omega)] at z; omega))) (by decide))
  refine RI.Ev.go 1 rfl ?_
  refine RI.Ev.cond rfl (fun q => ?_) (fun q => absurd (q.symm.trans (XT.i0_ge_t (own_nn (by omega)))) (by decide))
  refine RI.Ev.go 2 rfl ?_
  refine RI.Ev.icmp rfl (fun q => ?_) (fun q => absurd (q.symm.trans (XT.ii_le_t (fun z => by rw [own_lt (by omega) (by omega)] at z; omega))) (by decide))
  exact RI.Ev.ret rfl rfl rfl rfl
theorem own_mm_loop {F B : Nat} {ah : RI.AH} {r1 r2 : Nat} {g1 g2 : Nat → Int32} {n1 n2 f1 f2 len : Nat} (hn1 : n1 < 2 ^ 30) (hn2 : n2 < 2 ^ 30) (h1 : f1 + len ≤ n1) (h2 : f2 + len ≤ n2) (ho1 : ah[r1]? = some (.inr (.byte, own_rk g1 n1))) (ho2 : ah[r2]? = some (.inr (.byte, own_rk g2 n2))) {res : Int32} :
    ∀ (d i : Nat), i + d ≤ len → (∀ j, i ≤ j → j < i + d → g1 (f1 + j) = g2 (f2 + j)) → RI.Ev WW F B m_10 70 [.val (.ref r1), .val (.int (Int32.ofNat f1)), .val (.ref r2), .val (.int (Int32.ofNat f2)), .val (.int (Int32.ofNat len)), .val (.int (Int32.ofNat (i + d))), .unset, .unset] [] ah (some (.int res), ah) →
      RI.Ev WW F B m_10 70 [.val (.ref r1), .val (.int (Int32.ofNat f1)), .val (.ref r2), .val (.int (Int32.ofNat f2)), .val (.int (Int32.ofNat len)), .val (.int (Int32.ofNat i)), .unset, .unset] [] ah (some (.int res), ah) := by
  intro d
  induction d with
  | zero => intro i hi hj hr; exact hr
  | succ d ih =>
    intro i hi hj hr
    refine RI.Ev.go 2 rfl ?_
    refine RI.Ev.icmp rfl (fun q => absurd (q.symm.trans (XT.ii_ge_f ((own_lt (by omega) (by omega)).mpr (by omega)))) (by decide)) (fun q => ?_)
    refine RI.Ev.go 4 rfl ?_
    rw [own_add]
    refine RI.Ev.baloadS rfl ho1 (own_nn (by omega)) (by rw [own_tn (by omega)]; exact own_rk_get g1 (by omega)) ?_
    refine RI.Ev.go 4 rfl ?_
    rw [own_add]
    refine RI.Ev.baloadS rfl ho2 (own_nn (by omega)) (by rw [own_tn (by omega)]; exact own_rk_get g2 (by omega)) ?_
    refine RI.Ev.icmp rfl (fun q => ?_) (fun q => absurd (q.symm.trans (XT.ii_eq_t (hj i (by omega) (by omega)))) (by decide))
    refine RI.Ev.go 1 rfl ?_
    try dsimp only [List.set, RI.fv0, RI.fv1, RI.fv2, RI.fv3, RI.tn0, RI.tn1, RI.tn2, RI.tn3, RI.tn4, RI.tn5, Nat.reduceAdd, List.cons_append, List.nil_append, Option.toList]
    rw [show Int32.ofNat i + Int32.ofInt 1 = Int32.ofNat (i + 1) from own_succ (by omega)]
    refine RI.Ev.go 1 rfl ?_
    refine ih (i + 1) (by omega) (fun j a b => hj j (by omega) (by omega)) ?_
    rw [show i + 1 + d = i + (d + 1) by omega]
    exact hr
theorem own_mm_start {F B : Nat} {ah : RI.AH} {r1 r2 : Nat} {f1 f2 len : Nat} (hl : len ≤ 7) {res : Int32} (hr : RI.Ev WW F B m_10 70 [.val (.ref r1), .val (.int (Int32.ofNat f1)), .val (.ref r2), .val (.int (Int32.ofNat f2)), .val (.int (Int32.ofNat len)), .val (.int (Int32.ofNat 0)), .unset, .unset] [] ah (some (.int res), ah)) :
    RI.Ev WW F B m_10 0 (RI.ent [.ref r1, .int (Int32.ofNat f1), .ref r2, .int (Int32.ofNat f2), .int (Int32.ofNat len)] 8) [] ah (some (.int res), ah) := by
  rw [show RI.ent [.ref r1, .int (Int32.ofNat f1), .ref r2, .int (Int32.ofNat f2), .int (Int32.ofNat len)] 8 = [.val (.ref r1), .val (.int (Int32.ofNat f1)), .val (.ref r2), .val (.int (Int32.ofNat f2)), .val (.int (Int32.ofNat len)), .unset, .unset, .unset] from rfl]
  refine RI.Ev.go 2 rfl ?_
  try dsimp only [List.set, RI.fv0, RI.fv1, RI.fv2, RI.fv3, RI.tn0, RI.tn1, RI.tn2, RI.tn3, RI.tn4, RI.tn5, Nat.reduceAdd, List.cons_append, List.nil_append, Option.toList]
  refine RI.Ev.go 2 rfl ?_
  refine RI.Ev.icmp rfl (fun q => hr) (fun q => absurd (q.symm.trans (XT.ii_le_t (fun z => by rw [show (Int8.ofInt 7).toInt32 = Int32.ofNat 7 from rfl, own_lt (by omega) (by omega)] at z; omega))) (by decide))
theorem own_mm_same {F B : Nat} {ah : RI.AH} {r1 r2 : Nat} {g1 g2 : Nat → Int32} {n1 n2 f1 f2 len : Nat} (hn1 : n1 < 2 ^ 30) (hn2 : n2 < 2 ^ 30) (h1 : f1 + len ≤ n1) (h2 : f2 + len ≤ n2) (ho1 : ah[r1]? = some (.inr (.byte, own_rk g1 n1))) (ho2 : ah[r2]? = some (.inr (.byte, own_rk g2 n2))) (hl : len ≤ 7) (hs : ∀ j, j < len → g1 (f1 + j) = g2 (f2 + j)) :
    RI.Ev WW F B m_10 0 (RI.ent [.ref r1, .int (Int32.ofNat f1), .ref r2, .int (Int32.ofNat f2), .int (Int32.ofNat len)] 8) [] ah (some (.int (-1)), ah) := by
  refine own_mm_start hl (own_mm_loop hn1 hn2 h1 h2 ho1 ho2 len 0 (by omega) (fun j _ b => hs j (by omega)) ?_)
  rw [Nat.zero_add]
  refine RI.Ev.go 2 rfl ?_
  refine RI.Ev.icmp rfl (fun q => ?_) (fun q => absurd (q.symm.trans (XT.ii_ge_t (fun z => by rw [own_lt (by omega) (by omega)] at z; omega))) (by decide))
  refine RI.Ev.go 1 rfl ?_
  exact RI.Ev.ret rfl rfl rfl rfl
theorem own_mm_diff {F B : Nat} {ah : RI.AH} {r1 r2 : Nat} {g1 g2 : Nat → Int32} {n1 n2 f1 f2 len m : Nat} (hn1 : n1 < 2 ^ 30) (hn2 : n2 < 2 ^ 30) (h1 : f1 + len ≤ n1) (h2 : f2 + len ≤ n2) (ho1 : ah[r1]? = some (.inr (.byte, own_rk g1 n1))) (ho2 : ah[r2]? = some (.inr (.byte, own_rk g2 n2))) (hl : len ≤ 7) (hm : m < len) (hs : ∀ j, j < m → g1 (f1 + j) = g2 (f2 + j)) (hd : ¬ g1 (f1 + m) = g2 (f2 + m)) :
    RI.Ev WW F B m_10 0 (RI.ent [.ref r1, .int (Int32.ofNat f1), .ref r2, .int (Int32.ofNat f2), .int (Int32.ofNat len)] 8) [] ah (some (.int (Int32.ofNat m)), ah) := by
  refine own_mm_start hl (own_mm_loop hn1 hn2 h1 h2 ho1 ho2 m 0 (by omega) (fun j _ b => hs j (by omega)) ?_)
  rw [Nat.zero_add]
  refine RI.Ev.go 2 rfl ?_
  refine RI.Ev.icmp rfl (fun q => absurd (q.symm.trans (XT.ii_ge_f ((own_lt (by omega) (by omega)).mpr (by omega)))) (by decide)) (fun q => ?_)
  refine RI.Ev.go 4 rfl ?_
  rw [own_add]
  refine RI.Ev.baloadS rfl ho1 (own_nn (by omega)) (by rw [own_tn (by omega)]; exact own_rk_get g1 (by omega)) ?_
  refine RI.Ev.go 4 rfl ?_
  rw [own_add]
  refine RI.Ev.baloadS rfl ho2 (own_nn (by omega)) (by rw [own_tn (by omega)]; exact own_rk_get g2 (by omega)) ?_
  refine RI.Ev.icmp rfl (fun q => absurd (q.symm.trans (XT.ii_eq_f hd)) (by decide)) (fun q => ?_)
  refine RI.Ev.go 1 rfl ?_
  exact RI.Ev.ret rfl rfl rfl rfl
theorem own_hash_cg (g g' : Nat → Int32) : ∀ (d i i' : Nat) (s : Int32), (∀ j, j < d → g (i + j) = g' (i' + j)) → own_hash g i d s = own_hash g' i' d s := by
  intro d
  induction d with
  | zero => intro i i' s _; rfl
  | succ d ih =>
    intro i i' s h
    unfold own_hash
    have h0 := h 0 (by omega)
    simp only [Nat.add_zero] at h0
    rw [h0]
    refine ih (i + 1) (i' + 1) _ fun j hj => ?_
    have := h (j + 1) (by omega)
    rw [show i + 1 + j = i + (j + 1) by omega, show i' + 1 + j = i' + (j + 1) by omega]
    exact this
theorem own_hash_congr (g g' : Nat → Int32) (i i' d : Nat) (h : ∀ j, j < d → g (i + j) = g' (i' + j)) : own_hash g i d 0 = own_hash g' i' d 0 := own_hash_cg g g' d i i' 0 h
theorem own_ae_b (A2 : RI.AObj) (g g' : Nat → Int32) (f t : Nat) (hf : f ≤ t) (ht : t ≤ 4) (hs : ∀ j, j < t - f → g (f + j) = g' ((f + 1) + j)) : RI.Ev WW 4 127 m_8 0 (RI.ent [.ref 0, .int (Int32.ofNat f), .int (Int32.ofNat t), .ref 1, .int (Int32.ofNat (f + 1)), .int (Int32.ofNat (t + 1))] 8) [] [.inr (.byte, own_rk g 4), .inr (.byte, own_rk g' 6), A2, .inl (0, [.ref 0, .int (Int32.ofNat f), .int (Int32.ofNat t), .int (own_hash g f (t - f) 0)]), .inl (0, [.ref 1, .int (Int32.ofNat (f + 1)), .int (Int32.ofNat (t + 1)), .int (own_hash g' (f + 1) (t - f) 0)])] (some (.int 1), [.inr (.byte, own_rk g 4), .inr (.byte, own_rk g' 6), A2, .inl (0, [.ref 0, .int (Int32.ofNat f), .int (Int32.ofNat t), .int (own_hash g f (t - f) 0)]), .inl (0, [.ref 1, .int (Int32.ofNat (f + 1)), .int (Int32.ofNat (t + 1)), .int (own_hash g' (f + 1) (t - f) 0)])]) := by
  rw [show RI.ent [.ref 0, .int (Int32.ofNat f), .int (Int32.ofNat t), .ref 1, .int (Int32.ofNat (f + 1)), .int (Int32.ofNat (t + 1))] 8 = [.val (.ref 0), .val (.int (Int32.ofNat f)), .val (.int (Int32.ofNat t)), .val (.ref 1), .val (.int (Int32.ofNat (f + 1))), .val (.int (Int32.ofNat (t + 1))), .unset, .unset] from rfl]
  refine RI.Ev.go 4 rfl ?_
  rw [own_rk_len]
  refine RI.Ev.call rfl rfl rfl rfl rfl (own_ev_rng _ _ _ 4 f t (by decide) hf ht) ?_
  try dsimp only [List.set, RI.fv0, RI.fv1, RI.fv2, RI.fv3, RI.tn0, RI.tn1, RI.tn2, RI.tn3, RI.tn4, RI.tn5, Nat.reduceAdd, List.cons_append, List.nil_append, Option.toList]
  refine RI.Ev.go 4 rfl ?_
  rw [own_rk_len]
  refine RI.Ev.call rfl rfl rfl rfl rfl (own_ev_rng _ _ _ 6 (f + 1) (t + 1) (by decide) (by omega) (by omega)) ?_
  try dsimp only [List.set, RI.fv0, RI.fv1, RI.fv2, RI.fv3, RI.tn0, RI.tn1, RI.tn2, RI.tn3, RI.tn4, RI.tn5, Nat.reduceAdd, List.cons_append, List.nil_append, Option.toList]
  refine RI.Ev.go 3 rfl ?_
  rw [own_sub hf (by omega)]
  refine RI.Ev.go 1 rfl ?_
  try dsimp only [List.set, RI.fv0, RI.fv1, RI.fv2, RI.fv3, RI.tn0, RI.tn1, RI.tn2, RI.tn3, RI.tn4, RI.tn5, Nat.reduceAdd, List.cons_append, List.nil_append, Option.toList]
  refine RI.Ev.go 3 rfl ?_
  rw [own_sub (show (f + 1) ≤ (t + 1) by omega) (by omega), show (t + 1) - (f + 1) = t - f by omega]
  refine RI.Ev.go 1 rfl ?_
  try dsimp only [List.set, RI.fv0, RI.fv1, RI.fv2, RI.fv3, RI.tn0, RI.tn1, RI.tn2, RI.tn3, RI.tn4, RI.tn5, Nat.reduceAdd, List.cons_append, List.nil_append, Option.toList]
  refine RI.Ev.go 2 rfl ?_
  refine RI.Ev.icmp rfl (fun q => ?_) (fun q => absurd (q.symm.trans (XT.ii_eq_t rfl)) (by decide))
  refine RI.Ev.go 5 rfl ?_
  refine RI.Ev.call rfl rfl rfl rfl rfl (own_mm_same (g1 := g) (g2 := g') (n1 := 4) (n2 := 6) (f1 := f) (f2 := (f + 1)) (len := t - f) (by decide) (by decide) (by omega) (by omega) rfl rfl (by omega) hs) ?_
  try dsimp only [List.set, RI.fv0, RI.fv1, RI.fv2, RI.fv3, RI.tn0, RI.tn1, RI.tn2, RI.tn3, RI.tn4, RI.tn5, Nat.reduceAdd, List.cons_append, List.nil_append, Option.toList]
  refine RI.Ev.cond rfl (fun q => absurd q (by decide)) (fun q => ?_)
  refine RI.Ev.go 2 rfl ?_
  exact RI.Ev.ret rfl rfl rfl rfl
theorem own_eq_b (A2 : RI.AObj) (g g' : Nat → Int32) (f t : Nat) (hf : f ≤ t) (ht : t ≤ 4) (hs : ∀ j, j < t - f → g (f + j) = g' ((f + 1) + j)) : RI.Ev WW 5 146 m_7 0 (RI.ent [.ref 3, .ref 4] 3) [] [.inr (.byte, own_rk g 4), .inr (.byte, own_rk g' 6), A2, .inl (0, [.ref 0, .int (Int32.ofNat f), .int (Int32.ofNat t), .int (own_hash g f (t - f) 0)]), .inl (0, [.ref 1, .int (Int32.ofNat (f + 1)), .int (Int32.ofNat (t + 1)), .int (own_hash g' (f + 1) (t - f) 0)])] (some (.int 1), [.inr (.byte, own_rk g 4), .inr (.byte, own_rk g' 6), A2, .inl (0, [.ref 0, .int (Int32.ofNat f), .int (Int32.ofNat t), .int (own_hash g f (t - f) 0)]), .inl (0, [.ref 1, .int (Int32.ofNat (f + 1)), .int (Int32.ofNat (t + 1)), .int (own_hash g' (f + 1) (t - f) 0)])]) := by
  rw [show RI.ent [.ref 3, .ref 4] 3 = [.val (.ref 3), .val (.ref 4), .unset] from rfl]
  refine RI.Ev.go 2 rfl ?_
  refine RI.Ev.cond rfl (fun q => absurd q (by decide)) (fun q => ?_)
  refine RI.Ev.go 3 rfl ?_
  try dsimp only [List.set, RI.fv0, RI.fv1, RI.fv2, RI.fv3, RI.tn0, RI.tn1, RI.tn2, RI.tn3, RI.tn4, RI.tn5, Nat.reduceAdd, List.cons_append, List.nil_append, Option.toList]
  refine RI.Ev.go 4 rfl ?_
  refine RI.Ev.icmp rfl (fun q => absurd (q.symm.trans (XT.ii_ne_f (own_hash_congr g g' _ _ _ hs))) (by decide)) (fun q => ?_)
  refine RI.Ev.go 12 rfl ?_
  refine RI.Ev.call rfl rfl rfl rfl rfl (own_ae_b A2 g g' f t hf ht hs) ?_
  try dsimp only [List.set, RI.fv0, RI.fv1, RI.fv2, RI.fv3, RI.tn0, RI.tn1, RI.tn2, RI.tn3, RI.tn4, RI.tn5, Nat.reduceAdd, List.cons_append, List.nil_append, Option.toList]
  refine RI.Ev.cond rfl (fun q => absurd q (by decide)) (fun q => ?_)
  refine RI.Ev.go 2 rfl ?_
  exact RI.Ev.ret rfl rfl rfl rfl
theorem own_ae_c (A1 A4 : RI.AObj) (g g' : Nat → Int32) (f t : Nat) (hf : f ≤ t) (ht : t ≤ 4) (hs : ∀ j, j < t - f → g (f + j) = g' (f + j)) : RI.Ev WW 4 127 m_8 0 (RI.ent [.ref 0, .int (Int32.ofNat f), .int (Int32.ofNat t), .ref 2, .int (Int32.ofNat f), .int (Int32.ofNat t)] 8) [] [.inr (.byte, own_rk g 4), A1, .inr (.byte, own_rk g' 4), .inl (0, [.ref 0, .int (Int32.ofNat f), .int (Int32.ofNat t), .int (own_hash g f (t - f) 0)]), A4, .inl (0, [.ref 2, .int (Int32.ofNat f), .int (Int32.ofNat t), .int (own_hash g' f (t - f) 0)])] (some (.int 1), [.inr (.byte, own_rk g 4), A1, .inr (.byte, own_rk g' 4), .inl (0, [.ref 0, .int (Int32.ofNat f), .int (Int32.ofNat t), .int (own_hash g f (t - f) 0)]), A4, .inl (0, [.ref 2, .int (Int32.ofNat f), .int (Int32.ofNat t), .int (own_hash g' f (t - f) 0)])]) := by
  rw [show RI.ent [.ref 0, .int (Int32.ofNat f), .int (Int32.ofNat t), .ref 2, .int (Int32.ofNat f), .int (Int32.ofNat t)] 8 = [.val (.ref 0), .val (.int (Int32.ofNat f)), .val (.int (Int32.ofNat t)), .val (.ref 2), .val (.int (Int32.ofNat f)), .val (.int (Int32.ofNat t)), .unset, .unset] from rfl]
  refine RI.Ev.go 4 rfl ?_
  rw [own_rk_len]
  refine RI.Ev.call rfl rfl rfl rfl rfl (own_ev_rng _ _ _ 4 f t (by decide) hf ht) ?_
  try dsimp only [List.set, RI.fv0, RI.fv1, RI.fv2, RI.fv3, RI.tn0, RI.tn1, RI.tn2, RI.tn3, RI.tn4, RI.tn5, Nat.reduceAdd, List.cons_append, List.nil_append, Option.toList]
  refine RI.Ev.go 4 rfl ?_
  rw [own_rk_len]
  refine RI.Ev.call rfl rfl rfl rfl rfl (own_ev_rng _ _ _ 4 f t (by decide) (by omega) (by omega)) ?_
  try dsimp only [List.set, RI.fv0, RI.fv1, RI.fv2, RI.fv3, RI.tn0, RI.tn1, RI.tn2, RI.tn3, RI.tn4, RI.tn5, Nat.reduceAdd, List.cons_append, List.nil_append, Option.toList]
  refine RI.Ev.go 3 rfl ?_
  rw [own_sub hf (by omega)]
  refine RI.Ev.go 1 rfl ?_
  try dsimp only [List.set, RI.fv0, RI.fv1, RI.fv2, RI.fv3, RI.tn0, RI.tn1, RI.tn2, RI.tn3, RI.tn4, RI.tn5, Nat.reduceAdd, List.cons_append, List.nil_append, Option.toList]
  refine RI.Ev.go 3 rfl ?_
  rw [own_sub (show f ≤ t by omega) (by omega), show t - f = t - f by omega]
  refine RI.Ev.go 1 rfl ?_
  try dsimp only [List.set, RI.fv0, RI.fv1, RI.fv2, RI.fv3, RI.tn0, RI.tn1, RI.tn2, RI.tn3, RI.tn4, RI.tn5, Nat.reduceAdd, List.cons_append, List.nil_append, Option.toList]
  refine RI.Ev.go 2 rfl ?_
  refine RI.Ev.icmp rfl (fun q => ?_) (fun q => absurd (q.symm.trans (XT.ii_eq_t rfl)) (by decide))
  refine RI.Ev.go 5 rfl ?_
  refine RI.Ev.call rfl rfl rfl rfl rfl (own_mm_same (g1 := g) (g2 := g') (n1 := 4) (n2 := 4) (f1 := f) (f2 := f) (len := t - f) (by decide) (by decide) (by omega) (by omega) rfl rfl (by omega) hs) ?_
  try dsimp only [List.set, RI.fv0, RI.fv1, RI.fv2, RI.fv3, RI.tn0, RI.tn1, RI.tn2, RI.tn3, RI.tn4, RI.tn5, Nat.reduceAdd, List.cons_append, List.nil_append, Option.toList]
  refine RI.Ev.cond rfl (fun q => absurd q (by decide)) (fun q => ?_)
  refine RI.Ev.go 2 rfl ?_
  exact RI.Ev.ret rfl rfl rfl rfl
theorem own_eq_c (A1 A4 : RI.AObj) (g g' : Nat → Int32) (f t : Nat) (hf : f ≤ t) (ht : t ≤ 4) (hs : ∀ j, j < t - f → g (f + j) = g' (f + j)) : RI.Ev WW 5 146 m_7 0 (RI.ent [.ref 3, .ref 5] 3) [] [.inr (.byte, own_rk g 4), A1, .inr (.byte, own_rk g' 4), .inl (0, [.ref 0, .int (Int32.ofNat f), .int (Int32.ofNat t), .int (own_hash g f (t - f) 0)]), A4, .inl (0, [.ref 2, .int (Int32.ofNat f), .int (Int32.ofNat t), .int (own_hash g' f (t - f) 0)])] (some (.int 1), [.inr (.byte, own_rk g 4), A1, .inr (.byte, own_rk g' 4), .inl (0, [.ref 0, .int (Int32.ofNat f), .int (Int32.ofNat t), .int (own_hash g f (t - f) 0)]), A4, .inl (0, [.ref 2, .int (Int32.ofNat f), .int (Int32.ofNat t), .int (own_hash g' f (t - f) 0)])]) := by
  rw [show RI.ent [.ref 3, .ref 5] 3 = [.val (.ref 3), .val (.ref 5), .unset] from rfl]
  refine RI.Ev.go 2 rfl ?_
  refine RI.Ev.cond rfl (fun q => absurd q (by decide)) (fun q => ?_)
  refine RI.Ev.go 3 rfl ?_
  try dsimp only [List.set, RI.fv0, RI.fv1, RI.fv2, RI.fv3, RI.tn0, RI.tn1, RI.tn2, RI.tn3, RI.tn4, RI.tn5, Nat.reduceAdd, List.cons_append, List.nil_append, Option.toList]
  refine RI.Ev.go 4 rfl ?_
  refine RI.Ev.icmp rfl (fun q => absurd (q.symm.trans (XT.ii_ne_f (own_hash_congr g g' _ _ _ hs))) (by decide)) (fun q => ?_)
  refine RI.Ev.go 12 rfl ?_
  refine RI.Ev.call rfl rfl rfl rfl rfl (own_ae_c A1 A4 g g' f t hf ht hs) ?_
  try dsimp only [List.set, RI.fv0, RI.fv1, RI.fv2, RI.fv3, RI.tn0, RI.tn1, RI.tn2, RI.tn3, RI.tn4, RI.tn5, Nat.reduceAdd, List.cons_append, List.nil_append, Option.toList]
  refine RI.Ev.cond rfl (fun q => absurd q (by decide)) (fun q => ?_)
  refine RI.Ev.go 2 rfl ?_
  exact RI.Ev.ret rfl rfl rfl rfl
theorem own_ae_d (A1 A4 : RI.AObj) (g g' : Nat → Int32) (f t : Nat) (hf : f ≤ t) (ht : t ≤ 4) (m : Nat) (hm : m < t - f) (hs : ∀ j, j < m → g (f + j) = g' (f + j)) (hd : ¬ g (f + m) = g' (f + m)) : RI.Ev WW 4 127 m_8 0 (RI.ent [.ref 0, .int (Int32.ofNat f), .int (Int32.ofNat t), .ref 2, .int (Int32.ofNat f), .int (Int32.ofNat t)] 8) [] [.inr (.byte, own_rk g 4), A1, .inr (.byte, own_rk g' 4), .inl (0, [.ref 0, .int (Int32.ofNat f), .int (Int32.ofNat t), .int (own_hash g f (t - f) 0)]), A4, .inl (0, [.ref 2, .int (Int32.ofNat f), .int (Int32.ofNat t), .int (own_hash g' f (t - f) 0)])] (some (.int 0), [.inr (.byte, own_rk g 4), A1, .inr (.byte, own_rk g' 4), .inl (0, [.ref 0, .int (Int32.ofNat f), .int (Int32.ofNat t), .int (own_hash g f (t - f) 0)]), A4, .inl (0, [.ref 2, .int (Int32.ofNat f), .int (Int32.ofNat t), .int (own_hash g' f (t - f) 0)])]) := by
  rw [show RI.ent [.ref 0, .int (Int32.ofNat f), .int (Int32.ofNat t), .ref 2, .int (Int32.ofNat f), .int (Int32.ofNat t)] 8 = [.val (.ref 0), .val (.int (Int32.ofNat f)), .val (.int (Int32.ofNat t)), .val (.ref 2), .val (.int (Int32.ofNat f)), .val (.int (Int32.ofNat t)), .unset, .unset] from rfl]
  refine RI.Ev.go 4 rfl ?_
  rw [own_rk_len]
  refine RI.Ev.call rfl rfl rfl rfl rfl (own_ev_rng _ _ _ 4 f t (by decide) hf ht) ?_
  try dsimp only [List.set, RI.fv0, RI.fv1, RI.fv2, RI.fv3, RI.tn0, RI.tn1, RI.tn2, RI.tn3, RI.tn4, RI.tn5, Nat.reduceAdd, List.cons_append, List.nil_append, Option.toList]
  refine RI.Ev.go 4 rfl ?_
  rw [own_rk_len]
  refine RI.Ev.call rfl rfl rfl rfl rfl (own_ev_rng _ _ _ 4 f t (by decide) (by omega) (by omega)) ?_
  try dsimp only [List.set, RI.fv0, RI.fv1, RI.fv2, RI.fv3, RI.tn0, RI.tn1, RI.tn2, RI.tn3, RI.tn4, RI.tn5, Nat.reduceAdd, List.cons_append, List.nil_append, Option.toList]
  refine RI.Ev.go 3 rfl ?_
  rw [own_sub hf (by omega)]
  refine RI.Ev.go 1 rfl ?_
  try dsimp only [List.set, RI.fv0, RI.fv1, RI.fv2, RI.fv3, RI.tn0, RI.tn1, RI.tn2, RI.tn3, RI.tn4, RI.tn5, Nat.reduceAdd, List.cons_append, List.nil_append, Option.toList]
  refine RI.Ev.go 3 rfl ?_
  rw [own_sub (show f ≤ t by omega) (by omega), show t - f = t - f by omega]
  refine RI.Ev.go 1 rfl ?_
  try dsimp only [List.set, RI.fv0, RI.fv1, RI.fv2, RI.fv3, RI.tn0, RI.tn1, RI.tn2, RI.tn3, RI.tn4, RI.tn5, Nat.reduceAdd, List.cons_append, List.nil_append, Option.toList]
  refine RI.Ev.go 2 rfl ?_
  refine RI.Ev.icmp rfl (fun q => ?_) (fun q => absurd (q.symm.trans (XT.ii_eq_t rfl)) (by decide))
  refine RI.Ev.go 5 rfl ?_
  refine RI.Ev.call rfl rfl rfl rfl rfl (own_mm_diff (g1 := g) (g2 := g') (n1 := 4) (n2 := 4) (f1 := f) (f2 := f) (len := t - f) (m := m) (by decide) (by decide) (by omega) (by omega) rfl rfl (by omega) hm hs hd) ?_
  try dsimp only [List.set, RI.fv0, RI.fv1, RI.fv2, RI.fv3, RI.tn0, RI.tn1, RI.tn2, RI.tn3, RI.tn4, RI.tn5, Nat.reduceAdd, List.cons_append, List.nil_append, Option.toList]
  refine RI.Ev.cond rfl (fun q => ?_) (fun q => absurd (q.symm.trans (XT.i0_ge_t (own_nn (by omega)))) (by decide))
  refine RI.Ev.go 1 rfl ?_
  exact RI.Ev.ret rfl rfl rfl rfl
theorem own_eq_d (A1 A4 : RI.AObj) (g g' : Nat → Int32) (f t : Nat) (hf : f ≤ t) (ht : t ≤ 4) (m : Nat) (hm : m < t - f) (hs : ∀ j, j < m → g (f + j) = g' (f + j)) (hd : ¬ g (f + m) = g' (f + m)) : RI.Ev WW 5 146 m_7 0 (RI.ent [.ref 3, .ref 5] 3) [] [.inr (.byte, own_rk g 4), A1, .inr (.byte, own_rk g' 4), .inl (0, [.ref 0, .int (Int32.ofNat f), .int (Int32.ofNat t), .int (own_hash g f (t - f) 0)]), A4, .inl (0, [.ref 2, .int (Int32.ofNat f), .int (Int32.ofNat t), .int (own_hash g' f (t - f) 0)])] (some (.int 0), [.inr (.byte, own_rk g 4), A1, .inr (.byte, own_rk g' 4), .inl (0, [.ref 0, .int (Int32.ofNat f), .int (Int32.ofNat t), .int (own_hash g f (t - f) 0)]), A4, .inl (0, [.ref 2, .int (Int32.ofNat f), .int (Int32.ofNat t), .int (own_hash g' f (t - f) 0)])]) := by
  rw [show RI.ent [.ref 3, .ref 5] 3 = [.val (.ref 3), .val (.ref 5), .unset] from rfl]
  refine RI.Ev.go 2 rfl ?_
  refine RI.Ev.cond rfl (fun q => absurd q (by decide)) (fun q => ?_)
  refine RI.Ev.go 3 rfl ?_
  try dsimp only [List.set, RI.fv0, RI.fv1, RI.fv2, RI.fv3, RI.tn0, RI.tn1, RI.tn2, RI.tn3, RI.tn4, RI.tn5, Nat.reduceAdd, List.cons_append, List.nil_append, Option.toList]
  refine RI.Ev.go 4 rfl ?_
  refine RI.Ev.icmp rfl (fun q => ?_) (fun q => ?_)
  · refine RI.Ev.go 1 rfl ?_
    exact RI.Ev.ret rfl rfl rfl rfl
  refine RI.Ev.go 12 rfl ?_
  refine RI.Ev.call rfl rfl rfl rfl rfl (own_ae_d A1 A4 g g' f t hf ht m hm hs hd) ?_
  try dsimp only [List.set, RI.fv0, RI.fv1, RI.fv2, RI.fv3, RI.tn0, RI.tn1, RI.tn2, RI.tn3, RI.tn4, RI.tn5, Nat.reduceAdd, List.cons_append, List.nil_append, Option.toList]
  refine RI.Ev.cond rfl (fun q => ?_) (fun q => absurd q (by decide))
  refine RI.Ev.go 1 rfl ?_
  exact RI.Ev.ret rfl rfl rfl rfl
theorem own_ev_init (ah : RI.AH) (o : Nat) : RI.Ev WW 5 147 m_1 0 (RI.ent [.ref o] 1) [] ah (none, ah) := by
  refine RI.Ev.go 2 rfl ?_
  exact RI.Ev.ret rfl rfl rfl rfl
theorem own_ev_hc (F B : Nat) (A0 A1 A2 : RI.AObj) (u0 u1 u2 : Value) (h : Int32) : RI.Ev WW F B m_3 0 (RI.ent [.ref 3] 1) [] [A0, A1, A2, .inl (0, [u0, u1, u2, .int h])] (some (.int h), [A0, A1, A2, .inl (0, [u0, u1, u2, .int h])]) := by
  refine RI.Ev.go 2 rfl ?_
  exact RI.Ev.ret rfl rfl rfl rfl
theorem own_end (t0 t1 t2 t3 : Slot) (g g2 g3 : Nat → Int32) (f t : Nat) (hf : f ≤ t) (ht : t ≤ 4) (h2 : ∀ i, i < 4 → g i = g2 (i + 1)) (h3 : t = f ∨ ∃ p, f ≤ p ∧ p < t ∧ ¬ g p = g3 p ∧ ∀ i, ¬ i = p → g i = g3 i) :
    RI.Ev WW 6 160 m_0 201 [t0, t1, t2, t3, .val (.ref 0), .val (.int (Int32.ofNat f)), .val (.int (Int32.ofNat t)), .val (.int (Int32.ofNat (t - f))), .val (.ref 1), .val (.ref 2), .unset, .unset, .unset, .unset, .unset] [] [.inr (.byte, own_rk g 4), .inr (.byte, own_rk g2 6), .inr (.byte, own_rk g3 4)] (some (.int 1), [.inr (.byte, own_rk g 4), .inr (.byte, own_rk g2 6), .inr (.byte, own_rk g3 4), .inl (0, [.ref 0, .int (Int32.ofNat f), .int (Int32.ofNat t), .int (own_hash g f (t - f) 0)]), .inl (0, [.ref 1, .int (Int32.ofNat (f + 1)), .int (Int32.ofNat (t + 1)), .int (own_hash g2 (f + 1) (t - f) 0)]), .inl (0, [.ref 2, .int (Int32.ofNat f), .int (Int32.ofNat t), .int (own_hash g3 f (t - f) 0)])]) := by
  refine RI.Ev.go 2 (ah' := [.inr (.byte, own_rk g 4), .inr (.byte, own_rk g2 6), .inr (.byte, own_rk g3 4), .inl (0, [.null, .int 0, .int 0, .int 0])]) rfl ?_
  refine RI.Ev.call rfl rfl rfl rfl rfl (own_ev_init _ 3) ?_
  try dsimp only [List.set, RI.fv0, RI.fv1, RI.fv2, RI.fv3, RI.tn0, RI.tn1, RI.tn2, RI.tn3, RI.tn4, RI.tn5, Nat.reduceAdd, List.cons_append, List.nil_append, Option.toList]
  refine RI.Ev.go 1 rfl ?_
  try dsimp only [List.set, RI.fv0, RI.fv1, RI.fv2, RI.fv3, RI.tn0, RI.tn1, RI.tn2, RI.tn3, RI.tn4, RI.tn5, Nat.reduceAdd, List.cons_append, List.nil_append, Option.toList]
  refine RI.Ev.go 4 rfl ?_
  refine RI.Ev.call rfl rfl rfl rfl rfl (own_set3 _ _ _ _ _ _ g 4 0 4 (by decide) (by decide) (by decide)) ?_
  try dsimp only [List.set, RI.fv0, RI.fv1, RI.fv2, RI.fv3, RI.tn0, RI.tn1, RI.tn2, RI.tn3, RI.tn4, RI.tn5, Nat.reduceAdd, List.cons_append, List.nil_append, Option.toList]
  refine RI.Ev.go 1 rfl ?_
  refine RI.Ev.go 4 rfl ?_
  refine RI.Ev.call rfl rfl rfl rfl rfl (own_set3 _ _ _ _ _ _ g 4 f t (by decide) hf ht) ?_
  try dsimp only [List.set, RI.fv0, RI.fv1, RI.fv2, RI.fv3, RI.tn0, RI.tn1, RI.tn2, RI.tn3, RI.tn4, RI.tn5, Nat.reduceAdd, List.cons_append, List.nil_append, Option.toList]
  refine RI.Ev.go 1 rfl ?_
  try dsimp only [List.set, RI.fv0, RI.fv1, RI.fv2, RI.fv3, RI.tn0, RI.tn1, RI.tn2, RI.tn3, RI.tn4, RI.tn5, Nat.reduceAdd, List.cons_append, List.nil_append, Option.toList]
  refine RI.Ev.go 3 rfl ?_
  refine RI.Ev.go 1 rfl ?_
  refine RI.Ev.call rfl rfl rfl rfl rfl (own_ev_hc _ _ _ _ _ _ _ _ _) ?_
  try dsimp only [List.set, RI.fv0, RI.fv1, RI.fv2, RI.fv3, RI.tn0, RI.tn1, RI.tn2, RI.tn3, RI.tn4, RI.tn5, Nat.reduceAdd, List.cons_append, List.nil_append, Option.toList]
  refine RI.Ev.go 3 rfl ?_
  refine RI.Ev.call rfl rfl rfl rfl rfl (own_ev_ref _ g f (t - f) rfl (by omega)) ?_
  try dsimp only [List.set, RI.fv0, RI.fv1, RI.fv2, RI.fv3, RI.tn0, RI.tn1, RI.tn2, RI.tn3, RI.tn4, RI.tn5, Nat.reduceAdd, List.cons_append, List.nil_append, Option.toList]
  refine RI.Ev.icmp rfl (fun q => absurd (q.symm.trans (XT.ii_ne_f (own_href g f (t - f) (by omega)))) (by decide)) (fun q => ?_)
  refine RI.Ev.go 3 rfl ?_
  try dsimp only [List.set, RI.fv0, RI.fv1, RI.fv2, RI.fv3, RI.tn0, RI.tn1, RI.tn2, RI.tn3, RI.tn4, RI.tn5, Nat.reduceAdd, List.cons_append, List.nil_append, Option.toList]
  refine RI.Ev.go 2 (ah' := [.inr (.byte, own_rk g 4), .inr (.byte, own_rk g2 6), .inr (.byte, own_rk g3 4), .inl (0, [.ref 0, .int (Int32.ofNat f), .int (Int32.ofNat t), .int (own_hash g f (t - f) 0)]), .inl (0, [.null, .int 0, .int 0, .int 0])]) rfl ?_
  refine RI.Ev.call rfl rfl rfl rfl rfl (own_ev_init _ 4) ?_
  try dsimp only [List.set, RI.fv0, RI.fv1, RI.fv2, RI.fv3, RI.tn0, RI.tn1, RI.tn2, RI.tn3, RI.tn4, RI.tn5, Nat.reduceAdd, List.cons_append, List.nil_append, Option.toList]
  refine RI.Ev.go 7 rfl ?_
  rw [show Int32.ofNat f + Int32.ofInt 1 = Int32.ofNat (f + 1) from own_succ (by omega), show Int32.ofNat t + Int32.ofInt 1 = Int32.ofNat (t + 1) from own_succ (by omega)]
  refine RI.Ev.call rfl rfl rfl rfl rfl (own_set4 _ _ _ _ _ _ _ g2 6 (f + 1) (t + 1) (by decide) (by omega) (by omega)) ?_
  rw [show t + 1 - (f + 1) = t - f by omega]
  try dsimp only [List.set, RI.fv0, RI.fv1, RI.fv2, RI.fv3, RI.tn0, RI.tn1, RI.tn2, RI.tn3, RI.tn4, RI.tn5, Nat.reduceAdd, List.cons_append, List.nil_append, Option.toList]
  refine RI.Ev.go 1 rfl ?_
  try dsimp only [List.set, RI.fv0, RI.fv1, RI.fv2, RI.fv3, RI.tn0, RI.tn1, RI.tn2, RI.tn3, RI.tn4, RI.tn5, Nat.reduceAdd, List.cons_append, List.nil_append, Option.toList]
  refine RI.Ev.go 1 rfl ?_
  refine RI.Ev.cond rfl (fun q => absurd q (by decide)) (fun q => ?_)
  refine RI.Ev.go 2 rfl ?_
  refine RI.Ev.call rfl rfl rfl rfl rfl (own_eq_b _ g g2 f t hf ht (fun j hj => by rw [show f + 1 + j = (f + j) + 1 by omega]; exact h2 (f + j) (by omega))) ?_
  try dsimp only [List.set, RI.fv0, RI.fv1, RI.fv2, RI.fv3, RI.tn0, RI.tn1, RI.tn2, RI.tn3, RI.tn4, RI.tn5, Nat.reduceAdd, List.cons_append, List.nil_append, Option.toList]
  refine RI.Ev.cond rfl (fun q => absurd q (by decide)) (fun q => ?_)
  refine RI.Ev.go 3 rfl ?_
  try dsimp only [List.set, RI.fv0, RI.fv1, RI.fv2, RI.fv3, RI.tn0, RI.tn1, RI.tn2, RI.tn3, RI.tn4, RI.tn5, Nat.reduceAdd, List.cons_append, List.nil_append, Option.toList]
  refine RI.Ev.go 2 (ah' := [.inr (.byte, own_rk g 4), .inr (.byte, own_rk g2 6), .inr (.byte, own_rk g3 4), .inl (0, [.ref 0, .int (Int32.ofNat f), .int (Int32.ofNat t), .int (own_hash g f (t - f) 0)]), .inl (0, [.ref 1, .int (Int32.ofNat (f + 1)), .int (Int32.ofNat (t + 1)), .int (own_hash g2 (f + 1) (t - f) 0)]), .inl (0, [.null, .int 0, .int 0, .int 0])]) rfl ?_
  refine RI.Ev.call rfl rfl rfl rfl rfl (own_ev_init _ 5) ?_
  try dsimp only [List.set, RI.fv0, RI.fv1, RI.fv2, RI.fv3, RI.tn0, RI.tn1, RI.tn2, RI.tn3, RI.tn4, RI.tn5, Nat.reduceAdd, List.cons_append, List.nil_append, Option.toList]
  refine RI.Ev.go 3 rfl ?_
  refine RI.Ev.call rfl rfl rfl rfl rfl (own_set5 _ _ _ _ _ _ _ _ g3 4 f t (by decide) hf ht) ?_
  try dsimp only [List.set, RI.fv0, RI.fv1, RI.fv2, RI.fv3, RI.tn0, RI.tn1, RI.tn2, RI.tn3, RI.tn4, RI.tn5, Nat.reduceAdd, List.cons_append, List.nil_append, Option.toList]
  refine RI.Ev.go 1 rfl ?_
  try dsimp only [List.set, RI.fv0, RI.fv1, RI.fv2, RI.fv3, RI.tn0, RI.tn1, RI.tn2, RI.tn3, RI.tn4, RI.tn5, Nat.reduceAdd, List.cons_append, List.nil_append, Option.toList]
  refine RI.Ev.go 1 rfl ?_
  refine RI.Ev.cond rfl (fun q => absurd q (by decide)) (fun q => ?_)
  refine RI.Ev.go 2 rfl ?_
  rcases h3 with rfl | ⟨p, hp1, hp2, hp3, hp4⟩
  · refine RI.Ev.call rfl rfl rfl rfl rfl (own_eq_c _ _ g g3 t t hf ht (fun j hj => by omega)) ?_
    try dsimp only [List.set, RI.fv0, RI.fv1, RI.fv2, RI.fv3, RI.tn0, RI.tn1, RI.tn2, RI.tn3, RI.tn4, RI.tn5, Nat.reduceAdd, List.cons_append, List.nil_append, Option.toList]
    refine RI.Ev.go 1 rfl ?_
    refine RI.Ev.cond rfl (fun q => absurd (q.symm.trans (show ifCond.holds .ne (Int32.ofNat (t - t)) = false by rw [Nat.sub_self]; decide)) (by decide)) (fun q => ?_)
    refine RI.Ev.go 2 rfl ?_
    refine RI.Ev.icmp rfl (fun q => absurd q (by decide)) (fun q => ?_)
    refine RI.Ev.go 3 rfl ?_
    try dsimp only [List.set, RI.fv0, RI.fv1, RI.fv2, RI.fv3, RI.tn0, RI.tn1, RI.tn2, RI.tn3, RI.tn4, RI.tn5, Nat.reduceAdd, List.cons_append, List.nil_append, Option.toList]
    refine RI.Ev.go 1 rfl ?_
    exact RI.Ev.ret rfl rfl rfl rfl
  · refine RI.Ev.call rfl rfl rfl rfl rfl (own_eq_d _ _ g g3 f t hf ht (p - f) (by omega) (fun j hj => hp4 _ (by omega)) (by rw [show f + (p - f) = p by omega]; exact hp3)) ?_
    try dsimp only [List.set, RI.fv0, RI.fv1, RI.fv2, RI.fv3, RI.tn0, RI.tn1, RI.tn2, RI.tn3, RI.tn4, RI.tn5, Nat.reduceAdd, List.cons_append, List.nil_append, Option.toList]
    refine RI.Ev.go 1 rfl ?_
    refine RI.Ev.cond rfl (fun q => ?_) (fun q => absurd (q.symm.trans (XT.i0_ne_t (fun z => by rw [show (0 : Int32) = Int32.ofNat 0 from rfl, own_inj (by omega) (by omega)] at z; omega))) (by decide))
    refine RI.Ev.go 1 rfl ?_
    refine RI.Ev.icmp rfl (fun q => absurd q (by decide)) (fun q => ?_)
    refine RI.Ev.go 3 rfl ?_
    try dsimp only [List.set, RI.fv0, RI.fv1, RI.fv2, RI.fv3, RI.tn0, RI.tn1, RI.tn2, RI.tn3, RI.tn4, RI.tn5, Nat.reduceAdd, List.cons_append, List.nil_append, Option.toList]
    refine RI.Ev.go 1 rfl ?_
    exact RI.Ev.ret rfl rfl rfl rfl
theorem own_idem (x : Int32) : x.toInt8.toInt32.toInt8.toInt32 = x.toInt8.toInt32 := by rw [Int8.toInt8_toInt32]
theorem own_xne (x : Int32) (hx : x.toInt8.toInt32 = x) (d : Nat) (h1 : 1 ≤ d) (h2 : d ≤ 255) : ¬ x = (x ^^^ Int32.ofNat d).toInt8.toInt32 := fun e => by
  have e2 : x.toInt8 = (x ^^^ Int32.ofNat d).toInt8 := by
    have := congrArg Int32.toInt8 e
    rwa [Int8.toInt8_toInt32] at this
  have e3 := congrArg Int8.toBitVec e2
  rw [Int32.toBitVec_toInt8, Int32.toBitVec_toInt8, BitVec.signExtend_eq_setWidth_of_le _ (by decide), BitVec.signExtend_eq_setWidth_of_le _ (by decide), Int32.toBitVec_xor, BitVec.setWidth_xor] at e3
  have e4 : BitVec.setWidth 8 (Int32.ofNat d).toBitVec = 0#8 := by
    have := congrArg (fun z => BitVec.setWidth 8 x.toBitVec ^^^ z) e3
    simp only [BitVec.xor_self, ← BitVec.xor_assoc, BitVec.zero_xor] at this
    exact this.symm
  have e5 := congrArg BitVec.toNat e4
  rw [BitVec.toNat_setWidth] at e5
  have e6 : (Int32.ofNat d).toBitVec.toNat = d := by
    show (BitVec.ofNat 32 d).toNat = d
    rw [BitVec.toNat_ofNat]; omega
  rw [e6] at e5
  have : (0#8).toNat = 0 := rfl
  omega
def own_g4 (a b c d : Int32) : Nat → Int32 := fun i => match i with | 0 => a | 1 => b | 2 => c | _ => d
def own_g6 (x a b c d y : Int32) : Nat → Int32 := fun i => match i with | 0 => x | 1 => a | 2 => b | 3 => c | 4 => d | _ => y
theorem own_g46 (x b0 b1 b2 b3 y : Int32) : ∀ i, i < 4 → own_g4 b0 b1 b2 b3 i = own_g6 x b0 b1 b2 b3 y (i + 1) := by
  intro i hi
  have : i = 0 ∨ i = 1 ∨ i = 2 ∨ i = 3 := by omega
  rcases this with rfl | rfl | rfl | rfl <;> rfl
theorem own_mid (i0 i1 i2 i3 : Int32) (b0 b1 b2 b3 : Int32) (w0 : b0.toInt8.toInt32 = b0) (w1 : b1.toInt8.toInt32 = b1) (w2 : b2.toInt8.toInt32 = b2) (w3 : b3.toInt8.toInt32 = b3) (f t : Nat) (hf : f ≤ t) (ht : t ≤ 4) :
    RI.Good WW 6 160 m_0 71 [.val (.int i0), .val (.int i1), .val (.int i2), .val (.int i3), .val (.ref 0), .val (.int (Int32.ofNat f)), .val (.int (Int32.ofNat t)), .unset, .unset, .unset, .unset, .unset, .unset, .unset, .unset] [] [.inr (.byte, [.int b0, .int b1, .int b2, .int b3])] 24 128 := by
  obtain ⟨x, ex⟩ : ∃ x, x = i2.toInt8.toInt32.toInt8.toInt32 := ⟨_, rfl⟩
  obtain ⟨y, ey⟩ : ∃ y, y = (i2 >>> ((Int8.ofInt 8).toInt32 &&& 31)).toInt8.toInt32.toInt8.toInt32 := ⟨_, rfl⟩
  have hwr : ∀ i, (own_g4 b0 b1 b2 b3 i).toInt8.toInt32 = own_g4 b0 b1 b2 b3 i := fun i => by
    unfold own_g4
    split <;> assumption
  have key : ∀ (g3 : Nat → Int32) (s10 s11 : Slot) (l10 : RI.LeS .unset s10) (l11 : RI.LeS .unset s11), (t = f ∨ ∃ p, f ≤ p ∧ p < t ∧ ¬ own_g4 b0 b1 b2 b3 p = g3 p ∧ ∀ i, ¬ i = p → own_g4 b0 b1 b2 b3 i = g3 i) →
      RI.Good WW 6 160 m_0 201 [.val (.int i0), .val (.int i1), .val (.int i2), .val (.int i3), .val (.ref 0), .val (.int (Int32.ofNat f)), .val (.int (Int32.ofNat t)), .val (.int (Int32.ofNat (t - f))), .val (.ref 1), .val (.ref 2), s10, s11, .unset, .unset, .unset] [] [.inr (.byte, own_rk (own_g4 b0 b1 b2 b3) 4), .inr (.byte, own_rk (own_g6 x b0 b1 b2 b3 y) 6), .inr (.byte, own_rk g3 4)] 24 128 := by
    intro g3 s10 s11 l10 l11 h3
    refine ⟨_, (own_end (.val (.int i0)) (.val (.int i1)) (.val (.int i2)) (.val (.int i3)) (own_g4 b0 b1 b2 b3) (own_g6 x b0 b1 b2 b3 y) g3 f t hf ht (own_g46 x b0 b1 b2 b3 y) h3).forget ?_, Nat.le_of_ble_eq_true rfl, Nat.le_of_ble_eq_true rfl⟩
    exact .cons (.refl _) (.cons (.refl _) (.cons (.refl _) (.cons (.refl _) (.cons (.refl _) (.cons (.refl _) (.cons (.refl _) (.cons (.refl _) (.cons (.refl _) (.cons (.refl _) (.cons l10 (.cons l11 (RI.Le.refl _))))))))))))
  have pre : ∀ r, RI.Ev WW 6 160 m_0 158 [.val (.int i0), .val (.int i1), .val (.int i2), .val (.int i3), .val (.ref 0), .val (.int (Int32.ofNat f)), .val (.int (Int32.ofNat t)), .val (.int (Int32.ofNat (t - f))), .val (.ref 1), .val (.ref 2), .unset, .unset, .unset, .unset, .unset] [] [.inr (.byte, own_rk (own_g4 b0 b1 b2 b3) 4), .inr (.byte, own_rk (own_g6 x b0 b1 b2 b3 y) 6), .inr (.byte, own_rk (own_g4 b0 b1 b2 b3) 4)] r →
      RI.Ev WW 6 160 m_0 71 [.val (.int i0), .val (.int i1), .val (.int i2), .val (.int i3), .val (.ref 0), .val (.int (Int32.ofNat f)), .val (.int (Int32.ofNat t)), .unset, .unset, .unset, .unset, .unset, .unset, .unset, .unset] [] [.inr (.byte, [.int b0, .int b1, .int b2, .int b3])] r := by
    intro r hr
    refine RI.Ev.go 3 rfl ?_
    rw [own_sub hf (by omega)]
    refine RI.Ev.go 1 rfl ?_
    try dsimp only [List.set, RI.fv0, RI.fv1, RI.fv2, RI.fv3, RI.tn0, RI.tn1, RI.tn2, RI.tn3, RI.tn4, RI.tn5, Nat.reduceAdd, List.cons_append, List.nil_append, Option.toList]
    refine RI.Ev.go 2 (ah' := [.inr (.byte, [.int b0, .int b1, .int b2, .int b3]), .inr (.byte, [.int 0, .int 0, .int 0, .int 0, .int 0, .int 0])]) rfl ?_
    refine RI.Ev.go 5 rfl ?_
    try dsimp only [List.set, RI.fv0, RI.fv1, RI.fv2, RI.fv3, RI.tn0, RI.tn1, RI.tn2, RI.tn3, RI.tn4, RI.tn5, Nat.reduceAdd, List.cons_append, List.nil_append, Option.toList]
    rw [← ex]
    refine RI.Ev.go 6 rfl ?_
    try dsimp only [List.set, RI.fv0, RI.fv1, RI.fv2, RI.fv3, RI.tn0, RI.tn1, RI.tn2, RI.tn3, RI.tn4, RI.tn5, Nat.reduceAdd, List.cons_append, List.nil_append, Option.toList]
    rw [w0]
    refine RI.Ev.go 6 rfl ?_
    try dsimp only [List.set, RI.fv0, RI.fv1, RI.fv2, RI.fv3, RI.tn0, RI.tn1, RI.tn2, RI.tn3, RI.tn4, RI.tn5, Nat.reduceAdd, List.cons_append, List.nil_append, Option.toList]
    rw [w1]
    refine RI.Ev.go 6 rfl ?_
    try dsimp only [List.set, RI.fv0, RI.fv1, RI.fv2, RI.fv3, RI.tn0, RI.tn1, RI.tn2, RI.tn3, RI.tn4, RI.tn5, Nat.reduceAdd, List.cons_append, List.nil_append, Option.toList]
    rw [w2]
    refine RI.Ev.go 6 rfl ?_
    try dsimp only [List.set, RI.fv0, RI.fv1, RI.fv2, RI.fv3, RI.tn0, RI.tn1, RI.tn2, RI.tn3, RI.tn4, RI.tn5, Nat.reduceAdd, List.cons_append, List.nil_append, Option.toList]
    rw [w3]
    refine RI.Ev.go 7 rfl ?_
    try dsimp only [List.set, RI.fv0, RI.fv1, RI.fv2, RI.fv3, RI.tn0, RI.tn1, RI.tn2, RI.tn3, RI.tn4, RI.tn5, Nat.reduceAdd, List.cons_append, List.nil_append, Option.toList]
    rw [← ey]
    refine RI.Ev.go 1 rfl ?_
    try dsimp only [List.set, RI.fv0, RI.fv1, RI.fv2, RI.fv3, RI.tn0, RI.tn1, RI.tn2, RI.tn3, RI.tn4, RI.tn5, Nat.reduceAdd, List.cons_append, List.nil_append, Option.toList]
    refine RI.Ev.go 2 (ah' := [.inr (.byte, [.int b0, .int b1, .int b2, .int b3]), .inr (.byte, [.int x, .int b0, .int b1, .int b2, .int b3, .int y]), .inr (.byte, [.int 0, .int 0, .int 0, .int 0])]) rfl ?_
    refine RI.Ev.go 6 rfl ?_
    try dsimp only [List.set, RI.fv0, RI.fv1, RI.fv2, RI.fv3, RI.tn0, RI.tn1, RI.tn2, RI.tn3, RI.tn4, RI.tn5, Nat.reduceAdd, List.cons_append, List.nil_append, Option.toList]
    rw [w0]
    refine RI.Ev.go 6 rfl ?_
    try dsimp only [List.set, RI.fv0, RI.fv1, RI.fv2, RI.fv3, RI.tn0, RI.tn1, RI.tn2, RI.tn3, RI.tn4, RI.tn5, Nat.reduceAdd, List.cons_append, List.nil_append, Option.toList]
    rw [w1]
    refine RI.Ev.go 6 rfl ?_
    try dsimp only [List.set, RI.fv0, RI.fv1, RI.fv2, RI.fv3, RI.tn0, RI.tn1, RI.tn2, RI.tn3, RI.tn4, RI.tn5, Nat.reduceAdd, List.cons_append, List.nil_append, Option.toList]
    rw [w2]
    refine RI.Ev.go 6 rfl ?_
    try dsimp only [List.set, RI.fv0, RI.fv1, RI.fv2, RI.fv3, RI.tn0, RI.tn1, RI.tn2, RI.tn3, RI.tn4, RI.tn5, Nat.reduceAdd, List.cons_append, List.nil_append, Option.toList]
    rw [w3]
    refine RI.Ev.go 1 rfl ?_
    try dsimp only [List.set, RI.fv0, RI.fv1, RI.fv2, RI.fv3, RI.tn0, RI.tn1, RI.tn2, RI.tn3, RI.tn4, RI.tn5, Nat.reduceAdd, List.cons_append, List.nil_append, Option.toList]
    exact hr
  by_cases hl : t = f
  · refine ((key (own_g4 b0 b1 b2 b3) .unset .unset (.refl _) (.refl _) (Or.inl hl)).lift fun r hr => pre r ?_)
    refine RI.Ev.go 1 rfl ?_
    refine RI.Ev.cond rfl (fun q => hr) (fun q => absurd (q.symm.trans (XT.i0_le_t (fun z => by rw [show (0 : Int32) = Int32.ofNat 0 from rfl, own_lt (by omega) (by omega)] at z; omega))) (by decide))
  · have hpos : 0 < t - f := by omega
    obtain ⟨m, hm, em⟩ := RI.rem_nat i3 (t - f) hpos (by omega)
    have eu := RI.ushr_nat i2 16 16 (by decide)
    have hu : i2.toBitVec.toNat / 2 ^ 16 < 2 ^ 31 := by have := i2.toBitVec.isLt; omega
    obtain ⟨d, hd1, hd2, ed⟩ : ∃ d, 1 ≤ d ∧ d ≤ 255 ∧ XT.ushr i2 16 % 255 + 1 = Int32.ofNat d := by
      refine ⟨i2.toBitVec.toNat / 2 ^ 16 % 255 + 1, by omega, by omega, ?_⟩
      rw [RI.eq_ofNat eu, show (255 : Int32) = Int32.ofNat 255 by decide, RI.rem_of hu (by decide) (by decide)]
      exact own_succ (by omega)
    obtain ⟨p, hp⟩ : ∃ p, p = f + m := ⟨_, rfl⟩
    refine ((key (fun i => if i = p then (own_g4 b0 b1 b2 b3 p ^^^ Int32.ofNat d).toInt8.toInt32.toInt8.toInt32 else own_g4 b0 b1 b2 b3 i) (.val (.int (Int32.ofNat p))) (.val (.int (Int32.ofNat d))) (.int _) (.int _) (Or.inr ⟨p, by omega, by omega, ?_, fun i hi => (if_neg hi).symm⟩)).lift fun r hr => pre r ?_)
    · rw [if_pos rfl, own_idem]
      exact own_xne _ (hwr p) d hd1 hd2
    refine RI.Ev.go 1 rfl ?_
    refine RI.Ev.cond rfl (fun q => absurd (q.symm.trans (XT.i0_le_f (by rw [show (0 : Int32) = Int32.ofNat 0 from rfl, own_lt (by omega) (by omega)]; exact hpos))) (by decide)) (fun q => ?_)
    refine RI.Ev.go 5 rfl ?_
    refine RI.Ev.irem rfl (fun z => by rw [show (0 : Int32) = Int32.ofNat 0 from rfl, own_inj (by omega) (by omega)] at z; omega) ?_
    rw [em]
    refine RI.Ev.go 1 rfl ?_
    rw [own_add, ← hp]
    refine RI.Ev.go 1 rfl ?_
    try dsimp only [List.set, RI.fv0, RI.fv1, RI.fv2, RI.fv3, RI.tn0, RI.tn1, RI.tn2, RI.tn3, RI.tn4, RI.tn5, Nat.reduceAdd, List.cons_append, List.nil_append, Option.toList]
    refine RI.Ev.go 4 rfl ?_
    refine RI.Ev.irem rfl (by decide) ?_
    refine RI.Ev.go 2 rfl ?_
    rw [show XT.ushr i2 (Int8.ofInt 16).toInt32 % (Int16.ofInt 255).toInt32 + Int32.ofInt 1 = Int32.ofNat d from ed]
    refine RI.Ev.go 1 rfl ?_
    try dsimp only [List.set, RI.fv0, RI.fv1, RI.fv2, RI.fv3, RI.tn0, RI.tn1, RI.tn2, RI.tn3, RI.tn4, RI.tn5, Nat.reduceAdd, List.cons_append, List.nil_append, Option.toList]
    refine RI.Ev.go 4 rfl ?_
    refine RI.Ev.baloadS rfl rfl (own_nn (by omega)) (by rw [own_tn (by omega)]; exact own_rk_get _ (by omega)) ?_
    refine RI.Ev.go 3 rfl ?_
    refine RI.Ev.bastoreS rfl rfl (own_nn (by omega)) (by rw [own_tn (by omega), own_rk_len]; omega) ?_
    rw [own_tn (by omega), own_rk_set]
    try dsimp only [List.set, RI.fv0, RI.fv1, RI.fv2, RI.fv3, RI.tn0, RI.tn1, RI.tn2, RI.tn3, RI.tn4, RI.tn5, Nat.reduceAdd, List.cons_append, List.nil_append, Option.toList]
    exact hr
theorem own_ent0 (a b c d : Int32) : RI.ent [.int a, .int b, .int c, .int d] 15 = [.val (.int a), .val (.int b), .val (.int c), .val (.int d), .unset, .unset, .unset, .unset, .unset, .unset, .unset, .unset, .unset, .unset, .unset] := rfl
theorem law_run (i0 : Int32) (i1 : Int32) (i2 : Int32) (i3 : Int32) : ∃ N ah', RI.run WW N room_1.frames room_1.locals m_0 0 (RI.ent [.int i0, .int i1, .int i2, .int i3] maxLocals) [] [] = some (some (.int 1), ah') ∧ ah'.length ≤ room_1.cells ∧ RI.sz WW ah' ≤ room_1.slots := by
  obtain ⟨f, hf, ef⟩ := RI.rem_nat i1 5 (by decide) (by decide)
  obtain ⟨t, ht, et⟩ := RI.rem_nat (XT.ushr i1 3) 5 (by decide) (by decide)
  have h : RI.Good WW 6 160 m_0 0 (RI.ent [.int i0, .int i1, .int i2, .int i3] 15) [] [] 24 128 := by
    have pre : ∀ r, RI.Ev WW 6 160 m_0 52 [.val (.int i0), .val (.int i1), .val (.int i2), .val (.int i3), .val (.ref 0), .val (.int (Int32.ofNat f)), .val (.int (Int32.ofNat t)), .unset, .unset, .unset, .unset, .unset, .unset, .unset, .unset] [] [.inr (.byte, [.int i0.toInt8.toInt32, .int (i0 >>> ((Int8.ofInt 8).toInt32 &&& 31)).toInt8.toInt32, .int (i0 >>> ((Int8.ofInt 16).toInt32 &&& 31)).toInt8.toInt32, .int (i0 >>> ((Int8.ofInt 24).toInt32 &&& 31)).toInt8.toInt32])] r →
        RI.Ev WW 6 160 m_0 0 (RI.ent [.int i0, .int i1, .int i2, .int i3] 15) [] [] r := by
      intro r hr
      rw [own_ent0]
      refine RI.Ev.go 2 (ah' := [.inr (.byte, [.int 0, .int 0, .int 0, .int 0])]) rfl ?_
      refine RI.Ev.go 5 rfl ?_
      try dsimp only [List.set, RI.fv0, RI.fv1, RI.fv2, RI.fv3, RI.tn0, RI.tn1, RI.tn2, RI.tn3, RI.tn4, RI.tn5, Nat.reduceAdd, List.cons_append, List.nil_append, Option.toList]
      rw [own_idem]
      refine RI.Ev.go 7 rfl ?_
      try dsimp only [List.set, RI.fv0, RI.fv1, RI.fv2, RI.fv3, RI.tn0, RI.tn1, RI.tn2, RI.tn3, RI.tn4, RI.tn5, Nat.reduceAdd, List.cons_append, List.nil_append, Option.toList]
      rw [own_idem]
      refine RI.Ev.go 7 rfl ?_
      try dsimp only [List.set, RI.fv0, RI.fv1, RI.fv2, RI.fv3, RI.tn0, RI.tn1, RI.tn2, RI.tn3, RI.tn4, RI.tn5, Nat.reduceAdd, List.cons_append, List.nil_append, Option.toList]
      rw [own_idem]
      refine RI.Ev.go 7 rfl ?_
      try dsimp only [List.set, RI.fv0, RI.fv1, RI.fv2, RI.fv3, RI.tn0, RI.tn1, RI.tn2, RI.tn3, RI.tn4, RI.tn5, Nat.reduceAdd, List.cons_append, List.nil_append, Option.toList]
      rw [own_idem]
      refine RI.Ev.go 1 rfl ?_
      try dsimp only [List.set, RI.fv0, RI.fv1, RI.fv2, RI.fv3, RI.tn0, RI.tn1, RI.tn2, RI.tn3, RI.tn4, RI.tn5, Nat.reduceAdd, List.cons_append, List.nil_append, Option.toList]
      refine RI.Ev.go 4 rfl ?_
      refine RI.Ev.irem rfl (by decide) ?_
      rw [show (i1 &&& 2147483647) % Int32.ofInt 5 = Int32.ofNat f from ef]
      refine RI.Ev.go 1 rfl ?_
      try dsimp only [List.set, RI.fv0, RI.fv1, RI.fv2, RI.fv3, RI.tn0, RI.tn1, RI.tn2, RI.tn3, RI.tn4, RI.tn5, Nat.reduceAdd, List.cons_append, List.nil_append, Option.toList]
      refine RI.Ev.go 6 rfl ?_
      refine RI.Ev.irem rfl (by decide) ?_
      rw [show (XT.ushr i1 (Int32.ofInt 3) &&& 2147483647) % Int32.ofInt 5 = Int32.ofNat t from et]
      refine RI.Ev.go 1 rfl ?_
      try dsimp only [List.set, RI.fv0, RI.fv1, RI.fv2, RI.fv3, RI.tn0, RI.tn1, RI.tn2, RI.tn3, RI.tn4, RI.tn5, Nat.reduceAdd, List.cons_append, List.nil_append, Option.toList]
      exact hr
    by_cases hft : f ≤ t
    · refine (own_mid i0 i1 i2 i3 _ _ _ _ (own_idem i0) (own_idem (i0 >>> ((Int8.ofInt 8).toInt32 &&& 31))) (own_idem (i0 >>> ((Int8.ofInt 16).toInt32 &&& 31))) (own_idem (i0 >>> ((Int8.ofInt 24).toInt32 &&& 31))) f t hft (by omega)).lift fun r hr => pre r ?_
      refine RI.Ev.go 2 rfl ?_
      refine RI.Ev.icmp rfl (fun q => hr) (fun q => absurd (q.symm.trans (XT.ii_le_t (fun z => by rw [own_lt (by omega) (by omega)] at z; omega))) (by decide))
    · refine (own_mid i0 i1 i2 i3 _ _ _ _ (own_idem i0) (own_idem (i0 >>> ((Int8.ofInt 8).toInt32 &&& 31))) (own_idem (i0 >>> ((Int8.ofInt 16).toInt32 &&& 31))) (own_idem (i0 >>> ((Int8.ofInt 24).toInt32 &&& 31))) t f (by omega) (by omega)).lift fun r hr => pre r ?_
      refine RI.Ev.go 2 rfl ?_
      refine RI.Ev.icmp rfl (fun q => absurd (q.symm.trans (XT.ii_le_f ((own_lt (by omega) (by omega)).mpr (by omega)))) (by decide)) (fun q => ?_)
      refine RI.Ev.go 2 rfl ?_
      try dsimp only [List.set, RI.fv0, RI.fv1, RI.fv2, RI.fv3, RI.tn0, RI.tn1, RI.tn2, RI.tn3, RI.tn4, RI.tn5, Nat.reduceAdd, List.cons_append, List.nil_append, Option.toList]
      refine RI.Ev.go 2 rfl ?_
      try dsimp only [List.set, RI.fv0, RI.fv1, RI.fv2, RI.fv3, RI.tn0, RI.tn1, RI.tn2, RI.tn3, RI.tn4, RI.tn5, Nat.reduceAdd, List.cons_append, List.nil_append, Option.toList]
      refine RI.Ev.go 2 rfl ?_
      try dsimp only [List.set, RI.fv0, RI.fv1, RI.fv2, RI.fv3, RI.tn0, RI.tn1, RI.tn2, RI.tn3, RI.tn4, RI.tn5, Nat.reduceAdd, List.cons_append, List.nil_append, Option.toList]
      refine hr.forget ?_
      exact .cons (.refl _) (.cons (.refl _) (.cons (.refl _) (.cons (.refl _) (.cons (.refl _) (.cons (.refl _) (.cons (.refl _) (.cons (.int _) (RI.Le.refl _))))))))
  obtain ⟨ah', ⟨N, hN⟩, h1, h2⟩ := h
  exact ⟨N, ah', hN, h1, h2⟩
/-! from the pure statement to the owed theorems -/
set_option maxRecDepth 65536 in
set_option maxHeartbeats 4000000 in
theorem comes_1 {Post : Tables → Env → Array Value → State → Outcome → State → Prop} (hpost : ∀ tb e args s v u, (limb_1_1.after args s (.returned v) u = true ∧ limb_1_2.after args s (.returned v) u = true ∧ True) → FrameEnd s (.returned v) u (Jvm.fieldLocs frame_1_writes args s ++ Jvm.arrayLocs frame_1_arrays args s ++ Jvm.staticLocs frame_1_statics s) 24 128 → Post tb e args s (.returned v) u) :
    ArmFor flags0 classFile x code maxLocals ret World_1 tables_1 room_1 Calls_1 rest_1 Pre_1 Post := by
  intro l hfl _ _ p e ha hc hk s m args below hf hA hF happ hP
  obtain ⟨hcalls, hrest, hpre⟩ := hP
  obtain ⟨-, -, -, hnamed, -, -, -, hat⟩ := (Spec.applies_iff hf).mp happ
  obtain ⟨hg, hn⟩ := and_e (Cond.before_iff.mp (show (Jvm.Cond.and given_1 narrow_1).before args s = true from hpre))
  obtain ⟨g1, g2⟩ := and_e hg
  obtain ⟨g3, g4⟩ := and_e g2
  obtain ⟨g5, g6⟩ := and_e g4
  obtain ⟨g7, g8⟩ := and_e g6
  obtain ⟨w0, w1, w2, w3, rfl⟩ : ∃ w0 w1 w2 w3 : Value, args = #[w0, w1, w2, w3] := by
    have hs : args.size = 4 := by simpa [Cond.value, given_1] using g1
    obtain ⟨L⟩ := args
    match L, hs with
    | [w0, w1, w2, w3], _ => exact ⟨w0, w1, w2, w3, rfl⟩
  obtain ⟨i0, ei0⟩ := is_v g3
  obtain rfl : w0 = (.int i0) := Option.some.inj ei0
  obtain ⟨i1, ei1⟩ := is_v g5
  obtain rfl : w1 = (.int i1) := Option.some.inj ei1
  obtain ⟨i2, ei2⟩ := is_v g7
  obtain rfl : w2 = (.int i2) := Option.some.inj ei2
  obtain ⟨i3, ei3⟩ := is_v g8
  obtain rfl : w3 = (.int i3) := Option.some.inj ei3
  have hw : ∀ d ∈ tab1, d.before #[.int i0, .int i1, .int i2, .int i3] s = true := fun d hd => atoms_spec (ws := Jvm.Cond.code x code maxLocals ret :: tables_1) hat d hd
  obtain ⟨N, ah', hrun, hcl, hsl⟩ := law_run i0 i1 i2 i3
  have hmet := RI.met (M := m_0) (l := l) (Z := s) (b := s.heap.size) (ah := []) (h0 := s.heap) (ws := tables_1) (dc := room_1.cells) (ds := room_1.slots) (RI.sound hw wok_1 plain_1 (RI.noX no6_1) N) (List.mem_cons_self ..) pl_0 hrun (Nat.le_of_ble_eq_true rfl) ⟨by simp, by simp, fun _ _ _ h => h⟩ (by simpa using hcl) (by simpa [RI.sz] using hsl)
  obtain ⟨n, o, h1, h2, h3, _, L, rfl, ⟨rfl, -, N⟩, hq⟩ := hmet p e ha hc hk s m _ below hf ((Spec.applies_iff_loose hf).mp happ).1 ⟨rfl, State.Warmed39.refl s, rfl⟩ trivial
  exact ⟨n, _, h1, h2, h3, hpost _ _ _ _ _ _ ⟨Cond.after_iff.mpr rfl, Cond.after_iff.mpr (eq_i res_at (Term.int_eval (1)) rfl), trivial⟩ ⟨hq.1, hq.2.1, (hq.2.2.sift fun y hy => Or.inr (N y hy)).mono (by decide) (by decide)⟩⟩
theorem main_1_1 : Claimed_1_1 := comes_1 fun _ _ _ _ _ _ h hF => ⟨h.1, hF⟩
theorem main_1_2 : Claimed_1_2 := comes_1 fun _ _ _ _ _ _ h hF => ⟨h.2.1, hF⟩
end Jvm.Pilot.@@N@@
namespace Jvm.Pilot.@@N@@
open Jvm Jvm.ClassFile Sem Op Lib Jvm.Free Jvm.Stand Jvm.Pilot.@@N@@.Jvm.D
/-! MADE BY PROGRAM (witnessworld.py) out of the Statement's table words and the real class files: 11 classes; the members and pool entries that the words name. The judged class is class 1, her method 1. -/
namespace start1
open Jvm.ClassFile
def u (s : String) : CpInfo := .utf8 (stringToUtf16 s)
/-- a pool by its gaps: so many unusable entries, then the entry; so many at the end -/
def gap : Nat → List CpInfo → List CpInfo
  | 0, r => r
  | n + 1, r => .unusable :: gap n r
def poolList (es : List (Nat × CpInfo)) (last : Nat) : List CpInfo := es.foldr (fun e r => gap e.1 (e.2 :: r)) (gap last [])
def pool (es : List (Nat × CpInfo)) (last : Nat) : Array CpInfo := ⟨poolList es last⟩
def fileOf (pool : Array CpInfo) (this : Nat) (attrs : Array Attribute := #[]) (ms : Array MethodInfo := #[]) (fl : Nat := 33) (sup : Nat := 0) (ifs : Array Nat := #[]) (fds : Array FieldInfo := #[]) : ClassFile where
  minorVersion := 0
  majorVersion := 65
  constantPool := pool
  accessFlags := fl
  thisClass := this
  superClass := sup
  interfaces := ifs
  fields := fds
  methods := ms
  attributes := attrs
def plain (name : String) (sup : Option ClassId) : Class where
  name := name
  kind := .ordinary
  loader := none
  accessFlags := 33
  super := sup
  interfaces := #[]
  cf := none
  fields := #[]
  methods := #[]
  instanceTypes := #[]
  staticTypes := #[]
  resolved := #[]
  callSites := []
  init := .initialized
  statics := none
  mirror := none

def pool0 : Array CpInfo := pool [(5, u "<init>"), (0, u "()V"), (1, .class_ 10), (1, u "java/lang/Object")] 113

def k0c0 : Code := { maxStack := 0, maxLocals := 1, code := object_method_1_code, exceptionTable := #[], attributes := #[] }
def k0m0 : Method := { name := "<init>", desc := "()V", sig := { parameters := [], returnType := none }, accessFlags := 1, code := some k0c0 }
/-- java/lang/Object -/
def k0 : Class := { plain "java/lang/Object" none with
  accessFlags := 33
  interfaces := #[]
  cf := some (fileOf pool0 8 #[] #[{ accessFlags := 1, nameIndex := 5, descriptorIndex := 6, attributes := #[] }] 33 0 #[] #[])
  fields := #[]
  methods := #[k0m0]
  instanceTypes := #[]
  staticTypes := #[]
  resolved := Array.replicate 124 none
  statics := none }

def pool1 : Array CpInfo := pool [(2, .class_ 4), (0, .nameAndType 5 6), (0, u "java/lang/Object"), (0, u "<init>"), (0, u "()V"), (0, .integer 2147483647), (0, .class_ 9), (0, u "com/example/nymtrace/nymtrace/io/ByteKey"), (0, .methodref 8 3), (0, .methodref 8 12), (0, .nameAndType 13 14), (0, u "set"), (0, u "([BII)Lcom/example/nymtrace/nymtrace/io/ByteKey;"), (0, .methodref 8 16), (0, .nameAndType 17 18), (0, u "hashCode"), (0, u "()I"), (0, .methodref 20 21), (0, .class_ 22), (0, .nameAndType 23 24), (0, u "com/example/nymtrace/nymtrace/io/ByteKeySetPinLaw"), (0, u "ref"), (0, u "([BII)I"), (0, .methodref 8 26), (0, .nameAndType 27 28), (0, u "equals"), (0, u "(Ljava/lang/Object;)Z"), (0, .methodref 20 30), (0, .nameAndType 31 32), (0, u "pow31"), (0, u "(I)I"), (0, .methodref 20 34), (0, .nameAndType 35 36), (0, u "term"), (0, u "([BIII)I"), (2, u "law"), (0, u "(IIII)Z")] 5

def k1m0 : Method := { name := "<init>", desc := "()V", sig := { parameters := [], returnType := none }, accessFlags := 1, code := none }
def k1c1 : Code := { maxStack := 5, maxLocals := 15, code := code, exceptionTable := #[], attributes := #[] }
def k1m1 : Method := { name := "law", desc := "(IIII)Z", sig := { parameters := [.int, .int, .int, .int], returnType := some .boolean }, accessFlags := 9, code := some k1c1 }
def k1c2 : Code := { maxStack := 2, maxLocals := 1, code := method_3_code, exceptionTable := #[], attributes := #[] }
def k1m2 : Method := { name := "pow31", desc := "(I)I", sig := { parameters := [.int], returnType := some .int }, accessFlags := 10, code := some k1c2 }
def k1c3 : Code := { maxStack := 3, maxLocals := 4, code := method_4_code, exceptionTable := #[], attributes := #[] }
def k1m3 : Method := { name := "term", desc := "([BIII)I", sig := { parameters := [(.array .byte), .int, .int, .int], returnType := some .int }, accessFlags := 10, code := some k1c3 }
def k1c4 : Code := { maxStack := 5, maxLocals := 3, code := method_5_code, exceptionTable := #[], attributes := #[] }
def k1m4 : Method := { name := "ref", desc := "([BII)I", sig := { parameters := [(.array .byte), .int, .int], returnType := some .int }, accessFlags := 10, code := some k1c4 }
/-- com/example/nymtrace/nymtrace/io/ByteKeySetPinLaw -/
def k1 : Class := { plain "com/example/nymtrace/nymtrace/io/ByteKeySetPinLaw" (some 0) with
  accessFlags := 49
  interfaces := #[]
  cf := some (fileOf pool1 20 #[] #[{ accessFlags := 1, nameIndex := 5, descriptorIndex := 6, attributes := #[] }, { accessFlags := 9, nameIndex := 39, descriptorIndex := 40, attributes := #[] }, { accessFlags := 10, nameIndex := 31, descriptorIndex := 32, attributes := #[] }, { accessFlags := 10, nameIndex := 35, descriptorIndex := 36, attributes := #[] }, { accessFlags := 10, nameIndex := 23, descriptorIndex := 24, attributes := #[] }] 49 2 #[] #[])
  fields := #[]
  methods := #[k1m0, k1m1, k1m2, k1m3, k1m4]
  instanceTypes := #[]
  staticTypes := #[]
  resolved := Array.replicate 46 none
  statics := none }

def pool2 : Array CpInfo := pool [(1, .methodref 2 3), (0, .class_ 4), (0, .nameAndType 5 6), (0, u "java/lang/Object"), (0, u "<init>"), (0, u "()V"), (0, .fieldref 8 9), (0, .class_ 10), (0, .nameAndType 11 12), (0, u "com/example/nymtrace/nymtrace/io/ByteKey"), (0, u "bytes"), (0, u "[B"), (0, .fieldref 8 14), (0, .nameAndType 15 16), (0, u "from"), (0, u "I"), (0, .fieldref 8 18), (0, .nameAndType 19 16), (0, u "to"), (0, .fieldref 8 21), (0, .nameAndType 22 16), (0, u "hash"), (1, .class_ 26), (1, u "java/util/Arrays"), (5, u "set"), (0, u "([BII)Lcom/example/nymtrace/nymtrace/io/ByteKey;"), (11, .methodref 24 46), (0, .nameAndType 47 48), (0, u "equals"), (0, u "([BII[BII)Z"), (7, u "hashCode"), (0, u "()I"), (0, u "(Ljava/lang/Object;)Z")] 2

def k2c0 : Code := { maxStack := 1, maxLocals := 1, code := prog_31_method_1_code, exceptionTable := #[], attributes := #[] }
def k2m0 : Method := { name := "<init>", desc := "()V", sig := { parameters := [], returnType := none }, accessFlags := 1, code := some k2c0 }
def k2c1 : Code := { maxStack := 3, maxLocals := 6, code := prog_31_method_2_code, exceptionTable := #[], attributes := #[] }
def k2m1 : Method := { name := "set", desc := "([BII)Lcom/example/nymtrace/nymtrace/io/ByteKey;", sig := { parameters := [(.array .byte), .int, .int], returnType := some (.object "com/example/nymtrace/nymtrace/io/ByteKey") }, accessFlags := 1, code := some k2c1 }
def k2c2 : Code := { maxStack := 1, maxLocals := 1, code := prog_31_method_5_code, exceptionTable := #[], attributes := #[] }
def k2m2 : Method := { name := "hashCode", desc := "()I", sig := { parameters := [], returnType := some .int }, accessFlags := 1, code := some k2c2 }
def k2c3 : Code := { maxStack := 6, maxLocals := 3, code := prog_31_method_6_code, exceptionTable := #[], attributes := #[] }
def k2m3 : Method := { name := "equals", desc := "(Ljava/lang/Object;)Z", sig := { parameters := [(.object "java/lang/Object")], returnType := some .boolean }, accessFlags := 1, code := some k2c3 }
/-- com/example/nymtrace/nymtrace/io/ByteKey -/
def k2 : Class := { plain "com/example/nymtrace/nymtrace/io/ByteKey" (some 0) with
  accessFlags := 49
  interfaces := #[]
  cf := some (fileOf pool2 8 #[] #[{ accessFlags := 1, nameIndex := 5, descriptorIndex := 6, attributes := #[] }, { accessFlags := 1, nameIndex := 32, descriptorIndex := 33, attributes := #[] }, { accessFlags := 1, nameIndex := 56, descriptorIndex := 57, attributes := #[] }, { accessFlags := 1, nameIndex := 47, descriptorIndex := 58, attributes := #[] }] 49 2 #[] #[{ accessFlags := 2, nameIndex := 11, descriptorIndex := 12, attributes := #[] }, { accessFlags := 2, nameIndex := 15, descriptorIndex := 16, attributes := #[] }, { accessFlags := 2, nameIndex := 19, descriptorIndex := 16, attributes := #[] }, { accessFlags := 2, nameIndex := 22, descriptorIndex := 16, attributes := #[] }])
  fields := #[{ name := "bytes", type := (.array .byte), accessFlags := 2, slot := 0, constantValue := 0 }, { name := "from", type := .int, accessFlags := 2, slot := 1, constantValue := 0 }, { name := "to", type := .int, accessFlags := 2, slot := 2, constantValue := 0 }, { name := "hash", type := .int, accessFlags := 2, slot := 3, constantValue := 0 }]
  methods := #[k2m0, k2m1, k2m2, k2m3]
  instanceTypes := #[(.array .byte), .int, .int, .int]
  staticTypes := #[]
  resolved := Array.replicate 61 none
  statics := none }

def pool3 : Array CpInfo := pool [(2, .class_ 4), (1, u "java/lang/Object"), (0, u "<init>"), (0, u "()V"), (6, .methodref 14 15), (0, .class_ 16), (0, .nameAndType 17 18), (0, u "java/util/Arrays"), (0, u "rangeCheck"), (0, u "(III)V"), (55, .class_ 76), (1, u "java/util/Arrays$NaturalOrder"), (36, .class_ 115), (1, u "java/util/Arrays$LegacyMergeSort"), (1, u "Z"), (128, .class_ 248), (1, u "jdk/internal/util/ArraysSupport"), (0, u "mismatch"), (25, .methodref 246 276), (0, .nameAndType 249 277), (0, u "([BI[BII)I"), (20, u "equals"), (76, .class_ 376), (0, u "java/util/Arrays$ArrayList"), (68, u "$assertionsDisabled"), (269, u "MIN_ARRAY_SORT_GRAN"), (0, u "I"), (2, u "INSERTIONSORT_THRESHOLD"), (111, u "([BII[BII)Z"), (143, .class_ 976), (0, u "java/util/Arrays$ArrayItr")] 52

def k3m0 : Method := { name := "<init>", desc := "()V", sig := { parameters := [], returnType := none }, accessFlags := 2, code := none }
def k3c1 : Code := { maxStack := 4, maxLocals := 3, code := jdk_65_method_30_code, exceptionTable := #[], attributes := #[] }
def k3m1 : Method := { name := "rangeCheck", desc := "(III)V", sig := { parameters := [.int, .int, .int], returnType := none }, accessFlags := 8, code := some k3c1 }
def k3c2 : Code := { maxStack := 5, maxLocals := 8, code := jdk_65_method_90_code, exceptionTable := #[], attributes := #[] }
def k3m2 : Method := { name := "equals", desc := "([BII[BII)Z", sig := { parameters := [(.array .byte), .int, .int, (.array .byte), .int, .int], returnType := some .boolean }, accessFlags := 9, code := some k3c2 }
/-- java/util/Arrays -/
def k3 : Class := { plain "java/util/Arrays" (some 0) with
  accessFlags := 49
  interfaces := #[]
  cf := some (fileOf pool3 14 #[.nestMembers #[975, 375, 113, 74]] #[{ accessFlags := 2, nameIndex := 5, descriptorIndex := 6, attributes := #[] }, { accessFlags := 8, nameIndex := 17, descriptorIndex := 18, attributes := #[] }, { accessFlags := 9, nameIndex := 298, descriptorIndex := 831, attributes := #[] }] 49 2 #[] #[{ accessFlags := 26, nameIndex := 715, descriptorIndex := 716, attributes := #[] }, { accessFlags := 26, nameIndex := 719, descriptorIndex := 716, attributes := #[] }, { accessFlags := 4120, nameIndex := 445, descriptorIndex := 117, attributes := #[] }])
  fields := #[{ name := "MIN_ARRAY_SORT_GRAN", type := .int, accessFlags := 26, slot := 0, constantValue := 0 }, { name := "INSERTIONSORT_THRESHOLD", type := .int, accessFlags := 26, slot := 1, constantValue := 0 }, { name := "$assertionsDisabled", type := .boolean, accessFlags := 4120, slot := 2, constantValue := 0 }]
  methods := #[k3m0, k3m1, k3m2]
  instanceTypes := #[]
  staticTypes := #[.int, .int, .boolean]
  resolved := Array.replicate 1029 none
  statics := none }

def pool4 : Array CpInfo := pool [(9, u "<init>"), (6, .class_ 18), (1, u "java/lang/Object"), (0, u "()V"), (1, .class_ 23), (1, u "jdk/internal/util/ArraysSupport"), (0, u "LOG2_ARRAY_LONG_INDEX_SCALE"), (0, u "I"), (2, u "U"), (0, u "Ljdk/internal/misc/Unsafe;"), (8, u "BIG_ENDIAN"), (0, u "Z"), (8, u "LOG2_BYTE_BIT_SIZE"), (4, u "LOG2_ARRAY_INT_INDEX_SCALE"), (54, u "JLA"), (0, u "Ljdk/internal/access/JavaLangAccess;"), (11, u "LOG2_ARRAY_BOOLEAN_INDEX_SCALE"), (9, u "LOG2_ARRAY_BYTE_INDEX_SCALE"), (5, u "LOG2_ARRAY_CHAR_INDEX_SCALE"), (5, u "LOG2_ARRAY_SHORT_INDEX_SCALE"), (5, u "mismatch"), (12, u "LOG2_ARRAY_FLOAT_INDEX_SCALE"), (24, u "LOG2_ARRAY_DOUBLE_INDEX_SCALE"), (89, u "T_BOOLEAN"), (2, u "T_CHAR"), (1, u "T_FLOAT"), (1, u "T_DOUBLE"), (1, u "T_BYTE"), (1, u "T_SHORT"), (1, u "T_INT"), (1, u "T_LONG"), (1, u "SOFT_MAX_ARRAY_LENGTH"), (42, u "([BI[BII)I")] 40

def k4m0 : Method := { name := "<init>", desc := "()V", sig := { parameters := [], returnType := none }, accessFlags := 2, code := none }
def k4c1 : Code := { maxStack := 8, maxLocals := 8, code := jdk_48_method_14_code, exceptionTable := #[], attributes := #[] }
def k4m1 : Method := { name := "mismatch", desc := "([BI[BII)I", sig := { parameters := [(.array .byte), .int, (.array .byte), .int, .int], returnType := some .int }, accessFlags := 9, code := some k4c1 }
/-- jdk/internal/util/ArraysSupport -/
def k4 : Class := { plain "jdk/internal/util/ArraysSupport" (some 0) with
  accessFlags := 33
  interfaces := #[]
  cf := some (fileOf pool4 21 #[] #[{ accessFlags := 2, nameIndex := 9, descriptorIndex := 19, attributes := #[] }, { accessFlags := 9, nameIndex := 149, descriptorIndex := 337, attributes := #[] }] 33 16 #[] #[{ accessFlags := 24, nameIndex := 28, descriptorIndex := 29, attributes := #[] }, { accessFlags := 26, nameIndex := 38, descriptorIndex := 39, attributes := #[] }, { accessFlags := 25, nameIndex := 121, descriptorIndex := 25, attributes := #[] }, { accessFlags := 25, nameIndex := 131, descriptorIndex := 25, attributes := #[] }, { accessFlags := 25, nameIndex := 137, descriptorIndex := 25, attributes := #[] }, { accessFlags := 25, nameIndex := 143, descriptorIndex := 25, attributes := #[] }, { accessFlags := 25, nameIndex := 53, descriptorIndex := 25, attributes := #[] }, { accessFlags := 25, nameIndex := 24, descriptorIndex := 25, attributes := #[] }, { accessFlags := 25, nameIndex := 162, descriptorIndex := 25, attributes := #[] }, { accessFlags := 25, nameIndex := 187, descriptorIndex := 25, attributes := #[] }, { accessFlags := 26, nameIndex := 48, descriptorIndex := 25, attributes := #[] }, { accessFlags := 25, nameIndex := 277, descriptorIndex := 25, attributes := #[] }, { accessFlags := 25, nameIndex := 280, descriptorIndex := 25, attributes := #[] }, { accessFlags := 25, nameIndex := 282, descriptorIndex := 25, attributes := #[] }, { accessFlags := 25, nameIndex := 284, descriptorIndex := 25, attributes := #[] }, { accessFlags := 25, nameIndex := 286, descriptorIndex := 25, attributes := #[] }, { accessFlags := 25, nameIndex := 288, descriptorIndex := 25, attributes := #[] }, { accessFlags := 25, nameIndex := 290, descriptorIndex := 25, attributes := #[] }, { accessFlags := 25, nameIndex := 292, descriptorIndex := 25, attributes := #[] }, { accessFlags := 26, nameIndex := 108, descriptorIndex := 109, attributes := #[] }, { accessFlags := 25, nameIndex := 294, descriptorIndex := 25, attributes := #[] }])
  fields := #[{ name := "U", type := (.object "jdk/internal/misc/Unsafe"), accessFlags := 24, slot := 0, constantValue := 0 }, { name := "BIG_ENDIAN", type := .boolean, accessFlags := 26, slot := 1, constantValue := 0 }, { name := "LOG2_ARRAY_BOOLEAN_INDEX_SCALE", type := .int, accessFlags := 25, slot := 2, constantValue := 0 }, { name := "LOG2_ARRAY_BYTE_INDEX_SCALE", type := .int, accessFlags := 25, slot := 3, constantValue := 0 }, { name := "LOG2_ARRAY_CHAR_INDEX_SCALE", type := .int, accessFlags := 25, slot := 4, constantValue := 0 }, { name := "LOG2_ARRAY_SHORT_INDEX_SCALE", type := .int, accessFlags := 25, slot := 5, constantValue := 0 }, { name := "LOG2_ARRAY_INT_INDEX_SCALE", type := .int, accessFlags := 25, slot := 6, constantValue := 0 }, { name := "LOG2_ARRAY_LONG_INDEX_SCALE", type := .int, accessFlags := 25, slot := 7, constantValue := 0 }, { name := "LOG2_ARRAY_FLOAT_INDEX_SCALE", type := .int, accessFlags := 25, slot := 8, constantValue := 0 }, { name := "LOG2_ARRAY_DOUBLE_INDEX_SCALE", type := .int, accessFlags := 25, slot := 9, constantValue := 0 }, { name := "LOG2_BYTE_BIT_SIZE", type := .int, accessFlags := 26, slot := 10, constantValue := 0 }, { name := "T_BOOLEAN", type := .int, accessFlags := 25, slot := 11, constantValue := 0 }, { name := "T_CHAR", type := .int, accessFlags := 25, slot := 12, constantValue := 0 }, { name := "T_FLOAT", type := .int, accessFlags := 25, slot := 13, constantValue := 0 }, { name := "T_DOUBLE", type := .int, accessFlags := 25, slot := 14, constantValue := 0 }, { name := "T_BYTE", type := .int, accessFlags := 25, slot := 15, constantValue := 0 }, { name := "T_SHORT", type := .int, accessFlags := 25, slot := 16, constantValue := 0 }, { name := "T_INT", type := .int, accessFlags := 25, slot := 17, constantValue := 0 }, { name := "T_LONG", type := .int, accessFlags := 25, slot := 18, constantValue := 0 }, { name := "JLA", type := (.object "jdk/internal/access/JavaLangAccess"), accessFlags := 26, slot := 19, constantValue := 0 }, { name := "SOFT_MAX_ARRAY_LENGTH", type := .int, accessFlags := 25, slot := 20, constantValue := 0 }]
  methods := #[k4m0, k4m1]
  instanceTypes := #[]
  staticTypes := #[(.object "jdk/internal/misc/Unsafe"), .boolean, .int, .int, .int, .int, .int, .int, .int, .int, .int, .int, .int, .int, .int, .int, .int, .int, .int, (.object "jdk/internal/access/JavaLangAccess"), .int]
  resolved := Array.replicate 378 none
  statics := none }

def pool5 : Array CpInfo := pool [(1, u "java/lang/Cloneable"), (0, .class_ 1), (0, u "java/lang/Object"), (0, .class_ 3)] 3

/-- java/lang/Cloneable -/
def k5 : Class := { plain "java/lang/Cloneable" (some 0) with
  accessFlags := 1537
  interfaces := #[]
  cf := some (fileOf pool5 2 #[] #[] 1537 4 #[] #[])
  fields := #[]
  methods := #[]
  instanceTypes := #[]
  staticTypes := #[]
  resolved := Array.replicate 8 none
  statics := none }

def pool6 : Array CpInfo := pool [(1, u "java/io/Serializable"), (0, .class_ 1), (0, u "java/lang/Object"), (0, .class_ 3)] 3

/-- java/io/Serializable -/
def k6 : Class := { plain "java/io/Serializable" (some 0) with
  accessFlags := 1537
  interfaces := #[]
  cf := some (fileOf pool6 2 #[] #[] 1537 4 #[] #[])
  fields := #[]
  methods := #[]
  instanceTypes := #[]
  staticTypes := #[]
  resolved := Array.replicate 8 none
  statics := none }

/-- the primitive byte -/
def k7 : Class := { plain "byte" none with kind := .primitive 'B', accessFlags := 0x411 }
/-- [B -/
def k8 : Class := { plain "[B" (some 0) with kind := .array 7 .byte, interfaces := #[5, 6], accessFlags := 1041 }

/-- the primitive int -/
def k9 : Class := { plain "int" none with kind := .primitive 'I', accessFlags := 0x411 }
/-- [I -/
def k10 : Class := { plain "[I" (some 0) with kind := .array 9 .int, interfaces := #[5, 6], accessFlags := 1041 }

def heap : Heap := #[]
def classes : Array Class := #[k0, k1, k2, k3, k4, k5, k6, k7, k8, k9, k10]
def interned : List (Array UInt16 × Addr) := []
def slotsUsed : Nat := 0
def theMethod : MethodId := ⟨1, 1⟩
def args0 : Array Value := #[.int 77, .int 19, .int 3, .int 4]
def aboutOver (below : List Frame) : State where
  vm := { classes := classes, interned := interned.toArray }
  heap := heap
  slotsUsed := slotsUsed
  threads := #[{ frames := .invoking theMethod args0 :: below }]
def below0 : List Frame := [.native { method := ⟨0, 0⟩, args := #[] }]
def about1 : State := aboutOver below0
def p0 : Program := .bare "" "" ""
def e0 : Env := launch0.env 0 0 0
theorem w_frames : about1.frames = Frame.invoking theMethod args0 :: below0 := rfl
set_option maxRecDepth 65536 in
theorem w_args : argsFit about1.vm theMethod args0 = true := by decide +kernel
set_option maxRecDepth 65536 in
theorem w_heap : heapFits about1 = true := by decide +kernel
set_option maxRecDepth 65536 in
theorem w_runnable : about1.curStatus? = some .runnable := by decide +kernel
set_option maxRecDepth 65536 in
theorem w_alone : about1.alone = true := by decide +kernel
set_option maxRecDepth 65536 in
theorem w_named : about1.methodNamed? x = some theMethod := by decide +kernel
set_option maxRecDepth 65536 in
theorem w_hears : about1.hears theMethod below0 = true := by decide +kernel
set_option maxRecDepth 65536 in
theorem w_ripe : about1.ripe theMethod args0 below0 = true := by decide +kernel
theorem w_running : about1.status = .running := rfl
set_option maxRecDepth 65536 in
theorem w_room : about1.hasRoom e0.platform room_1 = true :=
  launch0.hasRoom_least _ room_1 (by decide +kernel) (by decide +kernel) (by decide +kernel) (by decide +kernel) (by decide +kernel) (by decide +kernel)
theorem allAtoms_all (ts : List Jvm.Cond) (a : Array Jvm.Value) (st : Jvm.State) : (allAtoms ts).before a st = ts.all (fun c => c.before a st) := by
  induction ts with
  | nil => rfl
  | cons c t ih =>
    show (Jvm.Cond.and c (allAtoms t)).before a st = _
    rw [Jvm.Cond.before_and, ih, List.all_cons]
def words1 : List Jvm.Cond := Jvm.Cond.code x code maxLocals ret :: tables_1
/-- a 'code' word, met by the world's own term for the bytes: nothing is compared byte by byte -/
theorem code_word {y : MethodName} {bytes : ByteArray} {mx : Nat} {rt : Option FieldType} {a : Array Value} {s : State} {m : MethodId} {meth : Method} {c : Code} (h1 : s.methodNamed? y = some m) (h2 : s.vm.method? m = some meth) (h3 : meth.code = some c) (h4 : c.code = bytes)
    (h5 : (c.maxLocals == mx && c.exceptionTable.isEmpty && decide (c.maxStack ≤ mostOperands) && decide (meth.sig.returnType = rt) && !meth.locks && decide (parseMethodDescriptor y.desc = some meth.sig)) = true) : (Jvm.Cond.code y bytes mx rt).before a s = true := by
  simp only [Bool.and_eq_true, beq_iff_eq, Bool.not_eq_true', decide_eq_true_eq] at h5
  obtain ⟨⟨⟨⟨⟨g1, g2⟩, g3⟩, g4⟩, g5⟩, g6⟩ := h5
  simp [Cond.before, Cond.holds, Cond.value, h1, h2, h3, h4, g1, g2, g3, g4, g5, g6]
def isCode : Jvm.Cond → Bool
  | .code _ _ _ _ => true
  | _ => false
theorem all_split {L : List Jvm.Cond} {P : Jvm.Cond → Bool} (h1 : L.all (fun c => isCode c || P c) = true) (h2 : ∀ c ∈ L.filter isCode, P c = true) : L.all P = true := by
  refine List.all_eq_true.mpr fun c hc => ?_
  have h := List.all_eq_true.mp h1 c hc
  rcases Bool.eq_false_or_eq_true (isCode c) with hi | hi
  · exact h2 c (List.mem_filter.mpr ⟨hc, hi⟩)
  · simpa [hi] using h
set_option maxRecDepth 65536 in
theorem w_c0 : (Jvm.Cond.code x code maxLocals ret).before args0 about1 = true := code_word (m := ⟨1, 1⟩) (meth := k1m1) (c := k1c1) (by decide +kernel) rfl rfl rfl (by decide +kernel)
set_option maxRecDepth 65536 in
theorem w_c1 : (Jvm.Cond.code ({ cls := "com/example/nymtrace/nymtrace/io/ByteKey", name := "<init>", desc := "()V" } : Jvm.MethodName) prog_31_method_1_code (1 : Nat) (Option.none : Option Jvm.ClassFile.FieldType)).before args0 about1 = true := code_word (m := ⟨2, 0⟩) (meth := k2m0) (c := k2c0) (by decide +kernel) rfl rfl rfl (by decide +kernel)
set_option maxRecDepth 65536 in
theorem w_c2 : (Jvm.Cond.code ({ cls := "java/lang/Object", name := "<init>", desc := "()V" } : Jvm.MethodName) object_method_1_code (1 : Nat) (Option.none : Option Jvm.ClassFile.FieldType)).before args0 about1 = true := code_word (m := ⟨0, 0⟩) (meth := k0m0) (c := k0c0) (by decide +kernel) rfl rfl rfl (by decide +kernel)
set_option maxRecDepth 65536 in
theorem w_c3 : (Jvm.Cond.code ({ cls := "com/example/nymtrace/nymtrace/io/ByteKey", name := "set", desc := "([BII)Lcom/example/nymtrace/nymtrace/io/ByteKey;" } : Jvm.MethodName) prog_31_method_2_code (6 : Nat) (Option.some (Jvm.ClassFile.FieldType.object "com/example/nymtrace/nymtrace/io/ByteKey"))).before args0 about1 = true := code_word (m := ⟨2, 1⟩) (meth := k2m1) (c := k2c1) (by decide +kernel) rfl rfl rfl (by decide +kernel)
set_option maxRecDepth 65536 in
theorem w_c4 : (Jvm.Cond.code ({ cls := "com/example/nymtrace/nymtrace/io/ByteKey", name := "hashCode", desc := "()I" } : Jvm.MethodName) prog_31_method_5_code (1 : Nat) (Option.some Jvm.ClassFile.FieldType.int)).before args0 about1 = true := code_word (m := ⟨2, 2⟩) (meth := k2m2) (c := k2c2) (by decide +kernel) rfl rfl rfl (by decide +kernel)
set_option maxRecDepth 65536 in
theorem w_c5 : (Jvm.Cond.code ({ cls := "com/example/nymtrace/nymtrace/io/ByteKeySetPinLaw", name := "ref", desc := "([BII)I" } : Jvm.MethodName) method_5_code (3 : Nat) (Option.some Jvm.ClassFile.FieldType.int)).before args0 about1 = true := code_word (m := ⟨1, 4⟩) (meth := k1m4) (c := k1c4) (by decide +kernel) rfl rfl rfl (by decide +kernel)
set_option maxRecDepth 65536 in
theorem w_c6 : (Jvm.Cond.code ({ cls := "com/example/nymtrace/nymtrace/io/ByteKeySetPinLaw", name := "term", desc := "([BIII)I" } : Jvm.MethodName) method_4_code (4 : Nat) (Option.some Jvm.ClassFile.FieldType.int)).before args0 about1 = true := code_word (m := ⟨1, 3⟩) (meth := k1m3) (c := k1c3) (by decide +kernel) rfl rfl rfl (by decide +kernel)
set_option maxRecDepth 65536 in
theorem w_c7 : (Jvm.Cond.code ({ cls := "com/example/nymtrace/nymtrace/io/ByteKeySetPinLaw", name := "pow31", desc := "(I)I" } : Jvm.MethodName) method_3_code (1 : Nat) (Option.some Jvm.ClassFile.FieldType.int)).before args0 about1 = true := code_word (m := ⟨1, 2⟩) (meth := k1m2) (c := k1c2) (by decide +kernel) rfl rfl rfl (by decide +kernel)
set_option maxRecDepth 65536 in
theorem w_c8 : (Jvm.Cond.code ({ cls := "com/example/nymtrace/nymtrace/io/ByteKey", name := "equals", desc := "(Ljava/lang/Object;)Z" } : Jvm.MethodName) prog_31_method_6_code (3 : Nat) (Option.some Jvm.ClassFile.FieldType.boolean)).before args0 about1 = true := code_word (m := ⟨2, 3⟩) (meth := k2m3) (c := k2c3) (by decide +kernel) rfl rfl rfl (by decide +kernel)
set_option maxRecDepth 65536 in
theorem w_c9 : (Jvm.Cond.code ({ cls := "java/util/Arrays", name := "equals", desc := "([BII[BII)Z" } : Jvm.MethodName) jdk_65_method_90_code (8 : Nat) (Option.some Jvm.ClassFile.FieldType.boolean)).before args0 about1 = true := code_word (m := ⟨3, 2⟩) (meth := k3m2) (c := k3c2) (by decide +kernel) rfl rfl rfl (by decide +kernel)
set_option maxRecDepth 65536 in
theorem w_c10 : (Jvm.Cond.code ({ cls := "java/util/Arrays", name := "rangeCheck", desc := "(III)V" } : Jvm.MethodName) jdk_65_method_30_code (3 : Nat) (Option.none : Option Jvm.ClassFile.FieldType)).before args0 about1 = true := code_word (m := ⟨3, 1⟩) (meth := k3m1) (c := k3c1) (by decide +kernel) rfl rfl rfl (by decide +kernel)
set_option maxRecDepth 65536 in
theorem w_c11 : (Jvm.Cond.code ({ cls := "jdk/internal/util/ArraysSupport", name := "mismatch", desc := "([BI[BII)I" } : Jvm.MethodName) jdk_48_method_14_code (8 : Nat) (Option.some Jvm.ClassFile.FieldType.int)).before args0 about1 = true := code_word (m := ⟨4, 1⟩) (meth := k4m1) (c := k4c1) (by decide +kernel) rfl rfl rfl (by decide +kernel)
def codes1 : List Jvm.Cond := [Jvm.Cond.code x code maxLocals ret, Jvm.Cond.code ({ cls := "com/example/nymtrace/nymtrace/io/ByteKey", name := "<init>", desc := "()V" } : Jvm.MethodName) prog_31_method_1_code (1 : Nat) (Option.none : Option Jvm.ClassFile.FieldType), Jvm.Cond.code ({ cls := "java/lang/Object", name := "<init>", desc := "()V" } : Jvm.MethodName) object_method_1_code (1 : Nat) (Option.none : Option Jvm.ClassFile.FieldType), Jvm.Cond.code ({ cls := "com/example/nymtrace/nymtrace/io/ByteKey", name := "set", desc := "([BII)Lcom/example/nymtrace/nymtrace/io/ByteKey;" } : Jvm.MethodName) prog_31_method_2_code (6 : Nat) (Option.some (Jvm.ClassFile.FieldType.object "com/example/nymtrace/nymtrace/io/ByteKey")), Jvm.Cond.code ({ cls := "com/example/nymtrace/nymtrace/io/ByteKey", name := "hashCode", desc := "()I" } : Jvm.MethodName) prog_31_method_5_code (1 : Nat) (Option.some Jvm.ClassFile.FieldType.int), Jvm.Cond.code ({ cls := "com/example/nymtrace/nymtrace/io/ByteKeySetPinLaw", name := "ref", desc := "([BII)I" } : Jvm.MethodName) method_5_code (3 : Nat) (Option.some Jvm.ClassFile.FieldType.int), Jvm.Cond.code ({ cls := "com/example/nymtrace/nymtrace/io/ByteKeySetPinLaw", name := "term", desc := "([BIII)I" } : Jvm.MethodName) method_4_code (4 : Nat) (Option.some Jvm.ClassFile.FieldType.int), Jvm.Cond.code ({ cls := "com/example/nymtrace/nymtrace/io/ByteKeySetPinLaw", name := "pow31", desc := "(I)I" } : Jvm.MethodName) method_3_code (1 : Nat) (Option.some Jvm.ClassFile.FieldType.int), Jvm.Cond.code ({ cls := "com/example/nymtrace/nymtrace/io/ByteKey", name := "equals", desc := "(Ljava/lang/Object;)Z" } : Jvm.MethodName) prog_31_method_6_code (3 : Nat) (Option.some Jvm.ClassFile.FieldType.boolean), Jvm.Cond.code ({ cls := "java/util/Arrays", name := "equals", desc := "([BII[BII)Z" } : Jvm.MethodName) jdk_65_method_90_code (8 : Nat) (Option.some Jvm.ClassFile.FieldType.boolean), Jvm.Cond.code ({ cls := "java/util/Arrays", name := "rangeCheck", desc := "(III)V" } : Jvm.MethodName) jdk_65_method_30_code (3 : Nat) (Option.none : Option Jvm.ClassFile.FieldType), Jvm.Cond.code ({ cls := "jdk/internal/util/ArraysSupport", name := "mismatch", desc := "([BI[BII)I" } : Jvm.MethodName) jdk_48_method_14_code (8 : Nat) (Option.some Jvm.ClassFile.FieldType.int)]
set_option maxRecDepth 65536 in
theorem codes_eq : words1.filter isCode = codes1 := rfl
theorem w_codes : ∀ c ∈ words1.filter isCode, c.before args0 about1 = true := by
  rw [codes_eq]
  intro c hc
  simp only [codes1, List.mem_cons, List.not_mem_nil, or_false] at hc
  rcases hc with rfl | rfl | rfl | rfl | rfl | rfl | rfl | rfl | rfl | rfl | rfl | rfl
  · exact w_c0
  · exact w_c1
  · exact w_c2
  · exact w_c3
  · exact w_c4
  · exact w_c5
  · exact w_c6
  · exact w_c7
  · exact w_c8
  · exact w_c9
  · exact w_c10
  · exact w_c11
set_option maxRecDepth 65536 in
theorem w_t1 : (words1.take 24).all (fun c => isCode c || c.before args0 about1) = true := by decide +kernel
set_option maxRecDepth 65536 in
theorem w_t2 : ((words1.drop 24).take 24).all (fun c => isCode c || c.before args0 about1) = true := by decide +kernel
set_option maxRecDepth 65536 in
theorem w_t3 : ((words1.drop 24).drop 24).all (fun c => isCode c || c.before args0 about1) = true := by decide +kernel
theorem w_tables : (allAtoms (Jvm.Cond.code x code maxLocals ret :: tables_1)).before args0 about1 = true := by
  rw [allAtoms_all]
  show words1.all (fun c => c.before args0 about1) = true
  refine all_split ?_ w_codes
  rw [← List.take_append_drop 24 words1, List.all_append, w_t1, ← List.take_append_drop 24 (words1.drop 24), List.all_append, w_t2, w_t3]
  rfl
set_option maxRecDepth 65536 in
theorem w_case : (Jvm.Cond.and given_1 narrow_1).before args0 about1 = true := by decide +kernel
theorem w_applies : (headSpec (Jvm.Cond.code x code maxLocals ret :: tables_1) room_1).applies x e0.platform about1 = true :=
  (Spec.applies_iff w_frames).mpr ⟨w_running, w_runnable, w_alone, w_named, w_hears, w_ripe, w_room, w_tables⟩
theorem atStart : AtStart classFile x code maxLocals ret World_1 tables_1 room_1 Calls_1 rest_1 Pre_1 launch0 p0 e0 about1 theMethod args0 below0 :=
  ⟨lists_1, trivial, launch0.admits_env _ _ _, launch0.least_env, fairChoices_fair.cas, fairChoices_fair.clock, w_frames, w_args, w_heap, w_applies, trivial, trivial, w_case⟩
end start1
theorem witness_1 : WitnessClaimed_1 := ⟨start1.p0, start1.e0, start1.about1, start1.theMethod, start1.args0, start1.below0, start1.atStart⟩
end Jvm.Pilot.@@N@@
