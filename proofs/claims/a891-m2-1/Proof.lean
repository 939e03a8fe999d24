import JvmDerived
import JvmDerived.Pilot.@@N@@Statement
import JvmDerived.Pilot.@@N@@Code
set_option linter.unusedVariables false
set_option linter.unusedSimpArgs false

namespace Jvm.RI
open Sem ClassFile Op Lib Jvm.Stand Jvm.Free Jvm.LawKit Jvm.RoadKit
/-! THE LAYER: bytecode run over an abstract heap of the objects that the law itself makes. -/
abbrev FD : Type := String × String × String × FieldType × Bool
abbrev CL : Type := String × Nat × List FD
abbrev AObj : Type := (Nat × List Value) ⊕ (FieldType × List Value)
abbrev AH : Type := List AObj
abbrev FLk : Type := Nat × Nat × Bool × FieldType × String × String
abbrev MLk : Type := Nat × Nat × Nat × MethodName
abbrev Mth : Type := MethodName × ByteArray × Nat × Option FieldType × Nat × Nat × (Nat → Option (Instr × Nat × Nat)) × List (Nat × Int32) × List (Nat × Int64) × List (Nat × FLk) × List (Nat × MLk) × List (Nat × Nat)
abbrev Wld : Type := List Mth × List CL
def mNm (M : Mth) : MethodName := M.1
def mCode (M : Mth) : ByteArray := M.2.1
def mMax (M : Mth) : Nat := M.2.2.1
def mRet (M : Mth) : Option FieldType := M.2.2.2.1
def mArgs (M : Mth) : Nat := M.2.2.2.2.1
def mLen (M : Mth) : Nat := M.2.2.2.2.2.1
def mDec (M : Mth) : Nat → Option (Instr × Nat × Nat) := M.2.2.2.2.2.2.1
def mCi (M : Mth) : List (Nat × Int32) := M.2.2.2.2.2.2.2.1
def mCl (M : Mth) : List (Nat × Int64) := M.2.2.2.2.2.2.2.2.1
def mFl (M : Mth) : List (Nat × FLk) := M.2.2.2.2.2.2.2.2.2.1
def mMl (M : Mth) : List (Nat × MLk) := M.2.2.2.2.2.2.2.2.2.2.1
def mKl (M : Mth) : List (Nat × Nat) := M.2.2.2.2.2.2.2.2.2.2.2
def lk {α : Type} : List (Nat × α) → Nat → Option α
  | [], _ => none
  | q :: r, i => bif Nat.beq q.1 i then some q.2 else lk r i
theorem lk_mem {α : Type} {i : Nat} {v : α} : ∀ {l : List (Nat × α)}, lk l i = some v → (i, v) ∈ l
  | [], h => nomatch h
  | q :: r, h => by
    unfold lk at h
    cases hb : Nat.beq q.1 i with
    | true =>
      rw [hb] at h
      have e1 : q.1 = i := Nat.eq_of_beq_eq_true hb
      have e2 : q.2 = v := Option.some.inj h
      subst e1 e2
      exact List.mem_cons_self ..
    | false =>
      rw [hb] at h
      exact List.mem_cons_of_mem _ (lk_mem h)
def up (b : Nat) : Value → Value
  | .ref i => .ref (b + i)
  | v => v
def upS (b : Nat) : Slot → Slot
  | .val v => .val (up b v)
  | s => s
theorem up_cat (b : Nat) (v : Value) : (up b v).category = v.category := by cases v <;> rfl
theorem up_isRef (b : Nat) (v : Value) : (up b v).isRef = v.isRef := by cases v <;> rfl
theorem up_inj {b : Nat} {v w : Value} : up b v = up b w ↔ v = w := by
  constructor
  · intro h
    cases v <;> cases w <;> simp only [up, Value.ref.injEq, reduceCtorEq] at h <;> first | rfl | exact h | (have h' := Nat.add_left_cancel h; rw [h']) | cases h
  · rintro rfl; rfl
/-! the locals -/
def setL (L : List Slot) (i : Nat) (x : Slot) : Option (List Slot) := if i < L.length then some (L.set i x) else none
def stSelf (L : List Slot) (i : Nat) (v : Value) : Option (List Slot) :=
  match setL L i (.val v) with
  | none => none
  | some L =>
    if v.category = 2 then
      match L[i + 1]? with
      | none => none
      | some (.val old) => if old.category = 2 then (match setL L (i + 2) .unset with | none => none | some L => setL L (i + 1) .second) else setL L (i + 1) .second
      | some _ => setL L (i + 1) .second
    else some L
def stL (L : List Slot) (i : Nat) (v : Value) : Option (List Slot) :=
  match L[i]? with
  | none => none
  | some .second => (match setL L (i - 1) .unset with | none => none | some L => stSelf L i v)
  | some (.val old) => if old.category = 2 then (match setL L (i + 1) .unset with | none => none | some L => stSelf L i v) else stSelf L i v
  | some .unset => stSelf L i v
theorem setL_len {L L' : List Slot} {i : Nat} {x : Slot} (h : setL L i x = some L') : L'.length = L.length := by
  unfold setL at h; split at h
  · cases h; simp
  · cases h
theorem stSelf_len {L L' : List Slot} {i : Nat} {v : Value} (h : stSelf L i v = some L') : L'.length = L.length := by
  unfold stSelf at h
  split at h
  · cases h
  · rename_i L1 h1
    have e1 := setL_len h1
    split at h
    · split at h
      · cases h
      · split at h
        · split at h
          · cases h
          · rename_i L2 h2
            rw [setL_len h, setL_len h2, e1]
        · rw [setL_len h, e1]
      · rw [setL_len h, e1]
    · cases h; exact e1
theorem stL_len {L L' : List Slot} {i : Nat} {v : Value} (h : stL L i v = some L') : L'.length = L.length := by
  unfold stL at h
  split at h
  · cases h
  · split at h
    · cases h
    · rename_i L1 h1
      rw [stSelf_len h, setL_len h1]
  · split at h
    · split at h
      · cases h
      · rename_i L1 h1
        rw [stSelf_len h, setL_len h1]
    · exact stSelf_len h
  · exact stSelf_len h
theorem setAt_up (b : Nat) {L L' : List Slot} {i : Nat} {x : Slot} (h : setL L i x = some L') : setAt (L.map (upS b)).toArray i (upS b x) = some (L'.map (upS b)).toArray := by
  unfold setL at h
  split at h
  · rename_i hi
    cases h
    simp [setAt, hi, List.map_set]
  · cases h
theorem get_up (b : Nat) {L : List Slot} {i : Nat} {x : Slot} (h : L[i]? = some x) : (L.map (upS b)).toArray[i]? = some (upS b x) := by
  simp [h]
theorem stSelf_up (b : Nat) {L L' : List Slot} {i : Nat} {v : Value} (h : stSelf L i v = some L') : storeSelf (L.map (upS b)).toArray i (up b v) = some (L'.map (upS b)).toArray := by
  unfold stSelf at h
  split at h
  · cases h
  · rename_i L1 h1
    have e1 : setAt (L.map (upS b)).toArray i (.val (up b v)) = some (L1.map (upS b)).toArray := setAt_up b h1
    unfold storeSelf
    simp only [e1, Option.bind_eq_bind, Option.bind_some, up_cat]
    split at h
    · rename_i hc
      simp only [hc, if_true]
      split at h
      · cases h
      · rename_i old ho
        have e2 : (L1.map (upS b)).toArray[i + 1]? = some (.val (up b old)) := get_up b ho
        simp only [e2, Option.bind_some, up_cat]
        split at h
        · rename_i hc2
          simp only [hc2, if_true]
          split at h
          · cases h
          · rename_i L2 h2
            have e3 : setAt (L1.map (upS b)).toArray (i + 2) .unset = some (L2.map (upS b)).toArray := setAt_up b h2
            simp only [e3, Option.bind_some]
            exact setAt_up b h
        · rename_i hc2
          simp only [hc2, if_false]
          exact setAt_up b h
      · rename_i y hy1 hy2
        have e2 := get_up b hy2
        simp only [e2, Option.bind_some]
        cases y with
        | unset => exact setAt_up b h
        | second => exact setAt_up b h
        | val w => exact absurd rfl (hy1 w)
    · rename_i hc
      cases h
      simp only [hc, if_false]
theorem stL_up (b : Nat) {L L' : List Slot} {i : Nat} {v : Value} (h : stL L i v = some L') : storeLocals (L.map (upS b)).toArray i (up b v) = some (L'.map (upS b)).toArray := by
  unfold stL at h
  unfold storeLocals
  split at h
  · cases h
  · rename_i h0
    have e0 := get_up b h0
    simp only [e0, Option.bind_eq_bind, Option.bind_some, upS]
    split at h
    · cases h
    · rename_i L1 h1
      have e1 : setAt (L.map (upS b)).toArray (i - 1) .unset = some (L1.map (upS b)).toArray := setAt_up b h1
      simp only [e1, Option.bind_some]
      exact stSelf_up b h
  · rename_i old h0
    have e0 := get_up b h0
    simp only [e0, Option.bind_eq_bind, Option.bind_some, upS, up_cat]
    split at h
    · rename_i hc
      simp only [hc, if_true]
      split at h
      · cases h
      · rename_i L1 h1
        have e1 : setAt (L.map (upS b)).toArray (i + 1) .unset = some (L1.map (upS b)).toArray := setAt_up b h1
        simp only [e1, Option.bind_some]
        exact stSelf_up b h
    · rename_i hc
      simp only [hc, if_false]
      exact stSelf_up b h
  · rename_i h0
    have e0 := get_up b h0
    simp only [e0, Option.bind_eq_bind, Option.bind_some, upS]
    exact stSelf_up b h
def ilen : Instr → Nat
  | .aload _ | .iload _ | .lload _ | .istore _ | .lstore _ | .astore _ | .bipush _ | .ldc _ | .newarray _ => 2
  | .sipush _ | .ldc_w _ | .ldc2_w _ | .iinc _ _ | .goto _ | .ifCond _ _ | .if_icmp _ _ | .if_acmp _ _ | .ifnull _ | .ifnonnull _ | .getfield _ | .putfield _ | .getstatic _ | .invokevirtual _ | .invokespecial _ | .invokestatic _ | .new _ | .checkcast _ | .instanceof _ => 3
  | _ => 1
abbrev PF : Type := Nat × List Slot × List Value
def okTg (pc : Nat) (tg : Nat) : Instr → Bool
  | .goto o => decide ((pc : Int) + o = (tg : Int))
  | .ifCond _ o => decide ((pc : Int) + o = (tg : Int))
  | .if_icmp _ o => decide ((pc : Int) + o = (tg : Int))
  | .if_acmp _ o => decide ((pc : Int) + o = (tg : Int))
  | .ifnull o => decide ((pc : Int) + o = (tg : Int))
  | .ifnonnull o => decide ((pc : Int) + o = (tg : Int))
  | _ => true
theorem tg_spec {pc tg : Nat} {o : Int} (h : decide ((pc : Int) + o = (tg : Int)) = true) : 0 ≤ (pc : Int) + o ∧ ((pc : Int) + o).toNat = tg := by
  have q := of_decide_eq_true h
  rw [q]
  exact ⟨Int.natCast_nonneg _, rfl⟩

def p_iadd (nx tg : Nat) (L : List Slot) (S : List Value) : Option PF := (match S with | .int y :: .int x :: r => some (nx, L, .int (x + y) :: r) | _ => none)
def p_isub (nx tg : Nat) (L : List Slot) (S : List Value) : Option PF := (match S with | .int y :: .int x :: r => some (nx, L, .int (x - y) :: r) | _ => none)
def p_imul (nx tg : Nat) (L : List Slot) (S : List Value) : Option PF := (match S with | .int y :: .int x :: r => some (nx, L, .int (x * y) :: r) | _ => none)
def p_iand (nx tg : Nat) (L : List Slot) (S : List Value) : Option PF := (match S with | .int y :: .int x :: r => some (nx, L, .int (x &&& y) :: r) | _ => none)
def p_ior (nx tg : Nat) (L : List Slot) (S : List Value) : Option PF := (match S with | .int y :: .int x :: r => some (nx, L, .int (x ||| y) :: r) | _ => none)
def p_ixor (nx tg : Nat) (L : List Slot) (S : List Value) : Option PF := (match S with | .int y :: .int x :: r => some (nx, L, .int (x ^^^ y) :: r) | _ => none)
def p_ishl (nx tg : Nat) (L : List Slot) (S : List Value) : Option PF := (match S with | .int y :: .int x :: r => some (nx, L, .int (x <<< (y &&& 31)) :: r) | _ => none)
def p_ishr (nx tg : Nat) (L : List Slot) (S : List Value) : Option PF := (match S with | .int y :: .int x :: r => some (nx, L, .int (x >>> (y &&& 31)) :: r) | _ => none)
def p_iushr (nx tg : Nat) (L : List Slot) (S : List Value) : Option PF := (match S with | .int y :: .int x :: r => some (nx, L, .int (XT.ushr x y) :: r) | _ => none)
def p_ladd (nx tg : Nat) (L : List Slot) (S : List Value) : Option PF := (match S with | .long y :: .long x :: r => some (nx, L, .long (x + y) :: r) | _ => none)
def p_lsub (nx tg : Nat) (L : List Slot) (S : List Value) : Option PF := (match S with | .long y :: .long x :: r => some (nx, L, .long (x - y) :: r) | _ => none)
def p_lmul (nx tg : Nat) (L : List Slot) (S : List Value) : Option PF := (match S with | .long y :: .long x :: r => some (nx, L, .long (x * y) :: r) | _ => none)
def p_land (nx tg : Nat) (L : List Slot) (S : List Value) : Option PF := (match S with | .long y :: .long x :: r => some (nx, L, .long (x &&& y) :: r) | _ => none)
def p_lor (nx tg : Nat) (L : List Slot) (S : List Value) : Option PF := (match S with | .long y :: .long x :: r => some (nx, L, .long (x ||| y) :: r) | _ => none)
def p_lxor (nx tg : Nat) (L : List Slot) (S : List Value) : Option PF := (match S with | .long y :: .long x :: r => some (nx, L, .long (x ^^^ y) :: r) | _ => none)
def p_lshl (nx tg : Nat) (L : List Slot) (S : List Value) : Option PF := (match S with | .int y :: .long x :: r => some (nx, L, .long (x <<< (y.toInt64 &&& 63)) :: r) | _ => none)
def p_lshr (nx tg : Nat) (L : List Slot) (S : List Value) : Option PF := (match S with | .int y :: .long x :: r => some (nx, L, .long (x >>> (y.toInt64 &&& 63)) :: r) | _ => none)
def p_lushr (nx tg : Nat) (L : List Slot) (S : List Value) : Option PF := (match S with | .int y :: .long x :: r => some (nx, L, .long (XT.ushrL x y) :: r) | _ => none)
def p_ineg (nx tg : Nat) (L : List Slot) (S : List Value) : Option PF := (match S with | .int x :: r => some (nx, L, .int (-x) :: r) | _ => none)
def p_lneg (nx tg : Nat) (L : List Slot) (S : List Value) : Option PF := (match S with | .long x :: r => some (nx, L, .long (-x) :: r) | _ => none)
def p_i2l (nx tg : Nat) (L : List Slot) (S : List Value) : Option PF := (match S with | .int x :: r => some (nx, L, .long (x.toInt64) :: r) | _ => none)
def p_l2i (nx tg : Nat) (L : List Slot) (S : List Value) : Option PF := (match S with | .long x :: r => some (nx, L, .int (x.toInt32) :: r) | _ => none)
def p_i2b (nx tg : Nat) (L : List Slot) (S : List Value) : Option PF := (match S with | .int x :: r => some (nx, L, .int (x.toInt8.toInt32) :: r) | _ => none)
def p_idiv (nx tg : Nat) (L : List Slot) (S : List Value) : Option PF := (match S with | .int y :: .int x :: r => if y = 0 then none else some (nx, L, .int (x / y) :: r) | _ => none)
def p_irem (nx tg : Nat) (L : List Slot) (S : List Value) : Option PF := (match S with | .int y :: .int x :: r => if y = 0 then none else some (nx, L, .int (x % y) :: r) | _ => none)
def p_lcmp (nx tg : Nat) (L : List Slot) (S : List Value) : Option PF := (match S with | .long y :: .long x :: r => some (nx, L, .int (XT.cmpL x y) :: r) | _ => none)
def p_iload (k : Nat) (nx tg : Nat) (L : List Slot) (S : List Value) : Option PF := (match L[k]? with | some (.val (.int v)) => some (nx, L, .int v :: S) | _ => none)
def p_iload_n (j : Fin 4) (nx tg : Nat) (L : List Slot) (S : List Value) : Option PF := (match L[j.val]? with | some (.val (.int v)) => some (nx, L, .int v :: S) | _ => none)
def p_lload (k : Nat) (nx tg : Nat) (L : List Slot) (S : List Value) : Option PF := (match L[k]? with | some (.val (.long v)) => some (nx, L, .long v :: S) | _ => none)
def p_lload_n (j : Fin 4) (nx tg : Nat) (L : List Slot) (S : List Value) : Option PF := (match L[j.val]? with | some (.val (.long v)) => some (nx, L, .long v :: S) | _ => none)
def p_aload (k : Nat) (nx tg : Nat) (L : List Slot) (S : List Value) : Option PF := (match L[k]? with | some (.val v) => (match v.isRef with | true => some (nx, L, v :: S) | false => none) | _ => none)
def p_aload_n (j : Fin 4) (nx tg : Nat) (L : List Slot) (S : List Value) : Option PF := (match L[j.val]? with | some (.val v) => (match v.isRef with | true => some (nx, L, v :: S) | false => none) | _ => none)
def p_istore (k : Nat) (nx tg : Nat) (L : List Slot) (S : List Value) : Option PF := (match S with | .int x :: r => (match stL L k (.int x) with | some L' => some (nx, L', r) | none => none) | _ => none)
def p_istore_n (j : Fin 4) (nx tg : Nat) (L : List Slot) (S : List Value) : Option PF := (match S with | .int x :: r => (match stL L j.val (.int x) with | some L' => some (nx, L', r) | none => none) | _ => none)
def p_lstore (k : Nat) (nx tg : Nat) (L : List Slot) (S : List Value) : Option PF := (match S with | .long x :: r => (match stL L k (.long x) with | some L' => some (nx, L', r) | none => none) | _ => none)
def p_lstore_n (j : Fin 4) (nx tg : Nat) (L : List Slot) (S : List Value) : Option PF := (match S with | .long x :: r => (match stL L j.val (.long x) with | some L' => some (nx, L', r) | none => none) | _ => none)
def p_astore (k : Nat) (nx tg : Nat) (L : List Slot) (S : List Value) : Option PF := (match S with | x :: r => (match x.isRef with | true => (match stL L k x with | some L' => some (nx, L', r) | none => none) | false => none) | _ => none)
def p_astore_n (j : Fin 4) (nx tg : Nat) (L : List Slot) (S : List Value) : Option PF := (match S with | x :: r => (match x.isRef with | true => (match stL L j.val x with | some L' => some (nx, L', r) | none => none) | false => none) | _ => none)
def p_iinc (k : Nat) (cst : Int) (nx tg : Nat) (L : List Slot) (S : List Value) : Option PF := (match L[k]? with | some (.val (.int x)) => (match stL L k (.int (x + Int32.ofInt cst)) with | some L' => some (nx, L', S) | none => none) | _ => none)
def p_iconst (z : Int) (nx tg : Nat) (L : List Slot) (S : List Value) : Option PF := some (nx, L, .int (Int32.ofInt z) :: S)
def p_bipush (z : Int) (nx tg : Nat) (L : List Slot) (S : List Value) : Option PF := some (nx, L, .int (Int8.ofInt z).toInt32 :: S)
def p_sipush (z : Int) (nx tg : Nat) (L : List Slot) (S : List Value) : Option PF := some (nx, L, .int (Int16.ofInt z).toInt32 :: S)
def p_lconst (z : Fin 2) (nx tg : Nat) (L : List Slot) (S : List Value) : Option PF := some (nx, L, .long (Int64.ofNat z) :: S)
def p_aconst_null (nx tg : Nat) (L : List Slot) (S : List Value) : Option PF := some (nx, L, .null :: S)
def p_ldc (M : Mth) (idx : Nat) (nx tg : Nat) (L : List Slot) (S : List Value) : Option PF := (match lk (mCi M) idx with | some v => some (nx, L, .int v :: S) | none => none)
def p_ldc_w (M : Mth) (idx : Nat) (nx tg : Nat) (L : List Slot) (S : List Value) : Option PF := (match lk (mCi M) idx with | some v => some (nx, L, .int v :: S) | none => none)
def p_ldc2_w (M : Mth) (idx : Nat) (nx tg : Nat) (L : List Slot) (S : List Value) : Option PF := (match lk (mCl M) idx with | some v => some (nx, L, .long v :: S) | none => none)
def p_dup (nx tg : Nat) (L : List Slot) (S : List Value) : Option PF := (match S with | x :: r => (match x.category with | 1 => some (nx, L, x :: x :: r) | _ => none) | _ => none)
def p_pop (nx tg : Nat) (L : List Slot) (S : List Value) : Option PF := (match S with | x :: r => (match x.category with | 1 => some (nx, L, r) | _ => none) | _ => none)
def p_dup_x1 (nx tg : Nat) (L : List Slot) (S : List Value) : Option PF := (match S with | x :: y :: r => (match x.category, y.category with | 1, 1 => some (nx, L, x :: y :: x :: r) | _, _ => none) | _ => none)
def p_dup2 (nx tg : Nat) (L : List Slot) (S : List Value) : Option PF := (match S with | x :: y :: r => (match x.category, y.category with | 1, 1 => some (nx, L, x :: y :: x :: y :: r) | _, _ => none) | _ => none)
def p_goto (o : Int) (nx tg : Nat) (L : List Slot) (S : List Value) : Option PF := some (tg, L, S)
def p_ifCond (cd : ClassFile.Cond) (o : Int) (nx tg : Nat) (L : List Slot) (S : List Value) : Option PF := (match S with | .int x :: r => (match ifCond.holds cd x with | true => some (tg, L, r) | false => some (nx, L, r)) | _ => none)
def p_if_icmp (cd : ClassFile.Cond) (o : Int) (nx tg : Nat) (L : List Slot) (S : List Value) : Option PF := (match S with | .int y :: .int x :: r => (match if_icmp.holds cd x y with | true => some (tg, L, r) | false => some (nx, L, r)) | _ => none)
def p_ifnull (o : Int) (nx tg : Nat) (L : List Slot) (S : List Value) : Option PF := (match S with | .null :: r => some (tg, L, r) | .ref _ :: r => some (nx, L, r) | _ => none)
def p_ifnonnull (o : Int) (nx tg : Nat) (L : List Slot) (S : List Value) : Option PF := (match S with | .ref _ :: r => some (tg, L, r) | .null :: r => some (nx, L, r) | _ => none)
def p_if_acmp (cd : ACond) (o : Int) (nx tg : Nat) (L : List Slot) (S : List Value) : Option PF := (match S with | y :: x :: r => (match x.isRef, y.isRef with | true, true => (match acV cd (decide (x = y)) with | true => some (tg, L, r) | false => some (nx, L, r)) | _, _ => none) | _ => none)
def p_getfield (M : Mth) (ah : AH) (idx : Nat) (nx tg : Nat) (L : List Slot) (S : List Value) : Option PF := (match S with | .ref a :: r => (match lk (mFl M) idx, ah[a]? with | some q, some (.inl (k, vs)) => (match Nat.beq k q.1, vs[q.2.1]? with | true, some v => some (nx, L, v :: r) | _, _ => none) | _, _ => none) | _ => none)
def p_arraylength (ah : AH) (nx tg : Nat) (L : List Slot) (S : List Value) : Option PF := (match S with | .ref a :: r => (match ah[a]? with | some (.inr (_, vs)) => some (nx, L, .int vs.length.toInt32 :: r) | _ => none) | _ => none)
def p_iaload (ah : AH) (nx tg : Nat) (L : List Slot) (S : List Value) : Option PF := (match S with | .int j :: .ref a :: r => (match ah[a]? with | some (.inr (.int, vs)) => if j < 0 then none else (match vs[j.toNatClampNeg]? with | some v => some (nx, L, v :: r) | none => none) | _ => none) | _ => none)
def p_laload (ah : AH) (nx tg : Nat) (L : List Slot) (S : List Value) : Option PF := (match S with | .int j :: .ref a :: r => (match ah[a]? with | some (.inr (.long, vs)) => if j < 0 then none else (match vs[j.toNatClampNeg]? with | some v => some (nx, L, v :: r) | none => none) | _ => none) | _ => none)
def p_baload (ah : AH) (nx tg : Nat) (L : List Slot) (S : List Value) : Option PF := (match S with | .int j :: .ref a :: r => (match ah[a]? with | some (.inr (.byte, vs)) => if j < 0 then none else (match vs[j.toNatClampNeg]? with | some v => some (nx, L, v :: r) | none => none) | some (.inr (.boolean, vs)) => if j < 0 then none else (match vs[j.toNatClampNeg]? with | some v => some (nx, L, v :: r) | none => none) | _ => none) | _ => none)
def p_checkcast (M : Mth) (ah : AH) (idx : Nat) (nx tg : Nat) (L : List Slot) (S : List Value) : Option PF := (match S with | .ref a :: r => (match lk (mKl M) idx, ah[a]? with | some (k + 1), some (.inl (k', _)) => (match Nat.beq k' k with | true => some (nx, L, .ref a :: r) | false => none) | some 0, some (.inr (.int, _)) => some (nx, L, .ref a :: r) | _, _ => none) | _ => none)
def p_instanceof (M : Mth) (ah : AH) (idx : Nat) (nx tg : Nat) (L : List Slot) (S : List Value) : Option PF := (match S with | .ref a :: r => (match lk (mKl M) idx, ah[a]? with | some (k + 1), some (.inl (k', _)) => (match Nat.beq k' k with | true => some (nx, L, .int 1 :: r) | false => none) | _, _ => none) | _ => none)
def psel (i : Instr) : Option (Mth → AH → Nat → Nat → List Slot → List Value → Option PF) :=
  match i with
  | .iadd => some fun _ _ => p_iadd 
  | .isub => some fun _ _ => p_isub 
  | .imul => some fun _ _ => p_imul 
  | .iand => some fun _ _ => p_iand 
  | .ior => some fun _ _ => p_ior 
  | .ixor => some fun _ _ => p_ixor 
  | .ishl => some fun _ _ => p_ishl 
  | .ishr => some fun _ _ => p_ishr 
  | .iushr => some fun _ _ => p_iushr 
  | .ladd => some fun _ _ => p_ladd 
  | .lsub => some fun _ _ => p_lsub 
  | .lmul => some fun _ _ => p_lmul 
  | .land => some fun _ _ => p_land 
  | .lor => some fun _ _ => p_lor 
  | .lxor => some fun _ _ => p_lxor 
  | .lshl => some fun _ _ => p_lshl 
  | .lshr => some fun _ _ => p_lshr 
  | .lushr => some fun _ _ => p_lushr 
  | .ineg => some fun _ _ => p_ineg 
  | .lneg => some fun _ _ => p_lneg 
  | .i2l => some fun _ _ => p_i2l 
  | .l2i => some fun _ _ => p_l2i 
  | .i2b => some fun _ _ => p_i2b 
  | .idiv => some fun _ _ => p_idiv 
  | .irem => some fun _ _ => p_irem 
  | .lcmp => some fun _ _ => p_lcmp 
  | .iload k => some fun _ _ => p_iload k 
  | .iload_n j => some fun _ _ => p_iload_n j 
  | .lload k => some fun _ _ => p_lload k 
  | .lload_n j => some fun _ _ => p_lload_n j 
  | .aload k => some fun _ _ => p_aload k 
  | .aload_n j => some fun _ _ => p_aload_n j 
  | .istore k => some fun _ _ => p_istore k 
  | .istore_n j => some fun _ _ => p_istore_n j 
  | .lstore k => some fun _ _ => p_lstore k 
  | .lstore_n j => some fun _ _ => p_lstore_n j 
  | .astore k => some fun _ _ => p_astore k 
  | .astore_n j => some fun _ _ => p_astore_n j 
  | .iinc k cst => some fun _ _ => p_iinc k cst 
  | .iconst z => some fun _ _ => p_iconst z 
  | .bipush z => some fun _ _ => p_bipush z 
  | .sipush z => some fun _ _ => p_sipush z 
  | .lconst z => some fun _ _ => p_lconst z 
  | .aconst_null => some fun _ _ => p_aconst_null 
  | .ldc idx => some fun M _ => p_ldc M idx 
  | .ldc_w idx => some fun M _ => p_ldc_w M idx 
  | .ldc2_w idx => some fun M _ => p_ldc2_w M idx 
  | .dup => some fun _ _ => p_dup 
  | .pop => some fun _ _ => p_pop 
  | .dup_x1 => some fun _ _ => p_dup_x1 
  | .dup2 => some fun _ _ => p_dup2 
  | .goto o => some fun _ _ => p_goto o 
  | .ifCond cd o => some fun _ _ => p_ifCond cd o 
  | .if_icmp cd o => some fun _ _ => p_if_icmp cd o 
  | .ifnull o => some fun _ _ => p_ifnull o 
  | .ifnonnull o => some fun _ _ => p_ifnonnull o 
  | .if_acmp cd o => some fun _ _ => p_if_acmp cd o 
  | .getfield idx => some fun M ah => p_getfield M ah idx 
  | .arraylength => some fun _ ah => p_arraylength ah 
  | .iaload => some fun _ ah => p_iaload ah 
  | .laload => some fun _ ah => p_laload ah 
  | .baload => some fun _ ah => p_baload ah 
  | .checkcast idx => some fun M ah => p_checkcast M ah idx 
  | .instanceof idx => some fun M ah => p_instanceof M ah idx 
  | _ => none
def pstep (M : Mth) (ah : AH) (i : Instr) (nx tg : Nat) (L : List Slot) (S : List Value) : Option PF :=
  match psel i with
  | some f => f M ah nx tg L S
  | none => none
/-! what the abstract heap says of the real one -/
def OR (W : Wld) (Z : State) (b : Nat) (h : Heap) (a : Addr) : AObj → Prop
  | .inl (k, vs) => ∃ C : CL, W.2[k]? = some C ∧ Exa Z h a C.1 ∧ vs.length = C.2.2.length ∧ ∀ (i : Nat) (f : FD) (v : Value), C.2.2[i]? = some f → vs[i]? = some v → Fld Z h a f.1 f.2.1 f.2.2.1 (up b v)
  | .inr (ty, vs) => ∃ c : Cell, Arr Z h a c ty ∧ c.slots = (vs.map (up b)).toArray ∧ Exa Z h a ("[" ++ ty.toString) ∧ ∀ v ∈ vs, fits ty (up b v) = true
def Rel (W : Wld) (Z : State) (b : Nat) (h : Heap) (ah : AH) : Prop := h.size = b + ah.length ∧ (∀ (i : Nat) (o : AObj), ah[i]? = some o → OR W Z b h (b + i) o) ∧ ∀ (x : Nat) (c : Cell), x < b → Z.heap[x]? = some c → h[x]? = some c
section Facts
variable {W : Wld} {Z : State} {b : Nat} {h h' : Heap} {a a' : Addr} {o : AObj} {ah : AH} {sl : Nat} {v : Value}
theorem OR.ext (E : Ext h h') (H : OR W Z b h a o) : OR W Z b h' a o := by
  match o, H with
  | .inl (k, vs), ⟨C, h1, h2, h3, h4⟩ => exact ⟨C, h1, h2.ext E, h3, fun i f v q r => (h4 i f v q r).ext E⟩
  | .inr (ty, vs), ⟨c, h1, h2, h3, h4⟩ => exact ⟨c, h1.ext E, h2, h3.ext E, h4⟩
theorem OR.other (w : Wr h h' a' sl v) (ne : a ≠ a') (H : OR W Z b h a o) : OR W Z b h' a o := by
  match o, H with
  | .inl (k, vs), ⟨C, h1, h2, h3, h4⟩ => exact ⟨C, h1, h2.wr w, h3, fun i f v q r => (h4 i f v q r).other w (Or.inl ne)⟩
  | .inr (ty, vs), ⟨c, h1, h2, h3, h4⟩ => exact ⟨c, h1.other w ne, h2, h3.wr w, h4⟩
theorem Rel.push {o' : AObj} (H : Rel W Z b h ah) (E : Ext h h') (hs : h'.size = h.size + 1) (ho : OR W Z b h' h.size o') : Rel W Z b h' (ah ++ [o']) := by
  refine ⟨by rw [hs, H.1]; simp; omega, fun i o q => ?_, fun x c hx hc => E.2 x c (H.2.2 x c hx hc)⟩
  by_cases hi : i < ah.length
  · rw [List.getElem?_append_left hi] at q
    exact (H.2.1 i o q).ext E
  · rw [List.getElem?_append_right (Nat.le_of_not_lt hi)] at q
    have hi2 : i - ah.length = 0 := by
      rcases Nat.eq_zero_or_pos (i - ah.length) with z | z
      · exact z
      · rw [List.getElem?_eq_none (by simp only [List.length_singleton]; omega)] at q; cases q
    rw [hi2] at q
    have e : o' = o := by simpa using q
    have e2 : b + i = h.size := by rw [H.1]; omega
    rw [e2, ← e]
    exact ho
theorem Rel.set {i : Nat} {o' : AObj} (H : Rel W Z b h ah) (hi : i < ah.length) (w : Wr h h' (b + i) sl v) (ho : OR W Z b h' (b + i) o') : Rel W Z b h' (ah.set i o') := by
  refine ⟨by rw [w.size, H.1]; simp, fun j o q => ?_, fun x c hx hc => ?_⟩
  rotate_left
  · obtain ⟨cell, h1, -, -, rfl⟩ := w
    rw [Array.getElem?_setIfInBounds_ne (by omega)]
    exact H.2.2 x c hx hc
  by_cases e : i = j
  · subst e
    rw [List.getElem?_set_self hi] at q
    cases q
    exact ho
  · rw [List.getElem?_set_ne e] at q
    exact (H.2.1 j o q).other w (fun z => e (Nat.add_left_cancel z).symm)
theorem OR.keep {ws : List Addr} (K : Keep h h' ws) (ne : a ∉ ws) (H : OR W Z b h a o) : OR W Z b h' a o := by
  match o, H with
  | .inl (k, vs), ⟨C, h1, h2, h3, h4⟩ => exact ⟨C, h1, h2.keep K, h3, fun i f v q r => (h4 i f v q r).keep K ne⟩
  | .inr (ty, vs), ⟨c, h1, h2, h3, h4⟩ => exact ⟨c, ⟨K.2.1 a c h1.1 ne, h1.2⟩, h2, h3.keep K, h4⟩
end Facts
def asz (W : Wld) : AObj → Nat
  | .inl (k, _) => (match W.2[k]? with | some C => C.2.1 | none => 0)
  | .inr (_, vs) => vs.length
def sz (W : Wld) : AH → Nat
  | [] => 0
  | o :: r => asz W o + sz W r
theorem sz_app (W : Wld) (o : AObj) : ∀ ah : AH, sz W (ah ++ [o]) = sz W ah + asz W o
  | [] => by simp [sz]
  | q :: r => by simp only [List.cons_append, sz, sz_app W o r]; omega
theorem sz_set (W : Wld) {o o' : AObj} (e : asz W o' = asz W o) : ∀ {ah : AH} {i : Nat}, ah[i]? = some o → sz W (ah.set i o') = sz W ah
  | [], i, q => by simp at q
  | x :: r, 0, q => by
    have : x = o := by simpa using q
    subst this
    simp only [List.set_cons_zero, sz, e]
  | x :: r, i + 1, q => by
    have q' : r[i]? = some o := by simpa using q
    simp only [List.set_cons_succ, sz, sz_set W e q']
theorem lt_of_get {ah : AH} {i : Nat} {o : AObj} (h : ah[i]? = some o) : i < ah.length := (List.getElem?_eq_some_iff.mp h).1


abbrev fm (b : Nat) (m : MethodId) (pc : Nat) (L : List Slot) (S : List Value) : JFrame := mkF m pc (L.map (upS b)).toArray (S.map (up b))
section Step
variable {p : Program} {l : Launch} {e : Env} {R : Room} {s : State} {m : MethodId} {args : Array Value} {below : List Frame} {meth : Method} {c : Code} {T : State} {locs : List Loc} {cells slots : Nat} {Z : State} {a0 : Array Value}
theorem acmp' {g : JFrame} {target : State} (X : Stand p l e R s m args below meth c T locs cells slots) (hx : p.tables.exec = Jvm.exec) (hg : g.method = m) {cd : ACond} {x y : Value} (h1 : x.isRef = true) (h2 : y.isRef = true) {rest : List Value} {o : Int} {same : Bool}
    (hd : decode c.code g.pc = .ok (.if_acmp cd o, 3)) (hs : g.stack = y :: x :: rest) (hq : decide (x = y) = same) (hc : acV cd same = false)
    (hr : Steps p.tables e below (T.setTop { g with pc := g.pc + 3, stack := rest }) target) : Steps p.tables e below (T.setTop g) target := by
  subst hg hq
  rw [← acV_eq cd h1 h2] at hc
  rcases ref_cases h1 with rfl | ⟨a, rfl⟩ <;> rcases ref_cases h2 with rfl | ⟨b, rfl⟩ <;>
  · simp only [refO] at hc
    jvm_step X.here [X.here.top, hx, hd, hs, if_acmp.sem, hc]
    simpa using hr
theorem pstep_sound {W : Wld} {M : Mth} {b : Nat} {ah : AH} {i : Instr} {pc nx tg pc' : Nat} {L L' : List Slot} {S S' : List Value} (X : Stand p l e R s m args below meth c T locs cells slots) (hx : p.tables.exec = Jvm.exec) (hZ : Z.Warmed39 s.vm) (hown : s.vm.findClass (mNm M).cls = some m.cls)
    (hci : ∀ q ∈ mCi M, (Jvm.Cond.constant (mNm M).cls q.1 q.2).before a0 Z = true) (hcl : ∀ q ∈ mCl M, (Jvm.Cond.constantLong (mNm M).cls q.1 q.2).before a0 Z = true)
    (hfl : ∀ q ∈ mFl M, ∃ (C : CL) (f : FD), W.2[q.2.1]? = some C ∧ C.2.2[q.2.2.1]? = some f ∧ ((Jvm.Cond.fieldLink (mNm M).cls q.1 q.2.2.2.2.2.1 f.2.1 f.2.2.1).before a0 Z = true ∨ (Jvm.Cond.fieldLinkNest (mNm M).cls q.1 q.2.2.2.2.2.1 f.2.1 f.2.2.1 q.2.2.2.2.2.2).before a0 Z = true) ∧ Via Z q.2.2.2.2.2.1 f.1 f.2.1 f.2.2.1)
    (hkl : ∀ q ∈ mKl M, match q.2 with | 0 => (Jvm.Cond.classLink (mNm M).cls q.1 "[I").before a0 Z = true | k + 1 => ∃ C : CL, W.2[k]? = some C ∧ (Jvm.Cond.classLink (mNm M).cls q.1 C.1).before a0 Z = true)
    (hR : Rel W Z b T.heap ah) (hd : decode c.code pc = .ok (i, ilen i)) (hnx : nx = pc + ilen i) (htg : okTg pc tg i = true) (h : pstep M ah i nx tg L S = some (pc', L', S')) :
    L'.length = L.length ∧ ∃ T', Stand p l e R s m args below meth c T' locs cells slots ∧ T'.heap = T.heap ∧ ∀ target, Steps p.tables e below (T'.setTop (fm b m pc' L' S')) target → Steps p.tables e below (T.setTop (fm b m pc L S)) target := by
  suffices hh : L'.length = L.length ∧ ((∀ target, Steps p.tables e below (T.setTop (fm b m pc' L' S')) target → Steps p.tables e below (T.setTop (fm b m pc L S)) target) ∨ ∃ T', Stand p l e R s m args below meth c T' locs cells slots ∧ T'.heap = T.heap ∧ ∀ target, Steps p.tables e below (T'.setTop (fm b m pc' L' S')) target → Steps p.tables e below (T.setTop (fm b m pc L S)) target) by
    obtain ⟨h1, h2 | h2⟩ := hh
    · exact ⟨h1, T, X, rfl, h2⟩
    · exact ⟨h1, h2⟩
  subst hnx
  unfold pstep psel at h
  cases i
  case iadd =>
    dsimp only at h
    unfold p_iadd at h
    split at h
    · cases h; exact ⟨rfl, Or.inl fun t k => XS.iadd X.here hx rfl hd rfl k⟩
    · cases h
  case isub =>
    dsimp only at h
    unfold p_isub at h
    split at h
    · cases h; exact ⟨rfl, Or.inl fun t k => XS.isub X.here hx rfl hd rfl k⟩
    · cases h
  case imul =>
    dsimp only at h
    unfold p_imul at h
    split at h
    · cases h; exact ⟨rfl, Or.inl fun t k => XS.imul X.here hx rfl hd rfl k⟩
    · cases h
  case iand =>
    dsimp only at h
    unfold p_iand at h
    split at h
    · cases h; exact ⟨rfl, Or.inl fun t k => XS.iand X.here hx rfl hd rfl k⟩
    · cases h
  case ior =>
    dsimp only at h
    unfold p_ior at h
    split at h
    · cases h; exact ⟨rfl, Or.inl fun t k => XT.ior X.here hx rfl hd rfl k⟩
    · cases h
  case ixor =>
    dsimp only at h
    unfold p_ixor at h
    split at h
    · cases h; exact ⟨rfl, Or.inl fun t k => XT.ixor X.here hx rfl hd rfl k⟩
    · cases h
  case ishl =>
    dsimp only at h
    unfold p_ishl at h
    split at h
    · cases h; exact ⟨rfl, Or.inl fun t k => XT.ishl X.here hx rfl hd rfl k⟩
    · cases h
  case ishr =>
    dsimp only at h
    unfold p_ishr at h
    split at h
    · cases h; exact ⟨rfl, Or.inl fun t k => XT.ishr X.here hx rfl hd rfl k⟩
    · cases h
  case iushr =>
    dsimp only at h
    unfold p_iushr at h
    split at h
    · cases h; exact ⟨rfl, Or.inl fun t k => XT.iushr X.here hx rfl hd rfl k⟩
    · cases h
  case ladd =>
    dsimp only at h
    unfold p_ladd at h
    split at h
    · cases h; exact ⟨rfl, Or.inl fun t k => XT.ladd X.here hx rfl hd rfl k⟩
    · cases h
  case lsub =>
    dsimp only at h
    unfold p_lsub at h
    split at h
    · cases h; exact ⟨rfl, Or.inl fun t k => XT.lsub X.here hx rfl hd rfl k⟩
    · cases h
  case lmul =>
    dsimp only at h
    unfold p_lmul at h
    split at h
    · cases h; exact ⟨rfl, Or.inl fun t k => XT.lmul X.here hx rfl hd rfl k⟩
    · cases h
  case land =>
    dsimp only at h
    unfold p_land at h
    split at h
    · cases h; exact ⟨rfl, Or.inl fun t k => XT.land X.here hx rfl hd rfl k⟩
    · cases h
  case lor =>
    dsimp only at h
    unfold p_lor at h
    split at h
    · cases h; exact ⟨rfl, Or.inl fun t k => XT.lor X.here hx rfl hd rfl k⟩
    · cases h
  case lxor =>
    dsimp only at h
    unfold p_lxor at h
    split at h
    · cases h; exact ⟨rfl, Or.inl fun t k => XT.lxor X.here hx rfl hd rfl k⟩
    · cases h
  case lshl =>
    dsimp only at h
    unfold p_lshl at h
    split at h
    · cases h; exact ⟨rfl, Or.inl fun t k => XT.lshl X.here hx rfl hd rfl k⟩
    · cases h
  case lshr =>
    dsimp only at h
    unfold p_lshr at h
    split at h
    · cases h; exact ⟨rfl, Or.inl fun t k => XT.lshr X.here hx rfl hd rfl k⟩
    · cases h
  case lushr =>
    dsimp only at h
    unfold p_lushr at h
    split at h
    · cases h; exact ⟨rfl, Or.inl fun t k => XT.lushr X.here hx rfl hd rfl k⟩
    · cases h
  case ineg =>
    dsimp only at h
    unfold p_ineg at h
    split at h
    · cases h; exact ⟨rfl, Or.inl fun t k => XS.ineg X.here hx rfl hd rfl k⟩
    · cases h
  case lneg =>
    dsimp only at h
    unfold p_lneg at h
    split at h
    · cases h; exact ⟨rfl, Or.inl fun t k => XT.lneg X.here hx rfl hd rfl k⟩
    · cases h
  case i2l =>
    dsimp only at h
    unfold p_i2l at h
    split at h
    · cases h; exact ⟨rfl, Or.inl fun t k => XT.i2l X.here hx rfl hd rfl k⟩
    · cases h
  case l2i =>
    dsimp only at h
    unfold p_l2i at h
    split at h
    · cases h; exact ⟨rfl, Or.inl fun t k => XT.l2i X.here hx rfl hd rfl k⟩
    · cases h
  case i2b =>
    dsimp only at h
    unfold p_i2b at h
    split at h
    · cases h; exact ⟨rfl, Or.inl fun t k => XT.i2b X.here hx rfl hd rfl k⟩
    · cases h
  case idiv =>
    dsimp only at h
    unfold p_idiv at h
    split at h
    · split at h
      · cases h
      · rename_i hy; cases h; exact ⟨rfl, Or.inl fun t k => XS.idiv X.here hx rfl hd rfl hy k⟩
    · cases h
  case irem =>
    dsimp only at h
    unfold p_irem at h
    split at h
    · split at h
      · cases h
      · rename_i hy; cases h; exact ⟨rfl, Or.inl fun t k => iremM X hx rfl hd rfl hy k⟩
    · cases h
  case lcmp =>
    dsimp only at h
    unfold p_lcmp at h
    split at h
    · cases h; exact ⟨rfl, Or.inl fun t k => XT.lcmp X.here hx rfl hd rfl k⟩
    · cases h
  case iload k =>
    dsimp only at h
    unfold p_iload at h
    split at h
    · rename_i hl; cases h; exact ⟨rfl, Or.inl fun t k => XS.iload X.here hx rfl hd (get_up b hl) k⟩
    · cases h
  case iload_n k =>
    dsimp only at h
    unfold p_iload_n at h
    split at h
    · rename_i hl; cases h; exact ⟨rfl, Or.inl fun t k => XS.iloadN X.here hx rfl hd (get_up b hl) k⟩
    · cases h
  case lload k =>
    dsimp only at h
    unfold p_lload at h
    split at h
    · rename_i hl; cases h; exact ⟨rfl, Or.inl fun t k => XT.lload X.here hx rfl hd (get_up b hl) k⟩
    · cases h
  case lload_n k =>
    dsimp only at h
    unfold p_lload_n at h
    split at h
    · rename_i hl; cases h; exact ⟨rfl, Or.inl fun t k => XT.lloadN X.here hx rfl hd (get_up b hl) k⟩
    · cases h
  case aload k =>
    dsimp only at h
    unfold p_aload at h
    split at h
    · rename_i v hl
      split at h
      · rename_i hr; cases h; exact ⟨rfl, Or.inl fun t k => XS.aload X.here hx rfl hd (get_up b hl) (by rw [up_isRef]; exact hr) k⟩
      · cases h
    · cases h
  case aload_n k =>
    dsimp only at h
    unfold p_aload_n at h
    split at h
    · rename_i v hl
      split at h
      · rename_i hr; cases h; exact ⟨rfl, Or.inl fun t k => XS.aloadN X.here hx rfl hd (get_up b hl) (by rw [up_isRef]; exact hr) k⟩
      · cases h
    · cases h
  case istore k =>
    dsimp only at h
    unfold p_istore at h
    split at h
    · split at h
      · rename_i hs; cases h; exact ⟨stL_len hs, Or.inl fun t k => XS.istore X.here hx rfl hd rfl (stL_up b hs) k⟩
      · cases h
    · cases h
  case istore_n k =>
    dsimp only at h
    unfold p_istore_n at h
    split at h
    · split at h
      · rename_i hs; cases h; exact ⟨stL_len hs, Or.inl fun t k => XS.istoreN X.here hx rfl hd rfl (stL_up b hs) k⟩
      · cases h
    · cases h
  case lstore k =>
    dsimp only at h
    unfold p_lstore at h
    split at h
    · split at h
      · rename_i hs; cases h; exact ⟨stL_len hs, Or.inl fun t k => XT.lstore X.here hx rfl hd rfl (stL_up b hs) k⟩
      · cases h
    · cases h
  case lstore_n k =>
    dsimp only at h
    unfold p_lstore_n at h
    split at h
    · split at h
      · rename_i hs; cases h; exact ⟨stL_len hs, Or.inl fun t k => XT.lstoreN X.here hx rfl hd rfl (stL_up b hs) k⟩
      · cases h
    · cases h
  case astore k =>
    dsimp only at h
    unfold p_astore at h
    split at h
    · split at h
      · rename_i hr
        split at h
        · rename_i hs; cases h; exact ⟨stL_len hs, Or.inl fun t k => XS.astore X.here hx rfl hd rfl (by rw [up_isRef]; exact hr) (stL_up b hs) k⟩
        · cases h
      · cases h
    · cases h
  case astore_n k =>
    dsimp only at h
    unfold p_astore_n at h
    split at h
    · split at h
      · rename_i hr
        split at h
        · rename_i hs; cases h; exact ⟨stL_len hs, Or.inl fun t k => XS.astoreN X.here hx rfl hd rfl (by rw [up_isRef]; exact hr) (stL_up b hs) k⟩
        · cases h
      · cases h
    · cases h
  case iinc k cst =>
    dsimp only at h
    unfold p_iinc at h
    split at h
    · rename_i hl
      split at h
      · rename_i hs; cases h; exact ⟨stL_len hs, Or.inl fun t k => XS.iinc X.here hx rfl hd (get_up b hl) (stL_up b hs) k⟩
      · cases h
    · cases h
  case iconst z =>
    dsimp only at h
    unfold p_iconst at h
    cases h; exact ⟨rfl, Or.inl fun t k => XS.iconst X.here hx rfl hd k⟩
  case bipush z =>
    dsimp only at h
    unfold p_bipush at h
    cases h; exact ⟨rfl, Or.inl fun t k => XS.bipush X.here hx rfl hd k⟩
  case sipush z =>
    dsimp only at h
    unfold p_sipush at h
    cases h; exact ⟨rfl, Or.inl fun t k => XS.sipush X.here hx rfl hd k⟩
  case lconst z =>
    dsimp only at h
    unfold p_lconst at h
    cases h; exact ⟨rfl, Or.inl fun t k => XT.lconst X.here hx rfl hd k⟩
  case aconst_null =>
    dsimp only at h
    unfold p_aconst_null at h
    cases h; exact ⟨rfl, Or.inl fun t k => XS.aconstNull X.here hx rfl hd k⟩
  case ldc idx =>
    dsimp only at h
    unfold p_ldc at h
    split at h
    · rename_i v hl; cases h; exact ⟨rfl, Or.inl fun t k => X.ldcI hx hown (mvT hZ (hci _ (lk_mem hl))) rfl hd k⟩
    · cases h
  case ldc_w idx =>
    dsimp only at h
    unfold p_ldc_w at h
    split at h
    · rename_i v hl; cases h; exact ⟨rfl, Or.inl fun t k => X.ldcWI hx hown (mvT hZ (hci _ (lk_mem hl))) rfl hd k⟩
    · cases h
  case ldc2_w idx =>
    dsimp only at h
    unfold p_ldc2_w at h
    split at h
    · rename_i v hl; cases h; exact ⟨rfl, Or.inl fun t k => X.ldc2J hx hown (mvT hZ (hcl _ (lk_mem hl))) rfl hd k⟩
    · cases h
  case dup =>
    dsimp only at h
    unfold p_dup at h
    split at h
    · split at h
      · rename_i hc; cases h; exact ⟨rfl, Or.inl fun t k => XS.dup X.here hx rfl hd rfl (by rw [up_cat]; exact hc) k⟩
      · cases h
    · cases h
  case pop =>
    dsimp only at h
    unfold p_pop at h
    split at h
    · split at h
      · rename_i hc; cases h; exact ⟨rfl, Or.inl fun t k => XT.pop X.here hx rfl hd rfl (by rw [up_cat]; exact hc) k⟩
      · cases h
    · cases h
  case dup_x1 =>
    dsimp only at h
    unfold p_dup_x1 at h
    split at h
    · split at h
      · rename_i hc hc'; cases h; exact ⟨rfl, Or.inl fun t k => XT.dupX1 X.here hx rfl hd rfl (by rw [up_cat]; exact hc) (by rw [up_cat]; exact hc') k⟩
      · cases h
    · cases h
  case dup2 =>
    dsimp only at h
    unfold p_dup2 at h
    split at h
    · split at h
      · rename_i hc hc'; cases h; exact ⟨rfl, Or.inl fun t k => XT.dup2 X.here hx rfl hd rfl (by rw [up_cat]; exact hc) (by rw [up_cat]; exact hc') k⟩
      · cases h
    · cases h
  case goto o =>
    dsimp only at h
    unfold p_goto at h
    cases h; obtain ⟨h1, h2⟩ := tg_spec htg; exact ⟨rfl, Or.inl fun t k => XS.goto X.here hx rfl rfl hd h1 h2 k⟩
  case ifCond cd o =>
    dsimp only at h
    unfold p_ifCond at h
    split at h
    · split at h
      · rename_i hc; cases h; obtain ⟨h1, h2⟩ := tg_spec htg; exact ⟨rfl, Or.inl fun t k => XS.ifYes X.here hx rfl rfl hd rfl hc h1 h2 k⟩
      · rename_i hc; cases h; exact ⟨rfl, Or.inl fun t k => XS.ifNo X.here hx rfl hd rfl hc k⟩
    · cases h
  case if_icmp cd o =>
    dsimp only at h
    unfold p_if_icmp at h
    split at h
    · split at h
      · rename_i hc; cases h; obtain ⟨h1, h2⟩ := tg_spec htg; exact ⟨rfl, Or.inl fun t k => XS.icmpYes X.here hx rfl rfl hd rfl hc h1 h2 k⟩
      · rename_i hc; cases h; exact ⟨rfl, Or.inl fun t k => XS.icmpNo X.here hx rfl hd rfl hc k⟩
    · cases h
  case ifnull o =>
    dsimp only at h
    unfold p_ifnull at h
    split at h
    · cases h; obtain ⟨h1, h2⟩ := tg_spec htg; exact ⟨rfl, Or.inl fun t k => XS.ifnullYes X.here hx rfl rfl hd rfl h1 h2 k⟩
    · cases h; exact ⟨rfl, Or.inl fun t k => XS.ifnullNo X.here hx rfl hd rfl k⟩
    · cases h
  case ifnonnull o =>
    dsimp only at h
    unfold p_ifnonnull at h
    split at h
    · cases h; obtain ⟨h1, h2⟩ := tg_spec htg; exact ⟨rfl, Or.inl fun t k => XT.ifnonnullYes X.here hx rfl rfl hd rfl h1 h2 k⟩
    · cases h; exact ⟨rfl, Or.inl fun t k => XT.ifnonnullNo X.here hx rfl hd rfl k⟩
    · cases h
  case if_acmp cd o =>
    dsimp only at h
    unfold p_if_acmp at h
    split at h
    · rename_i y x r
      split at h
      · rename_i hx1 hy1
        have hxx : (up b x).isRef = true := by rw [up_isRef]; exact hx1
        have hyy : (up b y).isRef = true := by rw [up_isRef]; exact hy1
        have hq : decide (up b x = up b y) = decide (x = y) := by
          by_cases q : x = y
          · rw [decide_eq_true q, decide_eq_true (up_inj.mpr q)]
          · rw [decide_eq_false q, decide_eq_false (fun z => q (up_inj.mp z))]
        split at h
        · rename_i hc
          cases h
          obtain ⟨h1, h2⟩ := tg_spec htg
          exact ⟨rfl, Or.inl fun t k => acmp X hx rfl hxx hyy rfl hd rfl hq h1 (by rw [hc]; exact h2.symm) k⟩
        · rename_i hc
          cases h
          refine ⟨rfl, Or.inl fun t k => acmp' X hx rfl hxx hyy hd rfl hq hc k⟩
      · cases h
    · cases h
  case checkcast idx =>
    dsimp only at h
    unfold p_checkcast at h
    split at h
    · rename_i a r
      split at h
      · rename_i k k' vs hl ho
        split at h
        · rename_i hb
          cases h
          obtain ⟨C, g1, g5, g6, g7⟩ := hR.2.1 a _ ho
          have ek : k' = k := Nat.eq_of_beq_eq_true hb
          subst ek
          obtain ⟨C', g1', wl⟩ := hkl _ (lk_mem hl)
          cases g1.symm.trans g1'
          obtain ⟨T', X', e', st⟩ := castY X hx hZ hown wl rfl (Ins.self g5) (g := fm b m pc L (.ref a :: r)) rfl rfl hd
          exact ⟨rfl, Or.inr ⟨T', X', e', fun t k => st t k⟩⟩
        · cases h
      · rename_i vs hl ho
        cases h
        obtain ⟨cl, g1, g2, g3, g4⟩ := hR.2.1 a _ ho
        have wl := hkl _ (lk_mem hl)
        obtain ⟨T', X', e', st⟩ := castY X hx hZ hown (K := "[I") wl rfl (Ins.self g3) (g := fm b m pc L (.ref a :: r)) rfl rfl hd
        exact ⟨rfl, Or.inr ⟨T', X', e', fun t k => st t k⟩⟩
      · cases h
    · cases h
  case instanceof idx =>
    dsimp only at h
    unfold p_instanceof at h
    split at h
    · rename_i a r
      split at h
      · rename_i k k' vs hl ho
        split at h
        · rename_i hb
          cases h
          obtain ⟨C, g1, g5, g6, g7⟩ := hR.2.1 a _ ho
          have ek : k' = k := Nat.eq_of_beq_eq_true hb
          subst ek
          obtain ⟨C', g1', wl⟩ := hkl _ (lk_mem hl)
          cases g1.symm.trans g1'
          obtain ⟨T', X', e', st⟩ := instY X hx hZ hown wl rfl (Ins.self g5) (g := fm b m pc L (.ref a :: r)) rfl rfl hd
          exact ⟨rfl, Or.inr ⟨T', X', e', fun t k => st t k⟩⟩
        · cases h
      · cases h
    · cases h
  case getfield idx =>
    dsimp only at h
    unfold p_getfield at h
    split at h
    · rename_i a r
      split at h
      · rename_i q k vs hl ho
        split at h
        · rename_i v hk hv
          cases h
          obtain ⟨C, f, g1, g2, g3, g4⟩ := hfl _ (lk_mem hl)
          obtain ⟨C', g1', g5, g6, g7⟩ := hR.2.1 a _ ho
          have ek : k = q.1 := Nat.eq_of_beq_eq_true hk
          subst ek
          cases g1.symm.trans g1'
          obtain ⟨T', X', e', st⟩ := getF X hx hZ hown g3 g4 rfl (g7 _ f v g2 hv) (g := fm b m pc L (.ref a :: r)) rfl rfl hd
          exact ⟨rfl, Or.inr ⟨T', X', e', fun t k => st t k⟩⟩
        · cases h
      · cases h
    · cases h
  case arraylength =>
    dsimp only at h
    unfold p_arraylength at h
    split at h
    · rename_i a r
      split at h
      · rename_i ty vs ho
        cases h
        obtain ⟨cl, g1, g2, g3, g4⟩ := hR.2.1 a _ ho
        refine ⟨rfl, Or.inr ⟨T, X, rfl, fun t k => ?_⟩⟩
        refine X.arraylength hx g1.1 (State.isArrayOf_alike hZ.alike g1.2.1) (g := fm b m pc L (.ref a :: r)) rfl rfl hd t ?_
        have hsz : cl.slots.size = vs.length := by rw [g2]; simp
        rw [hsz]
        exact k
      · cases h
    · cases h
  case iaload =>
    dsimp only at h
    unfold p_iaload at h
    split at h
    · rename_i j a r
      split at h
      · rename_i vs ho
        split at h
        · cases h
        · rename_i hj
          split at h
          · rename_i v hv
            cases h
            obtain ⟨cl, g1, g2, g3, g4⟩ := hR.2.1 a _ ho
            have hv' : cl.slots[j.toNatClampNeg]? = some (up b v) := by rw [g2]; simp [hv]
            have hin : ¬ (j < 0 ∨ cl.slots.size ≤ j.toNatClampNeg) := fun q => q.elim hj fun q => by rw [Array.getElem?_eq_none q] at hv'; cases hv'
            exact ⟨rfl, Or.inr ⟨T, X, rfl, fun t k => X.iaload hx g1.1 (State.isArrayOf_alike hZ.alike g1.2.1) g1.2.2 hin hv' (g := fm b m pc L (.int j :: .ref a :: r)) rfl rfl hd t k⟩⟩
          · cases h
      · cases h
    · cases h
  case laload =>
    dsimp only at h
    unfold p_laload at h
    split at h
    · rename_i j a r
      split at h
      · rename_i vs ho
        split at h
        · cases h
        · rename_i hj
          split at h
          · rename_i v hv
            cases h
            obtain ⟨cl, g1, g2, g3, g4⟩ := hR.2.1 a _ ho
            have hv' : cl.slots[j.toNatClampNeg]? = some (up b v) := by rw [g2]; simp [hv]
            have hin : ¬ (j < 0 ∨ cl.slots.size ≤ j.toNatClampNeg) := fun q => q.elim hj fun q => by rw [Array.getElem?_eq_none q] at hv'; cases hv'
            exact ⟨rfl, Or.inr ⟨T, X, rfl, fun t k => X.laload hx g1.1 (State.isArrayOf_alike hZ.alike g1.2.1) g1.2.2 hin hv' (g := fm b m pc L (.int j :: .ref a :: r)) rfl rfl hd t k⟩⟩
          · cases h
      · cases h
    · cases h
  case baload =>
    dsimp only at h
    unfold p_baload at h
    split at h
    · rename_i j a r
      split at h
      · rename_i vs ho
        split at h
        · cases h
        · rename_i hj
          split at h
          · rename_i v hv
            cases h
            obtain ⟨cl, g1, g2, g3, g4⟩ := hR.2.1 a _ ho
            have hv' : cl.slots[j.toNatClampNeg]? = some (up b v) := by rw [g2]; simp [hv]
            have hin : ¬ (j < 0 ∨ cl.slots.size ≤ j.toNatClampNeg) := fun q => q.elim hj fun q => by rw [Array.getElem?_eq_none q] at hv'; cases hv'
            exact ⟨rfl, Or.inr ⟨T, X, rfl, fun t k => X.baloadBytes hx g1.1 (State.isArrayOf_alike hZ.alike g1.2.1) g1.2.2 hin hv' (g := fm b m pc L (.int j :: .ref a :: r)) rfl rfl hd t k⟩⟩
          · cases h
      · rename_i vs ho
        split at h
        · cases h
        · rename_i hj
          split at h
          · rename_i v hv
            cases h
            obtain ⟨cl, g1, g2, g3, g4⟩ := hR.2.1 a _ ho
            have hv' : cl.slots[j.toNatClampNeg]? = some (up b v) := by rw [g2]; simp [hv]
            have hin : ¬ (j < 0 ∨ cl.slots.size ≤ j.toNatClampNeg) := fun q => q.elim hj fun q => by rw [Array.getElem?_eq_none q] at hv'; cases hv'
            exact ⟨rfl, Or.inr ⟨T, X, rfl, fun t k => X.baloadBooleans hx g1.1 (State.isArrayOf_alike hZ.alike g1.2.1) g1.2.2 hin hv' (g := fm b m pc L (.int j :: .ref a :: r)) rfl rfl hd t k⟩⟩
          · cases h
      · cases h
    · cases h
  all_goals (exact nomatch h)
end Step
/-! the world's words, checked -/
def okF (W : Wld) (tab : List Jvm.Cond) (M : Mth) (q : Nat × FLk) : Bool :=
  match W.2[q.2.1]? with
  | none => false
  | some C =>
    match C.2.2[q.2.2.1]? with
    | none => false
    | some f => decide (f.2.2.2.1 = q.2.2.2.2.1) && (decide (q.2.2.2.2.2.1 = f.1) || decide (Jvm.Cond.sameField q.2.2.2.2.2.1 f.1 f.2.1 f.2.2.1 ∈ tab)) &&
      (match q.2.2.2.1 with
      | true => decide (Jvm.Cond.fieldLink (mNm M).cls q.1 q.2.2.2.2.2.1 f.2.1 f.2.2.1 ∈ tab) && (!f.2.2.2.2 || (decide ((mNm M).cls = f.1) && decide ((mNm M).name = "<init>")))
      | false => decide (Jvm.Cond.fieldLink (mNm M).cls q.1 q.2.2.2.2.2.1 f.2.1 f.2.2.1 ∈ tab) || decide (Jvm.Cond.fieldLinkNest (mNm M).cls q.1 q.2.2.2.2.2.1 f.2.1 f.2.2.1 q.2.2.2.2.2.2 ∈ tab))
def okC (tab : List Jvm.Cond) (C : CL) : Bool :=
  decide (Jvm.Cond.instantiable C.1 C.2.1 ∈ tab) && decide (Jvm.Cond.initialized C.1 ∈ tab) && decide ((C.2.2.map fun f => f.2.1).Nodup) &&
  C.2.2.all fun f => decide (parseFieldDescriptor f.2.2.1 = some f.2.2.2.1) && (match f.2.2.2.2 with | true => decide (Jvm.Cond.laysFinal C.1 f.1 f.2.1 f.2.2.1 ∈ tab) | false => decide (Jvm.Cond.lays C.1 f.1 f.2.1 f.2.2.1 ∈ tab))
def okCode (tab : List Jvm.Cond) (M : Mth) : Bool := decide (Jvm.Cond.code (mNm M) (mCode M) (mMax M) (mRet M) ∈ tab) && decide (Jvm.Cond.initialized (mNm M).cls ∈ tab)
def okHandle (y : MethodName) : Bool := decide (y.cls ≠ "java/lang/invoke/MethodHandle" ∧ y.cls ≠ "java/lang/invoke/VarHandle")
def okArgs (y : MethodName) (n : Nat) : Bool := match parseMethodDescriptor y.desc with | some sig => Nat.beq sig.parameters.length n | none => false
def okM (W : Wld) (tab : List Jvm.Cond) (M : Mth) (q : Nat × MLk) : Bool :=
  match q.2.1, W.1[q.2.2.1]? with
  | 0, some N => okCode tab N && okHandle (mNm N) && okArgs (mNm N) (mArgs N) && decide (Jvm.Cond.methodLink (mNm M).cls q.1 (mNm N) ∈ tab) && decide (Jvm.Cond.static (mNm N) ∈ tab)
  | 1, some N => okCode tab N && okHandle (mNm N) && (match mArgs N with | 0 => false | n + 1 => okArgs (mNm N) n) && decide (Jvm.Cond.methodLink (mNm M).cls q.1 (mNm N) ∈ tab) && decide (Jvm.Cond.instanceMethod (mNm N) ∈ tab) && decide ((mNm N).name = "<init>") && decide (mRet N = none)
  | 2, some N => okCode tab N && okHandle (mNm N) && (match mArgs N with | 0 => false | n + 1 => okArgs (mNm N) n) && decide (Jvm.Cond.methodLink (mNm M).cls q.1 (mNm N) ∈ tab) && decide (Jvm.Cond.declares (mNm N) ∈ tab) && decide (Jvm.Cond.instanceMethod (mNm N) ∈ tab) &&
      (match W.2[q.2.2.2.1]? with | some C => decide (Jvm.Cond.selects C.1 (mNm N) (mNm N) ∈ tab) | none => false)
  | 3, _ => decide (Jvm.Cond.methodLink (mNm M).cls q.1 Lib.objectInit ∈ tab) && decide (Jvm.Cond.instanceMethod Lib.objectInit ∈ tab) && decide (Jvm.Cond.code Lib.objectInit ⟨#[0xb1]⟩ 1 none ∈ tab)
  | 4, some N => okCode tab N && okHandle (mNm N) && (match mArgs N with | 0 => false | n + 1 => okArgs (mNm N) n) && decide (Jvm.Cond.methodLink (mNm M).cls q.1 (mNm N) ∈ tab) && decide (Jvm.Cond.instanceMethod (mNm N) ∈ tab) && decide (Jvm.Cond.privateMethod (mNm N) ∈ tab) && (decide (Jvm.Cond.selects (mNm N).cls (mNm N) (mNm N) ∈ tab) || tab.any fun w => match w with | .instantiable c _ => decide (c = (mNm N).cls) | _ => false)
  | 5, _ => decide (Jvm.Cond.methodLink (mNm M).cls q.1 ⟨"[I", "clone", "()Ljava/lang/Object;"⟩ ∈ tab) && decide (Jvm.Cond.sameMethod "[I" "java/lang/Object" "clone" "()Ljava/lang/Object;" ∈ tab) && decide (Jvm.Cond.native ⟨"java/lang/Object", "clone", "()Ljava/lang/Object;"⟩ ∈ tab) &&
      decide (Jvm.Cond.instanceMethod ⟨"java/lang/Object", "clone", "()Ljava/lang/Object;"⟩ ∈ tab) && decide (Jvm.Cond.selects "[I" ⟨"[I", "clone", "()Ljava/lang/Object;"⟩ ⟨"java/lang/Object", "clone", "()Ljava/lang/Object;"⟩ ∈ tab) && decide (Jvm.Cond.castable "[I" "java/lang/Cloneable" ∈ tab)
  | 6, _ => okHandle q.2.2.2.2 && okArgs q.2.2.2.2 0 && decide (q.2.2.2.2.name = "<init>") && decide (Jvm.Cond.methodLink (mNm M).cls q.1 q.2.2.2.2 ∈ tab) && decide (Jvm.Cond.instanceMethod q.2.2.2.2 ∈ tab) &&
      (match W.2[q.2.2.2.1]?, W.2[q.2.2.2.1 + 1]? with | some C, some C' => decide (C'.1 = C.1) && decide (C'.2.1 = C.2.1) && decide (C'.2.2 = []) | _, _ => false)
  | 7, _ => decide (Jvm.Cond.methodLink (mNm M).cls q.1 Jvm.Stand.acN ∈ tab) && decide (Jvm.Cond.native Jvm.Stand.acN ∈ tab) && decide (Jvm.Cond.static Jvm.Stand.acN ∈ tab) && decide (Jvm.Cond.initialized "java/lang/System" ∈ tab)
  | _, _ => false
def okNew (tab : List Jvm.Cond) : Instr → Bool
  | .newarray t => decide (Jvm.Cond.arrayClass (newarray.typeOf t) ∈ tab)
  | _ => true
def okDec (tab : List Jvm.Cond) (M : Mth) : Bool := (List.range (mLen M)).all fun pc => match mDec M pc with | none => true | some (i, nx, tg) => decide (decode (mCode M) pc = .ok (i, ilen i)) && okNew tab i && Nat.beq nx (pc + ilen i) && okTg pc tg i
def okMth (W : Wld) (tab : List Jvm.Cond) (M : Mth) : Bool :=
  okDec tab M && (mCi M).all (fun q => decide (Jvm.Cond.constant (mNm M).cls q.1 q.2 ∈ tab)) && (mCl M).all (fun q => decide (Jvm.Cond.constantLong (mNm M).cls q.1 q.2 ∈ tab)) && (mFl M).all (okF W tab M) && (mMl M).all (okM W tab M) &&
  (mKl M).all (fun q => match q.2 with | 0 => decide (Jvm.Cond.classLink (mNm M).cls q.1 "[I" ∈ tab) | k + 1 => (match W.2[k]? with | some C => decide (Jvm.Cond.classLink (mNm M).cls q.1 C.1 ∈ tab) | none => false))
def fetch (M : Mth) (pc : Nat) : Option (Instr × Nat × Nat) := bif Nat.ble (mLen M) pc then none else mDec M pc
theorem fetch_ok {M : Mth} {pc nx tg : Nat} {i : Instr} {tab : List Jvm.Cond} (hM : okDec tab M = true) (h : fetch M pc = some (i, nx, tg)) : decode (mCode M) pc = .ok (i, ilen i) ∧ okNew tab i = true ∧ nx = pc + ilen i ∧ okTg pc tg i = true := by
  unfold fetch at h
  cases hb : Nat.ble (mLen M) pc with
  | true => rw [hb] at h; cases h
  | false =>
    rw [hb] at h
    have hlt : pc < mLen M := Nat.lt_of_not_le fun q => by rw [Nat.ble_eq_true_of_le q] at hb; cases hb
    have q := List.all_eq_true.mp hM pc (List.mem_range.mpr hlt)
    rw [show mDec M pc = some (i, nx, tg) from h] at q
    simp only [Bool.and_eq_true, decide_eq_true_eq] at q
    exact ⟨q.1.1.1, q.1.1.2, Nat.eq_of_beq_eq_true q.1.2, q.2⟩

/-! the writing step -/
def putV : FieldType → Value → Option Value
  | .int, .int x => some (.int x)
  | .long, .long x => some (.long x)
  | .boolean, .int x => some (.int (x &&& 1))
  | .byte, .int x => some (.int x.toInt8.toInt32)
  | .object _, .ref a => some (.ref a)
  | .object _, .null => some .null
  | .array _, .ref a => some (.ref a)
  | .array _, .null => some .null
  | _, _ => none
theorem putV_spec (b : Nat) {ty : FieldType} {v v' : Value} (h : putV ty v = some v') : narrow ty (up b v) = up b v' ∧ fits ty (up b v') = true := by
  unfold putV at h
  split at h <;> first | (cases h; exact ⟨rfl, rfl⟩) | (cases h; exact ⟨rfl, fits_nar_bool _⟩) | (cases h; exact ⟨rfl, fits_nar_byte _⟩) | cases h
def sumC (S : List Value) : Nat := (S.map fun v => v.category).sum
theorem sumC_up (b : Nat) (S : List Value) : ((S.map (up b)).map fun v => v.category).sum = sumC S := by
  unfold sumC
  rw [List.map_map]
  congr 1
  apply List.map_congr_left
  intro v _
  exact up_cat b v
def w_putfield (M : Mth) (ah : AH) (idx : Nat) (nx : Nat) (S : List Value) : Option (Nat × List Value × AH) :=
    (match S with
    | v :: .ref a :: r =>
      (match lk (mFl M) idx, ah[a]? with
      | some q, some (.inl (k, vs)) =>
        (match Nat.beq k q.1, q.2.2.1, putV q.2.2.2.1 v with
        | true, true, some v' => if q.2.1 < vs.length then some (nx, r, ah.set a (.inl (k, vs.set q.2.1 v'))) else none
        | _, _, _ => none)
      | _, _ => none)
    | _ => none)
def w_iastore (ah : AH) (nx : Nat) (S : List Value) : Option (Nat × List Value × AH) :=
    (match S with
    | .int x :: .int j :: .ref a :: r =>
      (match ah[a]? with
      | some (.inr (.int, vs)) => if j < 0 then none else if j.toNatClampNeg < vs.length then some (nx, r, ah.set a (.inr (.int, vs.set j.toNatClampNeg (.int x)))) else none
      | _ => none)
    | _ => none)
def w_lastore (ah : AH) (nx : Nat) (S : List Value) : Option (Nat × List Value × AH) :=
    (match S with
    | .long x :: .int j :: .ref a :: r =>
      (match ah[a]? with
      | some (.inr (.long, vs)) => if j < 0 then none else if j.toNatClampNeg < vs.length then some (nx, r, ah.set a (.inr (.long, vs.set j.toNatClampNeg (.long x)))) else none
      | _ => none)
    | _ => none)
def w_bastore (ah : AH) (nx : Nat) (S : List Value) : Option (Nat × List Value × AH) :=
    (match S with
    | .int x :: .int j :: .ref a :: r =>
      (match ah[a]? with
      | some (.inr (.byte, vs)) => if j < 0 then none else if j.toNatClampNeg < vs.length then some (nx, r, ah.set a (.inr (.byte, vs.set j.toNatClampNeg (.int (x.toInt8.toInt32))))) else none
      | some (.inr (.boolean, vs)) => if j < 0 then none else if j.toNatClampNeg < vs.length then some (nx, r, ah.set a (.inr (.boolean, vs.set j.toNatClampNeg (.int (x &&& 1))))) else none
      | _ => none)
    | _ => none)
def w_new (W : Wld) (M : Mth) (ah : AH) (idx : Nat) (nx : Nat) (S : List Value) : Option (Nat × List Value × AH) :=
    (match lk (mKl M) idx with
    | some 0 => none
    | some (k + 1) => (match W.2[k]? with | some C => some (nx, .ref ah.length :: S, ah ++ [.inl (k, C.2.2.map fun f => defaultValue f.2.2.2.1)]) | none => none)
    | none => none)
def w_newarray (ah : AH) (t : ArrayType) (nx : Nat) (S : List Value) : Option (Nat × List Value × AH) :=
    (match S with
    | .int n :: r => if n < 0 then none else if n.toNatClampNeg ≤ 67108864 then some (nx, .ref ah.length :: r, ah ++ [.inr (newarray.typeOf t, List.replicate n.toNatClampNeg (defaultValue (newarray.typeOf t)))]) else none
    | _ => none)
def w_invokespecial (M : Mth) (F : Nat) (B : Nat) (ah : AH) (idx : Nat) (nx : Nat) (S : List Value) : Option (Nat × List Value × AH) :=
    (match lk (mMl M) idx, S with
    | some q, .ref a :: r =>
      (match q.1 with
      | 3 => if 1 ≤ F ∧ sumC r + 12 ≤ B then some (nx, r, ah) else none
      | 6 => (match ah[a]? with | some (.inl (k, _)) => (match Nat.beq k q.2.2.1 with | true => if 5 ≤ F ∧ sumC r + 100 ≤ B then some (nx, r, ah.set a (.inl (k + 1, []))) else none | false => none) | _ => none)
      | _ => none)
    | _, _ => none)
def w_invokevirtual (M : Mth) (F : Nat) (B : Nat) (ah : AH) (idx : Nat) (nx : Nat) (S : List Value) : Option (Nat × List Value × AH) :=
    (match lk (mMl M) idx, S with
    | some q, .ref a :: r => (match q.1, ah[a]? with | 5, some (.inr (.int, vs)) => if 1 ≤ F ∧ sumC r + 14 ≤ B then some (nx, .ref ah.length :: r, ah ++ [.inr (.int, vs)]) else none | _, _ => none)
    | _, _ => none)
def w_invokestatic (M : Mth) (F : Nat) (B : Nat) (ah : AH) (idx : Nat) (nx : Nat) (S : List Value) : Option (Nat × List Value × AH) :=
    (match lk (mMl M) idx with
    | some q =>
      (match q.1 with
      | 7 =>
        (match S with
        | .int nn :: .int dp :: .ref d :: .int sp :: .ref a :: r =>
          (match ah[a]?, ah[d]? with
          | some (.inr (.byte, vs)), some (.inr (.byte, vd)) =>
            if sp < 0 ∨ dp < 0 ∨ nn < 0 then none
            else if sp.toNatClampNeg + nn.toNatClampNeg ≤ vs.length ∧ dp.toNatClampNeg + nn.toNatClampNeg ≤ vd.length ∧ vs.length ≤ 67108864 ∧ vd.length ≤ 67108864 ∧ 1 ≤ F ∧ sumC r + 18 ≤ B then
              some (nx, r, ah.set d (.inr (.byte, vd.take dp.toNatClampNeg ++ (vs.drop sp.toNatClampNeg).take nn.toNatClampNeg ++ vd.drop (dp.toNatClampNeg + nn.toNatClampNeg))))
            else none
          | _, _ => none)
        | _ => none)
      | _ => none)
    | none => none)
def wsel (i : Instr) : Option (Wld → Mth → Nat → Nat → AH → Nat → List Value → Option (Nat × List Value × AH)) :=
  match i with
  | .putfield idx => some fun _ M _ _ ah => w_putfield M ah idx
  | .iastore => some fun _ _ _ _ ah => w_iastore ah
  | .lastore => some fun _ _ _ _ ah => w_lastore ah
  | .bastore => some fun _ _ _ _ ah => w_bastore ah
  | .new idx => some fun W M _ _ ah => w_new W M ah idx
  | .newarray t => some fun _ _ _ _ ah => w_newarray ah t
  | .invokespecial idx => some fun _ M F B ah => w_invokespecial M F B ah idx
  | .invokevirtual idx => some fun _ M F B ah => w_invokevirtual M F B ah idx
  | .invokestatic idx => some fun _ M F B ah => w_invokestatic M F B ah idx
  | _ => none
def wstep (W : Wld) (M : Mth) (F B : Nat) (ah : AH) (i : Instr) (nx : Nat) (S : List Value) : Option (Nat × List Value × AH) :=
  match wsel i with
  | some f => f W M F B ah nx S
  | none => none
theorem def_up (b : Nat) (ty : FieldType) : up b (defaultValue ty) = defaultValue ty := by cases ty <;> rfl
theorem def_fits (ty : FieldType) : fits ty (defaultValue ty) = true := by cases ty <;> rfl
/-- what the body knows of its own place -/
def Inv (W : Wld) (Z : State) (b c0 q0 : Nat) (s T : State) (locs : List Loc) (cells slots : Nat) (ah : AH) : Prop :=
  Rel W Z b T.heap ah ∧ Fr b locs ∧ s.heap.size = b + c0 ∧ cells + c0 = ah.length ∧ slots + q0 = sz W ah
/-- a constructor of the JDK that isn't run here: what is asked of its own contract -/
def XOK (W : Wld) (tab : List Jvm.Cond) (l : Launch) (Z : State) (b : Nat) (q : MLk) : Prop :=
  ∃ (bytes : ByteArray) (maxL fr lo : Nat), Jvm.Cond.code q.2.2.2 bytes maxL none ∈ tab ∧ Jvm.Cond.initialized q.2.2.2.cls ∈ tab ∧ fr + 1 ≤ 5 ∧ maxL + 11 + lo ≤ 100 ∧
  ∀ (h : Heap) (ah : AH) (a : Nat) (vs : List Value), Rel W Z b h ah → ah[a]? = some (.inl (q.2.2.1, vs)) →
    MetFree l q.2.2.2 (head1 [Jvm.Cond.code q.2.2.2 bytes maxL none] ({ frames := fr, cells := 0, slots := 0, locals := lo } : Room)) (fun x U => x = #[.ref (b + a)] ∧ Z.Warmed39 U.vm ∧ U.heap = h) (fun _ _ _ _ _ => True)
      (fun _ U o U' => ∃ v L, o = .returned v ∧ (v = none ∧ Fr b L ∧ Keep h U'.heap [b + a]) ∧ FrameEnd U o U' L ({ frames := fr, cells := 0, slots := 0, locals := lo } : Room).cells ({ frames := fr, cells := 0, slots := 0, locals := lo } : Room).slots)
theorem okArgs_len {y : MethodName} {n : Nat} {as : List Value} (h : okArgs y n = true) (ha : as.length = n) : ∀ sig, parseMethodDescriptor y.desc = some sig → as.length = sig.parameters.length := fun sig hs => by
  unfold okArgs at h
  rw [hs] at h
  rw [ha]
  exact (Nat.eq_of_beq_eq_true h).symm
section Write
variable {p : Program} {l : Launch} {e : Env} {R : Room} {s : State} {m : MethodId} {args : Array Value} {below : List Frame} {meth : Method} {c : Code} {T : State} {locs : List Loc} {cells slots : Nat} {Z : State} {a0 : Array Value} {W : Wld} {M : Mth} {b c0 q0 : Nat} {ah : AH}
theorem inv_set {T' : State} {h' : Heap} {a sl : Nat} {v : Value} {o o' : AObj} (H : Inv W Z b c0 q0 s T locs cells slots ah) (X' : Stand p l e R s m args below meth c T' (locs ++ [⟨b + a, sl⟩]) cells slots) (e' : T'.heap = h') (w : Wr T.heap h' (b + a) sl v) (ho : ah[a]? = some o) (hz : asz W o' = asz W o) (hor : OR W Z b h' (b + a) o') :
    Inv W Z b c0 q0 s T' (locs ++ [⟨b + a, sl⟩]) cells slots (ah.set a o') := by
  obtain ⟨h1, h2, h3, h4, h5⟩ := H
  refine ⟨?_, Fr.snoc X' h2 (Nat.le_add_right _ _), h3, by simpa using h4, by rw [sz_set W hz ho]; exact h5⟩
  rw [e']
  exact h1.set (lt_of_get ho) w hor
theorem inv_push {T' : State} {h' : Heap} {n : Nat} {o' : AObj} (H : Inv W Z b c0 q0 s T locs cells slots ah) (X' : Stand p l e R s m args below meth c T' locs (cells + 1) (slots + n)) (e' : T'.heap = h') (E : Ext T.heap h') (hlt : T.heap.size < h'.size) (hz : asz W o' = n) (hor : OR W Z b h' T.heap.size o') :
    Inv W Z b c0 q0 s T' locs (cells + 1) (slots + n) (ah ++ [o']) := by
  obtain ⟨h1, h2, h3, h4, h5⟩ := H
  have hs : h'.size = T.heap.size + 1 := by
    have q := X'.heapSize
    rw [e'] at q
    have q2 := h1.1
    omega
  refine ⟨?_, h2, h3, by simp; omega, by rw [sz_app, hz]; omega⟩
  rw [e']
  exact h1.push E hs hor
theorem arr_set {T' : State} {h' : Heap} {a : Nat} {j : Int32} {ty : FieldType} {vs : List Value} {v : Value} {cl : Cell} (A : Arr Z T.heap (b + a) cl ty) (g2 : cl.slots = (vs.map (up b)).toArray) (g3 : Exa Z T.heap (b + a) ("[" ++ ty.toString)) (g4 : ∀ v ∈ vs, fits ty (up b v) = true)
    (w : Wr T.heap h' (b + a) j.toNatClampNeg (up b v)) (hv : fits ty (up b v) = true) : OR W Z b h' (b + a) (.inr (ty, vs.set j.toNatClampNeg v)) := by
  refine ⟨_, A.same w, ?_, g3.wr w, fun u hu => ?_⟩
  · simp [Cell.setSlot, g2, List.map_set]
  · rcases List.mem_or_eq_of_mem_set hu with q | q
    · exact g4 u q
    · rw [q]; exact hv
theorem clampOf {n : Nat} (h : n ≤ 67108864) : (Int32.ofNat n).toNatClampNeg = n ∧ ¬ Int32.ofNat n < 0 := by
  have e : (Int32.ofNat n).toInt = n := Int32.toInt_ofNat_of_lt (by omega)
  refine ⟨by rw [Int32.toNatClampNeg, e]; rfl, fun q => ?_⟩
  rw [Int32.lt_iff_toInt_lt, e] at q
  have : (0 : Int32).toInt = 0 := rfl
  omega
theorem arv_of {h : Heap} {a : Addr} {ty : FieldType} {vs : List Value} {cl : Cell} (hv : vs.length ≤ 67108864) (g1 : Arr Z h a cl ty) (g2 : cl.slots = (vs.map (up b)).toArray) (g4 : ∀ v ∈ vs, fits ty (up b v) = true) : Arv Z h a cl.cls ty (Int32.ofNat vs.length) (vs.map (up b)) .null := by
  have hsz : cl.slots.size = vs.length := by rw [g2]; simp
  refine ⟨cl, g1, rfl, by rw [hsz, (clampOf hv).1], (clampOf hv).2, fun k hk => ?_, fun i hi => ?_⟩
  · rw [hsz] at hk
    rw [g2]
    simp [List.getD, hk]
  · rw [hsz] at hi
    have : (vs.map (up b)).getD i .null = up b vs[i] := by simp [List.getD, hi]
    rw [this]
    exact g4 _ (List.getElem_mem hi)
theorem of_arv {h : Heap} {a : Addr} {k : ClassId} {ty : FieldType} {z : Int32} {vs : List Value} {u : List Value} {d : Value} (A : Arv Z h a k ty z u d) (hu : u = vs.map (up b)) (hz : z.toNatClampNeg = vs.length) : ∃ c : Cell, Arr Z h a c ty ∧ c.slots = (vs.map (up b)).toArray ∧ ∀ v ∈ vs, fits ty (up b v) = true := by
  subst hu
  obtain ⟨c, A1, -, A3, -, A5, A6⟩ := A
  rw [hz] at A3
  refine ⟨c, A1, ?_, fun v hv => ?_⟩
  · apply Array.ext_getElem?
    intro i
    by_cases hi : i < vs.length
    · rw [A5 i (by omega)]; simp [List.getD, hi]
    · rw [Array.getElem?_eq_none (by rw [A3]; exact Nat.le_of_not_lt hi), List.getElem?_toArray, List.getElem?_eq_none (by rw [List.length_map]; exact Nat.le_of_not_lt hi)]
  · obtain ⟨i, hi, rfl⟩ := List.mem_iff_getElem.mp hv
    have := A6 i (by omega)
    rwa [show (vs.map (up b)).getD i d = up b vs[i] by simp [List.getD, hi]] at this
theorem wstep_sound {tab : List Jvm.Cond} {F B : Nat} {i : Instr} {pc nx pc' : Nat} {L : List Slot} {S S' : List Value} {ah' : AH} (X : Stand p l e R s m args below meth c T locs cells slots) (hx : p.tables.exec = Jvm.exec) (hZ : Z.Warmed39 s.vm) (hown : s.vm.findClass (mNm M).cls = some m.cls) (hnm : meth.name = (mNm M).name)
    (hsize : L.length = c.maxLocals) (hw : ∀ d ∈ tab, d.before a0 Z = true) (hC : ∀ C ∈ W.2, okC tab C = true) (hM : okMth W tab M = true) (hX : ∀ q ∈ mMl M, q.2.1 = 6 → XOK W tab l Z b q.2) (hN : okNew tab i = true)
    (H : Inv W Z b c0 q0 s T locs cells slots ah) (hF : F ≤ R.frames) (hB : B ≤ R.locals) (hc : ah'.length ≤ c0 + R.cells) (hs : sz W ah' ≤ q0 + R.slots) (hd : decode c.code pc = .ok (i, ilen i)) (hnx : nx = pc + ilen i) (h : wstep W M F B ah i nx S = some (pc', S', ah')) :
    ∃ T' locs' cells' slots', Stand p l e R s m args below meth c T' locs' cells' slots' ∧ Inv W Z b c0 q0 s T' locs' cells' slots' ah' ∧ ∀ target, Steps p.tables e below (T'.setTop (fm b m pc' L S')) target → Steps p.tables e below (T.setTop (fm b m pc L S)) target := by
  have hR : Rel W Z b T.heap ah := H.1
  simp only [okMth, Bool.and_eq_true] at hM
  obtain ⟨⟨⟨⟨⟨hM1, hM2⟩, hM3⟩, hM4⟩, hM5⟩, hM6⟩ := hM
  subst hnx
  unfold wstep wsel at h
  cases i
  case putfield idx =>
    dsimp only at h
    unfold w_putfield at h
    split at h
    · rename_i v a r
      split at h
      · rename_i q k vs hl ho
        split at h
        · rename_i v' hk hwr hpv
          split at h
          · rename_i hpos
            cases h
            have hq := List.all_eq_true.mp hM4 _ (lk_mem hl)
            obtain ⟨C, g1, g5, g6, g7⟩ := hR.2.1 a _ ho
            have ek : k = q.1 := Nat.eq_of_beq_eq_true hk
            subst ek
            unfold okF at hq
            dsimp only at hq
            rw [g1] at hq
            dsimp only at hq
            obtain ⟨f, hf⟩ : ∃ f, C.2.2[q.2.1]? = some f := ⟨_, List.getElem?_eq_getElem (by omega)⟩
            rw [hf] at hq
            dsimp only at hq
            rw [hwr] at hq
            simp only [Bool.and_eq_true, Bool.or_eq_true, decide_eq_true_eq, Bool.not_eq_true'] at hq
            obtain ⟨⟨hty, hvia⟩, hlink, hfin⟩ := hq
            have hCk := hC C (List.mem_of_getElem? g1)
            simp only [okC, Bool.and_eq_true, decide_eq_true_eq] at hCk
            obtain ⟨⟨⟨hi1, hi2⟩, hnd⟩, hall⟩ := hCk
            have hfl := List.all_eq_true.mp hall f (List.mem_of_getElem? hf)
            simp only [Bool.and_eq_true, decide_eq_true_eq] at hfl
            have hlaid : ∀ g ∈ C.2.2, Laid Z a0 C.1 g.1 g.2.1 g.2.2.1 := fun g hg => by
              have q0 := List.all_eq_true.mp hall g hg
              simp only [Bool.and_eq_true] at q0
              have q1 := q0.2
              split at q1
              · exact Or.inr (hw _ (of_decide_eq_true q1))
              · exact Or.inl (hw _ (of_decide_eq_true q1))
            obtain ⟨old, hold⟩ : ∃ u, vs[q.2.1]? = some u := ⟨_, List.getElem?_eq_getElem hpos⟩
            obtain ⟨n1, n2⟩ := putV_spec b hpv
            have hL : (Jvm.Cond.lays C.1 f.1 f.2.1 f.2.2.1).before a0 Z = true ∨ ((Jvm.Cond.laysFinal C.1 f.1 f.2.1 f.2.2.1).before a0 Z = true ∧ (mNm M).cls = f.1 ∧ meth.name = "<init>") := by
              have q1 := hfl.2
              split at q1
              · rename_i hb
                rcases hfin with z | ⟨z1, z2⟩
                · rw [hb] at z; cases z
                · exact Or.inr ⟨hw _ (of_decide_eq_true q1), z1, by rw [hnm]; exact z2⟩
              · exact Or.inl (hw _ (of_decide_eq_true q1))
            have hVia : Via Z q.2.2.2.2.1 f.1 f.2.1 f.2.2.1 := by
              rcases hvia with z | z
              · rw [z]; exact Via.refl
              · exact Via.of (hw _ z)
            rw [← hty] at n1 n2
            obtain ⟨T', h', X', e', w', st⟩ := putFN X hx hZ hown (hw _ hlink) hVia rfl (g7 _ f old hf hold) g5 hL (hw _ hi1) hfl.1 n1 n2 (g := fm b m pc L (v :: .ref a :: _)) rfl rfl hd
            refine ⟨T', _, _, _, X', inv_set H X' e' w' ho rfl ?_, st⟩
            refine ⟨C, g1, g5.wr w', by simpa using g6, fun j g u hg hu => ?_⟩
            by_cases ej : q.2.1 = j
            · subst ej
              rw [List.getElem?_set_self hpos] at hu
              cases hu
              cases hf.symm.trans hg
              exact (g7 _ f old hf hold).same w'
            · rw [List.getElem?_set_ne ej] at hu
              refine (g7 _ g u hg hu).other w' (Or.inr ?_)
              have hpg := List.all_eq_true.mp hall g (List.mem_of_getElem? hg)
              simp only [Bool.and_eq_true, decide_eq_true_eq] at hpg
              refine slot_ne (hlaid g (List.mem_of_getElem? hg)) (hlaid f (List.mem_of_getElem? hf)) (fun en => ej ?_) hpg.1 hfl.1
              have l1 : (C.2.2.map fun f => f.2.1)[q.2.1]? = some f.2.1 := by simp [hf]
              have l2 : (C.2.2.map fun f => f.2.1)[j]? = some f.2.1 := by simp [hg, en]
              exact (List.getElem?_inj (by simpa using (List.getElem?_eq_some_iff.mp hf).1) hnd).mp (l1.trans l2.symm)
          · cases h
        · cases h
      · cases h
    · cases h
  case iastore =>
    dsimp only at h
    unfold w_iastore at h
    split at h
    · rename_i x j a r
      split at h
      · rename_i vs ho
        split at h
        · cases h
        · rename_i hj
          split at h
          · rename_i hlt
            cases h
            obtain ⟨cl, g1, g2, g3, g4⟩ := hR.2.1 a _ ho
            have hin : ¬ (j < 0 ∨ cl.slots.size ≤ j.toNatClampNeg) := fun q => q.elim hj fun q => by rw [g2] at q; simp at q; omega
            obtain ⟨T', h', X', e', w', st⟩ := stI X hx hZ rfl g1 (j := j) (x := x) hin (g := fm b m pc L (.int x :: .int j :: .ref a :: _)) rfl rfl hd
            exact ⟨T', _, _, _, X', inv_set H X' e' w' ho (by simp [asz]) (arr_set (T' := T') g1 g2 g3 g4 w' rfl), st⟩
          · cases h
      · cases h
    · cases h
  case lastore =>
    dsimp only at h
    unfold w_lastore at h
    split at h
    · rename_i x j a r
      split at h
      · rename_i vs ho
        split at h
        · cases h
        · rename_i hj
          split at h
          · rename_i hlt
            cases h
            obtain ⟨cl, g1, g2, g3, g4⟩ := hR.2.1 a _ ho
            have hin : ¬ (j < 0 ∨ cl.slots.size ≤ j.toNatClampNeg) := fun q => q.elim hj fun q => by rw [g2] at q; simp at q; omega
            obtain ⟨T', h', X', e', w', st⟩ := stJ X hx hZ rfl g1 (j := j) (x := x) hin (g := fm b m pc L (.long x :: .int j :: .ref a :: _)) rfl rfl hd
            exact ⟨T', _, _, _, X', inv_set H X' e' w' ho (by simp [asz]) (arr_set (T' := T') g1 g2 g3 g4 w' rfl), st⟩
          · cases h
      · cases h
    · cases h
  case bastore =>
    dsimp only at h
    unfold w_bastore at h
    split at h
    · rename_i x j a r
      split at h
      · rename_i vs ho
        split at h
        · cases h
        · rename_i hj
          split at h
          · rename_i hlt
            cases h
            obtain ⟨cl, g1, g2, g3, g4⟩ := hR.2.1 a _ ho
            have hin : ¬ (j < 0 ∨ cl.slots.size ≤ j.toNatClampNeg) := fun q => q.elim hj fun q => by rw [g2] at q; simp at q; omega
            obtain ⟨T', h', X', e', w', st⟩ := stB X hx hZ rfl g1 (j := j) (x := x) hin (g := fm b m pc L (.int x :: .int j :: .ref a :: _)) rfl rfl hd
            exact ⟨T', _, _, _, X', inv_set H X' e' w' ho (by simp [asz]) (arr_set (T' := T') (v := .int x.toInt8.toInt32) g1 g2 g3 g4 w' (fits_nar_byte _)), st⟩
          · cases h
      · rename_i vs ho
        split at h
        · cases h
        · rename_i hj
          split at h
          · rename_i hlt
            cases h
            obtain ⟨cl, g1, g2, g3, g4⟩ := hR.2.1 a _ ho
            have hin : ¬ (j < 0 ∨ cl.slots.size ≤ j.toNatClampNeg) := fun q => q.elim hj fun q => by rw [g2] at q; simp at q; omega
            obtain ⟨T', h', X', e', w', st⟩ := stZ X hx hZ rfl g1 (j := j) (x := x) hin (g := fm b m pc L (.int x :: .int j :: .ref a :: _)) rfl rfl hd
            exact ⟨T', _, _, _, X', inv_set H X' e' w' ho (by simp [asz]) (arr_set (T' := T') (v := .int (x &&& 1)) g1 g2 g3 g4 w' (fits_nar_bool _)), st⟩
          · cases h
      · cases h
    · cases h
  case new idx =>
    dsimp only at h
    unfold w_new at h
    split at h
    · cases h
    · rename_i k hl
      split at h
      · rename_i C hk
        cases h
        have hq := List.all_eq_true.mp hM6 _ (lk_mem hl)
        dsimp only at hq
        rw [hk] at hq
        dsimp only at hq
        have hlink := hw _ (of_decide_eq_true hq)
        have hCk := hC C (List.mem_of_getElem? hk)
        simp only [okC, Bool.and_eq_true, decide_eq_true_eq] at hCk
        obtain ⟨⟨⟨hi1, hi2⟩, hnd⟩, hall⟩ := hCk
        have hz : asz W (.inl (k, C.2.2.map fun f => defaultValue f.2.2.2.1)) = C.2.1 := by simp [asz, hk]
        rw [sz_app, hz] at hs
        have h4 := H.2.2.2.1
        have h5 := H.2.2.2.2
        obtain ⟨T', h', X', e', E', A', D', -, st⟩ := newO X hx hZ hown hlink (hw _ hi1) (hw _ hi2) rfl (g := fm b m pc L S) rfl hd (by simp at hc; omega) (by omega)
        refine ⟨T', _, _, _, X', inv_push H X' e' E' A'.lt hz ⟨C, hk, A', by simp, fun j f u hf hu => ?_⟩, fun t kk => st t ?_⟩
        · have hu' : u = defaultValue f.2.2.2.1 := by simpa [hf] using hu.symm
          rw [hu', def_up]
          have hpf := List.all_eq_true.mp hall f (List.mem_of_getElem? hf)
          simp only [Bool.and_eq_true, decide_eq_true_eq] at hpf
          refine D' (O := f.1) ?_ hpf.1
          have q1 := hpf.2
          split at q1
          · exact Or.inr (hw _ (of_decide_eq_true q1))
          · exact Or.inl (hw _ (of_decide_eq_true q1))
        · have e0 : T.heap.size = b + ah.length := hR.1
          rw [e0]
          exact kk
      · cases h
    · cases h
  case newarray t =>
    dsimp only at h
    unfold w_newarray at h
    split at h
    · rename_i n r
      split at h
      · cases h
      · rename_i hn
        split at h
        · rename_i hcap
          cases h
          have hz : asz W (.inr (newarray.typeOf t, List.replicate n.toNatClampNeg (defaultValue (newarray.typeOf t)))) = n.toNatClampNeg := by simp [asz]
          rw [sz_app, hz] at hs
          have h4 := H.2.2.2.1
          have h5 := H.2.2.2.2
          have hcb : componentBytes (newarray.typeOf t) ≤ 8 := by cases t <;> decide
          have hAC : (Jvm.Cond.arrayClass (newarray.typeOf t)).before a0 Z = true := hw _ (of_decide_eq_true hN)
          obtain ⟨cA, kA, comp, k1, k2, k3, X', st⟩ := X.newarrayPrim hx (mvA hZ hAC) (g := fm b m pc L (.int n :: r)) rfl hd rfl hn (Nat.le_trans (Nat.mul_le_mul hcap hcb) (by decide)) (by simp at hc; omega) (by omega)
          rw [hZ.alike.findClass] at k1
          obtain ⟨kZ, z1, -⟩ := Vm.findClass_spec k1
          obtain ⟨k', z2, z3⟩ := hZ.alike.2.2 _ _ z1
          cases k2.symm.trans z2
          have kk3 : kZ.kind = .array comp (newarray.typeOf t) := by rw [← k3, z3]
          have hg : (T.pushCell { cls := cA, slots := Array.replicate n.toNatClampNeg (defaultValue (newarray.typeOf t)), vm := .none }).heap = T.heap.push { cls := cA, slots := Array.replicate n.toNatClampNeg (defaultValue (newarray.typeOf t)), vm := .none } := rfl
          have hget : (T.heap.push { cls := cA, slots := Array.replicate n.toNatClampNeg (defaultValue (newarray.typeOf t)), vm := .none })[T.heap.size]? = some { cls := cA, slots := Array.replicate n.toNatClampNeg (defaultValue (newarray.typeOf t)), vm := .none } := by simp
          refine ⟨_, _, _, _, X', inv_push H X' hg ⟨by simp, fun a c hc => ?_⟩ (by simp) hz ⟨_, ⟨hget, ⟨by simp, kZ, z1, comp, kk3⟩, by simp⟩, ?_, ⟨_, kZ, hget, k1, z1, rfl, fun q => ?_⟩, fun u hu => ?_⟩, fun tt kk => st tt ?_⟩
          · rw [Array.getElem?_push_lt (Array.getElem?_eq_some_iff.mp hc).1]; exact (Array.getElem?_eq_getElem _).symm.trans hc
          · simp [def_up]
          · rw [kk3] at q; cases q
          · rw [List.eq_of_mem_replicate hu, def_up]; exact def_fits _
          · have e0 : T.heap.size = b + ah.length := hR.1
            rw [e0]
            exact kk
        · cases h
    · cases h
  case invokespecial idx =>
    dsimp only at h
    unfold w_invokespecial at h
    split at h
    · rename_i q a r hl
      split at h
      · rename_i hq3
        split at h
        · rename_i hroom
          cases h
          have hq := List.all_eq_true.mp hM5 _ (lk_mem hl)
          unfold okM at hq
          dsimp only at hq
          rw [hq3] at hq
          simp only [Bool.and_eq_true, decide_eq_true_eq] at hq
          obtain ⟨⟨w1, w2⟩, w3⟩ := hq
          obtain ⟨T', X', e', st⟩ := initO X hx hZ hown (hw _ w1) (hw _ w2) (hw _ w3) rfl (g := fm b m pc L (.ref a :: S')) rfl (by simpa using hsize) rfl hd (by omega) (W := sumC S') (by show 2 * 0 + _ ≤ _; rw [sumC_up]; omega) (by omega)
          refine ⟨T', _, _, _, X', ⟨by rw [e']; exact H.1, H.2⟩, st⟩
        · cases h
      · rename_i hq6
        split at h
        · rename_i k vs ho
          split at h
          · rename_i hkk
            split at h
            · rename_i hroom
              cases h
              have ek : k = q.2.2.1 := Nat.eq_of_beq_eq_true hkk
              have hq := List.all_eq_true.mp hM5 _ (lk_mem hl)
              unfold okM at hq
              dsimp only at hq
              rw [hq6] at hq
              simp only [okHandle, Bool.and_eq_true, decide_eq_true_eq] at hq
              obtain ⟨⟨⟨⟨⟨w1, w2⟩, w3⟩, w4⟩, w5⟩, w6⟩ := hq
              obtain ⟨C, g1, g5, g6, g7⟩ := hR.2.1 a _ ho
              rw [← ek, g1] at w6
              have hx6 : XOK W tab l Z b q := hX _ (lk_mem hl) hq6
              obtain ⟨bytes, maxL, fr, lo, c1, c2, c3, c4, c5⟩ := hx6
              have hmet := c5 T.heap ah a vs hR (by rw [← ek]; exact ho)
              obtain ⟨v1, vm1, ⟨T', L', k', n'⟩, -, X', ⟨Lc, hQ, l1, y1, z1⟩, st⟩ := X.specialBack hx (y := q.2.2.2) w3 hown (mvT hZ (hw _ w4)) (mvT hZ (hw _ w5)) (mvT hZ (hw _ c1)) w1 (backOf (W := sumC S') (rm := { frames := fr, cells := 0, slots := 0, locals := lo }) (Q := fun v h' L => v = none ∧ Fr b L ∧ Keep T.heap h' [b + a]) hmet hZ (hw _ c1) (hw _ c2) (by show fr + 1 ≤ _; omega) (by show sumC S' + (maxL + 11) + lo ≤ _; omega)) (g := fm b m pc L (.ref a :: S')) rfl (by simpa using hsize) (Steps.refl _) (a := b + a) (argsL := []) (rest := S'.map (up b)) (okArgs_len w2 rfl) rfl (by show 2 * 0 + _ ≤ _; rw [sumC_up]; omega) hd (fun _ _ => ⟨rfl, rfl, by show cells + 0 ≤ _; have := H.2.2.2.1; simp at hc; omega, by
                show slots + 0 ≤ _
                have := H.2.2.2.2
                have hz0 : sz W (ah.set a (.inl (k + 1, []))) = sz W ah := by
                  split at w6
                  · rename_i C1 C2 hC1 hC2
                    simp only [Bool.and_eq_true, decide_eq_true_eq] at w6
                    refine sz_set W ?_ ho
                    simp only [asz, hC2, g1]
                    cases hC1
                    exact w6.1.2
                  · cases w6
                rw [hz0] at hs
                omega⟩)
              dsimp only [Pt.U, Pt.locs, Pt.cells, Pt.slots] at X' l1 y1 z1 st hQ
              subst l1 y1 z1
              obtain ⟨rfl, hFr, hK⟩ := hQ
              split at w6
              · rename_i C1 C2 hC1 hC2
                simp only [Bool.and_eq_true, decide_eq_true_eq] at w6
                cases hC1
                obtain ⟨i1, i2, i3, i4, i5⟩ := H
                refine ⟨T', _, _, _, X', ⟨⟨?_, fun i o hi => ?_, fun x c hx hc => hK.2.1 x c (i1.2.2 x c hx hc) (fun z => by have e : x = b + a := List.mem_singleton.mp z; exact absurd hx (Nat.not_lt.mpr (by rw [e]; exact Nat.le_add_right b a)))⟩, i2.app hFr, i3, by simpa using i4, ?_⟩, fun t kk => st.trans kk⟩
                · have e1 := X'.heapSize
                  have e2 := hK.1
                  have e3 := i1.1
                  simp only [List.length_set]
                  try simp only [Nat.add_zero] at e1
                  omega
                · by_cases ei : a = i
                  · subst ei
                    rw [List.getElem?_set_self (lt_of_get ho)] at hi
                    cases hi
                    refine ⟨C2, hC2, by rw [w6.1.1]; exact g5.keep hK, by rw [w6.2]; rfl, fun j f u hf => by rw [w6.2] at hf; simp at hf⟩
                  · rw [List.getElem?_set_ne ei] at hi
                    exact (i1.2.1 i o hi).keep hK (fun z => ei (Nat.add_left_cancel (List.mem_singleton.mp z)).symm)
                · rw [sz_set W (o' := .inl (k + 1, [])) ?_ ho]
                  · exact i5
                  · simp only [asz, hC2, g1]
                    exact w6.1.2
              · cases w6
            · cases h
          · cases h
        · cases h
      · cases h
    · cases h
  case invokevirtual idx =>
    dsimp only at h
    unfold w_invokevirtual at h
    split at h
    · rename_i q a r hl
      split at h
      · rename_i vs hq5 ho
        split at h
        · rename_i hroom
          cases h
          have hq := List.all_eq_true.mp hM5 _ (lk_mem hl)
          unfold okM at hq
          dsimp only at hq
          rw [hq5] at hq
          simp only [Bool.and_eq_true, decide_eq_true_eq] at hq
          obtain ⟨⟨⟨⟨⟨w1, w2⟩, w3⟩, w4⟩, w5⟩, w6⟩ := hq
          obtain ⟨cl, g1, g2, g3, g4⟩ := hR.2.1 a _ ho
          have hz : asz W (.inr (FieldType.int, vs)) = vs.length := rfl
          have hcl : cl.slots.size = vs.length := by rw [g2]; simp
          rw [sz_app, hz] at hs
          have h4 := H.2.2.2.1
          have h5 := H.2.2.2.2
          have hfit : FitC Z cl := fun j u hu => by
            obtain ⟨hst, kc, hkc, comp, hkind⟩ := g1.2.1
            have hu' : u ∈ vs.map (up b) := by
              rw [g2] at hu
              exact List.mem_of_getElem? (by simpa using hu)
            obtain ⟨u0, hu0, rfl⟩ := List.mem_map.mp hu'
            simp [State.fitsSlot, State.slotType?, hkc, hkind, g4 u0 hu0]
          obtain ⟨T', h', X', e', E', A', EX', st⟩ := cloneA X hx hZ hown (hw _ w1) (hw _ w2) (hw _ w3) (hw _ w4) (hw _ w5) (hw _ w6) rfl g1 g3 hfit (g := fm b m pc L (.ref a :: r)) rfl (by simpa using hsize) rfl hd (by omega) (W := sumC r) (cap := vs.length) (by show 2 * 0 + _ ≤ _; rw [sumC_up]; omega) (by omega) (by omega) (by simp at hc; omega) (by omega)
          refine ⟨T', _, _, _, X', inv_push H X' e' E' A'.lt hz ⟨_, A', g2, EX', g4⟩, fun t kk => st t ?_⟩
          have e0 : T.heap.size = b + ah.length := hR.1
          rw [e0]
          exact kk
        · cases h
      · cases h
    · cases h
  case invokestatic idx =>
    dsimp only at h
    unfold w_invokestatic at h
    split at h
    · rename_i q hl
      split at h
      · rename_i hq7
        split at h
        · rename_i nn dp d sp a r
          split at h
          · rename_i vs vd ho hod
            split at h
            · cases h
            · rename_i hneg
              split at h
              · rename_i hroom
                cases h
                have hq := List.all_eq_true.mp hM5 _ (lk_mem hl)
                unfold okM at hq
                dsimp only at hq
                rw [hq7] at hq
                simp only [Bool.and_eq_true, decide_eq_true_eq] at hq
                obtain ⟨⟨⟨w1, w2⟩, w3⟩, w4⟩ := hq
                obtain ⟨cl, g1, g2, g3, g4⟩ := hR.2.1 a _ ho
                obtain ⟨cd, d1, d2, d3, d4⟩ := hR.2.1 d _ hod
                obtain ⟨r1, r2, r3, r4, r5, r6⟩ := hroom
                have z1 := (clampOf r3).1
                have z2 := (clampOf r4).1
                have hus : ((vs.drop sp.toNatClampNeg).take nn.toNatClampNeg).map (up b) = (List.range nn.toNatClampNeg).map fun i => (vs.map (up b)).getD (sp.toNatClampNeg + i) .null := by
                  apply List.ext_getElem?
                  intro i
                  by_cases hi : i < nn.toNatClampNeg
                  · have h1 : sp.toNatClampNeg + i < vs.length := by omega
                    simp [hi, List.getD, h1, List.getElem?_take, List.getElem?_drop]
                  · rw [List.getElem?_eq_none (by simp; omega), List.getElem?_eq_none (by simp; omega)]
                obtain ⟨T', h', Lc, X', e', N', K', A', st⟩ := cpA X hx hZ hown (hw _ w1) (hw _ w2) (hw _ w3) (hw _ w4) rfl (arv_of r3 g1 g2 g4) (arv_of r4 d1 d2 d4) (Or.inl ⟨rfl, rfl⟩) (fun z => hneg (Or.inl z)) (fun z => hneg (Or.inr (Or.inl z))) (fun z => hneg (Or.inr (Or.inr z))) (by rw [z1]; exact r1) (by rw [z2]; exact r2) hus (by simpa using r2) H.2.1 (Nat.le_add_right b d) (g := fm b m pc L (.int nn :: .int dp :: .ref d :: .int sp :: .ref a :: S')) rfl (by simpa using hsize) rfl hd (by omega) (W := sumC S') (by show 2 * 0 + _ ≤ _; rw [sumC_up]; omega) (by show sumC S' + 18 ≤ _; omega)
                have hlen : (vd.take dp.toNatClampNeg ++ (vs.drop sp.toNatClampNeg).take nn.toNatClampNeg ++ vd.drop (dp.toNatClampNeg + nn.toNatClampNeg)).length = vd.length := by
                  simp; omega
                obtain ⟨c', c1, c2, c4⟩ := of_arv (b := b) (vs := vd.take dp.toNatClampNeg ++ (vs.drop sp.toNatClampNeg).take nn.toNatClampNeg ++ vd.drop (dp.toNatClampNeg + nn.toNatClampNeg)) A' (by simp only [List.map_append, List.map_take, List.map_drop]) (by rw [z2, hlen])
                obtain ⟨i1, i2, i3, i4, i5⟩ := H
                refine ⟨T', _, _, _, X', ⟨⟨?_, fun i o hi => ?_, fun x c hx hc => ?_⟩, N', i3, by simpa using i4, ?_⟩, st⟩
                · have e1 := X'.heapSize
                  have e2 := K'.1
                  have e3 := i1.1
                  rw [e'] at e1 ⊢
                  rw [List.length_set]
                  omega
                · rw [e']
                  by_cases ei : d = i
                  · subst ei
                    rw [List.getElem?_set_self (lt_of_get hod)] at hi
                    cases hi
                    exact ⟨c', c1, c2, d3.keep K', c4⟩
                  · rw [List.getElem?_set_ne ei] at hi
                    exact (i1.2.1 i o hi).keep K' (fun z => ei (Nat.add_left_cancel (List.mem_singleton.mp z)).symm)
                · rw [e']
                  exact K'.2.1 x c (i1.2.2 x c hx hc) (fun z => by have e : x = b + d := List.mem_singleton.mp z; exact absurd hx (Nat.not_lt.mpr (by rw [e]; exact Nat.le_add_right b d)))
                · rw [sz_set W (o' := .inr (FieldType.byte, vd.take dp.toNatClampNeg ++ (vs.drop sp.toNatClampNeg).take nn.toNatClampNeg ++ vd.drop (dp.toNatClampNeg + nn.toNatClampNeg))) (by simp only [asz]; exact hlen) hod]
                  exact i5
              · cases h
          · cases h
        · cases h
      · cases h
    · cases h
  all_goals (exact nomatch h)
end Write

/-! leaving, calling, running -/
def r_return (M : Mth) (S : List Value) : Option (Option Value) := match S, mRet M with | [], none => some none | _, _ => none
def r_ireturn (M : Mth) (S : List Value) : Option (Option Value) := match S, mRet M with | .int z :: _, some .int => some (some (.int z)) | .int z :: _, some .boolean => some (some (.int (z &&& 1))) | .int z :: _, some .byte => some (some (.int z.toInt8.toInt32)) | _, _ => none
def r_lreturn (M : Mth) (S : List Value) : Option (Option Value) := match S, mRet M with | .long z :: _, some .long => some (some (.long z)) | _, _ => none
def r_areturn (M : Mth) (S : List Value) : Option (Option Value) := match S, mRet M with | v :: _, some t => (match t.isReference, v.isRef with | true, true => some (some v) | _, _ => none) | _, _ => none
def rsel (i : Instr) : Option (Mth → List Value → Option (Option Value)) :=
  match i with
  | .return_ => some r_return
  | .ireturn => some r_ireturn
  | .lreturn => some r_lreturn
  | .areturn => some r_areturn
  | _ => none
def rstep (M : Mth) (i : Instr) (S : List Value) : Option (Option Value) :=
  match rsel i with
  | some f => f M S
  | none => none
def call0 (N : Mth) (F B : Nat) (S : List Value) : Option (List Value × List Value × Nat) :=
  if mArgs N ≤ S.length ∧ 1 ≤ F ∧ sumC (S.drop (mArgs N)) + (mMax N + 11) ≤ B ∧ (Jvm.Sym.laidSlots (S.take (mArgs N)).reverse).length ≤ mMax N then some ((S.take (mArgs N)).reverse, S.drop (mArgs N), B - (sumC (S.drop (mArgs N)) + (mMax N + 11))) else none
def c_invokestatic (W : Wld) (M : Mth) (F B : Nat) (_ah : AH) (idx : Nat) (S : List Value) : Option (Mth × List Value × List Value × Nat) :=
    (match lk (mMl M) idx with
    | none => none
    | some q =>
      (match q.1, W.1[q.2.1]? with
      | 0, some N => (match call0 N F B S with | some (as, rest, B') => some (N, as, rest, B') | none => none)
      | _, _ => none))
def c_invokespecial (W : Wld) (M : Mth) (F B : Nat) (_ah : AH) (idx : Nat) (S : List Value) : Option (Mth × List Value × List Value × Nat) :=
    (match lk (mMl M) idx with
    | none => none
    | some q =>
      (match q.1, W.1[q.2.1]? with
      | 1, some N => (match call0 N F B S with | some (.ref a :: as, rest, B') => some (N, .ref a :: as, rest, B') | _ => none)
      | _, _ => none))
def c_invokevirtual (W : Wld) (M : Mth) (F B : Nat) (ah : AH) (idx : Nat) (S : List Value) : Option (Mth × List Value × List Value × Nat) :=
    (match lk (mMl M) idx with
    | none => none
    | some q =>
      (match q.1, W.1[q.2.1]? with
      | 2, some N =>
        (match call0 N F B S with
        | some (.ref a :: as, rest, B') => (match ah[a]? with | some (.inl (k, _)) => (match Nat.beq k q.2.2.1 with | true => some (N, .ref a :: as, rest, B') | false => none) | _ => none)
        | _ => none)
      | 4, some N =>
        (match call0 N F B S with
        | some (.ref a :: as, rest, B') => (match ah[a]? with | some (.inl (_, _)) => some (N, .ref a :: as, rest, B') | _ => none)
        | _ => none)
      | _, _ => none))
def csel (i : Instr) : Option (Wld → Mth → Nat → Nat → AH → List Value → Option (Mth × List Value × List Value × Nat)) :=
  match i with
  | .invokestatic idx => some fun W M F B ah => c_invokestatic W M F B ah idx
  | .invokespecial idx => some fun W M F B ah => c_invokespecial W M F B ah idx
  | .invokevirtual idx => some fun W M F B ah => c_invokevirtual W M F B ah idx
  | _ => none
def cstep (W : Wld) (M : Mth) (F B : Nat) (ah : AH) (i : Instr) (S : List Value) : Option (Mth × List Value × List Value × Nat) :=
  match csel i with
  | some f => f W M F B ah S
  | none => none
def ent (as : List Value) (n : Nat) : List Slot := Jvm.Sym.laidSlots as ++ List.replicate (n - (Jvm.Sym.laidSlots as).length) .unset
def run (W : Wld) : Nat → Nat → Nat → Mth → Nat → List Slot → List Value → AH → Option (Option Value × AH)
  | 0, _, _, _, _, _, _, _ => none
  | n + 1, F, B, M, pc, L, S, ah =>
    match fetch M pc with
    | none => none
    | some (i, nx, tg) =>
      match pstep M ah i nx tg L S with
      | some (pc', L', S') => run W n F B M pc' L' S' ah
      | none =>
        match wstep W M F B ah i nx S with
        | some (pc', S', ah') => run W n F B M pc' L S' ah'
        | none =>
          match rstep M i S with
          | some v => some (v, ah)
          | none =>
            match cstep W M F B ah i S with
            | some (N, as, rest, B') =>
              (match run W n (F - 1) B' N 0 (ent as (mMax N)) [] ah with
              | some (v, ah') => run W n F B M nx L (v.toList ++ rest) ah'
              | none => none)
            | none => none
theorem wstep_mono {W : Wld} {tab : List Jvm.Cond} {M : Mth} (hMl : (mMl M).all (okM W tab M) = true) {F B : Nat} {ah ah' : AH} {i : Instr} {nx pc' : Nat} {S S' : List Value} (h : wstep W M F B ah i nx S = some (pc', S', ah')) : ah.length ≤ ah'.length ∧ sz W ah ≤ sz W ah' := by
  unfold wstep wsel at h
  cases i
  case putfield idx =>
    dsimp only at h
    unfold w_putfield at h
    split at h
    · split at h
      · rename_i ho
        split at h
        · split at h
          · cases h; exact ⟨by simp, Nat.le_of_eq (Eq.symm (sz_set W (by rfl) ho))⟩
          · cases h
        · cases h
      · cases h
    · cases h
  case iastore =>
    dsimp only at h
    unfold w_iastore at h
    split at h
    · split at h
      · rename_i ho
        split at h
        · cases h
        · split at h
          · cases h; exact ⟨by simp, Nat.le_of_eq (Eq.symm (sz_set W (by simp [asz]) ho))⟩
          · cases h
      · cases h
    · cases h
  case lastore =>
    dsimp only at h
    unfold w_lastore at h
    split at h
    · split at h
      · rename_i ho
        split at h
        · cases h
        · split at h
          · cases h; exact ⟨by simp, Nat.le_of_eq (Eq.symm (sz_set W (by simp [asz]) ho))⟩
          · cases h
      · cases h
    · cases h
  case bastore =>
    dsimp only at h
    unfold w_bastore at h
    split at h
    · split at h
      · rename_i ho
        split at h
        · cases h
        · split at h
          · cases h; exact ⟨by simp, Nat.le_of_eq (Eq.symm (sz_set W (by simp [asz]) ho))⟩
          · cases h
      · rename_i ho
        split at h
        · cases h
        · split at h
          · cases h; exact ⟨by simp, Nat.le_of_eq (Eq.symm (sz_set W (by simp [asz]) ho))⟩
          · cases h
      · cases h
    · cases h
  case invokevirtual idx =>
    dsimp only at h
    unfold w_invokevirtual at h
    split at h
    · split at h
      · split at h
        · cases h; exact ⟨by simp, by rw [sz_app]; omega⟩
        · cases h
      · cases h
    · cases h
  case invokestatic idx =>
    dsimp only at h
    unfold w_invokestatic at h
    split at h
    · split at h
      · split at h
        · split at h
          · rename_i ho hod
            split at h
            · cases h
            · split at h
              · rename_i hroom
                cases h
                exact ⟨by simp, Nat.le_of_eq (Eq.symm (sz_set W (by simp [asz]; omega) hod))⟩
              · cases h
          · cases h
        · cases h
      · cases h
    · cases h
  case new idx =>
    dsimp only at h
    unfold w_new at h
    split at h
    · cases h
    · split at h
      · cases h; exact ⟨by simp, by rw [sz_app]; omega⟩
      · cases h
    · cases h
  case newarray t =>
    dsimp only at h
    unfold w_newarray at h
    split at h
    · split at h
      · cases h
      · split at h
        · cases h; exact ⟨by simp, by rw [sz_app]; omega⟩
        · cases h
    · cases h
  case invokespecial idx =>
    dsimp only at h
    unfold w_invokespecial at h
    split at h
    · rename_i q a r hl
      split at h
      · split at h
        · cases h; exact ⟨Nat.le_refl _, Nat.le_refl _⟩
        · cases h
      · rename_i hq6
        split at h
        · rename_i k vs ho
          split at h
          · rename_i hkk
            split at h
            · cases h
              have ek : k = q.2.2.1 := Nat.eq_of_beq_eq_true hkk
              have hq := List.all_eq_true.mp hMl _ (lk_mem hl)
              unfold okM at hq
              dsimp only at hq
              rw [hq6] at hq
              simp only [Bool.and_eq_true] at hq
              have w6 := hq.2
              rw [← ek] at w6
              split at w6
              · rename_i C1 C2 hC1 hC2
                simp only [Bool.and_eq_true, decide_eq_true_eq] at w6
                refine ⟨by simp, Nat.le_of_eq (Eq.symm (sz_set W ?_ ho))⟩
                simp only [asz, hC1, hC2]
                exact w6.1.2
              · cases w6
            · cases h
          · cases h
        · cases h
      · cases h
    · cases h
  all_goals (exact nomatch h)
/-- a private method is selected by itself: its class is no interface -/
theorem selfSel {tab : List Jvm.Cond} {a0 : Array Value} {Z : State} {y : MethodName} (hw : ∀ d ∈ tab, d.before a0 Z = true) (h : (decide (Jvm.Cond.selects y.cls y y ∈ tab) || tab.any fun w => match w with | .instantiable c _ => decide (c = y.cls) | _ => false) = true) (hp : (Jvm.Cond.privateMethod y).before a0 Z = true) (hi : (Jvm.Cond.instanceMethod y).before a0 Z = true) (hy : y.cls ≠ "java/lang/invoke/MethodHandle" ∧ y.cls ≠ "java/lang/invoke/VarHandle") : (Jvm.Cond.selects y.cls y y).before a0 Z = true := by
  rw [Bool.or_eq_true, decide_eq_true_eq, List.any_eq_true] at h
  rcases h with h | ⟨w, hwt, hq⟩
  · exact hw _ h
  · split at hq
    · rename_i c n
      have e : c = y.cls := of_decide_eq_true hq
      subst e
      obtain ⟨c, k, h1, h2, -, h4, -⟩ := Cond.instantiable_spec (hw _ hwt)
      exact Jvm.Stand.selects_self_of_private h1 h2 (by rw [Bool.or_eq_false_iff] at h4; exact h4.1) (Cond.privateMethod_at hp) hi hy
    · cases hq
theorem call0_spec {N : Mth} {F B B' : Nat} {S as rest : List Value} (h : call0 N F B S = some (as, rest, B')) : as.length = mArgs N ∧ S = as.reverse ++ rest ∧ 1 ≤ F ∧ B' + (sumC rest + (mMax N + 11)) = B ∧ (Jvm.Sym.laidSlots as).length ≤ mMax N := by
  unfold call0 at h
  split at h
  · rename_i hq
    cases h
    refine ⟨by simp; omega, by simp, hq.2.1, by omega, hq.2.2.2⟩
  · cases h
theorem cstep_in {W : Wld} {M : Mth} {ah : AH} {F B : Nat} {i : Instr} {S : List Value} {q : Mth × List Value × List Value × Nat} (h : cstep W M F B ah i S = some q) : q.1 ∈ W.1 ∧ (Jvm.Sym.laidSlots q.2.1).length ≤ mMax q.1 := by
  unfold cstep csel at h
  cases i
  case invokestatic idx =>
    dsimp only at h
    unfold c_invokestatic at h
    split at h
    · cases h
    · split at h
      · rename_i hN
        split at h
        · rename_i hc0
          cases h
          exact ⟨List.mem_of_getElem? hN, (call0_spec hc0).2.2.2.2⟩
        · cases h
      · cases h
  case invokespecial idx =>
    dsimp only at h
    unfold c_invokespecial at h
    split at h
    · cases h
    · split at h
      · rename_i hN
        split at h
        · rename_i hc0
          cases h
          exact ⟨List.mem_of_getElem? hN, (call0_spec hc0).2.2.2.2⟩
        · cases h
      · cases h
  case invokevirtual idx =>
    dsimp only at h
    unfold c_invokevirtual at h
    split at h
    · cases h
    · split at h
      · rename_i hN
        split at h
        · rename_i hc0
          split at h
          · split at h
            · cases h
              exact ⟨List.mem_of_getElem? hN, (call0_spec hc0).2.2.2.2⟩
            · cases h
          · cases h
        · cases h
      · rename_i hN
        split at h
        · rename_i hc0
          split at h
          · cases h
            exact ⟨List.mem_of_getElem? hN, (call0_spec hc0).2.2.2.2⟩
          · cases h
        · cases h
      · cases h
  all_goals (exact nomatch h)
theorem run_mono {W : Wld} {tab : List Jvm.Cond} (hMs : ∀ M ∈ W.1, (mMl M).all (okM W tab M) = true) : ∀ (n F B : Nat) (M : Mth) (pc : Nat) (L : List Slot) (S : List Value) (ah : AH) (v : Option Value) (ah' : AH), M ∈ W.1 → run W n F B M pc L S ah = some (v, ah') → ah.length ≤ ah'.length ∧ sz W ah ≤ sz W ah'
  | 0, _, _, _, _, _, _, _, _, _, _, h => by unfold run at h; cases h
  | n + 1, F, B, M, pc, L, S, ah, v, ah', hin, h => by
    unfold run at h
    split at h
    · cases h
    · split at h
      · exact run_mono hMs n _ _ _ _ _ _ _ _ _ hin h
      · split at h
        · rename_i hq
          have h1 := wstep_mono (hMs M hin) hq
          have h2 := run_mono hMs n _ _ _ _ _ _ _ _ _ hin h
          exact ⟨Nat.le_trans h1.1 h2.1, Nat.le_trans h1.2 h2.2⟩
        · split at h
          · cases h; exact ⟨Nat.le_refl _, Nat.le_refl _⟩
          · split at h
            · rename_i hc
              split at h
              · rename_i hr
                have h1 := run_mono hMs n _ _ _ _ _ _ _ _ _ (cstep_in hc).1 hr
                have h2 := run_mono hMs n _ _ _ _ _ _ _ _ _ hin h
                exact ⟨Nat.le_trans h1.1 h2.1, Nat.le_trans h1.2 h2.2⟩
              · cases h
            · cases h
section Run
variable {p : Program} {l : Launch} {e : Env} {R : Room} {s : State} {m : MethodId} {args : Array Value} {below : List Frame} {meth : Method} {c : Code} {T : State} {locs : List Loc} {cells slots : Nat} {Z : State} {a0 : Array Value} {W : Wld} {M : Mth} {b c0 q0 : Nat} {ah : AH}
theorem narrow_ref {t : FieldType} {w : Value} (h : w.isRef = true) : narrow t w = w := by
  cases w <;> first | (simp [Value.isRef] at h; done) | (cases t <;> rfl)
theorem rstep_sound {i : Instr} {pc : Nat} {L : List Slot} {S : List Value} {v : Option Value} (X : Stand p l e R s m args below meth c T locs cells slots) (hx : p.tables.exec = Jvm.exec) (hret : meth.sig.returnType = mRet M) (hlocks : meth.locks = false)
    (hd : decode c.code pc = .ok (i, ilen i)) (h : rstep M i S = some v) :
    ∃ fs, Steps p.tables e below (T.setTop (fm b m pc L S)) (T.setFrames fs) ∧ (T.setFrames fs).status = .running ∧ Ended (T.setFrames fs) below (.returned (v.map (up b))) ∧ s.WarmedH (T.setFrames fs).vm ∧ s.sameButNew ({ T.setFrames fs with vm := s.vm } : State) locs cells slots := by
  unfold rstep rsel at h
  cases i
  case return_ =>
    dsimp only at h
    unfold r_return at h
    split at h
    · rename_i hr0
      cases h
      obtain ⟨fs, hr, h1, h2, h3, h4⟩ := X.leave (v := none) (fun _ => rfl) hlocks
      exact ⟨fs, X.returnOut hx (hret.trans hr0) hd hr, h1, h2, h3, h4⟩
    · cases h
  case ireturn =>
    dsimp only at h
    unfold r_ireturn at h
    split at h
    · rename_i z r hr0
      cases h
      obtain ⟨fs, hr, h1, h2, h3, h4⟩ := X.leave (v := some (.int z)) (fun q => by rw [hret, hr0] at q; cases q) hlocks
      exact ⟨fs, retOut X hx (hret.trans hr0) rfl (Or.inl ⟨rfl, Or.inl rfl, z, rfl⟩) hd hr, h1, h2, h3, h4⟩
    · rename_i z r hr0
      cases h
      obtain ⟨fs, hr, h1, h2, h3, h4⟩ := X.leave (v := some (.int (nar .boolean z))) (fun q => by rw [hret, hr0] at q; cases q) hlocks
      exact ⟨fs, retN X hx (hret.trans hr0) (Or.inl rfl) hd hr, h1, h2, h3, h4⟩
    · rename_i z r hr0
      cases h
      obtain ⟨fs, hr, h1, h2, h3, h4⟩ := X.leave (v := some (.int (nar .byte z))) (fun q => by rw [hret, hr0] at q; cases q) hlocks
      exact ⟨fs, retN X hx (hret.trans hr0) (Or.inr (Or.inl rfl)) hd hr, h1, h2, h3, h4⟩
    · cases h
  case lreturn =>
    dsimp only at h
    unfold r_lreturn at h
    split at h
    · rename_i z r hr0
      cases h
      obtain ⟨fs, hr, h1, h2, h3, h4⟩ := X.leave (v := some (.long z)) (fun q => by rw [hret, hr0] at q; cases q) hlocks
      exact ⟨fs, retOut X hx (hret.trans hr0) rfl (Or.inr (Or.inl ⟨rfl, rfl, z, rfl⟩)) hd hr, h1, h2, h3, h4⟩
    · cases h
  case areturn =>
    dsimp only at h
    unfold r_areturn at h
    split at h
    · rename_i w r t hr0
      split at h
      · rename_i ht hw
        cases h
        have hw' : (up b w).isRef = true := by rw [up_isRef]; exact hw
        obtain ⟨fs, hr, h1, h2, h3, h4⟩ := X.leave (v := some (up b w)) (fun q => by rw [hret, hr0] at q; cases q) hlocks
        exact ⟨fs, retOut X hx (hret.trans hr0) (narrow_ref hw') (Or.inr (Or.inr (Or.inr (Or.inr ⟨rfl, ht, hw'⟩)))) hd hr, h1, h2, h3, h4⟩
      · cases h
    · cases h
  all_goals (exact nomatch h)
theorem cstep_sound {tab : List Jvm.Cond} {F B B' dc ds : Nat} {i : Instr} {pc nx : Nat} {L : List Slot} {S as rest : List Value} {N : Mth} {Q : Option Value → Heap → List Loc → Prop} (X : Stand p l e R s m args below meth c T locs cells slots) (hx : p.tables.exec = Jvm.exec) (hZ : Z.Warmed39 s.vm) (hown : s.vm.findClass (mNm M).cls = some m.cls)
    (hsize : L.length = c.maxLocals) (hw : ∀ d ∈ tab, d.before a0 Z = true) (hM : okMth W tab M = true)
    (hR : Rel W Z b T.heap ah) (hF : F ≤ R.frames) (hB : B ≤ R.locals) (hc : cells + dc ≤ R.cells) (hs : slots + ds ≤ R.slots) (hd : decode c.code pc = .ok (i, ilen i)) (hnx : nx = pc + ilen i) (h : cstep W M F B ah i S = some (N, as, rest, B'))
    (hmet : MetFree l (mNm N) (head1 [Jvm.Cond.code (mNm N) (mCode N) (mMax N) (mRet N)] ({ frames := F - 1, cells := dc, slots := ds, locals := B' } : Room)) (fun a U => a = (as.map (up b)).toArray ∧ Z.Warmed39 U.vm ∧ U.heap = T.heap) (fun _ _ _ _ _ => True) (fun _ U o U' => ∃ v L, o = .returned v ∧ Q v U'.heap L ∧ FrameEnd U o U' L ({ frames := F - 1, cells := dc, slots := ds, locals := B' } : Room).cells ({ frames := F - 1, cells := dc, slots := ds, locals := B' } : Room).slots)) :
    ∃ v T' Lc, Stand p l e R s m args below meth c T' (locs ++ Lc) (cells + dc) (slots + ds) ∧ Q v T'.heap Lc ∧ ∀ target, Steps p.tables e below (T'.setTop (mkF m nx (L.map (upS b)).toArray (v.toList ++ rest.map (up b)))) target → Steps p.tables e below (T.setTop (fm b m pc L S)) target := by
  simp only [okMth, Bool.and_eq_true] at hM
  obtain ⟨⟨⟨⟨⟨hM1, hM2⟩, hM3⟩, hM4⟩, hM5⟩, hM6⟩ := hM
  have hsz : (fm b m pc L S).locals.size = c.maxLocals := by simpa using hsize
  subst hnx
  unfold cstep csel at h
  cases i
  case invokestatic idx =>
    dsimp only at h
    unfold c_invokestatic at h
    split at h
    · cases h
    · rename_i q hl
      split at h
      · rename_i N' hk hN
        split at h
        · rename_i as' rest' B'' hc0
          cases h
          obtain ⟨k1, k2, k3, k4, -⟩ := call0_spec hc0
          have hq := List.all_eq_true.mp hM5 _ (lk_mem hl)
          unfold okM at hq
          dsimp only at hq
          rw [hk, hN] at hq
          simp only [okCode, okHandle, Bool.and_eq_true, decide_eq_true_eq] at hq
          obtain ⟨⟨⟨⟨⟨w1, w2⟩, w3⟩, w4⟩, w5⟩, w6⟩ := hq
          obtain ⟨v, vm1, ⟨T', L', k', n'⟩, -, X', ⟨Lc, hQ, l1, y1, z1⟩, st⟩ := Jvm.LawKit.callS X hx (y := mNm N) hown (mvT hZ (hw _ w5)) (mvT hZ (hw _ w6)) (mvT hZ (hw _ w2)) (mvT hZ (hw _ w1)) w3 (backOf (W := sumC rest) hmet hZ (hw _ w1) (hw _ w2) (by show F - 1 + 1 ≤ _; omega) (by show sumC rest + (mMax N + 11) + B' ≤ _; omega)) (g := fm b m pc L S) rfl hsz (argsL := as.map (up b)) (rest := rest.map (up b)) (okArgs_len w4 (by simpa using k1)) (by show S.map (up b) = _; rw [k2]; simp) (by show 2 * 0 + _ ≤ _; rw [sumC_up]; omega) hd (fun _ _ => ⟨rfl, rfl, hc, hs⟩)
          dsimp only [Pt.U, Pt.locs, Pt.cells, Pt.slots] at X' l1 y1 z1 st hQ
          subst l1 y1 z1
          exact ⟨v, T', Lc, X', hQ, st⟩
        · cases h
      · cases h
  case invokespecial idx =>
    dsimp only at h
    unfold c_invokespecial at h
    split at h
    · cases h
    · rename_i q hl
      split at h
      · rename_i N' hk hN
        split at h
        · rename_i a as' rest' B'' hc0
          cases h
          obtain ⟨k1, k2, k3, k4, -⟩ := call0_spec hc0
          have hq := List.all_eq_true.mp hM5 _ (lk_mem hl)
          unfold okM at hq
          dsimp only at hq
          rw [hk, hN] at hq
          simp only [okCode, okHandle, Bool.and_eq_true, decide_eq_true_eq] at hq
          obtain ⟨⟨⟨⟨⟨⟨⟨w1, w2⟩, w3⟩, w4⟩, w5⟩, w6⟩, w7⟩, w8⟩ := hq
          rw [← k1] at w4
          obtain ⟨v, vm1, ⟨T', L', k', n'⟩, -, X', ⟨Lc, hQ, l1, y1, z1⟩, st⟩ := X.specialBack hx (y := mNm N) w7 hown (mvT hZ (hw _ w5)) (mvT hZ (hw _ w6)) (mvT hZ (show (Jvm.Cond.code (mNm N) (mCode N) (mMax N) none).before a0 Z = true from w8 ▸ hw _ w1)) w3 (backOf (W := sumC rest) hmet hZ (hw _ w1) (hw _ w2) (by show F - 1 + 1 ≤ _; omega) (by show sumC rest + (mMax N + 11) + B' ≤ _; omega)) (g := fm b m pc L S) rfl hsz (Steps.refl _) (a := b + a) (argsL := as'.map (up b)) (rest := rest.map (up b)) (okArgs_len w4 (by simp)) (by show S.map (up b) = _; rw [k2]; simp [up]) (by show 2 * 0 + _ ≤ _; rw [sumC_up]; omega) hd (fun _ _ => ⟨rfl, rfl, hc, hs⟩)
          dsimp only [Pt.U, Pt.locs, Pt.cells, Pt.slots] at X' l1 y1 z1 st hQ
          subst l1 y1 z1
          exact ⟨v, T', Lc, X', hQ, fun t k => st.trans k⟩
        · cases h
      · cases h
  case invokevirtual idx =>
    dsimp only at h
    unfold c_invokevirtual at h
    split at h
    · cases h
    · rename_i q hl
      split at h
      · rename_i N' hk hN
        split at h
        · rename_i a as' rest' B'' hc0
          split at h
          · rename_i k vs ho
            split at h
            · rename_i hkk
              cases h
              obtain ⟨k1, k2, k3, k4, -⟩ := call0_spec hc0
              obtain ⟨C, g1, g5, g6, g7⟩ := hR.2.1 a _ ho
              have ek : k = q.2.2.1 := Nat.eq_of_beq_eq_true hkk
              have hq := List.all_eq_true.mp hM5 _ (lk_mem hl)
              unfold okM at hq
              dsimp only at hq
              rw [hk, hN, ← ek, g1] at hq
              simp only [okCode, okHandle, Bool.and_eq_true, decide_eq_true_eq] at hq
              obtain ⟨⟨⟨⟨⟨⟨⟨w1, w2⟩, w3⟩, w4⟩, w5⟩, w6⟩, w7⟩, w8⟩ := hq
              rw [← k1] at w4
              obtain ⟨cq, kq, qa, qb, qc⟩ := isOf hZ rfl g5
              obtain ⟨v, vm1, ⟨T', L', k', n'⟩, -, X', ⟨Lc, hQ, l1, y1, z1⟩, st⟩ := X.virtualBack hx (y := mNm N) (z := mNm N) hown (mvT hZ (hw _ w5)) (mvT hZ (hw _ w6)) (notFace_of_selects (args := #[]) (mvT hZ (hw _ w8))) (mvT hZ (hw _ w8)) (mvT hZ (hw _ w7)) w3 (backOf (W := sumC rest) hmet hZ (hw _ w1) (hw _ w2) (by show F - 1 + 1 ≤ _; omega) (by show sumC rest + (mMax N + 11) + B' ≤ _; omega)) qa qc (g := fm b m pc L S) rfl hsz (Steps.refl _) (argsL := as'.map (up b)) (rest := rest.map (up b)) (okArgs_len w4 (by simp)) (by show S.map (up b) = _; rw [k2]; simp [up]) (by show 2 * 0 + _ ≤ _; rw [sumC_up]; omega) hd (fun _ _ => ⟨rfl, rfl, hc, hs⟩)
              dsimp only [Pt.U, Pt.locs, Pt.cells, Pt.slots] at X' l1 y1 z1 st hQ
              subst l1 y1 z1
              exact ⟨v, T', Lc, X', hQ, fun t k => st.trans k⟩
            · cases h
          · cases h
        · cases h
      · rename_i N' hk hN
        split at h
        · rename_i a as' rest' B'' hc0
          split at h
          · rename_i k vs ho
            cases h
            obtain ⟨k1, k2, k3, k4, -⟩ := call0_spec hc0
            obtain ⟨C, g1, g5, g6, g7⟩ := hR.2.1 a _ ho
            have hq := List.all_eq_true.mp hM5 _ (lk_mem hl)
            unfold okM at hq
            dsimp only at hq
            rw [hk, hN] at hq
            simp only [okCode, okHandle, Bool.and_eq_true, decide_eq_true_eq] at hq
            obtain ⟨⟨⟨⟨⟨⟨⟨w1, w2⟩, w3⟩, w4⟩, w5⟩, w6⟩, w7⟩, w8⟩ := hq
            have w9 : (Jvm.Cond.selects (mNm N).cls (mNm N) (mNm N)).before a0 Z = true := selfSel hw w8 (hw _ w7) (hw _ w6) w3
            rw [← k1] at w4
            obtain ⟨cq, qa, qb⟩ := g5.cell
            obtain ⟨v, vm1, ⟨T', L', k', n'⟩, -, X', ⟨Lc, hQ, l1, y1, z1⟩, st⟩ := X.privateBack hx (y := mNm N) hown (mvT hZ (hw _ w5)) (mvT hZ (hw _ w6)) (mvT hZ w9) (Cond.privateMethod_at (mvP hZ (hw _ w7) (args := #[]))) (mvT hZ (hw _ w1)) w3 (backOf (W := sumC rest) hmet hZ (hw _ w1) (hw _ w2) (by show F - 1 + 1 ≤ _; omega) (by show sumC rest + (mMax N + 11) + B' ≤ _; omega)) (g := fm b m pc L S) rfl hsz (Steps.refl _) (a := b + a) qa qb (argsL := as'.map (up b)) (rest := rest.map (up b)) (okArgs_len w4 (by simp)) (by show S.map (up b) = _; rw [k2]; simp [up]) (by show 2 * 0 + _ ≤ _; rw [sumC_up]; omega) hd (fun _ _ => ⟨rfl, rfl, hc, hs⟩)
            dsimp only [Pt.U, Pt.locs, Pt.cells, Pt.slots] at X' l1 y1 z1 st hQ
            subst l1 y1 z1
            exact ⟨v, T', Lc, X', hQ, fun t k => st.trans k⟩
          · cases h
        · cases h
      · cases h
  all_goals (exact nomatch h)
theorem laid_up (b : Nat) : ∀ as : List Value, Jvm.Sym.laidSlots (as.map (up b)) = (Jvm.Sym.laidSlots as).map (upS b)
  | [] => rfl
  | v :: vs => by
    simp only [List.map_cons, Jvm.Sym.laidSlots, up_cat]
    split
    · simp only [List.map_cons, laid_up b vs, upS]
    · simp only [List.map_cons, laid_up b vs, upS]
theorem ent_up (b : Nat) (as : List Value) (n : Nat) : Jvm.Sym.laidSlots (as.map (up b)).toArray.toList ++ List.replicate (n - (Jvm.Sym.laidSlots (as.map (up b)).toArray.toList).length) .unset = ((ent as n).map (upS b)).toArray.toList := by
  simp only [laid_up, List.toList_toArray, List.length_map, ent, List.map_append, List.map_replicate, upS]
/-- the whole world is right -/
def wok (W : Wld) (tab : List Jvm.Cond) : Bool := W.1.all (okMth W tab) && W.2.all (okC tab)
/-- what a run of a body says of the machine -/
def Sound (W : Wld) (tab : List Jvm.Cond) (l : Launch) (Z : State) (b n : Nat) : Prop :=
  ∀ (F B : Nat) (M : Mth) (pc : Nat) (L : List Slot) (S : List Value) (ah : AH) (v : Option Value) (ah' : AH), M ∈ W.1 → run W n F B M pc L S ah = some (v, ah') →
  ∀ (p : Program) (e : Env) (R : Room) (s : State) (m : MethodId) (args : Array Value) (below : List Frame) (meth : Method) (c : Code) (T : State) (locs : List Loc) (cells slots c0 q0 : Nat),
    Stand p l e R s m args below meth c T locs cells slots → p.tables.exec = Jvm.exec → Z.Warmed39 s.vm → s.vm.findClass (mNm M).cls = some m.cls → meth.name = (mNm M).name → meth.sig.returnType = mRet M → meth.locks = false → c.code = mCode M → L.length = c.maxLocals →
    Inv W Z b c0 q0 s T locs cells slots ah → F ≤ R.frames → B ≤ R.locals → ah'.length ≤ c0 + R.cells → sz W ah' ≤ q0 + R.slots →
    ∃ s₂, Steps p.tables e below (T.setTop (fm b m pc L S)) s₂ ∧ s₂.status = .running ∧ Ended s₂ below (.returned (v.map (up b))) ∧ Rel W Z b s₂.heap ah' ∧ s.WarmedH s₂.vm ∧ ∃ L' cells' slots', Fr b L' ∧ cells' + c0 = ah'.length ∧ slots' + q0 = sz W ah' ∧ s.sameButNew ({ s₂ with vm := s.vm } : State) L' cells' slots'
theorem met {tab : List Jvm.Cond} {n F B dc ds : Nat} {as : List Value} {v : Option Value} {ah' : AH} {h0 : Heap} {ws : List Jvm.Cond} (IH : Sound W tab l Z b n) (hM : M ∈ W.1) (hp : plainFor (mNm M) = true) (h : run W n F B M 0 (ent as (mMax M)) [] ah = some (v, ah')) (hl : (Jvm.Sym.laidSlots as).length ≤ mMax M) (hR : Rel W Z b h0 ah) (hdc : ah'.length ≤ ah.length + dc) (hds : sz W ah' ≤ sz W ah + ds) :
    MetFree l (mNm M) (head1 (Jvm.Cond.code (mNm M) (mCode M) (mMax M) (mRet M) :: ws) ({ frames := F, cells := dc, slots := ds, locals := B } : Room)) (fun a U => a = (as.map (up b)).toArray ∧ Z.Warmed39 U.vm ∧ U.heap = h0) (fun _ _ _ _ _ => True) (fun _ U o U' => ∃ v' L, o = .returned v' ∧ (v' = v.map (up b) ∧ Rel W Z b U'.heap ah' ∧ Fr b L) ∧ FrameEnd U o U' L ({ frames := F, cells := dc, slots := ds, locals := B } : Room).cells ({ frames := F, cells := dc, slots := ds, locals := B } : Room).slots) := by
  refine MetFree.of_bodySF hp hisR ?_
  intro p e s m args below meth c s₁ Bd hml0 hP hK
  obtain ⟨rfl, hZ, hh⟩ := hP
  have hx := Bd.exec
  have hby := Bd.bytes
  have hown : s.vm.findClass (mNm M).cls = some m.cls := findClass_of_methodNamed Bd.named
  have hnm := (name_of_methodNamed Bd.named Bd.method).1
  have X0 : Stand p l e ({ frames := F, cells := dc, slots := ds, locals := B } : Room) s m (as.map (up b)).toArray below meth c s₁ [] 0 0 := Stand.of_body Bd
  have e0 : s₁.heap = h0 := by rw [← hh, Bd.state]; rfl
  have hlk : meth.locks = false := Bd.notSynchronized
  have hLlen : (ent as (mMax M)).length = c.maxLocals := by rw [hml0]; simp [ent]; omega
  have hinv : Inv W Z b ah.length (sz W ah) s s₁ [] 0 0 ah := ⟨by rw [e0]; exact hR, Fr.nil b, by rw [hh]; exact hR.1, by omega, by omega⟩
  obtain ⟨s₂, g1, g2, g3, g4, g5, L', k', n', g6, g7, g8, g9⟩ := IH F B M 0 (ent as (mMax M)) [] ah v ah' hM h p e _ s m _ below meth c s₁ [] 0 0 ah.length (sz W ah) X0 hx hZ hown hnm Bd.returns hlk hby hLlen hinv (Nat.le_refl _) (Nat.le_refl _) hdc hds
  refine ⟨s₂, _, (XT.entry (Ls := ((ent as (mMax M)).map (upS b)).toArray) (ent_up b as (mMax M))).trans g1, g2, g3, _, L', rfl, ⟨rfl, g4, g6⟩, ⟨_, rfl⟩, g5, g9.mono ?_ ?_⟩
  · show k' ≤ dc; omega
  · show n' ≤ ds; omega
theorem sound {tab : List Jvm.Cond} (hw : ∀ d ∈ tab, d.before a0 Z = true) (hW : wok W tab = true) (hP : ∀ M ∈ W.1, plainFor (mNm M) = true) (hX : ∀ M ∈ W.1, ∀ q ∈ mMl M, q.2.1 = 6 → XOK W tab l Z b q.2) : ∀ n, Sound W tab l Z b n := by
  simp only [wok, Bool.and_eq_true] at hW
  obtain ⟨hW1, hW2⟩ := hW
  have hMs := List.all_eq_true.mp hW1
  have hCs := List.all_eq_true.mp hW2
  have hMm : ∀ M ∈ W.1, (mMl M).all (okM W tab M) = true := fun M hin => by
    have q := hMs M hin
    simp only [okMth, Bool.and_eq_true] at q
    exact q.1.2
  intro n
  induction n with
  | zero => intro F B M pc L S ah v ah' hM h; unfold run at h; cases h
  | succ n IH =>
    intro F B M pc L S ah v ah' hin h p e R s m args below meth c T locs cells slots c0 q0 X hx hZ hown hnm hret hlocks hby hL hI hF hB hc hs
    have hM := hMs M hin
    have hM' := hM
    simp only [okMth, Bool.and_eq_true] at hM'
    obtain ⟨⟨⟨⟨⟨hM1, hM2⟩, hM3⟩, hM4⟩, hM5⟩, hM6⟩ := hM'
    unfold run at h
    split at h
    · cases h
    · rename_i i nx tg hi
      obtain ⟨hd0, hN, hnx, htg⟩ := fetch_ok hM1 hi
      have hd : decode c.code pc = .ok (i, ilen i) := by rw [hby]; exact hd0
      split at h
      · rename_i pc' L' S' hq
        obtain ⟨hlen, T', X', eT, st⟩ := pstep_sound X hx hZ hown (fun q hq => hw _ (of_decide_eq_true (List.all_eq_true.mp hM2 q hq))) (fun q hq => hw _ (of_decide_eq_true (List.all_eq_true.mp hM3 q hq)))
          (fun q hq => by
            have z := List.all_eq_true.mp hM4 q hq
            unfold okF at z
            split at z
            · cases z
            · rename_i C hC
              split at z
              · cases z
              · rename_i f hf
                simp only [Bool.and_eq_true] at z
                refine ⟨C, f, hC, hf, ?_, ?_⟩
                · have z2 := z.2
                  split at z2
                  · simp only [Bool.and_eq_true, decide_eq_true_eq] at z2; exact Or.inl (hw _ z2.1)
                  · simp only [Bool.or_eq_true, decide_eq_true_eq] at z2; exact z2.imp (hw _) (hw _)
                · have z3 := z.1.2
                  simp only [Bool.or_eq_true, decide_eq_true_eq] at z3
                  rcases z3 with z3 | z3
                  · rw [z3]; exact Via.refl
                  · exact Via.of (hw _ z3))
          (fun q hq => by
            have z := List.all_eq_true.mp hM6 q hq
            obtain ⟨q1, q2⟩ := q
            cases q2 with
            | zero => exact hw _ (of_decide_eq_true z)
            | succ k =>
              dsimp only at z ⊢
              split at z
              · rename_i C hC; exact ⟨C, hC, hw _ (of_decide_eq_true z)⟩
              · cases z) hI.1 hd hnx htg hq
        obtain ⟨s₂, g1, g⟩ := IH F B M pc' L' S' ah v ah' hin h p e R s m args below meth c T' locs cells slots c0 q0 X' hx hZ hown hnm hret hlocks hby (hlen.trans hL) ⟨by rw [eT]; exact hI.1, hI.2⟩ hF hB hc hs
        exact ⟨s₂, st _ g1, g⟩
      · split at h
        · rename_i pc' S' ah1 hq
          have hmono := run_mono hMm n _ _ _ _ _ _ _ _ _ hin h
          obtain ⟨T', locs', cells', slots', X', hI', st⟩ := wstep_sound (L := L) X hx hZ hown hnm hL hw hCs hM (hX M hin) hN hI hF hB (Nat.le_trans hmono.1 hc) (Nat.le_trans hmono.2 hs) hd hnx hq
          obtain ⟨s₂, g1, g⟩ := IH F B M pc' L S' ah1 v ah' hin h p e R s m args below meth c T' locs' cells' slots' c0 q0 X' hx hZ hown hnm hret hlocks hby hL hI' hF hB hc hs
          exact ⟨s₂, st _ g1, g⟩
        · split at h
          · rename_i v' hv
            cases h
            obtain ⟨fs, g1, g2, g3, g4, g5⟩ := rstep_sound (b := b) (L := L) X hx hret hlocks hd hv
            exact ⟨_, g1, g2, g3, hI.1, g4, locs, cells, slots, hI.2.1, hI.2.2.2.1, hI.2.2.2.2, g5⟩
          · split at h
            · rename_i N as rest B' hq
              split at h
              · rename_i v1 ah1 hr
                have hNin := cstep_in hq
                have m1 := run_mono hMm n _ _ _ _ _ _ _ _ _ hNin.1 hr
                have m2 := run_mono hMm n _ _ _ _ _ _ _ _ _ hin h
                obtain ⟨i1, i2, i3, i4, i5⟩ := hI
                have hmet := met (M := N) (ws := []) (dc := ah1.length - ah.length) (ds := sz W ah1 - sz W ah) IH hNin.1 (hP _ hNin.1) hr hNin.2 i1 (by omega) (by omega)
                obtain ⟨v2, T', Lc, X', hQ, st⟩ := cstep_sound (L := L) (Q := fun v h L => v = v1.map (up b) ∧ Rel W Z b h ah1 ∧ Fr b L) (dc := ah1.length - ah.length) (ds := sz W ah1 - sz W ah) X hx hZ hown hL hw hM i1 hF hB (by omega) (by omega) hd hnx hq hmet
                obtain ⟨rfl, hR', hFr⟩ := hQ
                obtain ⟨s₂, g1, g⟩ := IH F B M nx L (v1.toList ++ rest) ah1 v ah' hin h p e R s m args below meth c T' _ _ _ c0 q0 X' hx hZ hown hnm hret hlocks hby hL ⟨hR', i2.app hFr, i3, by omega, by omega⟩ hF hB hc hs
                refine ⟨s₂, st _ ?_, g⟩
                have es : (v1.map (up b)).toList ++ rest.map (up b) = (v1.toList ++ rest).map (up b) := by cases v1 <;> simp
                rw [es]
                exact g1
              · cases h
            · cases h
theorem noX {tab : List Jvm.Cond} (h : (W.1.all fun M => (mMl M).all fun q => !Nat.beq q.2.1 6) = true) : ∀ M ∈ W.1, ∀ q ∈ mMl M, q.2.1 = 6 → XOK W tab l Z b q.2 := fun M hM q hq h6 => by
  have := List.all_eq_true.mp (List.all_eq_true.mp h M hM) q hq
  rw [h6] at this
  cases this
end Run

/-! running without counting -/
theorem run_more {W : Wld} : ∀ (n F B : Nat) (M : Mth) (pc : Nat) (L : List Slot) (S : List Value) (ah : AH) (r : Option Value × AH), run W n F B M pc L S ah = some r → run W (n + 1) F B M pc L S ah = some r
  | 0, _, _, _, _, _, _, _, _, h => by unfold run at h; cases h
  | n + 1, F, B, M, pc, L, S, ah, r, h => by
    unfold run at h
    unfold run
    split at h
    · cases h
    · rename_i hi
      try simp only [hi]
      split at h
      · rename_i hq
        try simp only [hq]
        exact run_more n _ _ _ _ _ _ _ _ h
      · rename_i hq
        try simp only [hq]
        split at h
        · rename_i hq
          try simp only [hq]
          exact run_more n _ _ _ _ _ _ _ _ h
        · rename_i hq
          try simp only [hq]
          split at h
          · rename_i hq
            try simp only [hq]
            exact h
          · rename_i hq
            try simp only [hq]
            split at h
            · rename_i hq
              try simp only [hq]
              split at h
              · rename_i hr1
                simp only [run_more n _ _ _ _ _ _ _ _ hr1]
                exact run_more n _ _ _ _ _ _ _ _ h
              · cases h
            · cases h
theorem run_le {W : Wld} {F B : Nat} {M : Mth} {pc : Nat} {L : List Slot} {S : List Value} {ah : AH} {r : Option Value × AH} {n : Nat} (h : run W n F B M pc L S ah = some r) : ∀ k, run W (n + k) F B M pc L S ah = some r
  | 0 => h
  | k + 1 => run_more _ _ _ _ _ _ _ _ _ (run_le h k)
/-- the body, from that place on, comes to its end with this answer and this heap -/
def Ev (W : Wld) (F B : Nat) (M : Mth) (pc : Nat) (L : List Slot) (S : List Value) (ah : AH) (r : Option Value × AH) : Prop := ∃ n, run W n F B M pc L S ah = some r
/-- so many steps without a call -/
def gsteps (W : Wld) (M : Mth) (F B : Nat) : Nat → Nat → List Slot → List Value → AH → Option (Nat × List Slot × List Value × AH)
  | 0, pc, L, S, ah => some (pc, L, S, ah)
  | k + 1, pc, L, S, ah =>
    match fetch M pc with
    | none => none
    | some (i, nx, tg) =>
      match pstep M ah i nx tg L S with
      | some (pc', L', S') => gsteps W M F B k pc' L' S' ah
      | none =>
        match wstep W M F B ah i nx S with
        | some (pc', S', ah') => gsteps W M F B k pc' L S' ah'
        | none => none
section Ev
variable {W : Wld} {F B : Nat} {M : Mth} {pc : Nat} {L : List Slot} {S : List Value} {ah : AH} {r : Option Value × AH}
theorem run_g {n : Nat} : ∀ (k : Nat) {pc : Nat} {L : List Slot} {S : List Value} {ah : AH} {pc' : Nat} {L' : List Slot} {S' : List Value} {ah' : AH}, gsteps W M F B k pc L S ah = some (pc', L', S', ah') → run W n F B M pc' L' S' ah' = some r → run W (n + k) F B M pc L S ah = some r
  | 0, _, _, _, _, _, _, _, _, h, hr => by unfold gsteps at h; cases h; exact hr
  | k + 1, _, _, _, _, _, _, _, _, h, hr => by
    unfold gsteps at h
    show run W ((n + k) + 1) F B M _ _ _ _ = some r
    unfold run
    split at h
    · cases h
    · rename_i hi
      try simp only [hi]
      split at h
      · rename_i hq
        try simp only [hq]
        exact run_g k h hr
      · rename_i hq
        try simp only [hq]
        split at h
        · rename_i hq
          try simp only [hq]
          exact run_g k h hr
        · cases h
theorem Ev.go {pc' : Nat} {L' : List Slot} {S' : List Value} {ah' : AH} (k : Nat) (h : gsteps W M F B k pc L S ah = some (pc', L', S', ah')) (hr : Ev W F B M pc' L' S' ah' r) : Ev W F B M pc L S ah r := by
  obtain ⟨n, hn⟩ := hr
  exact ⟨n + k, run_g k h hn⟩
theorem Ev.ret {i : Instr} {nx tg : Nat} {v : Option Value} (h1 : fetch M pc = some (i, nx, tg)) (h2 : pstep M ah i nx tg L S = none) (h3 : wstep W M F B ah i nx S = none) (h4 : rstep M i S = some v) : Ev W F B M pc L S ah (v, ah) := by
  refine ⟨1, ?_⟩
  unfold run
  simp only [h1, h2, h3, h4]
theorem Ev.call {i : Instr} {nx tg : Nat} {N : Mth} {as rest : List Value} {B' : Nat} {v : Option Value} {ah' : AH} (h1 : fetch M pc = some (i, nx, tg)) (h2 : pstep M ah i nx tg L S = none) (h3 : wstep W M F B ah i nx S = none) (h4 : rstep M i S = none) (h5 : cstep W M F B ah i S = some (N, as, rest, B'))
    (hc : Ev W (F - 1) B' N 0 (ent as (mMax N)) [] ah (v, ah')) (hr : Ev W F B M nx L (v.toList ++ rest) ah' r) : Ev W F B M pc L S ah r := by
  obtain ⟨n1, g1⟩ := hc
  obtain ⟨n2, g2⟩ := hr
  refine ⟨(n1 + n2) + 1, ?_⟩
  have g1' := run_le g1 n2
  have g2' := run_le g2 n1
  rw [Nat.add_comm] at g2'
  unfold run
  simp only [h1, h2, h3, h4, h5, g1']
  exact g2'
theorem Ev.cond {cd : ClassFile.Cond} {o : Int} {x : Int32} {nx tg : Nat} (h1 : fetch M pc = some (.ifCond cd o, nx, tg)) (hy : ifCond.holds cd x = true → Ev W F B M tg L S ah r) (hn : ifCond.holds cd x = false → Ev W F B M nx L S ah r) : Ev W F B M pc L (.int x :: S) ah r := by
  cases hc : ifCond.holds cd x with
  | true => exact (hy hc).go 1 (by unfold gsteps; simp only [h1, pstep, psel, p_ifCond, hc]; rfl)
  | false => exact (hn hc).go 1 (by unfold gsteps; simp only [h1, pstep, psel, p_ifCond, hc]; rfl)
theorem Ev.icmp {cd : ClassFile.Cond} {o : Int} {x y : Int32} {nx tg : Nat} (h1 : fetch M pc = some (.if_icmp cd o, nx, tg)) (hy : if_icmp.holds cd x y = true → Ev W F B M tg L S ah r) (hn : if_icmp.holds cd x y = false → Ev W F B M nx L S ah r) : Ev W F B M pc L (.int y :: .int x :: S) ah r := by
  cases hc : if_icmp.holds cd x y with
  | true => exact (hy hc).go 1 (by unfold gsteps; simp only [h1, pstep, psel, p_if_icmp, hc]; rfl)
  | false => exact (hn hc).go 1 (by unfold gsteps; simp only [h1, pstep, psel, p_if_icmp, hc]; rfl)
end Ev
theorem tn0 : (Int32.ofInt 0).toNatClampNeg = 0 := by decide
theorem tn1 : (Int32.ofInt 1).toNatClampNeg = 1 := by decide
theorem tn2 : (Int32.ofInt 2).toNatClampNeg = 2 := by decide
theorem tn3 : (Int32.ofInt 3).toNatClampNeg = 3 := by decide
theorem tn4 : (Int32.ofInt 4).toNatClampNeg = 4 := by decide
theorem tn5 : (Int32.ofInt 5).toNatClampNeg = 5 := by decide
theorem fv0 : ((0 : Fin 4) : Nat) = 0 := rfl
theorem fv1 : ((1 : Fin 4) : Nat) = 1 := rfl
theorem fv2 : ((2 : Fin 4) : Nat) = 2 := rfl
theorem fv3 : ((3 : Fin 4) : Nat) = 3 := rfl
/-! a local that isn't read any more may be forgotten -/
def LeS (a b : Slot) : Prop := a = b ∨ (a = .unset ∧ ∃ v : Value, b = .val v ∧ v.category = 1)
def Le (L L' : List Slot) : Prop := L.length = L'.length ∧ ∀ (i : Nat) (a b : Slot), L[i]? = some a → L'[i]? = some b → LeS a b
theorem Le.refl (L : List Slot) : Le L L := ⟨rfl, fun i a b h1 h2 => Or.inl (Option.some.inj (h1.symm.trans h2))⟩
theorem Le.get {L L' : List Slot} {i : Nat} {v : Value} (h : Le L L') (q : L[i]? = some (.val v)) : L'[i]? = some (.val v) := by
  have hi : i < L'.length := by rw [← h.1]; exact (List.getElem?_eq_some_iff.mp q).1
  have e : L'[i]? = some L'[i] := List.getElem?_eq_getElem hi
  rcases h.2 i _ _ q e with z | ⟨z, -⟩
  · rw [e, ← z]
  · cases z
theorem Le.set {L L' L1 : List Slot} {i : Nat} {x : Slot} (h : Le L L') (q : setL L i x = some L1) : ∃ L1', setL L' i x = some L1' ∧ Le L1 L1' := by
  unfold setL at q
  split at q
  · rename_i hi
    cases q
    refine ⟨L'.set i x, by unfold setL; rw [if_pos (by rw [← h.1]; exact hi)], by simp [h.1], fun j a b h1 h2 => ?_⟩
    by_cases e : i = j
    · subst e
      rw [List.getElem?_set_self hi] at h1
      rw [List.getElem?_set_self (by rw [← h.1]; exact hi)] at h2
      exact Or.inl (Option.some.inj (h1.symm.trans h2))
    · rw [List.getElem?_set_ne e] at h1 h2
      exact h.2 j a b h1 h2
  · cases q
theorem Le.self {L L' L1 : List Slot} {i : Nat} {v : Value} (h : Le L L') (q : stSelf L i v = some L1) : ∃ L1', stSelf L' i v = some L1' ∧ Le L1 L1' := by
  unfold stSelf at q
  split at q
  · cases q
  · rename_i La h1
    obtain ⟨La', h1', l1⟩ := h.set h1
    unfold stSelf
    rw [h1']
    dsimp only
    split at q
    · rename_i hc
      rw [if_pos hc]
      split at q
      · cases q
      · rename_i old ho
        rw [l1.get ho]
        dsimp only
        split at q
        · rename_i hc2
          rw [if_pos hc2]
          split at q
          · cases q
          · rename_i Lb h2
            obtain ⟨Lb', h2', l2⟩ := l1.set h2
            rw [h2']
            exact l2.set q
        · rename_i hc2
          rw [if_neg hc2]
          exact l1.set q
      · rename_i y hy1 hy2
        have hi : i + 1 < La'.length := by rw [← l1.1]; exact (List.getElem?_eq_some_iff.mp hy2).1
        have e : La'[i + 1]? = some La'[i + 1] := List.getElem?_eq_getElem hi
        obtain ⟨L1', g1, g2⟩ := l1.set q
        refine ⟨L1', ?_, g2⟩
        rcases l1.2 _ _ _ hy2 e with z | ⟨z, w, z2, z3⟩
        · rw [e, ← z]
          cases y with
          | unset => exact g1
          | second => exact g1
          | val w => exact absurd rfl (hy1 w)
        · rw [e, z2]
          dsimp only
          rw [if_neg (by omega)]
          exact g1
    · rename_i hc
      cases q
      rw [if_neg hc]
      exact ⟨La', rfl, l1⟩
theorem Le.store {L L' L1 : List Slot} {i : Nat} {v : Value} (h : Le L L') (q : stL L i v = some L1) : ∃ L1', stL L' i v = some L1' ∧ Le L1 L1' := by
  unfold stL at q
  split at q
  · cases q
  · rename_i h0
    have hi : i < L'.length := by rw [← h.1]; exact (List.getElem?_eq_some_iff.mp h0).1
    have e : L'[i]? = some L'[i] := List.getElem?_eq_getElem hi
    unfold stL
    rcases h.2 _ _ _ h0 e with z | ⟨z, -⟩
    · rw [e, ← z]
      dsimp only
      split at q
      · cases q
      · rename_i La h1
        obtain ⟨La', h1', l1⟩ := h.set h1
        rw [h1']
        exact l1.self q
    · cases z
  · rename_i old h0
    unfold stL
    rw [h.get h0]
    dsimp only
    split at q
    · rename_i hc
      rw [if_pos hc]
      split at q
      · cases q
      · rename_i La h1
        obtain ⟨La', h1', l1⟩ := h.set h1
        rw [h1']
        exact l1.self q
    · rename_i hc
      rw [if_neg hc]
      exact h.self q
  · rename_i h0
    have hi : i < L'.length := by rw [← h.1]; exact (List.getElem?_eq_some_iff.mp h0).1
    have e : L'[i]? = some L'[i] := List.getElem?_eq_getElem hi
    obtain ⟨L1', g1, g2⟩ := h.self q
    refine ⟨L1', ?_, g2⟩
    unfold stL
    rcases h.2 _ _ _ h0 e with z | ⟨z, w, z2, z3⟩
    · rw [e, ← z]; exact g1
    · rw [e, z2]
      dsimp only
      rw [if_neg (by omega)]
      exact g1
theorem pstep_le {M : Mth} {ah : AH} {i : Instr} {nx tg pc' : Nat} {L L' L1 : List Slot} {S S' : List Value} (hle : Le L L') (h : pstep M ah i nx tg L S = some (pc', L1, S')) : ∃ L1', pstep M ah i nx tg L' S = some (pc', L1', S') ∧ Le L1 L1' := by
  unfold pstep psel at h ⊢
  cases i
  case iload k =>
    dsimp only at h ⊢
    unfold p_iload at h ⊢
    split at h
    · rename_i hl; cases h; rw [hle.get hl]; exact ⟨L', rfl, hle⟩
    · cases h
  case iload_n k =>
    dsimp only at h ⊢
    unfold p_iload_n at h ⊢
    split at h
    · rename_i hl; cases h; rw [hle.get hl]; exact ⟨L', rfl, hle⟩
    · cases h
  case lload k =>
    dsimp only at h ⊢
    unfold p_lload at h ⊢
    split at h
    · rename_i hl; cases h; rw [hle.get hl]; exact ⟨L', rfl, hle⟩
    · cases h
  case lload_n k =>
    dsimp only at h ⊢
    unfold p_lload_n at h ⊢
    split at h
    · rename_i hl; cases h; rw [hle.get hl]; exact ⟨L', rfl, hle⟩
    · cases h
  case aload k =>
    dsimp only at h ⊢
    unfold p_aload at h ⊢
    split at h
    · rename_i hl
      split at h
      · rename_i hr; cases h; rw [hle.get hl]; (try dsimp only); rw [hr]; exact ⟨L', rfl, hle⟩
      · cases h
    · cases h
  case aload_n k =>
    dsimp only at h ⊢
    unfold p_aload_n at h ⊢
    split at h
    · rename_i hl
      split at h
      · rename_i hr; cases h; rw [hle.get hl]; (try dsimp only); rw [hr]; exact ⟨L', rfl, hle⟩
      · cases h
    · cases h
  case istore k =>
    dsimp only at h ⊢
    unfold p_istore at h ⊢
    split at h
    · split at h
      · rename_i hs; cases h; obtain ⟨L1', g1, g2⟩ := hle.store hs; (try dsimp only); rw [g1]; exact ⟨L1', rfl, g2⟩
      · cases h
    · cases h
  case istore_n k =>
    dsimp only at h ⊢
    unfold p_istore_n at h ⊢
    split at h
    · split at h
      · rename_i hs; cases h; obtain ⟨L1', g1, g2⟩ := hle.store hs; (try dsimp only); rw [g1]; exact ⟨L1', rfl, g2⟩
      · cases h
    · cases h
  case lstore k =>
    dsimp only at h ⊢
    unfold p_lstore at h ⊢
    split at h
    · split at h
      · rename_i hs; cases h; obtain ⟨L1', g1, g2⟩ := hle.store hs; (try dsimp only); rw [g1]; exact ⟨L1', rfl, g2⟩
      · cases h
    · cases h
  case lstore_n k =>
    dsimp only at h ⊢
    unfold p_lstore_n at h ⊢
    split at h
    · split at h
      · rename_i hs; cases h; obtain ⟨L1', g1, g2⟩ := hle.store hs; (try dsimp only); rw [g1]; exact ⟨L1', rfl, g2⟩
      · cases h
    · cases h
  case astore k =>
    dsimp only at h ⊢
    unfold p_astore at h ⊢
    split at h
    · split at h
      · rename_i hr
        split at h
        · rename_i hs; cases h; obtain ⟨L1', g1, g2⟩ := hle.store hs; (try rw [hr]); (try dsimp only); rw [g1]; exact ⟨L1', rfl, g2⟩
        · cases h
      · cases h
    · cases h
  case astore_n k =>
    dsimp only at h ⊢
    unfold p_astore_n at h ⊢
    split at h
    · split at h
      · rename_i hr
        split at h
        · rename_i hs; cases h; obtain ⟨L1', g1, g2⟩ := hle.store hs; (try rw [hr]); (try dsimp only); rw [g1]; exact ⟨L1', rfl, g2⟩
        · cases h
      · cases h
    · cases h
  case iinc k cst =>
    dsimp only at h ⊢
    unfold p_iinc at h ⊢
    split at h
    · rename_i hl
      split at h
      · rename_i hs; cases h; obtain ⟨L1', g1, g2⟩ := hle.store hs; rw [hle.get hl]; (try dsimp only); rw [g1]; exact ⟨L1', rfl, g2⟩
      · cases h
    · cases h
  all_goals
    dsimp only at h ⊢
    try (cases h; done)
  case iadd =>
    unfold p_iadd at h ⊢
    first
    | (cases h; exact ⟨L', rfl, hle⟩)
    | ((repeat' split at h) <;> first | (cases h; done) | (cases h; exact ⟨L', rfl, hle⟩) | (cases h; exact ⟨L', by simp only [*, ↓reduceIte], hle⟩) | (cases h; exact ⟨L', by simp_all, hle⟩))
    | skip
  case isub =>
    unfold p_isub at h ⊢
    first
    | (cases h; exact ⟨L', rfl, hle⟩)
    | ((repeat' split at h) <;> first | (cases h; done) | (cases h; exact ⟨L', rfl, hle⟩) | (cases h; exact ⟨L', by simp only [*, ↓reduceIte], hle⟩) | (cases h; exact ⟨L', by simp_all, hle⟩))
    | skip
  case imul =>
    unfold p_imul at h ⊢
    first
    | (cases h; exact ⟨L', rfl, hle⟩)
    | ((repeat' split at h) <;> first | (cases h; done) | (cases h; exact ⟨L', rfl, hle⟩) | (cases h; exact ⟨L', by simp only [*, ↓reduceIte], hle⟩) | (cases h; exact ⟨L', by simp_all, hle⟩))
    | skip
  case iand =>
    unfold p_iand at h ⊢
    first
    | (cases h; exact ⟨L', rfl, hle⟩)
    | ((repeat' split at h) <;> first | (cases h; done) | (cases h; exact ⟨L', rfl, hle⟩) | (cases h; exact ⟨L', by simp only [*, ↓reduceIte], hle⟩) | (cases h; exact ⟨L', by simp_all, hle⟩))
    | skip
  case ior =>
    unfold p_ior at h ⊢
    first
    | (cases h; exact ⟨L', rfl, hle⟩)
    | ((repeat' split at h) <;> first | (cases h; done) | (cases h; exact ⟨L', rfl, hle⟩) | (cases h; exact ⟨L', by simp only [*, ↓reduceIte], hle⟩) | (cases h; exact ⟨L', by simp_all, hle⟩))
    | skip
  case ixor =>
    unfold p_ixor at h ⊢
    first
    | (cases h; exact ⟨L', rfl, hle⟩)
    | ((repeat' split at h) <;> first | (cases h; done) | (cases h; exact ⟨L', rfl, hle⟩) | (cases h; exact ⟨L', by simp only [*, ↓reduceIte], hle⟩) | (cases h; exact ⟨L', by simp_all, hle⟩))
    | skip
  case ishl =>
    unfold p_ishl at h ⊢
    first
    | (cases h; exact ⟨L', rfl, hle⟩)
    | ((repeat' split at h) <;> first | (cases h; done) | (cases h; exact ⟨L', rfl, hle⟩) | (cases h; exact ⟨L', by simp only [*, ↓reduceIte], hle⟩) | (cases h; exact ⟨L', by simp_all, hle⟩))
    | skip
  case ishr =>
    unfold p_ishr at h ⊢
    first
    | (cases h; exact ⟨L', rfl, hle⟩)
    | ((repeat' split at h) <;> first | (cases h; done) | (cases h; exact ⟨L', rfl, hle⟩) | (cases h; exact ⟨L', by simp only [*, ↓reduceIte], hle⟩) | (cases h; exact ⟨L', by simp_all, hle⟩))
    | skip
  case iushr =>
    unfold p_iushr at h ⊢
    first
    | (cases h; exact ⟨L', rfl, hle⟩)
    | ((repeat' split at h) <;> first | (cases h; done) | (cases h; exact ⟨L', rfl, hle⟩) | (cases h; exact ⟨L', by simp only [*, ↓reduceIte], hle⟩) | (cases h; exact ⟨L', by simp_all, hle⟩))
    | skip
  case ladd =>
    unfold p_ladd at h ⊢
    first
    | (cases h; exact ⟨L', rfl, hle⟩)
    | ((repeat' split at h) <;> first | (cases h; done) | (cases h; exact ⟨L', rfl, hle⟩) | (cases h; exact ⟨L', by simp only [*, ↓reduceIte], hle⟩) | (cases h; exact ⟨L', by simp_all, hle⟩))
    | skip
  case lsub =>
    unfold p_lsub at h ⊢
    first
    | (cases h; exact ⟨L', rfl, hle⟩)
    | ((repeat' split at h) <;> first | (cases h; done) | (cases h; exact ⟨L', rfl, hle⟩) | (cases h; exact ⟨L', by simp only [*, ↓reduceIte], hle⟩) | (cases h; exact ⟨L', by simp_all, hle⟩))
    | skip
  case lmul =>
    unfold p_lmul at h ⊢
    first
    | (cases h; exact ⟨L', rfl, hle⟩)
    | ((repeat' split at h) <;> first | (cases h; done) | (cases h; exact ⟨L', rfl, hle⟩) | (cases h; exact ⟨L', by simp only [*, ↓reduceIte], hle⟩) | (cases h; exact ⟨L', by simp_all, hle⟩))
    | skip
  case land =>
    unfold p_land at h ⊢
    first
    | (cases h; exact ⟨L', rfl, hle⟩)
    | ((repeat' split at h) <;> first | (cases h; done) | (cases h; exact ⟨L', rfl, hle⟩) | (cases h; exact ⟨L', by simp only [*, ↓reduceIte], hle⟩) | (cases h; exact ⟨L', by simp_all, hle⟩))
    | skip
  case lor =>
    unfold p_lor at h ⊢
    first
    | (cases h; exact ⟨L', rfl, hle⟩)
    | ((repeat' split at h) <;> first | (cases h; done) | (cases h; exact ⟨L', rfl, hle⟩) | (cases h; exact ⟨L', by simp only [*, ↓reduceIte], hle⟩) | (cases h; exact ⟨L', by simp_all, hle⟩))
    | skip
  case lxor =>
    unfold p_lxor at h ⊢
    first
    | (cases h; exact ⟨L', rfl, hle⟩)
    | ((repeat' split at h) <;> first | (cases h; done) | (cases h; exact ⟨L', rfl, hle⟩) | (cases h; exact ⟨L', by simp only [*, ↓reduceIte], hle⟩) | (cases h; exact ⟨L', by simp_all, hle⟩))
    | skip
  case lshl =>
    unfold p_lshl at h ⊢
    first
    | (cases h; exact ⟨L', rfl, hle⟩)
    | ((repeat' split at h) <;> first | (cases h; done) | (cases h; exact ⟨L', rfl, hle⟩) | (cases h; exact ⟨L', by simp only [*, ↓reduceIte], hle⟩) | (cases h; exact ⟨L', by simp_all, hle⟩))
    | skip
  case lshr =>
    unfold p_lshr at h ⊢
    first
    | (cases h; exact ⟨L', rfl, hle⟩)
    | ((repeat' split at h) <;> first | (cases h; done) | (cases h; exact ⟨L', rfl, hle⟩) | (cases h; exact ⟨L', by simp only [*, ↓reduceIte], hle⟩) | (cases h; exact ⟨L', by simp_all, hle⟩))
    | skip
  case lushr =>
    unfold p_lushr at h ⊢
    first
    | (cases h; exact ⟨L', rfl, hle⟩)
    | ((repeat' split at h) <;> first | (cases h; done) | (cases h; exact ⟨L', rfl, hle⟩) | (cases h; exact ⟨L', by simp only [*, ↓reduceIte], hle⟩) | (cases h; exact ⟨L', by simp_all, hle⟩))
    | skip
  case ineg =>
    unfold p_ineg at h ⊢
    first
    | (cases h; exact ⟨L', rfl, hle⟩)
    | ((repeat' split at h) <;> first | (cases h; done) | (cases h; exact ⟨L', rfl, hle⟩) | (cases h; exact ⟨L', by simp only [*, ↓reduceIte], hle⟩) | (cases h; exact ⟨L', by simp_all, hle⟩))
    | skip
  case lneg =>
    unfold p_lneg at h ⊢
    first
    | (cases h; exact ⟨L', rfl, hle⟩)
    | ((repeat' split at h) <;> first | (cases h; done) | (cases h; exact ⟨L', rfl, hle⟩) | (cases h; exact ⟨L', by simp only [*, ↓reduceIte], hle⟩) | (cases h; exact ⟨L', by simp_all, hle⟩))
    | skip
  case i2l =>
    unfold p_i2l at h ⊢
    first
    | (cases h; exact ⟨L', rfl, hle⟩)
    | ((repeat' split at h) <;> first | (cases h; done) | (cases h; exact ⟨L', rfl, hle⟩) | (cases h; exact ⟨L', by simp only [*, ↓reduceIte], hle⟩) | (cases h; exact ⟨L', by simp_all, hle⟩))
    | skip
  case l2i =>
    unfold p_l2i at h ⊢
    first
    | (cases h; exact ⟨L', rfl, hle⟩)
    | ((repeat' split at h) <;> first | (cases h; done) | (cases h; exact ⟨L', rfl, hle⟩) | (cases h; exact ⟨L', by simp only [*, ↓reduceIte], hle⟩) | (cases h; exact ⟨L', by simp_all, hle⟩))
    | skip
  case i2b =>
    unfold p_i2b at h ⊢
    first
    | (cases h; exact ⟨L', rfl, hle⟩)
    | ((repeat' split at h) <;> first | (cases h; done) | (cases h; exact ⟨L', rfl, hle⟩) | (cases h; exact ⟨L', by simp only [*, ↓reduceIte], hle⟩) | (cases h; exact ⟨L', by simp_all, hle⟩))
    | skip
  case idiv =>
    unfold p_idiv at h ⊢
    first
    | (cases h; exact ⟨L', rfl, hle⟩)
    | ((repeat' split at h) <;> first | (cases h; done) | (cases h; exact ⟨L', rfl, hle⟩) | (cases h; exact ⟨L', by simp only [*, ↓reduceIte], hle⟩) | (cases h; exact ⟨L', by simp_all, hle⟩))
    | skip
  case irem =>
    unfold p_irem at h ⊢
    first
    | (cases h; exact ⟨L', rfl, hle⟩)
    | ((repeat' split at h) <;> first | (cases h; done) | (cases h; exact ⟨L', rfl, hle⟩) | (cases h; exact ⟨L', by simp only [*, ↓reduceIte], hle⟩) | (cases h; exact ⟨L', by simp_all, hle⟩))
    | skip
  case lcmp =>
    unfold p_lcmp at h ⊢
    first
    | (cases h; exact ⟨L', rfl, hle⟩)
    | ((repeat' split at h) <;> first | (cases h; done) | (cases h; exact ⟨L', rfl, hle⟩) | (cases h; exact ⟨L', by simp only [*, ↓reduceIte], hle⟩) | (cases h; exact ⟨L', by simp_all, hle⟩))
    | skip
  case iconst _ =>
    unfold p_iconst at h ⊢
    first
    | (cases h; exact ⟨L', rfl, hle⟩)
    | ((repeat' split at h) <;> first | (cases h; done) | (cases h; exact ⟨L', rfl, hle⟩) | (cases h; exact ⟨L', by simp only [*, ↓reduceIte], hle⟩) | (cases h; exact ⟨L', by simp_all, hle⟩))
    | skip
  case bipush _ =>
    unfold p_bipush at h ⊢
    first
    | (cases h; exact ⟨L', rfl, hle⟩)
    | ((repeat' split at h) <;> first | (cases h; done) | (cases h; exact ⟨L', rfl, hle⟩) | (cases h; exact ⟨L', by simp only [*, ↓reduceIte], hle⟩) | (cases h; exact ⟨L', by simp_all, hle⟩))
    | skip
  case sipush _ =>
    unfold p_sipush at h ⊢
    first
    | (cases h; exact ⟨L', rfl, hle⟩)
    | ((repeat' split at h) <;> first | (cases h; done) | (cases h; exact ⟨L', rfl, hle⟩) | (cases h; exact ⟨L', by simp only [*, ↓reduceIte], hle⟩) | (cases h; exact ⟨L', by simp_all, hle⟩))
    | skip
  case lconst _ =>
    unfold p_lconst at h ⊢
    first
    | (cases h; exact ⟨L', rfl, hle⟩)
    | ((repeat' split at h) <;> first | (cases h; done) | (cases h; exact ⟨L', rfl, hle⟩) | (cases h; exact ⟨L', by simp only [*, ↓reduceIte], hle⟩) | (cases h; exact ⟨L', by simp_all, hle⟩))
    | skip
  case aconst_null =>
    unfold p_aconst_null at h ⊢
    first
    | (cases h; exact ⟨L', rfl, hle⟩)
    | ((repeat' split at h) <;> first | (cases h; done) | (cases h; exact ⟨L', rfl, hle⟩) | (cases h; exact ⟨L', by simp only [*, ↓reduceIte], hle⟩) | (cases h; exact ⟨L', by simp_all, hle⟩))
    | skip
  case ldc _ =>
    unfold p_ldc at h ⊢
    first
    | (cases h; exact ⟨L', rfl, hle⟩)
    | ((repeat' split at h) <;> first | (cases h; done) | (cases h; exact ⟨L', rfl, hle⟩) | (cases h; exact ⟨L', by simp only [*, ↓reduceIte], hle⟩) | (cases h; exact ⟨L', by simp_all, hle⟩))
    | skip
  case ldc_w _ =>
    unfold p_ldc_w at h ⊢
    first
    | (cases h; exact ⟨L', rfl, hle⟩)
    | ((repeat' split at h) <;> first | (cases h; done) | (cases h; exact ⟨L', rfl, hle⟩) | (cases h; exact ⟨L', by simp only [*, ↓reduceIte], hle⟩) | (cases h; exact ⟨L', by simp_all, hle⟩))
    | skip
  case ldc2_w _ =>
    unfold p_ldc2_w at h ⊢
    first
    | (cases h; exact ⟨L', rfl, hle⟩)
    | ((repeat' split at h) <;> first | (cases h; done) | (cases h; exact ⟨L', rfl, hle⟩) | (cases h; exact ⟨L', by simp only [*, ↓reduceIte], hle⟩) | (cases h; exact ⟨L', by simp_all, hle⟩))
    | skip
  case dup =>
    unfold p_dup at h ⊢
    first
    | (cases h; exact ⟨L', rfl, hle⟩)
    | ((repeat' split at h) <;> first | (cases h; done) | (cases h; exact ⟨L', rfl, hle⟩) | (cases h; exact ⟨L', by simp only [*, ↓reduceIte], hle⟩) | (cases h; exact ⟨L', by simp_all, hle⟩))
    | skip
  case pop =>
    unfold p_pop at h ⊢
    first
    | (cases h; exact ⟨L', rfl, hle⟩)
    | ((repeat' split at h) <;> first | (cases h; done) | (cases h; exact ⟨L', rfl, hle⟩) | (cases h; exact ⟨L', by simp only [*, ↓reduceIte], hle⟩) | (cases h; exact ⟨L', by simp_all, hle⟩))
    | skip
  case dup_x1 =>
    unfold p_dup_x1 at h ⊢
    first
    | (cases h; exact ⟨L', rfl, hle⟩)
    | ((repeat' split at h) <;> first | (cases h; done) | (cases h; exact ⟨L', rfl, hle⟩) | (cases h; exact ⟨L', by simp only [*, ↓reduceIte], hle⟩) | (cases h; exact ⟨L', by simp_all, hle⟩))
    | skip
  case dup2 =>
    unfold p_dup2 at h ⊢
    first
    | (cases h; exact ⟨L', rfl, hle⟩)
    | ((repeat' split at h) <;> first | (cases h; done) | (cases h; exact ⟨L', rfl, hle⟩) | (cases h; exact ⟨L', by simp only [*, ↓reduceIte], hle⟩) | (cases h; exact ⟨L', by simp_all, hle⟩))
    | skip
  case goto _ =>
    unfold p_goto at h ⊢
    first
    | (cases h; exact ⟨L', rfl, hle⟩)
    | ((repeat' split at h) <;> first | (cases h; done) | (cases h; exact ⟨L', rfl, hle⟩) | (cases h; exact ⟨L', by simp only [*, ↓reduceIte], hle⟩) | (cases h; exact ⟨L', by simp_all, hle⟩))
    | skip
  case ifCond _ _ =>
    unfold p_ifCond at h ⊢
    first
    | (cases h; exact ⟨L', rfl, hle⟩)
    | ((repeat' split at h) <;> first | (cases h; done) | (cases h; exact ⟨L', rfl, hle⟩) | (cases h; exact ⟨L', by simp only [*, ↓reduceIte], hle⟩) | (cases h; exact ⟨L', by simp_all, hle⟩))
    | skip
  case if_icmp _ _ =>
    unfold p_if_icmp at h ⊢
    first
    | (cases h; exact ⟨L', rfl, hle⟩)
    | ((repeat' split at h) <;> first | (cases h; done) | (cases h; exact ⟨L', rfl, hle⟩) | (cases h; exact ⟨L', by simp only [*, ↓reduceIte], hle⟩) | (cases h; exact ⟨L', by simp_all, hle⟩))
    | skip
  case ifnull _ =>
    unfold p_ifnull at h ⊢
    first
    | (cases h; exact ⟨L', rfl, hle⟩)
    | ((repeat' split at h) <;> first | (cases h; done) | (cases h; exact ⟨L', rfl, hle⟩) | (cases h; exact ⟨L', by simp only [*, ↓reduceIte], hle⟩) | (cases h; exact ⟨L', by simp_all, hle⟩))
    | skip
  case ifnonnull _ =>
    unfold p_ifnonnull at h ⊢
    first
    | (cases h; exact ⟨L', rfl, hle⟩)
    | ((repeat' split at h) <;> first | (cases h; done) | (cases h; exact ⟨L', rfl, hle⟩) | (cases h; exact ⟨L', by simp only [*, ↓reduceIte], hle⟩) | (cases h; exact ⟨L', by simp_all, hle⟩))
    | skip
  case if_acmp _ _ =>
    unfold p_if_acmp at h ⊢
    first
    | (cases h; exact ⟨L', rfl, hle⟩)
    | ((repeat' split at h) <;> first | (cases h; done) | (cases h; exact ⟨L', rfl, hle⟩) | (cases h; exact ⟨L', by simp only [*, ↓reduceIte], hle⟩) | (cases h; exact ⟨L', by simp_all, hle⟩))
    | skip
  case getfield _ =>
    unfold p_getfield at h ⊢
    first
    | (cases h; exact ⟨L', rfl, hle⟩)
    | ((repeat' split at h) <;> first | (cases h; done) | (cases h; exact ⟨L', rfl, hle⟩) | (cases h; exact ⟨L', by simp only [*, ↓reduceIte], hle⟩) | (cases h; exact ⟨L', by simp_all, hle⟩))
    | skip
  case arraylength =>
    unfold p_arraylength at h ⊢
    first
    | (cases h; exact ⟨L', rfl, hle⟩)
    | ((repeat' split at h) <;> first | (cases h; done) | (cases h; exact ⟨L', rfl, hle⟩) | (cases h; exact ⟨L', by simp only [*, ↓reduceIte], hle⟩) | (cases h; exact ⟨L', by simp_all, hle⟩))
    | skip
  case iaload =>
    unfold p_iaload at h ⊢
    first
    | (cases h; exact ⟨L', rfl, hle⟩)
    | ((repeat' split at h) <;> first | (cases h; done) | (cases h; exact ⟨L', rfl, hle⟩) | (cases h; exact ⟨L', by simp only [*, ↓reduceIte], hle⟩) | (cases h; exact ⟨L', by simp_all, hle⟩))
    | skip
  case laload =>
    unfold p_laload at h ⊢
    first
    | (cases h; exact ⟨L', rfl, hle⟩)
    | ((repeat' split at h) <;> first | (cases h; done) | (cases h; exact ⟨L', rfl, hle⟩) | (cases h; exact ⟨L', by simp only [*, ↓reduceIte], hle⟩) | (cases h; exact ⟨L', by simp_all, hle⟩))
    | skip
  case baload =>
    unfold p_baload at h ⊢
    first
    | (cases h; exact ⟨L', rfl, hle⟩)
    | ((repeat' split at h) <;> first | (cases h; done) | (cases h; exact ⟨L', rfl, hle⟩) | (cases h; exact ⟨L', by simp only [*, ↓reduceIte], hle⟩) | (cases h; exact ⟨L', by simp_all, hle⟩))
    | skip
  case checkcast _ =>
    unfold p_checkcast at h ⊢
    first
    | (cases h; exact ⟨L', rfl, hle⟩)
    | ((repeat' split at h) <;> first | (cases h; done) | (cases h; exact ⟨L', rfl, hle⟩) | (cases h; exact ⟨L', by simp only [*, ↓reduceIte], hle⟩) | (cases h; exact ⟨L', by simp_all, hle⟩))
    | skip
  case instanceof _ =>
    unfold p_instanceof at h ⊢
    first
    | (cases h; exact ⟨L', rfl, hle⟩)
    | ((repeat' split at h) <;> first | (cases h; done) | (cases h; exact ⟨L', rfl, hle⟩) | (cases h; exact ⟨L', by simp only [*, ↓reduceIte], hle⟩) | (cases h; exact ⟨L', by simp_all, hle⟩))
    | skip
theorem pstep_excl {M : Mth} {ah : AH} {i : Instr} {nx tg : Nat} {L : List Slot} {S : List Value} {z : PF} (h : pstep M ah i nx tg L S = some z) : ∀ W F B, wstep W M F B ah i nx S = none ∧ rstep M i S = none ∧ cstep W M F B ah i S = none := by
  intro W F B
  cases i <;> first | exact ⟨rfl, rfl, rfl⟩ | (cases h; done)
theorem run_le_locals {W : Wld} : ∀ (n F B : Nat) (M : Mth) (pc : Nat) (L L' : List Slot) (S : List Value) (ah : AH) (r : Option Value × AH), Le L L' → run W n F B M pc L S ah = some r → run W n F B M pc L' S ah = some r
  | 0, _, _, _, _, _, _, _, _, _, _, h => by unfold run at h; cases h
  | n + 1, F, B, M, pc, L, L', S, ah, r, hle, h => by
    unfold run at h
    unfold run
    split at h
    · cases h
    · rename_i i nx tg hi
      try simp only [hi]
      split at h
      · rename_i hq
        obtain ⟨L1', g1, g2⟩ := pstep_le hle hq
        simp only [g1]
        exact run_le_locals n _ _ _ _ _ _ _ _ _ g2 h
      · rename_i hq
        have hq' : pstep M ah i nx tg L' S = none ∨ ∃ z, pstep M ah i nx tg L' S = some z := by
          cases pstep M ah i nx tg L' S with
          | none => exact Or.inl rfl
          | some z => exact Or.inr ⟨z, rfl⟩
        rcases hq' with hq' | ⟨z, hq'⟩
        · simp only [hq']
          split at h
          · rename_i hw
            try simp only [hw]
            exact run_le_locals n _ _ _ _ _ _ _ _ _ hle h
          · rename_i hw
            try simp only [hw]
            split at h
            · rename_i hr
              try simp only [hr]
              exact h
            · rename_i hr
              try simp only [hr]
              split at h
              · rename_i hc
                try simp only [hc]
                split at h
                · rename_i hr1
                  try simp only [hr1]
                  exact run_le_locals n _ _ _ _ _ _ _ _ _ hle h
                · cases h
              · cases h
        · exfalso
          obtain ⟨e1, e2, e3⟩ := pstep_excl hq' W F B
          simp only [e1, e2, e3] at h
          cases h
theorem Ev.forget {W : Wld} {F B : Nat} {M : Mth} {pc : Nat} {L L' : List Slot} {S : List Value} {ah : AH} {r : Option Value × AH} (h : Ev W F B M pc L S ah r) (hle : Le L L') : Ev W F B M pc L' S ah r := by
  obtain ⟨n, hn⟩ := h
  exact ⟨n, run_le_locals n _ _ _ _ _ _ _ _ _ hle hn⟩
end Jvm.RI

namespace Jvm.RI
open Sem ClassFile Op Lib Jvm.Stand Jvm.Free Jvm.LawKit Jvm.RoadKit
/-! numbers, and runs that the kernel makes -/
theorem ofNat_toInt (j : Nat) (h : j < 2 ^ 31) : (Int32.ofNat j).toInt = j := Int32.toInt_ofNat_of_lt h
theorem mask_nat (x : Int32) (m : Int32) (b : Nat) (hm : m.toBitVec.toNat = 2 ^ b - 1) : ∃ j, j < 2 ^ b ∧ x &&& m = Int32.ofNat j := by
  refine ⟨x.toBitVec.toNat % 2 ^ b, Nat.mod_lt _ (Nat.two_pow_pos b), ?_⟩
  apply Int32.toBitVec_inj.mp
  apply BitVec.eq_of_toNat_eq
  rw [Int32.toBitVec_and, BitVec.toNat_and, hm, Nat.and_two_pow_sub_one_eq_mod]
  have h1 : x.toBitVec.toNat % 2 ^ b < 2 ^ 32 := Nat.lt_of_le_of_lt (Nat.mod_le _ _) x.toBitVec.isLt
  show _ = (BitVec.ofNat 32 _).toNat
  rw [BitVec.toNat_ofNat, Nat.mod_eq_of_lt h1]
theorem rem_nat (x : Int32) (k : Nat) (hk : 0 < k) (hk2 : k < 2 ^ 31) : ∃ j, j < k ∧ (x &&& 2147483647) % Int32.ofNat k = Int32.ofNat j := by
  obtain ⟨m, hm, e⟩ := mask_nat x 2147483647 31 (by decide)
  rw [e]
  refine ⟨m % k, Nat.mod_lt _ hk, ?_⟩
  apply Int32.toInt_inj.mp
  rw [Int32.toInt_mod, ofNat_toInt _ hm, ofNat_toInt _ hk2, ofNat_toInt _ (Nat.lt_of_lt_of_le (Nat.mod_lt _ hk) (Nat.le_of_lt hk2))]
  exact (Int.ofNat_tmod m k).symm
theorem rem_of {m k : Nat} (hm : m < 2 ^ 31) (hk : 0 < k) (hk2 : k < 2 ^ 31) : Int32.ofNat m % Int32.ofNat k = Int32.ofNat (m % k) := by
  apply Int32.toInt_inj.mp
  rw [Int32.toInt_mod, ofNat_toInt _ hm, ofNat_toInt _ hk2, ofNat_toInt _ (Nat.lt_of_lt_of_le (Nat.mod_lt _ hk) (Nat.le_of_lt hk2))]
  exact (Int.ofNat_tmod m k).symm
theorem ushr_nat (x y : Int32) (n : Nat) (hn : ((y &&& 31).toUInt32.toBitVec % 32#32).toNat = n) : (XT.ushr x y).toBitVec.toNat = x.toBitVec.toNat / 2 ^ n := by
  subst hn
  have e : (XT.ushr x y).toBitVec = x.toBitVec >>> ((y &&& 31).toUInt32.toBitVec % 32#32) := rfl
  rw [e, BitVec.ushiftRight_eq', BitVec.toNat_ushiftRight, Nat.shiftRight_eq_div_pow]
theorem eq_ofNat {x : Int32} {m : Nat} (h : x.toBitVec.toNat = m) : x = Int32.ofNat m := by
  apply Int32.toBitVec_inj.mp
  apply BitVec.eq_of_toNat_eq
  show _ = (BitVec.ofNat 32 m).toNat
  rw [BitVec.toNat_ofNat, ← h, Nat.mod_eq_of_lt x.toBitVec.isLt]
theorem Ev.irem {W : Wld} {F B : Nat} {M : Mth} {pc nx tg : Nat} {L : List Slot} {S : List Value} {ah : AH} {r : Option Value × AH} {x y : Int32} (h1 : fetch M pc = some (.irem, nx, tg)) (hy : ¬ y = 0) (hr : Ev W F B M nx L (.int (x % y) :: S) ah r) : Ev W F B M pc L (.int y :: .int x :: S) ah r :=
  hr.go 1 (by unfold gsteps; simp only [h1, pstep, psel, p_irem, if_neg hy]; rfl)
theorem Ev.idiv {W : Wld} {F B : Nat} {M : Mth} {pc nx tg : Nat} {L : List Slot} {S : List Value} {ah : AH} {r : Option Value × AH} {x y : Int32} (h1 : fetch M pc = some (.idiv, nx, tg)) (hy : ¬ y = 0) (hr : Ev W F B M nx L (.int (x / y) :: S) ah r) : Ev W F B M pc L (.int y :: .int x :: S) ah r :=
  hr.go 1 (by unfold gsteps; simp only [h1, pstep, psel, p_idiv, if_neg hy]; rfl)
def chk1 (W : Wld) (N F B : Nat) (M : Mth) (pc : Nat) (L : List Slot) (S : List Value) (ah : AH) (cm sm : Nat) : Bool :=
  match run W N F B M pc L S ah with
  | some (some (.int z), ah') => decide (z = 1) && Nat.ble ah'.length cm && Nat.ble (sz W ah') sm
  | _ => false
def Good (W : Wld) (F B : Nat) (M : Mth) (pc : Nat) (L : List Slot) (S : List Value) (ah : AH) (cm sm : Nat) : Prop := ∃ ah', Ev W F B M pc L S ah (some (.int 1), ah') ∧ ah'.length ≤ cm ∧ sz W ah' ≤ sm
theorem chk1_good {W : Wld} {N F B : Nat} {M : Mth} {pc : Nat} {L : List Slot} {S : List Value} {ah : AH} {cm sm : Nat} (h : chk1 W N F B M pc L S ah cm sm = true) : Good W F B M pc L S ah cm sm := by
  unfold chk1 at h
  split at h
  · rename_i z ah' hr
    simp only [Bool.and_eq_true, decide_eq_true_eq] at h
    obtain ⟨⟨rfl, h1⟩, h2⟩ := h
    exact ⟨ah', ⟨N, hr⟩, Nat.le_of_ble_eq_true h1, Nat.le_of_ble_eq_true h2⟩
  · cases h
theorem Good.lift {W : Wld} {F B : Nat} {M : Mth} {pc pc' : Nat} {L L' : List Slot} {S S' : List Value} {ah ah' : AH} {cm sm : Nat} (h : Good W F B M pc' L' S' ah' cm sm) (f : ∀ r, Ev W F B M pc' L' S' ah' r → Ev W F B M pc L S ah r) : Good W F B M pc L S ah cm sm := by
  obtain ⟨x, h1, h2⟩ := h
  exact ⟨x, f _ h1, h2⟩
section Sym
variable {W : Wld} {F B : Nat} {M : Mth} {pc nx tg a : Nat} {L : List Slot} {S : List Value} {ah : AH} {r : Option Value × AH} {vs : List Value} {v : Value} {j x n : Int32}
theorem Ev.ialoadS (h1 : fetch M pc = some (.iaload, nx, tg)) (ho : ah[a]? = some (.inr (.int, vs))) (hj : ¬ j < 0) (hv : vs[j.toNatClampNeg]? = some v) (hr : Ev W F B M nx L (v :: S) ah r) : Ev W F B M pc L (.int j :: .ref a :: S) ah r :=
  hr.go 1 (by unfold gsteps; simp only [h1, pstep, psel, p_iaload, ho, if_neg hj, hv]; rfl)
theorem Ev.baloadS (h1 : fetch M pc = some (.baload, nx, tg)) (ho : ah[a]? = some (.inr (.byte, vs))) (hj : ¬ j < 0) (hv : vs[j.toNatClampNeg]? = some v) (hr : Ev W F B M nx L (v :: S) ah r) : Ev W F B M pc L (.int j :: .ref a :: S) ah r :=
  hr.go 1 (by unfold gsteps; simp only [h1, pstep, psel, p_baload, ho, if_neg hj, hv]; rfl)
theorem Ev.iastoreS (h1 : fetch M pc = some (.iastore, nx, tg)) (ho : ah[a]? = some (.inr (.int, vs))) (hj : ¬ j < 0) (hl : j.toNatClampNeg < vs.length) (hr : Ev W F B M nx L S (ah.set a (.inr (.int, vs.set j.toNatClampNeg (.int x)))) r) : Ev W F B M pc L (.int x :: .int j :: .ref a :: S) ah r :=
  hr.go 1 (by unfold gsteps; simp only [h1, pstep, psel, wstep, wsel, w_iastore, ho, if_neg hj, if_pos hl]; rfl)
theorem Ev.bastoreS (h1 : fetch M pc = some (.bastore, nx, tg)) (ho : ah[a]? = some (.inr (.byte, vs))) (hj : ¬ j < 0) (hl : j.toNatClampNeg < vs.length) (hr : Ev W F B M nx L S (ah.set a (.inr (.byte, vs.set j.toNatClampNeg (.int x.toInt8.toInt32)))) r) : Ev W F B M pc L (.int x :: .int j :: .ref a :: S) ah r :=
  hr.go 1 (by unfold gsteps; simp only [h1, pstep, psel, wstep, wsel, w_bastore, ho, if_neg hj, if_pos hl]; rfl)
theorem Ev.newarrayS {t : ArrayType} (h1 : fetch M pc = some (.newarray t, nx, tg)) (hn : ¬ n < 0) (hl : n.toNatClampNeg ≤ 67108864) (hr : Ev W F B M nx L (.ref ah.length :: S) (ah ++ [.inr (newarray.typeOf t, List.replicate n.toNatClampNeg (defaultValue (newarray.typeOf t)))]) r) : Ev W F B M pc L (.int n :: S) ah r :=
  hr.go 1 (by unfold gsteps; simp only [h1, pstep, psel, wstep, wsel, w_newarray, if_neg hn, if_pos hl]; rfl)
end Sym
theorem LeS.refl (a : Slot) : LeS a a := Or.inl rfl
theorem LeS.int (x : Int32) : LeS .unset (.val (.int x)) := Or.inr ⟨rfl, _, rfl, rfl⟩
theorem Le.nil : Le [] [] := Le.refl []
theorem Le.cons {a b : Slot} {L L' : List Slot} (h : LeS a b) (hl : Le L L') : Le (a :: L) (b :: L') := by
  refine ⟨by simp [hl.1], fun i x y h1 h2 => ?_⟩
  cases i with
  | zero =>
    have e1 : a = x := by simpa using h1
    have e2 : b = y := by simpa using h2
    subst e1 e2
    exact h
  | succ i => exact hl.2 i x y (by simpa using h1) (by simpa using h2)
end Jvm.RI

namespace Jvm.Pilot.@@N@@
open Jvm Jvm.ClassFile Sem Op Lib Jvm.Free Jvm.Stand Jvm.LawKit Jvm.RoadKit Bundle Jvm.Pilot.@@N@@.Jvm.D
def dec_0_0 (pc : Nat) : Option (Instr × Nat × Nat) := bif Nat.ble pc 5 then (bif Nat.ble pc 1 then (bif Nat.ble pc 0 then (bif Nat.beq pc 0 then some (.lload_n 0, 1, 0) else none) else (bif Nat.beq pc 1 then some (.iload 4, 3, 0) else none)) else (bif Nat.ble pc 3 then (bif Nat.beq pc 3 then some (.bipush 63, 5, 0) else none) else (bif Nat.beq pc 5 then some (.iand, 6, 0) else none))) else (bif Nat.ble pc 7 then (bif Nat.ble pc 6 then (bif Nat.beq pc 6 then some (.lushr, 7, 0) else none) else (bif Nat.beq pc 7 then some (.lstore 5, 9, 0) else none)) else (bif Nat.ble pc 9 then (bif Nat.beq pc 9 then some (.lload_n 2, 10, 0) else none) else (bif Nat.beq pc 10 then some (.iload 4, 12, 0) else none)))
def dec_0_1 (pc : Nat) : Option (Instr × Nat × Nat) := bif Nat.ble pc 17 then (bif Nat.ble pc 14 then (bif Nat.ble pc 12 then (bif Nat.beq pc 12 then some (.bipush 6, 14, 0) else none) else (bif Nat.beq pc 14 then some (.iushr, 15, 0) else none)) else (bif Nat.ble pc 15 then (bif Nat.beq pc 15 then some (.bipush 63, 17, 0) else none) else (bif Nat.beq pc 17 then some (.iand, 18, 0) else none))) else (bif Nat.ble pc 19 then (bif Nat.ble pc 18 then (bif Nat.beq pc 18 then some (.lushr, 19, 0) else none) else (bif Nat.beq pc 19 then some (.lstore 7, 21, 0) else none)) else (bif Nat.ble pc 21 then (bif Nat.beq pc 21 then some (.new 7, 24, 0) else none) else (bif Nat.beq pc 24 then some (.dup, 25, 0) else none)))
def dec_0_2 (pc : Nat) : Option (Instr × Nat × Nat) := bif Nat.ble pc 32 then (bif Nat.ble pc 28 then (bif Nat.ble pc 25 then (bif Nat.beq pc 25 then some (.invokespecial 9, 28, 0) else none) else (bif Nat.beq pc 28 then some (.astore 9, 30, 0) else none)) else (bif Nat.ble pc 30 then (bif Nat.beq pc 30 then some (.aload 9, 32, 0) else none) else (bif Nat.beq pc 32 then some (.lload 5, 34, 0) else none))) else (bif Nat.ble pc 37 then (bif Nat.ble pc 34 then (bif Nat.beq pc 34 then some (.invokevirtual 10, 37, 0) else none) else (bif Nat.beq pc 37 then some (.aload 9, 39, 0) else none)) else (bif Nat.ble pc 39 then (bif Nat.beq pc 39 then some (.lload 7, 41, 0) else none) else (bif Nat.beq pc 41 then some (.invokevirtual 10, 44, 0) else none)))
def dec_0_3 (pc : Nat) : Option (Instr × Nat × Nat) := bif Nat.ble pc 50 then (bif Nat.ble pc 46 then (bif Nat.ble pc 44 then (bif Nat.beq pc 44 then some (.aload 9, 46, 0) else none) else (bif Nat.beq pc 46 then some (.lload_n 0, 47, 0) else none)) else (bif Nat.ble pc 47 then (bif Nat.beq pc 47 then some (.invokevirtual 10, 50, 0) else none) else (bif Nat.beq pc 50 then some (.new 14, 53, 0) else none))) else (bif Nat.ble pc 54 then (bif Nat.ble pc 53 then (bif Nat.beq pc 53 then some (.dup, 54, 0) else none) else (bif Nat.beq pc 54 then some (.aload 9, 56, 0) else none)) else (bif Nat.ble pc 56 then (bif Nat.beq pc 56 then some (.dup, 57, 0) else none) else (bif Nat.beq pc 57 then some (.invokestatic 16, 60, 0) else none)))
def dec_0_4 (pc : Nat) : Option (Instr × Nat × Nat) := bif Nat.ble pc 66 then (bif Nat.ble pc 61 then (bif Nat.ble pc 60 then (bif Nat.beq pc 60 then some (.pop, 61, 0) else none) else (bif Nat.beq pc 61 then some (.invokespecial 22, 64, 0) else none)) else (bif Nat.ble pc 64 then (bif Nat.beq pc 64 then some (.astore 10, 66, 0) else none) else (bif Nat.beq pc 66 then some (.aload 10, 68, 0) else none))) else (bif Nat.ble pc 71 then (bif Nat.ble pc 68 then (bif Nat.beq pc 68 then some (.invokevirtual 25, 71, 0) else none) else (bif Nat.beq pc 71 then some (.lstore 11, 73, 0) else none)) else (bif Nat.ble pc 73 then (bif Nat.beq pc 73 then some (.aload 10, 75, 0) else none) else (bif Nat.beq pc 75 then some (.invokevirtual 29, 78, 0) else none)))
def dec_0_5 (pc : Nat) : Option (Instr × Nat × Nat) := bif Nat.ble pc 85 then (bif Nat.ble pc 80 then (bif Nat.ble pc 78 then (bif Nat.beq pc 78 then some (.istore 13, 80, 0) else none) else (bif Nat.beq pc 80 then some (.aload 10, 82, 0) else none)) else (bif Nat.ble pc 82 then (bif Nat.beq pc 82 then some (.invokevirtual 25, 85, 0) else none) else (bif Nat.beq pc 85 then some (.lstore 14, 87, 0) else none))) else (bif Nat.ble pc 89 then (bif Nat.ble pc 87 then (bif Nat.beq pc 87 then some (.aload 10, 89, 0) else none) else (bif Nat.beq pc 89 then some (.invokevirtual 25, 92, 0) else none)) else (bif Nat.ble pc 92 then (bif Nat.beq pc 92 then some (.lstore 16, 94, 0) else none) else (bif Nat.beq pc 94 then some (.aload 10, 96, 0) else none)))
def dec_0_6 (pc : Nat) : Option (Instr × Nat × Nat) := bif Nat.ble pc 103 then (bif Nat.ble pc 99 then (bif Nat.ble pc 96 then (bif Nat.beq pc 96 then some (.invokevirtual 29, 99, 0) else none) else (bif Nat.beq pc 99 then some (.istore 18, 101, 0) else none)) else (bif Nat.ble pc 101 then (bif Nat.beq pc 101 then some (.lload 11, 103, 0) else none) else (bif Nat.beq pc 103 then some (.lload 5, 105, 0) else none))) else (bif Nat.ble pc 106 then (bif Nat.ble pc 105 then (bif Nat.beq pc 105 then some (.lcmp, 106, 0) else none) else (bif Nat.beq pc 106 then some (.ifCond .ne 32, 109, 138) else none)) else (bif Nat.ble pc 109 then (bif Nat.beq pc 109 then some (.iload 13, 111, 0) else none) else (bif Nat.beq pc 111 then some (.ifCond .eq 27, 114, 138) else none)))
def dec_0_7 (pc : Nat) : Option (Instr × Nat × Nat) := bif Nat.ble pc 119 then (bif Nat.ble pc 116 then (bif Nat.ble pc 114 then (bif Nat.beq pc 114 then some (.lload 14, 116, 0) else none) else (bif Nat.beq pc 116 then some (.lload 7, 118, 0) else none)) else (bif Nat.ble pc 118 then (bif Nat.beq pc 118 then some (.lcmp, 119, 0) else none) else (bif Nat.beq pc 119 then some (.ifCond .ne 19, 122, 138) else none))) else (bif Nat.ble pc 124 then (bif Nat.ble pc 122 then (bif Nat.beq pc 122 then some (.lload 16, 124, 0) else none) else (bif Nat.beq pc 124 then some (.lload_n 0, 125, 0) else none)) else (bif Nat.ble pc 125 then (bif Nat.beq pc 125 then some (.lcmp, 126, 0) else none) else (bif Nat.beq pc 126 then some (.ifCond .ne 12, 129, 138) else none)))
def dec_0_8 (pc : Nat) : Option (Instr × Nat × Nat) := bif Nat.ble pc 134 then (bif Nat.ble pc 129 then (bif Nat.beq pc 129 then some (.iload 18, 131, 0) else none) else (bif Nat.ble pc 131 then (bif Nat.beq pc 131 then some (.ifCond .ne 7, 134, 138) else none) else (bif Nat.beq pc 134 then some (.iconst 1, 135, 0) else none))) else (bif Nat.ble pc 135 then (bif Nat.beq pc 135 then some (.goto 4, 138, 139) else none) else (bif Nat.ble pc 138 then (bif Nat.beq pc 138 then some (.iconst 0, 139, 0) else none) else (bif Nat.beq pc 139 then some (.ireturn, 140, 0) else none)))
def dec_0 (pc : Nat) : Option (Instr × Nat × Nat) := bif Nat.ble pc 57 then (bif Nat.ble pc 24 then (bif Nat.ble pc 10 then (dec_0_0 pc) else (dec_0_1 pc)) else (bif Nat.ble pc 41 then (dec_0_2 pc) else (dec_0_3 pc))) else (bif Nat.ble pc 94 then (bif Nat.ble pc 75 then (dec_0_4 pc) else (dec_0_5 pc)) else (bif Nat.ble pc 111 then (dec_0_6 pc) else (bif Nat.ble pc 126 then (dec_0_7 pc) else (dec_0_8 pc))))
def m_0 : RI.Mth := (x, code, maxLocals, ret, 3, 140, dec_0, [], [], [], [(9, 1, 1, 0, (⟨"com/example/nymtrace/nymtrace/lookup/PackedNumbers", "<init>", "()V"⟩ : MethodName)), (10, 2, 2, 0, (⟨"com/example/nymtrace/nymtrace/lookup/PackedNumbers", "add", "(J)V"⟩ : MethodName)), (16, 0, 4, 0, (⟨"java/util/Objects", "requireNonNull", "(Ljava/lang/Object;)Ljava/lang/Object;"⟩ : MethodName)), (22, 1, 5, 0, (⟨"com/example/nymtrace/nymtrace/lookup/PackedNumbers$Reader", "<init>", "(Lcom/example/nymtrace/nymtrace/lookup/PackedNumbers;)V"⟩ : MethodName)), (25, 2, 6, 1, (⟨"com/example/nymtrace/nymtrace/lookup/PackedNumbers$Reader", "next", "()J"⟩ : MethodName)), (29, 2, 7, 1, (⟨"com/example/nymtrace/nymtrace/lookup/PackedNumbers$Reader", "hasNext", "()Z"⟩ : MethodName))], [(7, 1), (14, 2)])
def dec_1_0 (pc : Nat) : Option (Instr × Nat × Nat) := bif Nat.ble pc 4 then (bif Nat.ble pc 0 then (bif Nat.beq pc 0 then some (.aload_n 0, 1, 0) else none) else (bif Nat.ble pc 1 then (bif Nat.beq pc 1 then some (.invokespecial 3, 4, 0) else none) else (bif Nat.beq pc 4 then some (.aload_n 0, 5, 0) else none))) else (bif Nat.ble pc 7 then (bif Nat.ble pc 5 then (bif Nat.beq pc 5 then some (.bipush 8, 7, 0) else none) else (bif Nat.beq pc 7 then some (.newarray .byte, 9, 0) else none)) else (bif Nat.ble pc 9 then (bif Nat.beq pc 9 then some (.putfield 9, 12, 0) else none) else (bif Nat.beq pc 12 then some (.return_, 13, 0) else none)))
def dec_1 (pc : Nat) : Option (Instr × Nat × Nat) := dec_1_0 pc
def m_1 : RI.Mth := ((⟨"com/example/nymtrace/nymtrace/lookup/PackedNumbers", "<init>", "()V"⟩ : MethodName), prog_69_method_1_code, 1, none, 1, 13, dec_1, [], [], [(9, 0, 0, true, (.array .byte), "com/example/nymtrace/nymtrace/lookup/PackedNumbers", "")], [(3, 3, 0, 0, (⟨"java/lang/Object", "<init>", "()V"⟩ : MethodName))], [])
def dec_2_0 (pc : Nat) : Option (Instr × Nat × Nat) := bif Nat.ble pc 3 then (bif Nat.ble pc 1 then (bif Nat.ble pc 0 then (bif Nat.beq pc 0 then some (.lload_n 1, 1, 0) else none) else (bif Nat.beq pc 1 then some (.lstore_n 3, 2, 0) else none)) else (bif Nat.ble pc 2 then (bif Nat.beq pc 2 then some (.lload_n 3, 3, 0) else none) else (bif Nat.beq pc 3 then some (.ldc2_w 13, 6, 0) else none))) else (bif Nat.ble pc 7 then (bif Nat.ble pc 6 then (bif Nat.beq pc 6 then some (.land, 7, 0) else none) else (bif Nat.beq pc 7 then some (.lconst 0, 8, 0) else none)) else (bif Nat.ble pc 8 then (bif Nat.beq pc 8 then some (.lcmp, 9, 0) else none) else (bif Nat.beq pc 9 then some (.ifCond .eq 26, 12, 35) else none)))
def dec_2_1 (pc : Nat) : Option (Instr × Nat × Nat) := bif Nat.ble pc 17 then (bif Nat.ble pc 13 then (bif Nat.ble pc 12 then (bif Nat.beq pc 12 then some (.aload_n 0, 13, 0) else none) else (bif Nat.beq pc 13 then some (.lload_n 3, 14, 0) else none)) else (bif Nat.ble pc 14 then (bif Nat.beq pc 14 then some (.ldc2_w 15, 17, 0) else none) else (bif Nat.beq pc 17 then some (.land, 18, 0) else none))) else (bif Nat.ble pc 21 then (bif Nat.ble pc 18 then (bif Nat.beq pc 18 then some (.ldc2_w 17, 21, 0) else none) else (bif Nat.beq pc 21 then some (.lor, 22, 0) else none)) else (bif Nat.ble pc 22 then (bif Nat.beq pc 22 then some (.l2i, 23, 0) else none) else (bif Nat.beq pc 23 then some (.i2b, 24, 0) else none)))
def dec_2_2 (pc : Nat) : Option (Instr × Nat × Nat) := bif Nat.ble pc 30 then (bif Nat.ble pc 27 then (bif Nat.ble pc 24 then (bif Nat.beq pc 24 then some (.invokevirtual 19, 27, 0) else none) else (bif Nat.beq pc 27 then some (.lload_n 3, 28, 0) else none)) else (bif Nat.ble pc 28 then (bif Nat.beq pc 28 then some (.bipush 7, 30, 0) else none) else (bif Nat.beq pc 30 then some (.lushr, 31, 0) else none))) else (bif Nat.ble pc 32 then (bif Nat.ble pc 31 then (bif Nat.beq pc 31 then some (.lstore_n 3, 32, 0) else none) else (bif Nat.beq pc 32 then some (.goto (-30), 35, 2) else none)) else (bif Nat.ble pc 35 then (bif Nat.beq pc 35 then some (.aload_n 0, 36, 0) else none) else (bif Nat.beq pc 36 then some (.lload_n 3, 37, 0) else none)))
def dec_2_3 (pc : Nat) : Option (Instr × Nat × Nat) := bif Nat.ble pc 38 then (bif Nat.ble pc 37 then (bif Nat.beq pc 37 then some (.l2i, 38, 0) else none) else (bif Nat.beq pc 38 then some (.i2b, 39, 0) else none)) else (bif Nat.ble pc 39 then (bif Nat.beq pc 39 then some (.invokevirtual 19, 42, 0) else none) else (bif Nat.beq pc 42 then some (.return_, 43, 0) else none))
def dec_2 (pc : Nat) : Option (Instr × Nat × Nat) := bif Nat.ble pc 23 then (bif Nat.ble pc 9 then (dec_2_0 pc) else (dec_2_1 pc)) else (bif Nat.ble pc 36 then (dec_2_2 pc) else (dec_2_3 pc))
def m_2 : RI.Mth := ((⟨"com/example/nymtrace/nymtrace/lookup/PackedNumbers", "add", "(J)V"⟩ : MethodName), prog_69_method_2_code, 5, none, 2, 43, dec_2, [], [(13, (-128 : Int64)), (15, (127 : Int64)), (17, (128 : Int64))], [], [(19, 4, 3, 0, (⟨"com/example/nymtrace/nymtrace/lookup/PackedNumbers", "put", "(B)V"⟩ : MethodName))], [])
def dec_3_0 (pc : Nat) : Option (Instr × Nat × Nat) := bif Nat.ble pc 5 then (bif Nat.ble pc 1 then (bif Nat.ble pc 0 then (bif Nat.beq pc 0 then some (.aload_n 0, 1, 0) else none) else (bif Nat.beq pc 1 then some (.getfield 29, 4, 0) else none)) else (bif Nat.ble pc 4 then (bif Nat.beq pc 4 then some (.aload_n 0, 5, 0) else none) else (bif Nat.beq pc 5 then some (.getfield 9, 8, 0) else none))) else (bif Nat.ble pc 9 then (bif Nat.ble pc 8 then (bif Nat.beq pc 8 then some (.arraylength, 9, 0) else none) else (bif Nat.beq pc 9 then some (.if_icmp .ne 27, 12, 36) else none)) else (bif Nat.ble pc 12 then (bif Nat.beq pc 12 then some (.aload_n 0, 13, 0) else none) else (bif Nat.beq pc 13 then some (.aload_n 0, 14, 0) else none)))
def dec_3_1 (pc : Nat) : Option (Instr × Nat × Nat) := bif Nat.ble pc 21 then (bif Nat.ble pc 17 then (bif Nat.ble pc 14 then (bif Nat.beq pc 14 then some (.getfield 9, 17, 0) else none) else (bif Nat.beq pc 17 then some (.aload_n 0, 18, 0) else none)) else (bif Nat.ble pc 18 then (bif Nat.beq pc 18 then some (.getfield 9, 21, 0) else none) else (bif Nat.beq pc 21 then some (.arraylength, 22, 0) else none))) else (bif Nat.ble pc 23 then (bif Nat.ble pc 22 then (bif Nat.beq pc 22 then some (.aload_n 0, 23, 0) else none) else (bif Nat.beq pc 23 then some (.getfield 9, 26, 0) else none)) else (bif Nat.ble pc 26 then (bif Nat.beq pc 26 then some (.arraylength, 27, 0) else none) else (bif Nat.beq pc 27 then some (.iconst 2, 28, 0) else none)))
def dec_3_2 (pc : Nat) : Option (Instr × Nat × Nat) := bif Nat.ble pc 33 then (bif Nat.ble pc 29 then (bif Nat.ble pc 28 then (bif Nat.beq pc 28 then some (.idiv, 29, 0) else none) else (bif Nat.beq pc 29 then some (.iadd, 30, 0) else none)) else (bif Nat.ble pc 30 then (bif Nat.beq pc 30 then some (.invokestatic 38, 33, 0) else none) else (bif Nat.beq pc 33 then some (.putfield 9, 36, 0) else none))) else (bif Nat.ble pc 37 then (bif Nat.ble pc 36 then (bif Nat.beq pc 36 then some (.aload_n 0, 37, 0) else none) else (bif Nat.beq pc 37 then some (.getfield 9, 40, 0) else none)) else (bif Nat.ble pc 40 then (bif Nat.beq pc 40 then some (.aload_n 0, 41, 0) else none) else (bif Nat.beq pc 41 then some (.dup, 42, 0) else none)))
def dec_3_3 (pc : Nat) : Option (Instr × Nat × Nat) := bif Nat.ble pc 47 then (bif Nat.ble pc 45 then (bif Nat.ble pc 42 then (bif Nat.beq pc 42 then some (.getfield 29, 45, 0) else none) else (bif Nat.beq pc 45 then some (.dup_x1, 46, 0) else none)) else (bif Nat.ble pc 46 then (bif Nat.beq pc 46 then some (.iconst 1, 47, 0) else none) else (bif Nat.beq pc 47 then some (.iadd, 48, 0) else none))) else (bif Nat.ble pc 51 then (bif Nat.ble pc 48 then (bif Nat.beq pc 48 then some (.putfield 29, 51, 0) else none) else (bif Nat.beq pc 51 then some (.iload_n 1, 52, 0) else none)) else (bif Nat.ble pc 52 then (bif Nat.beq pc 52 then some (.bastore, 53, 0) else none) else (bif Nat.beq pc 53 then some (.return_, 54, 0) else none)))
def dec_3 (pc : Nat) : Option (Instr × Nat × Nat) := bif Nat.ble pc 27 then (bif Nat.ble pc 13 then (dec_3_0 pc) else (dec_3_1 pc)) else (bif Nat.ble pc 41 then (dec_3_2 pc) else (dec_3_3 pc))
def m_3 : RI.Mth := ((⟨"com/example/nymtrace/nymtrace/lookup/PackedNumbers", "put", "(B)V"⟩ : MethodName), prog_69_method_6_code, 2, none, 2, 54, dec_3, [], [], [(29, 0, 1, true, .int, "com/example/nymtrace/nymtrace/lookup/PackedNumbers", ""), (9, 0, 0, true, (.array .byte), "com/example/nymtrace/nymtrace/lookup/PackedNumbers", "")], [(38, 0, 8, 0, (⟨"java/util/Arrays", "copyOf", "([BI)[B"⟩ : MethodName))], [])
def dec_4_0 (pc : Nat) : Option (Instr × Nat × Nat) := bif Nat.ble pc 4 then (bif Nat.ble pc 0 then (bif Nat.beq pc 0 then some (.aload_n 0, 1, 0) else none) else (bif Nat.ble pc 1 then (bif Nat.beq pc 1 then some (.ifnonnull 11, 4, 12) else none) else (bif Nat.beq pc 4 then some (.new 84, 7, 0) else none))) else (bif Nat.ble pc 8 then (bif Nat.ble pc 7 then (bif Nat.beq pc 7 then some (.dup, 8, 0) else none) else (bif Nat.beq pc 8 then some (.invokespecial 86, 11, 0) else none)) else (bif Nat.ble pc 12 then (bif Nat.beq pc 12 then some (.aload_n 0, 13, 0) else none) else (bif Nat.beq pc 13 then some (.areturn, 14, 0) else none)))
def dec_4 (pc : Nat) : Option (Instr × Nat × Nat) := dec_4_0 pc
def m_4 : RI.Mth := ((⟨"java/util/Objects", "requireNonNull", "(Ljava/lang/Object;)Ljava/lang/Object;"⟩ : MethodName), jdk_31_method_10_code, 1, (some (.object "java/lang/Object")), 1, 14, dec_4, [], [], [], [], [])
def dec_5_0 (pc : Nat) : Option (Instr × Nat × Nat) := bif Nat.ble pc 2 then (bif Nat.ble pc 0 then (bif Nat.beq pc 0 then some (.aload_n 0, 1, 0) else none) else (bif Nat.ble pc 1 then (bif Nat.beq pc 1 then some (.aload_n 1, 2, 0) else none) else (bif Nat.beq pc 2 then some (.putfield 3, 5, 0) else none))) else (bif Nat.ble pc 5 then (bif Nat.beq pc 5 then some (.aload_n 0, 6, 0) else none) else (bif Nat.ble pc 6 then (bif Nat.beq pc 6 then some (.invokespecial 9, 9, 0) else none) else (bif Nat.beq pc 9 then some (.return_, 10, 0) else none)))
def dec_5 (pc : Nat) : Option (Instr × Nat × Nat) := dec_5_0 pc
def m_5 : RI.Mth := ((⟨"com/example/nymtrace/nymtrace/lookup/PackedNumbers$Reader", "<init>", "(Lcom/example/nymtrace/nymtrace/lookup/PackedNumbers;)V"⟩ : MethodName), prog_70_method_1_code, 2, none, 2, 10, dec_5, [], [], [(3, 1, 0, true, (.object "com/example/nymtrace/nymtrace/lookup/PackedNumbers"), "com/example/nymtrace/nymtrace/lookup/PackedNumbers$Reader", "")], [(9, 3, 0, 0, (⟨"java/lang/Object", "<init>", "()V"⟩ : MethodName))], [])
def dec_6_0 (pc : Nat) : Option (Instr × Nat × Nat) := bif Nat.ble pc 3 then (bif Nat.ble pc 1 then (bif Nat.ble pc 0 then (bif Nat.beq pc 0 then some (.lconst 0, 1, 0) else none) else (bif Nat.beq pc 1 then some (.lstore_n 1, 2, 0) else none)) else (bif Nat.ble pc 2 then (bif Nat.beq pc 2 then some (.iconst 0, 3, 0) else none) else (bif Nat.beq pc 3 then some (.istore_n 3, 4, 0) else none))) else (bif Nat.ble pc 5 then (bif Nat.ble pc 4 then (bif Nat.beq pc 4 then some (.aload_n 0, 5, 0) else none) else (bif Nat.beq pc 5 then some (.getfield 3, 8, 0) else none)) else (bif Nat.ble pc 8 then (bif Nat.beq pc 8 then some (.getfield 22, 11, 0) else none) else (bif Nat.beq pc 11 then some (.aload_n 0, 12, 0) else none)))
def dec_6_1 (pc : Nat) : Option (Instr × Nat × Nat) := bif Nat.ble pc 17 then (bif Nat.ble pc 13 then (bif Nat.ble pc 12 then (bif Nat.beq pc 12 then some (.dup, 13, 0) else none) else (bif Nat.beq pc 13 then some (.getfield 15, 16, 0) else none)) else (bif Nat.ble pc 16 then (bif Nat.beq pc 16 then some (.dup_x1, 17, 0) else none) else (bif Nat.beq pc 17 then some (.iconst 1, 18, 0) else none))) else (bif Nat.ble pc 19 then (bif Nat.ble pc 18 then (bif Nat.beq pc 18 then some (.iadd, 19, 0) else none) else (bif Nat.beq pc 19 then some (.putfield 15, 22, 0) else none)) else (bif Nat.ble pc 22 then (bif Nat.beq pc 22 then some (.baload, 23, 0) else none) else (bif Nat.beq pc 23 then some (.istore 4, 25, 0) else none)))
def dec_6_2 (pc : Nat) : Option (Instr × Nat × Nat) := bif Nat.ble pc 30 then (bif Nat.ble pc 26 then (bif Nat.ble pc 25 then (bif Nat.beq pc 25 then some (.lload_n 1, 26, 0) else none) else (bif Nat.beq pc 26 then some (.iload 4, 28, 0) else none)) else (bif Nat.ble pc 28 then (bif Nat.beq pc 28 then some (.bipush 127, 30, 0) else none) else (bif Nat.beq pc 30 then some (.iand, 31, 0) else none))) else (bif Nat.ble pc 32 then (bif Nat.ble pc 31 then (bif Nat.beq pc 31 then some (.i2l, 32, 0) else none) else (bif Nat.beq pc 32 then some (.iload_n 3, 33, 0) else none)) else (bif Nat.ble pc 33 then (bif Nat.beq pc 33 then some (.lshl, 34, 0) else none) else (bif Nat.beq pc 34 then some (.lor, 35, 0) else none)))
def dec_6_3 (pc : Nat) : Option (Instr × Nat × Nat) := bif Nat.ble pc 41 then (bif Nat.ble pc 36 then (bif Nat.ble pc 35 then (bif Nat.beq pc 35 then some (.lstore_n 1, 36, 0) else none) else (bif Nat.beq pc 36 then some (.iinc 3 7, 39, 0) else none)) else (bif Nat.ble pc 39 then (bif Nat.beq pc 39 then some (.iload 4, 41, 0) else none) else (bif Nat.beq pc 41 then some (.sipush 128, 44, 0) else none))) else (bif Nat.ble pc 45 then (bif Nat.ble pc 44 then (bif Nat.beq pc 44 then some (.iand, 45, 0) else none) else (bif Nat.beq pc 45 then some (.ifCond .ne (-41), 48, 4) else none)) else (bif Nat.ble pc 48 then (bif Nat.beq pc 48 then some (.lload_n 1, 49, 0) else none) else (bif Nat.beq pc 49 then some (.lreturn, 50, 0) else none)))
def dec_6 (pc : Nat) : Option (Instr × Nat × Nat) := bif Nat.ble pc 23 then (bif Nat.ble pc 11 then (dec_6_0 pc) else (dec_6_1 pc)) else (bif Nat.ble pc 34 then (dec_6_2 pc) else (dec_6_3 pc))
def m_6 : RI.Mth := ((⟨"com/example/nymtrace/nymtrace/lookup/PackedNumbers$Reader", "next", "()J"⟩ : MethodName), prog_70_method_3_code, 5, (some .long), 1, 50, dec_6, [], [], [(3, 1, 0, false, (.object "com/example/nymtrace/nymtrace/lookup/PackedNumbers"), "com/example/nymtrace/nymtrace/lookup/PackedNumbers$Reader", ""), (22, 0, 0, false, (.array .byte), "com/example/nymtrace/nymtrace/lookup/PackedNumbers", "com/example/nymtrace/nymtrace/lookup/PackedNumbers"), (15, 1, 1, true, .int, "com/example/nymtrace/nymtrace/lookup/PackedNumbers$Reader", "")], [], [])
def dec_7_0 (pc : Nat) : Option (Instr × Nat × Nat) := bif Nat.ble pc 5 then (bif Nat.ble pc 1 then (bif Nat.ble pc 0 then (bif Nat.beq pc 0 then some (.aload_n 0, 1, 0) else none) else (bif Nat.beq pc 1 then some (.getfield 15, 4, 0) else none)) else (bif Nat.ble pc 4 then (bif Nat.beq pc 4 then some (.aload_n 0, 5, 0) else none) else (bif Nat.beq pc 5 then some (.getfield 3, 8, 0) else none))) else (bif Nat.ble pc 11 then (bif Nat.ble pc 8 then (bif Nat.beq pc 8 then some (.getfield 19, 11, 0) else none) else (bif Nat.beq pc 11 then some (.if_icmp .ge 7, 14, 18) else none)) else (bif Nat.ble pc 14 then (bif Nat.beq pc 14 then some (.iconst 1, 15, 0) else none) else (bif Nat.beq pc 15 then some (.goto 4, 18, 19) else none)))
def dec_7_1 (pc : Nat) : Option (Instr × Nat × Nat) := bif Nat.ble pc 18 then (bif Nat.beq pc 18 then some (.iconst 0, 19, 0) else none) else (bif Nat.beq pc 19 then some (.ireturn, 20, 0) else none)
def dec_7 (pc : Nat) : Option (Instr × Nat × Nat) := bif Nat.ble pc 15 then (dec_7_0 pc) else (dec_7_1 pc)
def m_7 : RI.Mth := ((⟨"com/example/nymtrace/nymtrace/lookup/PackedNumbers$Reader", "hasNext", "()Z"⟩ : MethodName), prog_70_method_2_code, 1, (some .boolean), 1, 20, dec_7, [], [], [(15, 1, 1, true, .int, "com/example/nymtrace/nymtrace/lookup/PackedNumbers$Reader", ""), (3, 1, 0, false, (.object "com/example/nymtrace/nymtrace/lookup/PackedNumbers"), "com/example/nymtrace/nymtrace/lookup/PackedNumbers$Reader", ""), (19, 0, 1, false, .int, "com/example/nymtrace/nymtrace/lookup/PackedNumbers", "com/example/nymtrace/nymtrace/lookup/PackedNumbers")], [], [])
def dec_8_0 (pc : Nat) : Option (Instr × Nat × Nat) := bif Nat.ble pc 3 then (bif Nat.ble pc 1 then (bif Nat.ble pc 0 then (bif Nat.beq pc 0 then some (.iload_n 1, 1, 0) else none) else (bif Nat.beq pc 1 then some (.aload_n 0, 2, 0) else none)) else (bif Nat.ble pc 2 then (bif Nat.beq pc 2 then some (.arraylength, 3, 0) else none) else (bif Nat.beq pc 3 then some (.if_icmp .ne 11, 6, 14) else none))) else (bif Nat.ble pc 7 then (bif Nat.ble pc 6 then (bif Nat.beq pc 6 then some (.aload_n 0, 7, 0) else none) else (bif Nat.beq pc 7 then some (.invokevirtual 310, 10, 0) else none)) else (bif Nat.ble pc 10 then (bif Nat.beq pc 10 then some (.checkcast 311, 13, 0) else none) else (bif Nat.beq pc 13 then some (.areturn, 14, 0) else none)))
def dec_8_1 (pc : Nat) : Option (Instr × Nat × Nat) := bif Nat.ble pc 18 then (bif Nat.ble pc 15 then (bif Nat.ble pc 14 then (bif Nat.beq pc 14 then some (.iload_n 1, 15, 0) else none) else (bif Nat.beq pc 15 then some (.newarray .byte, 17, 0) else none)) else (bif Nat.ble pc 17 then (bif Nat.beq pc 17 then some (.astore_n 2, 18, 0) else none) else (bif Nat.beq pc 18 then some (.aload_n 0, 19, 0) else none))) else (bif Nat.ble pc 20 then (bif Nat.ble pc 19 then (bif Nat.beq pc 19 then some (.iconst 0, 20, 0) else none) else (bif Nat.beq pc 20 then some (.aload_n 2, 21, 0) else none)) else (bif Nat.ble pc 21 then (bif Nat.beq pc 21 then some (.iconst 0, 22, 0) else none) else (bif Nat.beq pc 22 then some (.aload_n 0, 23, 0) else none)))
def dec_8_2 (pc : Nat) : Option (Instr × Nat × Nat) := bif Nat.ble pc 25 then (bif Nat.ble pc 23 then (bif Nat.beq pc 23 then some (.arraylength, 24, 0) else none) else (bif Nat.ble pc 24 then (bif Nat.beq pc 24 then some (.iload_n 1, 25, 0) else none) else (bif Nat.beq pc 25 then some (.invokestatic 304, 28, 0) else none))) else (bif Nat.ble pc 28 then (bif Nat.beq pc 28 then some (.invokestatic 150, 31, 0) else none) else (bif Nat.ble pc 31 then (bif Nat.beq pc 31 then some (.aload_n 2, 32, 0) else none) else (bif Nat.beq pc 32 then some (.areturn, 33, 0) else none)))
def dec_8 (pc : Nat) : Option (Instr × Nat × Nat) := bif Nat.ble pc 13 then (dec_8_0 pc) else (bif Nat.ble pc 22 then (dec_8_1 pc) else (dec_8_2 pc))
def m_8 : RI.Mth := ((⟨"java/util/Arrays", "copyOf", "([BI)[B"⟩ : MethodName), jdk_65_method_121_code, 3, (some (.array .byte)), 2, 33, dec_8, [], [], [], [(304, 0, 9, 0, (⟨"java/lang/Math", "min", "(II)I"⟩ : MethodName)), (150, 7, 0, 0, (⟨"java/lang/System", "arraycopy", "(Ljava/lang/Object;ILjava/lang/Object;II)V"⟩ : MethodName))], [])
def dec_9_0 (pc : Nat) : Option (Instr × Nat × Nat) := bif Nat.ble pc 2 then (bif Nat.ble pc 0 then (bif Nat.beq pc 0 then some (.iload_n 0, 1, 0) else none) else (bif Nat.ble pc 1 then (bif Nat.beq pc 1 then some (.iload_n 1, 2, 0) else none) else (bif Nat.beq pc 2 then some (.if_icmp .gt 7, 5, 9) else none))) else (bif Nat.ble pc 6 then (bif Nat.ble pc 5 then (bif Nat.beq pc 5 then some (.iload_n 0, 6, 0) else none) else (bif Nat.beq pc 6 then some (.goto 4, 9, 10) else none)) else (bif Nat.ble pc 9 then (bif Nat.beq pc 9 then some (.iload_n 1, 10, 0) else none) else (bif Nat.beq pc 10 then some (.ireturn, 11, 0) else none)))
def dec_9 (pc : Nat) : Option (Instr × Nat × Nat) := dec_9_0 pc
def m_9 : RI.Mth := ((⟨"java/lang/Math", "min", "(II)I"⟩ : MethodName), jdk_29_method_69_code, 2, (some .int), 2, 11, dec_9, [], [], [], [], [])
def WW : RI.Wld := ([m_0, m_1, m_2, m_3, m_4, m_5, m_6, m_7, m_8, m_9], [("com/example/nymtrace/nymtrace/lookup/PackedNumbers", 2, [("com/example/nymtrace/nymtrace/lookup/PackedNumbers", "bytes", "[B", (.array .byte), false), ("com/example/nymtrace/nymtrace/lookup/PackedNumbers", "size", "I", .int, false)]), ("com/example/nymtrace/nymtrace/lookup/PackedNumbers$Reader", 2, [("com/example/nymtrace/nymtrace/lookup/PackedNumbers$Reader", "this$0", "Lcom/example/nymtrace/nymtrace/lookup/PackedNumbers;", (.object "com/example/nymtrace/nymtrace/lookup/PackedNumbers"), true), ("com/example/nymtrace/nymtrace/lookup/PackedNumbers$Reader", "next", "I", .int, false)])])
def tab1 : List Jvm.Cond := Jvm.Cond.code x code maxLocals ret :: tables_1
set_option maxRecDepth 65536 in
theorem wok_1 : RI.wok WW tab1 = true := by decide +kernel
theorem no6_1 : (WW.1.all fun M => (RI.mMl M).all fun q => !Nat.beq q.2.1 6) = true := by decide +kernel
theorem pl_0 : plainFor (RI.mNm m_0) = true := plainFor_of_name (by first | (simp [RI.mNm, m_0, x, plainName, overriddenIn]; done) | decide +kernel)
theorem pl_1 : plainFor (RI.mNm m_1) = true := plainFor_of_name (by first | (simp [RI.mNm, m_1, x, plainName, overriddenIn]; done) | decide +kernel)
theorem pl_2 : plainFor (RI.mNm m_2) = true := plainFor_of_name (by first | (simp [RI.mNm, m_2, x, plainName, overriddenIn]; done) | decide +kernel)
theorem pl_3 : plainFor (RI.mNm m_3) = true := plainFor_of_name (by first | (simp [RI.mNm, m_3, x, plainName, overriddenIn]; done) | decide +kernel)
theorem pl_4 : plainFor (RI.mNm m_4) = true := plainFor_of_name (by first | (simp [RI.mNm, m_4, x, plainName, overriddenIn]; done) | decide +kernel)
theorem pl_5 : plainFor (RI.mNm m_5) = true := plainFor_of_name (by first | (simp [RI.mNm, m_5, x, plainName, overriddenIn]; done) | decide +kernel)
theorem pl_6 : plainFor (RI.mNm m_6) = true := plainFor_of_name (by first | (simp [RI.mNm, m_6, x, plainName, overriddenIn]; done) | decide +kernel)
theorem pl_7 : plainFor (RI.mNm m_7) = true := plainFor_of_name (by first | (simp [RI.mNm, m_7, x, plainName, overriddenIn]; done) | decide +kernel)
theorem pl_8 : plainFor (RI.mNm m_8) = true := plainFor_of_name (by first | (simp [RI.mNm, m_8, x, plainName, overriddenIn]; done) | decide +kernel)
theorem pl_9 : plainFor (RI.mNm m_9) = true := Jvm.Free.JP.mathPlain rfl (by decide +kernel)
theorem plain_1 : ∀ M ∈ WW.1, plainFor (RI.mNm M) = true := by
  intro M hM
  simp only [WW, List.mem_cons, List.not_mem_nil, or_false] at hM
  rcases hM with rfl | rfl | rfl | rfl | rfl | rfl | rfl | rfl | rfl | rfl
  · exact pl_0
  · exact pl_1
  · exact pl_2
  · exact pl_3
  · exact pl_4
  · exact pl_5
  · exact pl_6
  · exact pl_7
  · exact pl_8
  · exact pl_9
/-! arrays as functions; small ints as naturals -/
def own_rk (f : Nat → Int32) (n : Nat) : List Value := (List.range n).map fun i => .int (f i)
theorem own_rk_len (f : Nat → Int32) (n : Nat) : (own_rk f n).length = n := by simp [own_rk]
theorem own_rk_get (f : Nat → Int32) {n j : Nat} (h : j < n) : (own_rk f n)[j]? = some (.int (f j)) := by simp [own_rk, h]
theorem own_rk_set (f : Nat → Int32) (n j : Nat) (v : Int32) : (own_rk f n).set j (.int v) = own_rk (fun i => if i = j then v else f i) n := by
  apply List.ext_getElem?
  intro i
  by_cases e : j = i
  · subst e
    by_cases h : j < n
    · rw [List.getElem?_set_self (by rw [own_rk_len]; exact h), own_rk_get _ h, if_pos rfl]
    · rw [List.getElem?_eq_none (by simp [own_rk_len]; omega), List.getElem?_eq_none (by simp [own_rk_len]; omega)]
  · rw [List.getElem?_set_ne e]
    by_cases h : i < n
    · rw [own_rk_get _ h, own_rk_get _ h, if_neg (Ne.symm e)]
    · rw [List.getElem?_eq_none (by simp [own_rk_len]; omega), List.getElem?_eq_none (by simp [own_rk_len]; omega)]
theorem own_rk_congr {f g : Nat → Int32} {n : Nat} (h : ∀ i, i < n → f i = g i) : own_rk f n = own_rk g n := by
  apply List.map_congr_left
  intro i hi
  rw [h i (List.mem_range.mp hi)]
theorem own_tn {a : Nat} (h : a < 2 ^ 31) : (Int32.ofNat a).toNatClampNeg = a := by
  rw [Int32.toNatClampNeg, RI.ofNat_toInt a h]; rfl
theorem own_lt {a b : Nat} (ha : a < 2 ^ 31) (hb : b < 2 ^ 31) : Int32.ofNat a < Int32.ofNat b ↔ a < b := by
  rw [Int32.lt_iff_toInt_lt, RI.ofNat_toInt a ha, RI.ofNat_toInt b hb]; omega
theorem own_nn {a : Nat} (h : a < 2 ^ 31) : ¬ Int32.ofNat a < 0 := by
  rw [Int32.lt_iff_toInt_lt, RI.ofNat_toInt a h]
  have : (0 : Int32).toInt = 0 := rfl
  omega
theorem own_inj {a b : Nat} (ha : a < 2 ^ 31) (hb : b < 2 ^ 31) : Int32.ofNat a = Int32.ofNat b ↔ a = b := by
  constructor
  · intro h
    have := congrArg Int32.toInt h
    rw [RI.ofNat_toInt a ha, RI.ofNat_toInt b hb] at this
    omega
  · rintro rfl; rfl
theorem own_succ {a : Nat} (h : a + 1 < 2 ^ 31) : Int32.ofNat a + 1 = Int32.ofNat (a + 1) := by
  apply Int32.toInt_inj.mp
  rw [XT.add32 (by rw [RI.ofNat_toInt a (by omega)]; have : (1 : Int32).toInt = 1 := rfl; constructor <;> omega), RI.ofNat_toInt a (by omega), RI.ofNat_toInt (a + 1) h]
  have : (1 : Int32).toInt = 1 := rfl
  omega
theorem own_arrlen {F B : Nat} {M : RI.Mth} {pc nx tg a : Nat} {L : List Slot} {S : List Value} {ah : RI.AH} {r : Option Value × RI.AH} {ty : FieldType} {vs : List Value} (h1 : RI.fetch M pc = some (.arraylength, nx, tg)) (ho : ah[a]? = some (.inr (ty, vs))) (hr : RI.Ev WW F B M nx L (.int vs.length.toInt32 :: S) ah r) : RI.Ev WW F B M pc L (.ref a :: S) ah r :=
  hr.go 1 (by unfold RI.gsteps; simp only [h1, RI.pstep, RI.psel, RI.p_arraylength, ho]; rfl)
theorem own_acopy {F B : Nat} {M : RI.Mth} {pc nx tg a d idx : Nat} {q : RI.MLk} {L : List Slot} {S : List Value} {ah : RI.AH} {r : Option Value × RI.AH} {vs vd : List Value} {sp dp nn : Int32} (h1 : RI.fetch M pc = some (.invokestatic idx, nx, tg)) (hl : RI.lk (RI.mMl M) idx = some q) (h7 : q.1 = 7) (ho : ah[a]? = some (.inr (.byte, vs))) (hd : ah[d]? = some (.inr (.byte, vd))) (hn : ¬ (sp < 0 ∨ dp < 0 ∨ nn < 0))
    (hok : sp.toNatClampNeg + nn.toNatClampNeg ≤ vs.length ∧ dp.toNatClampNeg + nn.toNatClampNeg ≤ vd.length ∧ vs.length ≤ 67108864 ∧ vd.length ≤ 67108864 ∧ 1 ≤ F ∧ RI.sumC S + 18 ≤ B)
    (hr : RI.Ev WW F B M nx L S (ah.set d (.inr (.byte, vd.take dp.toNatClampNeg ++ (vs.drop sp.toNatClampNeg).take nn.toNatClampNeg ++ vd.drop (dp.toNatClampNeg + nn.toNatClampNeg)))) r) : RI.Ev WW F B M pc L (.int nn :: .int dp :: .ref d :: .int sp :: .ref a :: S) ah r :=
  hr.go 1 (by unfold RI.gsteps; simp only [h1, RI.pstep, RI.psel, RI.wstep, RI.wsel, RI.w_invokestatic, hl, h7, ho, hd, if_neg hn, if_pos hok]; rfl)
/-! the heap: the packed numbers, the arrays that were given up, the one in use -/
def own_cap : Nat → Nat
  | 0 => 8
  | j + 1 => own_cap j + own_cap j / 2
def own_H (gs : RI.AH) (n : Nat) (cur : List Value) (tl : RI.AH) : RI.AH := .inl (0, [.ref (gs.length + 1), .int (Int32.ofNat n)]) :: (gs ++ (.inr (.byte, cur) :: tl))
theorem own_H_get (gs : RI.AH) (n : Nat) (cur : List Value) (tl : RI.AH) : (own_H gs n cur tl)[gs.length + 1]? = some (.inr (.byte, cur)) := by
  simp [own_H]
theorem own_H_set (gs : RI.AH) (n : Nat) (cur cur' : List Value) (tl : RI.AH) : (own_H gs n cur tl).set (gs.length + 1) (.inr (.byte, cur')) = own_H gs n cur' tl := by
  simp [own_H]
theorem own_ev_min (F B : Nat) (ah : RI.AH) {a b : Nat} (hab : a ≤ b) (hb : b < 2 ^ 31) : RI.Ev WW F B m_9 0 (RI.ent [.int (Int32.ofNat a), .int (Int32.ofNat b)] 2) [] ah (some (.int (Int32.ofNat a)), ah) := by
  refine RI.Ev.go 2 rfl ?_
  refine RI.Ev.icmp rfl (fun q => absurd (q.symm.trans (XT.ii_gt_f (fun z => by rw [own_lt (by omega) (by omega)] at z; omega))) (by decide)) (fun q => ?_)
  refine RI.Ev.go 2 rfl ?_
  exact RI.Ev.ret rfl rfl rfl rfl
theorem own_rkb0 (n : Nat) : List.replicate n (defaultValue (newarray.typeOf .byte)) = own_rk (fun _ => 0) n := by
  apply List.ext_getElem?
  intro i
  by_cases h : i < n
  · rw [own_rk_get _ h]; simp [h]; rfl
  · rw [List.getElem?_eq_none (by simp; omega), List.getElem?_eq_none (by simp [own_rk_len]; omega)]
theorem own_len32 (n : Nat) : n.toInt32 = Int32.ofNat n := rfl
theorem own_ev_copy (gs : RI.AH) (n : Nat) (f : Nat → Int32) (c c' : Nat) (hc : c < c') (hc' : c' < 1000) : RI.Ev WW 4 116 m_8 0 (RI.ent [.ref (gs.length + 1), .int (Int32.ofNat c')] 3) [] (own_H gs n (own_rk f c) []) (some (.ref (gs.length + 2)), own_H gs n (own_rk f c) [.inr (.byte, own_rk (fun i => if i < c then f i else 0) c')]) := by
  rw [show RI.ent [.ref (gs.length + 1), .int (Int32.ofNat c')] 3 = [.val (.ref (gs.length + 1)), .val (.int (Int32.ofNat c')), .unset] from rfl]
  refine RI.Ev.go 2 rfl ?_
  refine own_arrlen rfl (own_H_get _ _ _ _) ?_
  rw [own_rk_len, own_len32]
  refine RI.Ev.icmp rfl (fun q => ?_) (fun q => absurd (q.symm.trans (XT.ii_ne_t (fun z => by rw [own_inj (by omega) (by omega)] at z; omega))) (by decide))
  refine RI.Ev.go 1 rfl ?_
  refine RI.Ev.newarrayS rfl (own_nn (by omega)) (by rw [own_tn (by omega)]; omega) ?_
  rw [own_tn (by omega), own_rkb0, show (own_H gs n (own_rk f c) []).length = gs.length + 2 by simp [own_H], show own_H gs n (own_rk f c) [] ++ [.inr (newarray.typeOf .byte, own_rk (fun _ => 0) c')] = own_H gs n (own_rk f c) [.inr (.byte, own_rk (fun _ => 0) c')] by simp [own_H, newarray.typeOf]]
  refine RI.Ev.go 1 rfl ?_
  try dsimp only [List.set, RI.fv0, RI.fv1, RI.fv2, RI.fv3, RI.tn0, RI.tn1, RI.tn2, RI.tn3, RI.tn4, RI.tn5, Nat.reduceAdd, List.cons_append, List.nil_append, Option.toList]
  refine RI.Ev.go 5 rfl ?_
  refine own_arrlen rfl (own_H_get _ _ _ _) ?_
  rw [own_rk_len, own_len32]
  refine RI.Ev.go 1 rfl ?_
  refine RI.Ev.call rfl rfl rfl rfl rfl (own_ev_min _ _ _ (a := c) (b := c') (by omega) (by omega)) ?_
  try dsimp only [List.set, RI.fv0, RI.fv1, RI.fv2, RI.fv3, RI.tn0, RI.tn1, RI.tn2, RI.tn3, RI.tn4, RI.tn5, Nat.reduceAdd, List.cons_append, List.nil_append, Option.toList]
  refine own_acopy rfl rfl rfl (own_H_get _ _ _ _) (vd := own_rk (fun _ => 0) c') (by simp [own_H]) (fun z => ?_) ?_ ?_
  · rcases z with z | z | z
    · exact absurd z (by decide)
    · exact absurd z (by decide)
    · exact own_nn (by omega) z
  · rw [own_tn (by omega), own_rk_len, own_rk_len]
    exact ⟨by show 0 + c ≤ c; omega, by show 0 + c ≤ c'; omega, by omega, by omega, by omega, by show 0 + 18 ≤ 116; omega⟩
  · have e : (own_H gs n (own_rk f c) [.inr (.byte, own_rk (fun _ => 0) c')]).set (gs.length + 2) (.inr (.byte, List.take (Int32.ofInt 0).toNatClampNeg (own_rk (fun _ => 0) c') ++ List.take (Int32.ofNat c).toNatClampNeg (List.drop (Int32.ofInt 0).toNatClampNeg (own_rk f c)) ++ List.drop ((Int32.ofInt 0).toNatClampNeg + (Int32.ofNat c).toNatClampNeg) (own_rk (fun _ => 0) c'))) = own_H gs n (own_rk f c) [.inr (.byte, own_rk (fun i => if i < c then f i else 0) c')] := by
      rw [own_tn (by omega), RI.tn0]
      have e2 : List.take 0 (own_rk (fun _ => 0) c') ++ List.take c (List.drop 0 (own_rk f c)) ++ List.drop (0 + c) (own_rk (fun _ => 0) c') = own_rk (fun i => if i < c then f i else 0) c' := by
        apply List.ext_getElem?
        intro i
        simp only [List.take_zero, List.nil_append, List.drop_zero, Nat.zero_add]
        rw [List.take_of_length_le (by rw [own_rk_len]; omega)]
        by_cases h : i < c
        · rw [List.getElem?_append_left (by rw [own_rk_len]; exact h), own_rk_get _ h, own_rk_get _ (by omega), if_pos h]
        · rw [List.getElem?_append_right (by rw [own_rk_len]; omega), own_rk_len, List.getElem?_drop]
          by_cases h2 : i < c'
          · rw [show c + (i - c) = i by omega, own_rk_get _ h2, own_rk_get _ h2, if_neg h]
          · rw [List.getElem?_eq_none (by rw [own_rk_len]; omega), List.getElem?_eq_none (by rw [own_rk_len]; omega)]
      rw [e2]
      simp [own_H]
    rw [e]
    refine RI.Ev.go 1 rfl ?_
    exact RI.Ev.ret rfl rfl rfl rfl
theorem own_add1 {n : Nat} (h : n + 1 < 2 ^ 31) : Int32.ofNat n + Int32.ofInt 1 = Int32.ofNat (n + 1) := own_succ h
/-! put -/
theorem own_ev_put36 (gs : RI.AH) (n : Nat) (f : Nat → Int32) (c : Nat) (v : Int32) (hn : n < c) (hc : c < 1000) : RI.Ev WW 5 131 m_3 36 [.val (.ref 0), .val (.int v)] [] (own_H gs n (own_rk f c) []) (none, own_H gs (n + 1) (own_rk (fun i => if i = n then v.toInt8.toInt32 else f i) c) []) := by
  refine RI.Ev.go 9 (ah' := .inl (0, [.ref (gs.length + 1), .int (Int32.ofNat n + Int32.ofInt 1)]) :: (gs ++ [.inr (.byte, own_rk f c)])) rfl ?_
  rw [own_add1 (by omega)]
  refine RI.Ev.go 1 rfl ?_
  refine RI.Ev.bastoreS rfl (own_H_get gs (n + 1) (own_rk f c) []) (own_nn (by omega)) (by rw [own_tn (by omega), own_rk_len]; exact hn) ?_
  rw [own_tn (by omega), own_rk_set]
  have e := own_H_set gs (n + 1) (own_rk f c) (own_rk (fun i => if i = n then v.toInt8.toInt32 else f i) c) []
  unfold own_H at e ⊢
  rw [e]
  exact RI.Ev.ret rfl rfl rfl rfl
theorem own_half : ∀ j, j < 5 → Int32.ofNat (own_cap j) + Int32.ofNat (own_cap j) / Int32.ofInt 2 = Int32.ofNat (own_cap (j + 1)) := by decide +kernel
theorem own_caps : own_cap 0 = 8 ∧ own_cap 1 = 12 ∧ own_cap 2 = 18 ∧ own_cap 3 = 27 ∧ own_cap 4 = 40 := by decide
def own_gs : Nat → Nat
  | 0 => 0
  | j + 1 => own_gs j + own_cap j
def own_gsz (gs : RI.AH) (j : Nat) : Prop := gs.length = j ∧ RI.sz WW gs = own_gs j ∧ j ≤ 4
theorem own_capl : ∀ j, j < 4 → own_cap j < own_cap (j + 1) ∧ own_cap (j + 1) < 41 := by decide
theorem own_capb : ∀ j, j < 5 → own_cap j < 41 ∧ own_gs j + own_cap j < 106 := by decide
theorem own_ev_put (gs : RI.AH) (n : Nat) (f : Nat → Int32) (j : Nat) (v : Int32) (hg : own_gsz gs j) (hn : n ≤ own_cap j) (h30 : n < 30) : ∃ gs' j' f', own_gsz gs' j' ∧ n + 1 ≤ own_cap j' ∧ (∀ i, i < n → f' i = f i) ∧ f' n = v.toInt8.toInt32 ∧ RI.Ev WW 5 131 m_3 0 (RI.ent [.ref 0, .int v] 2) [] (own_H gs n (own_rk f (own_cap j)) []) (none, own_H gs' (n + 1) (own_rk f' (own_cap j')) []) := by
  obtain ⟨c0, c1, c2, c3, c4⟩ := own_caps
  obtain ⟨hl, hs, hj⟩ := hg
  have hcap := (own_capb j (by omega)).1
  by_cases e : n = own_cap j
  · have hj3 : j ≤ 3 := by
      have : j ≠ 4 := fun z => by rw [z] at e; omega
      omega
    refine ⟨gs ++ [.inr (.byte, own_rk f (own_cap j))], j + 1, fun i => if i = n then v.toInt8.toInt32 else if i < own_cap j then f i else 0, ⟨by simp [hl], ?_, by omega⟩, ?_, ?_, by simp, ?_⟩
    · rw [RI.sz_app]
      show RI.sz WW gs + (own_rk f (own_cap j)).length = own_gs j + own_cap j
      rw [own_rk_len, hs]
    · have := own_capl j (by omega); omega
    · intro i hi
      dsimp only
      rw [if_neg (by omega), if_pos (by omega)]
    · rw [show RI.ent [.ref 0, .int v] 2 = [.val (.ref 0), .val (.int v)] from rfl]
      refine RI.Ev.go 4 rfl ?_
      refine own_arrlen rfl (own_H_get _ _ _ _) ?_
      rw [own_rk_len, own_len32]
      refine RI.Ev.icmp rfl (fun q => absurd (q.symm.trans (XT.ii_ne_f (by rw [e]))) (by decide)) (fun q => ?_)
      refine RI.Ev.go 5 rfl ?_
      refine own_arrlen rfl (own_H_get _ _ _ _) ?_
      rw [own_rk_len, own_len32]
      refine RI.Ev.go 2 rfl ?_
      refine own_arrlen rfl (own_H_get _ _ _ _) ?_
      rw [own_rk_len, own_len32]
      refine RI.Ev.go 3 rfl ?_
      rw [own_half j (by omega)]
      refine RI.Ev.call rfl rfl rfl rfl rfl (own_ev_copy gs n f (own_cap j) (own_cap (j + 1)) ?_ ?_) ?_
      · exact (own_capl j (by omega)).1
      · have := own_capl j (by omega); omega
      try dsimp only [List.set, RI.fv0, RI.fv1, RI.fv2, RI.fv3, RI.tn0, RI.tn1, RI.tn2, RI.tn3, RI.tn4, RI.tn5, Nat.reduceAdd, List.cons_append, List.nil_append, Option.toList]
      have e3 : own_H (gs ++ [.inr (.byte, own_rk f (own_cap j))]) n (own_rk (fun i => if i < own_cap j then f i else 0) (own_cap (j + 1))) [] = .inl (0, [.ref (gs.length + 2), .int (Int32.ofNat n)]) :: (gs ++ [.inr (.byte, own_rk f (own_cap j)), .inr (.byte, own_rk (fun i => if i < own_cap j then f i else 0) (own_cap (j + 1)))]) := by simp [own_H]
      refine RI.Ev.go 1 (ah' := .inl (0, [.ref (gs.length + 2), .int (Int32.ofNat n)]) :: (gs ++ [.inr (.byte, own_rk f (own_cap j)), .inr (.byte, own_rk (fun i => if i < own_cap j then f i else 0) (own_cap (j + 1)))])) rfl ?_
      rw [← e3]
      have := own_capl j (by omega)
      exact own_ev_put36 _ n _ (own_cap (j + 1)) v (by omega) (by omega)
  · refine ⟨gs, j, fun i => if i = n then v.toInt8.toInt32 else f i, ⟨hl, hs, hj⟩, by omega, fun i hi => if_neg (by omega), if_pos rfl, ?_⟩
    rw [show RI.ent [.ref 0, .int v] 2 = [.val (.ref 0), .val (.int v)] from rfl]
    refine RI.Ev.go 4 rfl ?_
    refine own_arrlen rfl (own_H_get _ _ _ _) ?_
    rw [own_rk_len, own_len32]
    refine RI.Ev.icmp rfl (fun q => ?_) (fun q => absurd (q.symm.trans (XT.ii_ne_t (fun z => by rw [own_inj (by omega) (by omega)] at z; omega))) (by decide))
    exact own_ev_put36 gs n f (own_cap j) v (by omega) (by omega)
/-! digits -/
def own_X (x : Int64) : Nat := x.toBitVec.toNat
theorem own_X_lt (x : Int64) : own_X x < 2 ^ 64 := x.toBitVec.isLt
theorem own_X_inj {x y : Int64} (h : own_X x = own_X y) : x = y := Int64.toBitVec_inj.mp (BitVec.eq_of_toNat_eq h)
theorem own_X_of {n : Nat} (h : n < 2 ^ 64) : own_X (Int64.ofNat n) = n := by
  show (BitVec.ofNat 64 n).toNat = n
  rw [BitVec.toNat_ofNat, Nat.mod_eq_of_lt h]
theorem own_of_X (x : Int64) : Int64.ofNat (own_X x) = x := own_X_inj (own_X_of (own_X_lt x))
theorem own_and127 (x : Int64) : x &&& 127 = Int64.ofNat (own_X x % 128) := by
  apply own_X_inj
  rw [own_X_of (by omega)]
  show (x.toBitVec &&& 127#64).toNat = _
  rw [BitVec.toNat_and, show (127#64).toNat = 2 ^ 7 - 1 from rfl, Nat.and_two_pow_sub_one_eq_mod]; rfl
theorem own_m128 : ∀ i, i < 64 → (-128 : Int64).toBitVec.getLsbD i = decide (7 ≤ i) := by decide +kernel
theorem own_andm (x : Int64) : (x &&& -128).toBitVec = (x.toBitVec >>> 7) <<< 7 := by
  apply BitVec.eq_of_getLsbD_eq
  intro i hi
  rw [Int64.toBitVec_and, BitVec.getLsbD_and, own_m128 i hi, BitVec.getLsbD_shiftLeft, BitVec.getLsbD_ushiftRight]
  by_cases h : 7 ≤ i
  · simp [h, hi, show ¬ i < 7 by omega, show 7 + (i - 7) = i by omega]
  · simp [h, show i < 7 by omega]
theorem own_andm0 (x : Int64) : x &&& -128 = 0 ↔ own_X x < 128 := by
  constructor
  · intro h
    have h1 := own_andm x
    rw [h] at h1
    have h2 := congrArg BitVec.toNat h1
    rw [BitVec.toNat_shiftLeft, BitVec.toNat_ushiftRight, Nat.shiftRight_eq_div_pow, Nat.shiftLeft_eq] at h2
    have h3 : (0 : Int64).toBitVec.toNat = 0 := rfl
    rw [h3] at h2
    have := own_X_lt x
    unfold own_X at this ⊢
    omega
  · intro h
    apply Int64.toBitVec_inj.mp
    rw [own_andm]
    apply BitVec.eq_of_toNat_eq
    rw [BitVec.toNat_shiftLeft, BitVec.toNat_ushiftRight, Nat.shiftRight_eq_div_pow, Nat.shiftLeft_eq]
    unfold own_X at h
    rw [show x.toBitVec.toNat / 2 ^ 7 = 0 by omega]
    rfl
theorem own_ushr7 (x : Int64) : own_X (XT.ushrL x (Int8.ofInt 7).toInt32) = own_X x / 128 := by
  have e : (XT.ushrL x (Int8.ofInt 7).toInt32).toBitVec = x.toBitVec >>> (7#64) := rfl
  unfold own_X
  rw [e, BitVec.ushiftRight_eq', BitVec.toNat_ushiftRight, Nat.shiftRight_eq_div_pow]; rfl
def own_dm (m : Nat) : Int32 := (Int64.ofNat m ||| 128).toInt32.toInt8.toInt32.toInt8.toInt32
def own_dl (m : Nat) : Int32 := (Int64.ofNat m).toInt32.toInt8.toInt32.toInt8.toInt32
theorem own_dm_ok : ∀ m, m < 128 → own_dm m &&& (Int8.ofInt 127).toInt32 = Int32.ofNat m ∧ ¬ own_dm m &&& (Int16.ofInt 128).toInt32 = 0 := by decide +kernel
theorem own_dl_ok : ∀ m, m < 128 → own_dl m &&& (Int8.ofInt 127).toInt32 = Int32.ofNat m ∧ own_dl m &&& (Int16.ofInt 128).toInt32 = 0 := by decide +kernel
theorem own_sh : ∀ s, s < 64 → ((Int32.ofNat s).toInt64 &&& 63).toBitVec.smod 64 = BitVec.ofNat 64 s := by decide +kernel
theorem own_64 : ∀ m, m < 128 → (Int32.ofNat m).toInt64 = Int64.ofNat m := by decide +kernel
theorem own_comb {V m s : Nat} (hV : V < 2 ^ s) (hs : s < 64) (hm : m < 128) (hlt : V + m * 2 ^ s < 2 ^ 64) : Int64.ofNat V ||| (Int32.ofNat m).toInt64 <<< ((Int32.ofNat s).toInt64 &&& 63) = Int64.ofNat (V + m * 2 ^ s) := by
  apply own_X_inj
  rw [own_X_of hlt, own_64 m hm]
  have e : (Int64.ofNat m <<< ((Int32.ofNat s).toInt64 &&& 63)).toBitVec = (BitVec.ofNat 64 m) <<< (((Int32.ofNat s).toInt64 &&& 63).toBitVec.smod 64) := rfl
  unfold own_X
  rw [Int64.toBitVec_or, e, own_sh s hs, BitVec.shiftLeft_eq', BitVec.toNat_or, BitVec.toNat_shiftLeft, BitVec.toNat_ofNat, BitVec.toNat_ofNat, Nat.mod_eq_of_lt (show s < 2 ^ 64 by omega), Nat.mod_eq_of_lt (show m < 2 ^ 64 by omega), Nat.shiftLeft_eq, Nat.mod_eq_of_lt (show m * 2 ^ s < 2 ^ 64 by omega)]
  rw [show (Int64.ofNat V).toBitVec.toNat = V from own_X_of (by omega)]
  rw [Nat.or_comm, ← Nat.shiftLeft_eq, ← Nat.shiftLeft_add_eq_or_of_lt hV, Nat.add_comm]
def own_En (f : Nat → Int32) : Nat → Nat → Nat → Nat → Prop
  | 0, k, X, k2 => X < 128 ∧ f k = own_dl X ∧ k2 = k + 1
  | t + 1, k, X, k2 => 128 ≤ X ∧ f k = own_dm (X % 128) ∧ own_En f t (k + 1) (X / 128) k2
def own_Enc (f : Nat → Int32) (k X k2 : Nat) : Prop := ∃ t, own_En f t k X k2
theorem own_Enc.last {f : Nat → Int32} {k X : Nat} (h1 : X < 128) (h2 : f k = own_dl X) : own_Enc f k X (k + 1) := ⟨0, h1, h2, rfl⟩
theorem own_Enc.more {f : Nat → Int32} {k X k2 : Nat} (h1 : 128 ≤ X) (h2 : f k = own_dm (X % 128)) (h3 : own_Enc f (k + 1) (X / 128) k2) : own_Enc f k X k2 := by
  obtain ⟨t, h⟩ := h3
  exact ⟨t + 1, h1, h2, h⟩
theorem own_Enc.rec1 {f : Nat → Int32} {P : Nat → Nat → Nat → Prop} (hl : ∀ k X, X < 128 → f k = own_dl X → P k X (k + 1)) (hm : ∀ k X k2, 128 ≤ X → f k = own_dm (X % 128) → own_Enc f (k + 1) (X / 128) k2 → P (k + 1) (X / 128) k2 → P k X k2) {k X k2 : Nat} (h : own_Enc f k X k2) : P k X k2 := by
  obtain ⟨t, h⟩ := h
  induction t generalizing k X with
  | zero =>
    obtain ⟨h1, h2, rfl⟩ := h
    exact hl k X h1 h2
  | succ t ih =>
    obtain ⟨h1, h2, h3⟩ := h
    exact hm k X k2 h1 h2 ⟨t, h3⟩ (ih h3)
theorem own_Enc.lt {f : Nat → Int32} {k X k2 : Nat} (h : own_Enc f k X k2) : k < k2 :=
  own_Enc.rec1 (P := fun k _ k2 => k < k2) (fun _ _ _ _ => by omega) (fun _ _ _ _ _ _ ih => by omega) h
theorem own_Enc.congr {f g : Nat → Int32} {k X k2 : Nat} (h : own_Enc f k X k2) (hfg : ∀ i, i < k2 → g i = f i) : own_Enc g k X k2 := by
  revert hfg
  refine own_Enc.rec1 (P := fun k X k2 => (∀ i, i < k2 → g i = f i) → own_Enc g k X k2) ?_ ?_ h
  · intro k X h1 h2 hfg
    exact .last h1 (by rw [hfg _ (by omega)]; exact h2)
  · intro k X k2 h1 h2 h3 ih hfg
    exact .more h1 (by rw [hfg _ (by have := h3.lt; omega)]; exact h2) (ih hfg)
theorem own_ev_addL : ∀ (t : Nat) (x0 rest : Int64) (gs : RI.AH) (n : Nat) (f : Nat → Int32) (j : Nat), own_X rest < 128 ^ (t + 1) → own_gsz gs j → n ≤ own_cap j → n + t < 30 → ∃ gs' j' f' n', own_gsz gs' j' ∧ n' ≤ own_cap j' ∧ n' ≤ n + t + 1 ∧ (∀ i, i < n → f' i = f i) ∧ own_Enc f' n (own_X rest) n' ∧
    RI.Ev WW 6 144 m_2 2 [.val (.ref 0), .val (.long x0), .second, .val (.long rest), .second] [] (own_H gs n (own_rk f (own_cap j)) []) (none, own_H gs' n' (own_rk f' (own_cap j')) []) := by
  intro t
  induction t with
  | zero =>
    intro x0 rest gs n f j hX hg hn ht
    have hX' : own_X rest < 128 := by simpa using hX
    obtain ⟨gs', j', f', g1, g2, g3, g4, g5⟩ := own_ev_put gs n f j rest.toInt32.toInt8.toInt32 hg hn (by omega)
    refine ⟨gs', j', f', n + 1, g1, g2, by omega, g3, .last hX' (by rw [g4, own_dl, own_of_X]), ?_⟩
    refine RI.Ev.go 5 rfl ?_
    refine RI.Ev.cond rfl (fun h => ?_) (fun h => absurd (h.symm.trans (XT.ll_eq_t ((own_andm0 rest).mpr hX'))) (by decide))
    refine RI.Ev.go 4 rfl ?_
    refine RI.Ev.call rfl rfl rfl rfl rfl g5 ?_
    exact RI.Ev.ret rfl rfl rfl rfl
  | succ t ih =>
    intro x0 rest gs n f j hX hg hn ht
    by_cases hX' : own_X rest < 128
    · obtain ⟨gs', j', f', g1, g2, g3, g4, g5⟩ := own_ev_put gs n f j rest.toInt32.toInt8.toInt32 hg hn (by omega)
      refine ⟨gs', j', f', n + 1, g1, g2, by omega, g3, .last hX' (by rw [g4, own_dl, own_of_X]), ?_⟩
      refine RI.Ev.go 5 rfl ?_
      refine RI.Ev.cond rfl (fun h => ?_) (fun h => absurd (h.symm.trans (XT.ll_eq_t ((own_andm0 rest).mpr hX'))) (by decide))
      refine RI.Ev.go 4 rfl ?_
      refine RI.Ev.call rfl rfl rfl rfl rfl g5 ?_
      exact RI.Ev.ret rfl rfl rfl rfl
    · obtain ⟨gs1, j1, f1, g1, g2, g3, g4, g5⟩ := own_ev_put gs n f j (rest &&& 127 ||| 128).toInt32.toInt8.toInt32 hg hn (by omega)
      have h7 := own_ushr7 rest
      obtain ⟨gs', j', f', n', q1, q2, q3, q4, q5, q6⟩ := ih x0 (XT.ushrL rest (Int8.ofInt 7).toInt32) gs1 (n + 1) f1 j1 (by rw [h7]; rw [Nat.pow_succ] at hX; omega) g1 g2 (by omega)
      rw [h7] at q5
      refine ⟨gs', j', f', n', q1, q2, by omega, fun i hi => by rw [q4 i (by omega), g3 i hi], .more (by omega) (by rw [q4 n (by omega), g4, own_and127]; rfl) q5, ?_⟩
      refine RI.Ev.go 5 rfl ?_
      refine RI.Ev.cond rfl (fun h => absurd (h.symm.trans (XT.ll_eq_f (fun z => hX' ((own_andm0 rest).mp z)))) (by decide)) (fun h => ?_)
      refine RI.Ev.go 8 rfl ?_
      refine RI.Ev.call rfl rfl rfl rfl rfl g5 ?_
      try dsimp only [List.set, RI.fv0, RI.fv1, RI.fv2, RI.fv3, RI.tn0, RI.tn1, RI.tn2, RI.tn3, RI.tn4, RI.tn5, Nat.reduceAdd, List.cons_append, List.nil_append, Option.toList]
      refine RI.Ev.go 4 rfl ?_
      try dsimp only [List.set, RI.fv0, RI.fv1, RI.fv2, RI.fv3, RI.tn0, RI.tn1, RI.tn2, RI.tn3, RI.tn4, RI.tn5, Nat.reduceAdd, List.cons_append, List.nil_append, Option.toList]
      refine RI.Ev.go 1 rfl ?_
      exact q6
theorem own_ev_add (x : Int64) (gs : RI.AH) (n : Nat) (f : Nat → Int32) (j : Nat) (hg : own_gsz gs j) (hn : n ≤ own_cap j) (ht : n ≤ 20) : ∃ gs' j' f' n', own_gsz gs' j' ∧ n' ≤ own_cap j' ∧ n' ≤ n + 10 ∧ (∀ i, i < n → f' i = f i) ∧ own_Enc f' n (own_X x) n' ∧
    RI.Ev WW 6 144 m_2 0 (RI.ent [.ref 0, .long x] 5) [] (own_H gs n (own_rk f (own_cap j)) []) (none, own_H gs' n' (own_rk f' (own_cap j')) []) := by
  obtain ⟨gs', j', f', n', q1, q2, q3, q4, q5, q6⟩ := own_ev_addL 9 x x gs n f j (Nat.lt_trans (own_X_lt x) (by decide)) hg hn (by omega)
  refine ⟨gs', j', f', n', q1, q2, q3, q4, q5, ?_⟩
  rw [show RI.ent [.ref 0, .long x] 5 = [.val (.ref 0), .val (.long x), .second, .unset, .unset] from rfl]
  refine RI.Ev.go 2 rfl ?_
  try dsimp only [List.set, RI.fv0, RI.fv1, RI.fv2, RI.fv3, RI.tn0, RI.tn1, RI.tn2, RI.tn3, RI.tn4, RI.tn5, Nat.reduceAdd, List.cons_append, List.nil_append, Option.toList]
  exact q6
/-! the reader: it lies last in the heap -/
theorem own_getf {F B : Nat} {M : RI.Mth} {pc nx tg a idx k : Nat} {q : RI.FLk} {L : List Slot} {S : List Value} {ah : RI.AH} {r : Option Value × RI.AH} {vs : List Value} {v : Value} (h1 : RI.fetch M pc = some (.getfield idx, nx, tg)) (hl : RI.lk (RI.mFl M) idx = some q) (ho : ah[a]? = some (.inl (k, vs))) (hk : Nat.beq k q.1 = true) (hv : vs[q.2.1]? = some v) (hr : RI.Ev WW F B M nx L (v :: S) ah r) : RI.Ev WW F B M pc L (.ref a :: S) ah r :=
  hr.go 1 (by unfold RI.gsteps; simp only [h1, RI.pstep, RI.psel, RI.p_getfield, hl, ho, hk, hv]; rfl)
theorem own_putf {F B : Nat} {M : RI.Mth} {pc nx tg a idx k : Nat} {q : RI.FLk} {L : List Slot} {S : List Value} {ah : RI.AH} {r : Option Value × RI.AH} {vs : List Value} {v v' : Value} (h1 : RI.fetch M pc = some (.putfield idx, nx, tg)) (hl : RI.lk (RI.mFl M) idx = some q) (ho : ah[a]? = some (.inl (k, vs))) (hk : Nat.beq k q.1 = true) (hw : q.2.2.1 = true) (hv : RI.putV q.2.2.2.1 v = some v') (hlt : q.2.1 < vs.length) (hr : RI.Ev WW F B M nx L S (ah.set a (.inl (k, vs.set q.2.1 v'))) r) : RI.Ev WW F B M pc L (v :: .ref a :: S) ah r :=
  hr.go 1 (by unfold RI.gsteps; simp only [h1, RI.pstep, RI.psel, RI.wstep, RI.wsel, RI.w_putfield, hl, ho, hk, hw, hv, if_pos hlt]; rfl)
def own_R (k : Nat) : RI.AObj := .inl (1, [.ref 0, .int (Int32.ofNat k)])
theorem own_HR_get (gs : RI.AH) (n : Nat) (cur : List Value) (o : RI.AObj) : (own_H gs n cur [o])[gs.length + 2]? = some o := by
  simp [own_H]
theorem own_HR_set (gs : RI.AH) (n : Nat) (cur : List Value) (o o' : RI.AObj) : (own_H gs n cur [o]).set (gs.length + 2) o' = own_H gs n cur [o'] := by
  simp [own_H]
theorem own_7 : ∀ s, s < 64 → Int32.ofNat s + Int32.ofInt 7 = Int32.ofNat (s + 7) := by decide +kernel
theorem own_ev_nextL (gs : RI.AH) (n : Nat) (f : Nat → Int32) (c : Nat) (hc : c < 1000) {k X k2 : Nat} (h : own_Enc f k X k2) : ∀ (V s : Nat), k2 ≤ c → V < 2 ^ s → s < 64 → V + X * 2 ^ s < 2 ^ 64 →
    RI.Ev WW 6 144 m_6 4 [.val (.ref (gs.length + 2)), .val (.long (Int64.ofNat V)), .second, .val (.int (Int32.ofNat s)), .unset] [] (own_H gs n (own_rk f c) [own_R k]) (some (.long (Int64.ofNat (V + X * 2 ^ s))), own_H gs n (own_rk f c) [own_R k2]) := by
  have pre : ∀ (k V s m : Nat) (D : Int32) (r), f k = D → k < c → D &&& (Int8.ofInt 127).toInt32 = Int32.ofNat m → m < 128 → V < 2 ^ s → s < 64 → V + m * 2 ^ s < 2 ^ 64 → RI.Ev WW 6 144 m_6 45 [.val (.ref (gs.length + 2)), .val (.long (Int64.ofNat (V + m * 2 ^ s))), .second, .val (.int (Int32.ofNat (s + 7))), .val (.int D)] [.int (D &&& (Int16.ofInt 128).toInt32)] (own_H gs n (own_rk f c) [own_R (k + 1)]) r →
      RI.Ev WW 6 144 m_6 4 [.val (.ref (gs.length + 2)), .val (.long (Int64.ofNat V)), .second, .val (.int (Int32.ofNat s)), .unset] [] (own_H gs n (own_rk f c) [own_R k]) r := by
    intro k V s m D r hD hk hm hm2 hV hs hlt hr
    refine RI.Ev.go 1 rfl ?_
    refine own_getf rfl rfl (own_HR_get _ _ _ _) rfl rfl ?_
    refine RI.Ev.go 3 rfl ?_
    refine own_getf rfl rfl (own_HR_get _ _ _ _) rfl rfl ?_
    refine RI.Ev.go 3 rfl ?_
    refine own_putf rfl rfl (own_HR_get _ _ _ _) rfl rfl rfl (Nat.le_of_ble_eq_true rfl) ?_
    rw [own_HR_set]
    refine RI.Ev.baloadS rfl (by simp [own_H]; rfl) (own_nn (by omega)) (by rw [own_tn (by omega)]; exact own_rk_get f hk) ?_
    rw [hD]
    refine RI.Ev.go 1 rfl ?_
    try dsimp only [List.set, RI.fv0, RI.fv1, RI.fv2, RI.fv3, RI.tn0, RI.tn1, RI.tn2, RI.tn3, RI.tn4, RI.tn5, Nat.reduceAdd, List.cons_append, List.nil_append, Option.toList]
    refine RI.Ev.go 9 rfl ?_
    try dsimp only [List.set, RI.fv0, RI.fv1, RI.fv2, RI.fv3, RI.tn0, RI.tn1, RI.tn2, RI.tn3, RI.tn4, RI.tn5, Nat.reduceAdd, List.cons_append, List.nil_append, Option.toList]
    rw [hm, own_comb hV hs hm2 hlt]
    refine RI.Ev.go 1 rfl ?_
    try dsimp only [List.set, RI.fv0, RI.fv1, RI.fv2, RI.fv3, RI.tn0, RI.tn1, RI.tn2, RI.tn3, RI.tn4, RI.tn5, Nat.reduceAdd, List.cons_append, List.nil_append, Option.toList]
    rw [own_7 s hs]
    refine RI.Ev.go 3 rfl ?_
    rw [show own_R (k + 1) = .inl (1, [.ref 0, .int (Int32.ofNat k + Int32.ofInt 1)]) by unfold own_R; rw [own_add1 (by omega)]] at hr
    exact hr
  refine own_Enc.rec1 (P := fun k X k2 => ∀ (V s : Nat), k2 ≤ c → V < 2 ^ s → s < 64 → V + X * 2 ^ s < 2 ^ 64 →
    RI.Ev WW 6 144 m_6 4 [.val (.ref (gs.length + 2)), .val (.long (Int64.ofNat V)), .second, .val (.int (Int32.ofNat s)), .unset] [] (own_H gs n (own_rk f c) [own_R k]) (some (.long (Int64.ofNat (V + X * 2 ^ s))), own_H gs n (own_rk f c) [own_R k2])) ?_ ?_ h
  · intro k X h1 h2 V s hk hV hs hlt
    obtain ⟨d1, d2⟩ := own_dl_ok _ h1
    refine pre _ V s _ _ _ h2 (by omega) d1 h1 hV hs hlt ?_
    refine RI.Ev.cond rfl (fun h => absurd (h.symm.trans (XT.i0_ne_f d2)) (by decide)) (fun h => ?_)
    refine RI.Ev.go 1 rfl ?_
    exact RI.Ev.ret rfl rfl rfl rfl
  · intro k X k2 h1 h2 h3 ih V s hk hV hs hlt
    have hm : X % 128 < 128 := Nat.mod_lt _ (by omega)
    obtain ⟨d1, d2⟩ := own_dm_ok _ hm
    have hp : 0 < 2 ^ s := Nat.two_pow_pos s
    have hle : X % 128 * 2 ^ s ≤ X * 2 ^ s := Nat.mul_le_mul_right _ (Nat.mod_le _ _)
    have hk' := h3.lt
    refine pre _ V s _ _ _ h2 (by omega) d1 hm hV hs (by omega) ?_
    refine RI.Ev.cond rfl (fun h => ?_) (fun h => absurd (h.symm.trans (XT.i0_ne_t d2)) (by decide))
    have e7 : 2 ^ (s + 7) = 2 ^ s * 128 := by rw [Nat.pow_add]
    have hX : X * 2 ^ s = X % 128 * 2 ^ s + X / 128 * 2 ^ (s + 7) := by
      rw [e7, Nat.mul_comm (2 ^ s) 128, ← Nat.mul_assoc, ← Nat.add_mul]
      congr 1
      omega
    have hs7 : s + 7 < 64 := by
      have h4 : 128 * 2 ^ s ≤ X * 2 ^ s := Nat.mul_le_mul_right _ h1
      have h5 : 2 ^ (s + 7) < 2 ^ 64 := by rw [e7, Nat.mul_comm]; omega
      exact (Nat.pow_lt_pow_iff_right (by decide)).mp h5
    have := ih (V + X % 128 * 2 ^ s) (s + 7) hk (by
      have : X % 128 * 2 ^ s ≤ 127 * 2 ^ s := Nat.mul_le_mul_right _ (by omega)
      omega) hs7 (by omega)
    rw [show V + X * 2 ^ s = V + X % 128 * 2 ^ s + X / 128 * 2 ^ (s + 7) by omega]
    exact this.forget (.cons (.refl _) (.cons (.refl _) (.cons (.refl _) (.cons (.refl _) (.cons (.int _) (.refl _))))))
theorem own_ev_next (gs : RI.AH) (n : Nat) (f : Nat → Int32) (c : Nat) (hc : c < 1000) {k k2 : Nat} {x : Int64} (h : own_Enc f k (own_X x) k2) (hk : k2 ≤ c) : RI.Ev WW 6 144 m_6 0 (RI.ent [.ref (gs.length + 2)] 5) [] (own_H gs n (own_rk f c) [own_R k]) (some (.long x), own_H gs n (own_rk f c) [own_R k2]) := by
  rw [show RI.ent [.ref (gs.length + 2)] 5 = [.val (.ref (gs.length + 2)), .unset, .unset, .unset, .unset] from rfl]
  have := own_ev_nextL gs n f c hc h 0 0 hk (by decide) (by decide) (by have := own_X_lt x; omega)
  rw [show 0 + own_X x * 2 ^ 0 = own_X x by omega, own_of_X] at this
  refine RI.Ev.go 2 rfl ?_
  try dsimp only [List.set, RI.fv0, RI.fv1, RI.fv2, RI.fv3, RI.tn0, RI.tn1, RI.tn2, RI.tn3, RI.tn4, RI.tn5, Nat.reduceAdd, List.cons_append, List.nil_append, Option.toList]
  refine RI.Ev.go 2 rfl ?_
  try dsimp only [List.set, RI.fv0, RI.fv1, RI.fv2, RI.fv3, RI.tn0, RI.tn1, RI.tn2, RI.tn3, RI.tn4, RI.tn5, Nat.reduceAdd, List.cons_append, List.nil_append, Option.toList]
  exact this
theorem own_ev_has (gs : RI.AH) (n : Nat) (cur : List Value) (k : Nat) (hn : n < 1000) (hk : k < 1000) : RI.Ev WW 6 148 m_7 0 (RI.ent [.ref (gs.length + 2)] 1) [] (own_H gs n cur [own_R k]) (some (.int (if k < n then 1 else 0)), own_H gs n cur [own_R k]) := by
  rw [show RI.ent [.ref (gs.length + 2)] 1 = [.val (.ref (gs.length + 2))] from rfl]
  refine RI.Ev.go 1 rfl ?_
  refine own_getf rfl rfl (own_HR_get _ _ _ _) rfl rfl ?_
  refine RI.Ev.go 1 rfl ?_
  refine own_getf rfl rfl (own_HR_get _ _ _ _) rfl rfl ?_
  refine RI.Ev.go 1 rfl ?_
  by_cases h : k < n
  · rw [if_pos h]
    refine RI.Ev.icmp rfl (fun q => absurd (q.symm.trans (XT.ii_ge_f ((own_lt (by omega) (by omega)).mpr h))) (by decide)) (fun q => ?_)
    refine RI.Ev.go 2 rfl ?_
    exact RI.Ev.ret rfl rfl rfl rfl
  · rw [if_neg h]
    refine RI.Ev.icmp rfl (fun q => ?_) (fun q => absurd (q.symm.trans (XT.ii_ge_t (fun z => h ((own_lt (by omega) (by omega)).mp z)))) (by decide))
    refine RI.Ev.go 1 rfl ?_
    exact RI.Ev.ret rfl rfl rfl rfl
theorem own_cvn {ah : RI.AH} {a : Nat} {vs : List Value} (ho : ah[a]? = some (.inl (1, vs))) : RI.cstep WW m_0 7 160 ah (.invokevirtual 25) [.ref a] = some (m_6, [.ref a], [], 144) := by
  show (match ah[a]? with | some (.inl (k, _)) => (match Nat.beq k 1 with | true => some (m_6, [Value.ref a], [], 144) | false => none) | _ => none) = _
  rw [ho]
theorem own_cvh {ah : RI.AH} {a : Nat} {vs : List Value} (ho : ah[a]? = some (.inl (1, vs))) : RI.cstep WW m_0 7 160 ah (.invokevirtual 29) [.ref a] = some (m_7, [.ref a], [], 148) := by
  show (match ah[a]? with | some (.inl (k, _)) => (match Nat.beq k 1 with | true => some (m_7, [Value.ref a], [], 148) | false => none) | _ => none) = _
  rw [ho]
/-! the law -/
theorem own_ev_rnn (F B : Nat) (ah : RI.AH) : RI.Ev WW F B m_4 0 (RI.ent [.ref 0] 1) [] ah (some (.ref 0), ah) := by
  refine RI.Ev.go 3 rfl ?_
  exact RI.Ev.ret rfl rfl rfl rfl
theorem own_ev_pinit : RI.Ev WW 6 147 m_1 0 (RI.ent [.ref 0] 1) [] [.inl (0, [.null, .int 0])] (none, own_H [] 0 (own_rk (fun _ => 0) (own_cap 0)) []) := by
  rw [show RI.ent [.ref 0] 1 = [.val (.ref 0)] from rfl]
  refine RI.Ev.go 5 (ah' := [.inl (0, [.null, .int 0]), .inr (.byte, own_rk (fun _ => 0) 8)]) rfl ?_
  refine RI.Ev.go 1 (ah' := own_H [] 0 (own_rk (fun _ => 0) (own_cap 0)) []) rfl ?_
  exact RI.Ev.ret rfl rfl rfl rfl
theorem own_ev_rinit (gs : RI.AH) (n : Nat) (cur : List Value) : RI.Ev WW 6 146 m_5 0 (RI.ent [.ref (gs.length + 2), .ref 0] 2) [] (own_H gs n cur [.inl (1, [.null, .int 0])]) (none, own_H gs n cur [own_R 0]) := by
  rw [show RI.ent [.ref (gs.length + 2), .ref 0] 2 = [.val (.ref (gs.length + 2)), .val (.ref 0)] from rfl]
  refine RI.Ev.go 2 rfl ?_
  refine own_putf rfl rfl (own_HR_get _ _ _ _) rfl rfl rfl (Nat.le_of_ble_eq_true rfl) ?_
  rw [own_HR_set]
  refine RI.Ev.go 2 rfl ?_
  exact RI.Ev.ret rfl rfl rfl rfl
theorem own_law (a b : Int64) (k : Int32) : ∃ gs j n f n3, own_gsz gs j ∧ RI.Ev WW 7 160 m_0 0 (RI.ent [.long a, .long b, .int k] maxLocals) [] [] (some (.int 1), own_H gs n (own_rk f (own_cap j)) [own_R n3]) := by
  rw [show RI.ent [.long a, .long b, .int k] maxLocals = [.val (.long a), .second, .val (.long b), .second, .val (.int k), .unset, .unset, .unset, .unset, .unset, .unset, .unset, .unset, .unset, .unset, .unset, .unset, .unset, .unset] from rfl]
  obtain ⟨x, hx⟩ : ∃ x, x = XT.ushrL a (k &&& (Int8.ofInt 63).toInt32) := ⟨_, rfl⟩
  obtain ⟨y, hy⟩ : ∃ y, y = XT.ushrL b (XT.ushr k (Int8.ofInt 6).toInt32 &&& (Int8.ofInt 63).toInt32) := ⟨_, rfl⟩
  obtain ⟨gs1, j1, f1, n1, p1, p2, p3, p4, p5, p6⟩ := own_ev_add x [] 0 (fun _ => 0) 0 ⟨rfl, rfl, by omega⟩ (by omega) (by omega)
  obtain ⟨gs2, j2, f2, n2, q1, q2, q3, q4, q5, q6⟩ := own_ev_add y gs1 n1 f1 j1 p1 p2 (by omega)
  obtain ⟨gs, j, f, n, r1, r2, r3, r4, r5, r6⟩ := own_ev_add a gs2 n2 f2 j2 q1 q2 (by omega)
  have e1 : own_Enc f 0 (own_X x) n1 := p5.congr fun i hi => by rw [r4 i (by have := q5.lt; omega), q4 i hi]
  have e2 : own_Enc f n1 (own_X y) n2 := q5.congr fun i hi => r4 i hi
  have l1 := p5.lt
  have l2 := q5.lt
  have l3 := r5.lt
  have hcap := (own_capb j (by have := r1.2.2; omega)).1
  refine ⟨gs, j, n, f, n, r1, ?_⟩
  refine RI.Ev.go 6 rfl ?_
  try dsimp only [List.set, RI.fv0, RI.fv1, RI.fv2, RI.fv3, RI.tn0, RI.tn1, RI.tn2, RI.tn3, RI.tn4, RI.tn5, Nat.reduceAdd, List.cons_append, List.nil_append, Option.toList]
  rw [← hx]
  refine RI.Ev.go 8 rfl ?_
  try dsimp only [List.set, RI.fv0, RI.fv1, RI.fv2, RI.fv3, RI.tn0, RI.tn1, RI.tn2, RI.tn3, RI.tn4, RI.tn5, Nat.reduceAdd, List.cons_append, List.nil_append, Option.toList]
  rw [← hy]
  clear hx hy
  refine RI.Ev.go 1 (ah' := [.inl (0, [.null, .int 0])]) rfl ?_
  refine RI.Ev.go 1 rfl ?_
  refine RI.Ev.call rfl rfl rfl rfl rfl own_ev_pinit ?_
  try dsimp only [List.set, RI.fv0, RI.fv1, RI.fv2, RI.fv3, RI.tn0, RI.tn1, RI.tn2, RI.tn3, RI.tn4, RI.tn5, Nat.reduceAdd, List.cons_append, List.nil_append, Option.toList]
  refine RI.Ev.go 1 rfl ?_
  try dsimp only [List.set, RI.fv0, RI.fv1, RI.fv2, RI.fv3, RI.tn0, RI.tn1, RI.tn2, RI.tn3, RI.tn4, RI.tn5, Nat.reduceAdd, List.cons_append, List.nil_append, Option.toList]
  refine RI.Ev.go 2 rfl ?_
  refine RI.Ev.call rfl rfl rfl rfl rfl p6 ?_
  try dsimp only [List.set, RI.fv0, RI.fv1, RI.fv2, RI.fv3, RI.tn0, RI.tn1, RI.tn2, RI.tn3, RI.tn4, RI.tn5, Nat.reduceAdd, List.cons_append, List.nil_append, Option.toList]
  refine RI.Ev.go 2 rfl ?_
  refine RI.Ev.call rfl rfl rfl rfl rfl q6 ?_
  try dsimp only [List.set, RI.fv0, RI.fv1, RI.fv2, RI.fv3, RI.tn0, RI.tn1, RI.tn2, RI.tn3, RI.tn4, RI.tn5, Nat.reduceAdd, List.cons_append, List.nil_append, Option.toList]
  refine RI.Ev.go 2 rfl ?_
  refine RI.Ev.call rfl rfl rfl rfl rfl r6 ?_
  try dsimp only [List.set, RI.fv0, RI.fv1, RI.fv2, RI.fv3, RI.tn0, RI.tn1, RI.tn2, RI.tn3, RI.tn4, RI.tn5, Nat.reduceAdd, List.cons_append, List.nil_append, Option.toList]
  refine RI.Ev.go 1 (ah' := own_H gs n (own_rk f (own_cap j)) [] ++ [.inl (1, [.null, .int 0])]) rfl ?_
  rw [show own_H gs n (own_rk f (own_cap j)) [] ++ [.inl (1, [.null, .int 0])] = own_H gs n (own_rk f (own_cap j)) [.inl (1, [.null, .int 0])] by simp [own_H], show (own_H gs n (own_rk f (own_cap j)) []).length = gs.length + 2 by simp [own_H]]
  refine RI.Ev.go 3 rfl ?_
  refine RI.Ev.call rfl rfl rfl rfl rfl (own_ev_rnn _ _ _) ?_
  try dsimp only [List.set, RI.fv0, RI.fv1, RI.fv2, RI.fv3, RI.tn0, RI.tn1, RI.tn2, RI.tn3, RI.tn4, RI.tn5, Nat.reduceAdd, List.cons_append, List.nil_append, Option.toList]
  refine RI.Ev.go 1 rfl ?_
  refine RI.Ev.call rfl rfl rfl rfl rfl (own_ev_rinit gs n _) ?_
  try dsimp only [List.set, RI.fv0, RI.fv1, RI.fv2, RI.fv3, RI.tn0, RI.tn1, RI.tn2, RI.tn3, RI.tn4, RI.tn5, Nat.reduceAdd, List.cons_append, List.nil_append, Option.toList]
  refine RI.Ev.go 1 rfl ?_
  try dsimp only [List.set, RI.fv0, RI.fv1, RI.fv2, RI.fv3, RI.tn0, RI.tn1, RI.tn2, RI.tn3, RI.tn4, RI.tn5, Nat.reduceAdd, List.cons_append, List.nil_append, Option.toList]
  refine RI.Ev.go 1 rfl ?_
  refine RI.Ev.call rfl rfl rfl rfl (own_cvn (own_HR_get _ _ _ _)) (own_ev_next gs n f (own_cap j) (by omega) e1 (by omega)) ?_
  try dsimp only [List.set, RI.fv0, RI.fv1, RI.fv2, RI.fv3, RI.tn0, RI.tn1, RI.tn2, RI.tn3, RI.tn4, RI.tn5, Nat.reduceAdd, List.cons_append, List.nil_append, Option.toList]
  refine RI.Ev.go 1 rfl ?_
  try dsimp only [List.set, RI.fv0, RI.fv1, RI.fv2, RI.fv3, RI.tn0, RI.tn1, RI.tn2, RI.tn3, RI.tn4, RI.tn5, Nat.reduceAdd, List.cons_append, List.nil_append, Option.toList]
  refine RI.Ev.go 1 rfl ?_
  refine RI.Ev.call rfl rfl rfl rfl (own_cvh (own_HR_get _ _ _ _)) (own_ev_has gs n _ n1 (by omega) (by omega)) ?_
  rw [if_pos (show n1 < n by omega)]
  try dsimp only [List.set, RI.fv0, RI.fv1, RI.fv2, RI.fv3, RI.tn0, RI.tn1, RI.tn2, RI.tn3, RI.tn4, RI.tn5, Nat.reduceAdd, List.cons_append, List.nil_append, Option.toList]
  refine RI.Ev.go 1 rfl ?_
  try dsimp only [List.set, RI.fv0, RI.fv1, RI.fv2, RI.fv3, RI.tn0, RI.tn1, RI.tn2, RI.tn3, RI.tn4, RI.tn5, Nat.reduceAdd, List.cons_append, List.nil_append, Option.toList]
  refine RI.Ev.go 1 rfl ?_
  refine RI.Ev.call rfl rfl rfl rfl (own_cvn (own_HR_get _ _ _ _)) (own_ev_next gs n f (own_cap j) (by omega) e2 (by omega)) ?_
  try dsimp only [List.set, RI.fv0, RI.fv1, RI.fv2, RI.fv3, RI.tn0, RI.tn1, RI.tn2, RI.tn3, RI.tn4, RI.tn5, Nat.reduceAdd, List.cons_append, List.nil_append, Option.toList]
  refine RI.Ev.go 1 rfl ?_
  try dsimp only [List.set, RI.fv0, RI.fv1, RI.fv2, RI.fv3, RI.tn0, RI.tn1, RI.tn2, RI.tn3, RI.tn4, RI.tn5, Nat.reduceAdd, List.cons_append, List.nil_append, Option.toList]
  refine RI.Ev.go 1 rfl ?_
  refine RI.Ev.call rfl rfl rfl rfl (own_cvn (own_HR_get _ _ _ _)) (own_ev_next gs n f (own_cap j) (by omega) r5 (by omega)) ?_
  try dsimp only [List.set, RI.fv0, RI.fv1, RI.fv2, RI.fv3, RI.tn0, RI.tn1, RI.tn2, RI.tn3, RI.tn4, RI.tn5, Nat.reduceAdd, List.cons_append, List.nil_append, Option.toList]
  refine RI.Ev.go 1 rfl ?_
  try dsimp only [List.set, RI.fv0, RI.fv1, RI.fv2, RI.fv3, RI.tn0, RI.tn1, RI.tn2, RI.tn3, RI.tn4, RI.tn5, Nat.reduceAdd, List.cons_append, List.nil_append, Option.toList]
  refine RI.Ev.go 1 rfl ?_
  refine RI.Ev.call rfl rfl rfl rfl (own_cvh (own_HR_get _ _ _ _)) (own_ev_has gs n _ n (by omega) (by omega)) ?_
  rw [if_neg (show ¬ n < n by omega)]
  try dsimp only [List.set, RI.fv0, RI.fv1, RI.fv2, RI.fv3, RI.tn0, RI.tn1, RI.tn2, RI.tn3, RI.tn4, RI.tn5, Nat.reduceAdd, List.cons_append, List.nil_append, Option.toList]
  refine RI.Ev.go 1 rfl ?_
  try dsimp only [List.set, RI.fv0, RI.fv1, RI.fv2, RI.fv3, RI.tn0, RI.tn1, RI.tn2, RI.tn3, RI.tn4, RI.tn5, Nat.reduceAdd, List.cons_append, List.nil_append, Option.toList]
  refine RI.Ev.go 3 rfl ?_
  refine RI.Ev.cond rfl (fun h => absurd (h.symm.trans (XT.ll_ne_f rfl)) (by decide)) (fun h => ?_)
  refine RI.Ev.go 1 rfl ?_
  refine RI.Ev.cond rfl (fun h => absurd (h.symm.trans (show ifCond.holds .eq 1 = false by decide)) (by decide)) (fun h => ?_)
  refine RI.Ev.go 3 rfl ?_
  refine RI.Ev.cond rfl (fun h => absurd (h.symm.trans (XT.ll_ne_f rfl)) (by decide)) (fun h => ?_)
  refine RI.Ev.go 3 rfl ?_
  refine RI.Ev.cond rfl (fun h => absurd (h.symm.trans (XT.ll_ne_f rfl)) (by decide)) (fun h => ?_)
  refine RI.Ev.go 1 rfl ?_
  refine RI.Ev.cond rfl (fun h => absurd (h.symm.trans (show ifCond.holds .ne 0 = false by decide)) (by decide)) (fun h => ?_)
  refine RI.Ev.go 2 rfl ?_
  exact RI.Ev.ret rfl rfl rfl rfl
theorem law_run (i0 : Int64) (i1 : Int64) (i2 : Int32) : ∃ N ah', RI.run WW N room_1.frames room_1.locals m_0 0 (RI.ent [.long i0, .long i1, .int i2] maxLocals) [] [] = some (some (.int 1), ah') ∧ ah'.length ≤ room_1.cells ∧ RI.sz WW ah' ≤ room_1.slots := by
  obtain ⟨gs, j, n, f, n3, ⟨h1, h2, h3⟩, N, hN⟩ := own_law i0 i1 i2
  refine ⟨N, _, hN, ?_, ?_⟩
  · show (own_H _ _ _ _).length ≤ 24
    simp [own_H]; omega
  · show RI.sz WW (own_H _ _ _ _) ≤ 320
    have hb := (own_capb j (by omega)).2
    show 2 + RI.sz WW (gs ++ [.inr (.byte, own_rk f (own_cap j)), own_R n3]) ≤ 320
    rw [show gs ++ [.inr (.byte, own_rk f (own_cap j)), own_R n3] = (gs ++ [.inr (.byte, own_rk f (own_cap j))]) ++ [own_R n3] by simp, RI.sz_app, RI.sz_app]
    show 2 + (RI.sz WW gs + (own_rk f (own_cap j)).length + 2) ≤ 320
    rw [own_rk_len]
    omega
/-! from the pure statement to the owed theorems -/
set_option maxRecDepth 65536 in
set_option maxHeartbeats 4000000 in
theorem comes_1 {Post : Tables → Env → Array Value → State → Outcome → State → Prop} (hpost : ∀ tb e args s v u, (limb_1_1.after args s (.returned v) u = true ∧ limb_1_2.after args s (.returned v) u = true ∧ True) → FrameEnd s (.returned v) u (Jvm.fieldLocs frame_1_writes args s ++ Jvm.arrayLocs frame_1_arrays args s ++ Jvm.staticLocs frame_1_statics s) 24 320 → Post tb e args s (.returned v) u) :
    ArmFor flags0 classFile x code maxLocals ret World_1 tables_1 room_1 Calls_1 rest_1 Pre_1 Post := by
  intro l hfl _ _ p e ha hc hk s m args below hf hA hF happ hP
  obtain ⟨hcalls, hrest, hpre⟩ := hP
  obtain ⟨-, -, -, hnamed, -, -, -, hat⟩ := (Spec.applies_iff hf).mp happ
  obtain ⟨hg, hn⟩ := and_e (Cond.before_iff.mp (show (Jvm.Cond.and given_1 narrow_1).before args s = true from hpre))
  obtain ⟨g1, g2⟩ := and_e hg
  obtain ⟨g3, g4⟩ := and_e g2
  obtain ⟨g5, g6⟩ := and_e g4
  obtain ⟨w0, w1, w2, rfl⟩ : ∃ w0 w1 w2 : Value, args = #[w0, w1, w2] := by
    have hs : args.size = 3 := by simpa [Cond.value, given_1] using g1
    obtain ⟨L⟩ := args
    match L, hs with
    | [w0, w1, w2], _ => exact ⟨w0, w1, w2, rfl⟩
  obtain ⟨i0, ei0⟩ := isL_v g3
  obtain rfl : w0 = (.long i0) := Option.some.inj ei0
  obtain ⟨i1, ei1⟩ := isL_v g5
  obtain rfl : w1 = (.long i1) := Option.some.inj ei1
  obtain ⟨i2, ei2⟩ := is_v g6
  obtain rfl : w2 = (.int i2) := Option.some.inj ei2
  have hw : ∀ d ∈ tab1, d.before #[.long i0, .long i1, .int i2] s = true := fun d hd => atoms_spec (ws := Jvm.Cond.code x code maxLocals ret :: tables_1) hat d hd
  obtain ⟨N, ah', hrun, hcl, hsl⟩ := law_run i0 i1 i2
  have hmet := RI.met (M := m_0) (l := l) (Z := s) (b := s.heap.size) (ah := []) (h0 := s.heap) (ws := tables_1) (dc := room_1.cells) (ds := room_1.slots) (RI.sound hw wok_1 plain_1 (RI.noX no6_1) N) (List.mem_cons_self ..) pl_0 hrun (Nat.le_of_ble_eq_true rfl) ⟨by simp, by simp, fun _ _ _ h => h⟩ (by simpa using hcl) (by simpa [RI.sz] using hsl)
  obtain ⟨n, o, h1, h2, h3, _, L, rfl, ⟨rfl, -, N⟩, hq⟩ := hmet p e ha hc hk s m _ below hf ((Spec.applies_iff_loose hf).mp happ).1 ⟨rfl, State.Warmed39.refl s, rfl⟩ trivial
  exact ⟨n, _, h1, h2, h3, hpost _ _ _ _ _ _ ⟨Cond.after_iff.mpr rfl, Cond.after_iff.mpr (eq_i res_at (Term.int_eval (1)) rfl), trivial⟩ ⟨hq.1, hq.2.1, (hq.2.2.sift fun y hy => Or.inr (N y hy)).mono (by decide) (by decide)⟩⟩
theorem main_1_1 : Claimed_1_1 := comes_1 fun _ _ _ _ _ _ h hF => ⟨h.1, hF⟩
theorem main_1_2 : Claimed_1_2 := comes_1 fun _ _ _ _ _ _ h hF => ⟨h.2.1, hF⟩
end Jvm.Pilot.@@N@@
namespace Jvm.Pilot.@@N@@
open Jvm Jvm.ClassFile Sem Op Lib Jvm.Free Jvm.Stand Jvm.Pilot.@@N@@.Jvm.D
/-! MADE BY PROGRAM (witnessworld.py) out of the Statement's table words and the real class files: 14 classes; the members and pool entries that the words name. The judged class is class 1, her method 1. -/
namespace start1
open Jvm.ClassFile
def u (s : String) : CpInfo := .utf8 (stringToUtf16 s)
/-- a pool by its gaps: so many unusable entries, then the entry; so many at the end -/
def gap : Nat → List CpInfo → List CpInfo
  | 0, r => r
  | n + 1, r => .unusable :: gap n r
def poolList (es : List (Nat × CpInfo)) (last : Nat) : List CpInfo := es.foldr (fun e r => gap e.1 (e.2 :: r)) (gap last [])
def pool (es : List (Nat × CpInfo)) (last : Nat) : Array CpInfo := ⟨poolList es last⟩
def fileOf (pool : Array CpInfo) (this : Nat) (attrs : Array Attribute := #[]) (ms : Array MethodInfo := #[]) (fl : Nat := 33) (sup : Nat := 0) (ifs : Array Nat := #[]) (fds : Array FieldInfo := #[]) : ClassFile where
  minorVersion := 0
  majorVersion := 65
  constantPool := pool
  accessFlags := fl
  thisClass := this
  superClass := sup
  interfaces := ifs
  fields := fds
  methods := ms
  attributes := attrs
def plain (name : String) (sup : Option ClassId) : Class where
  name := name
  kind := .ordinary
  loader := none
  accessFlags := 33
  super := sup
  interfaces := #[]
  cf := none
  fields := #[]
  methods := #[]
  instanceTypes := #[]
  staticTypes := #[]
  resolved := #[]
  callSites := []
  init := .initialized
  statics := none
  mirror := none

def pool0 : Array CpInfo := pool [(5, u "<init>"), (0, u "()V"), (1, .class_ 10), (1, u "java/lang/Object")] 113

def k0c0 : Code := { maxStack := 0, maxLocals := 1, code := object_method_1_code, exceptionTable := #[], attributes := #[] }
def k0m0 : Method := { name := "<init>", desc := "()V", sig := { parameters := [], returnType := none }, accessFlags := 1, code := some k0c0 }
/-- java/lang/Object -/
def k0 : Class := { plain "java/lang/Object" none with
  accessFlags := 33
  interfaces := #[]
  cf := some (fileOf pool0 8 #[] #[{ accessFlags := 1, nameIndex := 5, descriptorIndex := 6, attributes := #[] }] 33 0 #[] #[])
  fields := #[]
  methods := #[k0m0]
  instanceTypes := #[]
  staticTypes := #[]
  resolved := Array.replicate 124 none
  statics := none }

def pool1 : Array CpInfo := pool [(2, .class_ 4), (0, .nameAndType 5 6), (0, u "java/lang/Object"), (0, u "<init>"), (0, u "()V"), (0, .class_ 8), (0, u "com/example/nymtrace/nymtrace/lookup/PackedNumbers"), (0, .methodref 7 3), (0, .methodref 7 11), (0, .nameAndType 12 13), (0, u "add"), (0, u "(J)V"), (0, .class_ 15), (0, u "com/example/nymtrace/nymtrace/lookup/PackedNumbers$Reader"), (0, .methodref 17 18), (0, .class_ 19), (0, .nameAndType 20 21), (0, u "java/util/Objects"), (0, u "requireNonNull"), (0, u "(Ljava/lang/Object;)Ljava/lang/Object;"), (0, .methodref 14 23), (0, .nameAndType 5 24), (0, u "(Lcom/example/nymtrace/nymtrace/lookup/PackedNumbers;)V"), (0, .methodref 14 26), (0, .nameAndType 27 28), (0, u "next"), (0, u "()J"), (0, .methodref 14 30), (0, .nameAndType 31 32), (0, u "hasNext"), (0, u "()Z"), (0, .class_ 34), (0, u "com/example/nymtrace/nymtrace/lookup/PackedNumbersNextPinLaw"), (2, u "law"), (0, u "(JJI)Z")] 5

def k1m0 : Method := { name := "<init>", desc := "()V", sig := { parameters := [], returnType := none }, accessFlags := 1, code := none }
def k1c1 : Code := { maxStack := 4, maxLocals := 19, code := code, exceptionTable := #[], attributes := #[] }
def k1m1 : Method := { name := "law", desc := "(JJI)Z", sig := { parameters := [.long, .long, .int], returnType := some .boolean }, accessFlags := 9, code := some k1c1 }
/-- com/example/nymtrace/nymtrace/lookup/PackedNumbersNextPinLaw -/
def k1 : Class := { plain "com/example/nymtrace/nymtrace/lookup/PackedNumbersNextPinLaw" (some 0) with
  accessFlags := 49
  interfaces := #[]
  cf := some (fileOf pool1 33 #[] #[{ accessFlags := 1, nameIndex := 5, descriptorIndex := 6, attributes := #[] }, { accessFlags := 9, nameIndex := 37, descriptorIndex := 38, attributes := #[] }] 49 2 #[] #[])
  fields := #[]
  methods := #[k1m0, k1m1]
  instanceTypes := #[]
  staticTypes := #[]
  resolved := Array.replicate 44 none
  statics := none }

def pool2 : Array CpInfo := pool [(1, .class_ 2), (0, u "com/example/nymtrace/nymtrace/lookup/PackedNumbers"), (0, .methodref 4 5), (0, .class_ 6), (0, .nameAndType 7 8), (0, u "java/lang/Object"), (0, u "<init>"), (0, u "()V"), (0, .fieldref 1 10), (0, .nameAndType 11 12), (0, u "bytes"), (0, u "[B"), (0, .long 18446744073709551488), (1, .long 127), (1, .long 128), (1, .methodref 1 20), (0, .nameAndType 21 22), (0, u "put"), (0, u "(B)V"), (4, u "add"), (0, u "(J)V"), (0, .fieldref 1 30), (0, .nameAndType 31 32), (0, u "size"), (0, u "I"), (0, .class_ 34), (0, u "com/example/nymtrace/nymtrace/lookup/PackedNumbers$Reader"), (3, .methodref 39 40), (0, .class_ 41), (0, .nameAndType 42 43), (0, u "java/util/Arrays"), (0, u "copyOf"), (0, u "([BI)[B"), (0, u "DIGIT_BITS"), (2, u "DIGIT_MASK"), (1, u "MORE")] 13

def k2c0 : Code := { maxStack := 2, maxLocals := 1, code := prog_69_method_1_code, exceptionTable := #[], attributes := #[] }
def k2m0 : Method := { name := "<init>", desc := "()V", sig := { parameters := [], returnType := none }, accessFlags := 0, code := some k2c0 }
def k2c1 : Code := { maxStack := 5, maxLocals := 5, code := prog_69_method_2_code, exceptionTable := #[], attributes := #[] }
def k2m1 : Method := { name := "add", desc := "(J)V", sig := { parameters := [.long], returnType := none }, accessFlags := 0, code := some k2c1 }
def k2c2 : Code := { maxStack := 5, maxLocals := 2, code := prog_69_method_6_code, exceptionTable := #[], attributes := #[] }
def k2m2 : Method := { name := "put", desc := "(B)V", sig := { parameters := [.byte], returnType := none }, accessFlags := 2, code := some k2c2 }
/-- com/example/nymtrace/nymtrace/lookup/PackedNumbers -/
def k2 : Class := { plain "com/example/nymtrace/nymtrace/lookup/PackedNumbers" (some 0) with
  accessFlags := 48
  interfaces := #[]
  cf := some (fileOf pool2 1 #[.nestMembers #[33]] #[{ accessFlags := 0, nameIndex := 7, descriptorIndex := 8, attributes := #[] }, { accessFlags := 0, nameIndex := 27, descriptorIndex := 28, attributes := #[] }, { accessFlags := 2, nameIndex := 21, descriptorIndex := 22, attributes := #[] }] 48 4 #[] #[{ accessFlags := 26, nameIndex := 44, descriptorIndex := 32, attributes := #[] }, { accessFlags := 26, nameIndex := 47, descriptorIndex := 32, attributes := #[] }, { accessFlags := 26, nameIndex := 49, descriptorIndex := 32, attributes := #[] }, { accessFlags := 2, nameIndex := 11, descriptorIndex := 12, attributes := #[] }, { accessFlags := 2, nameIndex := 31, descriptorIndex := 32, attributes := #[] }])
  fields := #[{ name := "DIGIT_BITS", type := .int, accessFlags := 26, slot := 0, constantValue := 0 }, { name := "DIGIT_MASK", type := .int, accessFlags := 26, slot := 1, constantValue := 0 }, { name := "MORE", type := .int, accessFlags := 26, slot := 2, constantValue := 0 }, { name := "bytes", type := (.array .byte), accessFlags := 2, slot := 0, constantValue := 0 }, { name := "size", type := .int, accessFlags := 2, slot := 1, constantValue := 0 }]
  methods := #[k2m0, k2m1, k2m2]
  instanceTypes := #[(.array .byte), .int]
  staticTypes := #[.int, .int, .int]
  resolved := Array.replicate 63 none
  statics := none }

def pool3 : Array CpInfo := pool [(1, .class_ 2), (0, u "com/example/nymtrace/nymtrace/lookup/PackedNumbers"), (0, .fieldref 4 5), (0, .class_ 6), (0, .nameAndType 7 8), (0, u "com/example/nymtrace/nymtrace/lookup/PackedNumbers$Reader"), (0, u "this$0"), (0, u "Lcom/example/nymtrace/nymtrace/lookup/PackedNumbers;"), (0, .methodref 10 11), (0, .class_ 12), (0, .nameAndType 13 14), (0, u "java/lang/Object"), (0, u "<init>"), (0, u "()V"), (0, .fieldref 4 16), (0, .nameAndType 17 18), (0, u "next"), (0, u "I"), (0, .fieldref 1 20), (0, .nameAndType 21 18), (0, u "size"), (0, .fieldref 1 23), (0, .nameAndType 24 25), (0, u "bytes"), (0, u "[B"), (2, u "()J"), (0, u "(Lcom/example/nymtrace/nymtrace/lookup/PackedNumbers;)V"), (3, u "hasNext"), (0, u "()Z")] 7

def k3c0 : Code := { maxStack := 2, maxLocals := 2, code := prog_70_method_1_code, exceptionTable := #[], attributes := #[] }
def k3m0 : Method := { name := "<init>", desc := "(Lcom/example/nymtrace/nymtrace/lookup/PackedNumbers;)V", sig := { parameters := [(.object "com/example/nymtrace/nymtrace/lookup/PackedNumbers")], returnType := none }, accessFlags := 0, code := some k3c0 }
def k3c1 : Code := { maxStack := 2, maxLocals := 1, code := prog_70_method_2_code, exceptionTable := #[], attributes := #[] }
def k3m1 : Method := { name := "hasNext", desc := "()Z", sig := { parameters := [], returnType := some .boolean }, accessFlags := 0, code := some k3c1 }
def k3c2 : Code := { maxStack := 5, maxLocals := 5, code := prog_70_method_3_code, exceptionTable := #[], attributes := #[] }
def k3m2 : Method := { name := "next", desc := "()J", sig := { parameters := [], returnType := some .long }, accessFlags := 0, code := some k3c2 }
/-- com/example/nymtrace/nymtrace/lookup/PackedNumbers$Reader -/
def k3 : Class := { plain "com/example/nymtrace/nymtrace/lookup/PackedNumbers$Reader" (some 0) with
  accessFlags := 48
  interfaces := #[]
  cf := some (fileOf pool3 4 #[.nestHost 1] #[{ accessFlags := 0, nameIndex := 13, descriptorIndex := 29, attributes := #[] }, { accessFlags := 0, nameIndex := 33, descriptorIndex := 34, attributes := #[] }, { accessFlags := 0, nameIndex := 17, descriptorIndex := 28, attributes := #[] }] 48 10 #[] #[{ accessFlags := 2, nameIndex := 17, descriptorIndex := 18, attributes := #[] }, { accessFlags := 4112, nameIndex := 7, descriptorIndex := 8, attributes := #[] }])
  fields := #[{ name := "next", type := .int, accessFlags := 2, slot := 0, constantValue := 0 }, { name := "this$0", type := (.object "com/example/nymtrace/nymtrace/lookup/PackedNumbers"), accessFlags := 4112, slot := 1, constantValue := 0 }]
  methods := #[k3m0, k3m1, k3m2]
  instanceTypes := #[.int, (.object "com/example/nymtrace/nymtrace/lookup/PackedNumbers")]
  staticTypes := #[]
  resolved := Array.replicate 42 none
  statics := none }

def pool4 : Array CpInfo := pool [(2, .class_ 4), (1, u "java/lang/Object"), (0, u "<init>"), (0, u "()V"), (35, .class_ 44), (1, u "java/util/Objects"), (0, u "requireNonNull"), (0, u "(Ljava/lang/Object;)Ljava/lang/Object;")] 137

def k4m0 : Method := { name := "<init>", desc := "()V", sig := { parameters := [], returnType := none }, accessFlags := 2, code := none }
def k4c1 : Code := { maxStack := 2, maxLocals := 1, code := jdk_31_method_10_code, exceptionTable := #[], attributes := #[] }
def k4m1 : Method := { name := "requireNonNull", desc := "(Ljava/lang/Object;)Ljava/lang/Object;", sig := { parameters := [(.object "java/lang/Object")], returnType := some (.object "java/lang/Object") }, accessFlags := 9, code := some k4c1 }
/-- java/util/Objects -/
def k4 : Class := { plain "java/util/Objects" (some 0) with
  accessFlags := 49
  interfaces := #[]
  cf := some (fileOf pool4 42 #[] #[{ accessFlags := 2, nameIndex := 5, descriptorIndex := 6, attributes := #[] }, { accessFlags := 9, nameIndex := 45, descriptorIndex := 46, attributes := #[] }] 49 2 #[] #[])
  fields := #[]
  methods := #[k4m0, k4m1]
  instanceTypes := #[]
  staticTypes := #[]
  resolved := Array.replicate 184 none
  statics := none }

def pool5 : Array CpInfo := pool [(2, .class_ 4), (1, u "java/lang/Object"), (0, u "<init>"), (0, u "()V"), (7, .class_ 16), (1, u "java/util/Arrays"), (57, .class_ 76), (1, u "java/util/Arrays$NaturalOrder"), (36, .class_ 115), (1, u "java/util/Arrays$LegacyMergeSort"), (1, u "Z"), (32, .methodref 151 152), (0, .class_ 153), (0, .nameAndType 154 155), (0, u "java/lang/System"), (0, u "arraycopy"), (0, u "(Ljava/lang/Object;ILjava/lang/Object;II)V"), (146, u "copyOf"), (1, .methodref 305 306), (0, .class_ 307), (0, .nameAndType 308 309), (0, u "java/lang/Math"), (0, u "min"), (0, u "(II)I"), (65, .class_ 376), (0, u "java/util/Arrays$ArrayList"), (68, u "$assertionsDisabled"), (269, u "MIN_ARRAY_SORT_GRAN"), (0, u "I"), (2, u "INSERTIONSORT_THRESHOLD"), (149, u "([BI)[B"), (105, .class_ 976), (0, u "java/util/Arrays$ArrayItr")] 52

def k5m0 : Method := { name := "<init>", desc := "()V", sig := { parameters := [], returnType := none }, accessFlags := 2, code := none }
def k5c1 : Code := { maxStack := 6, maxLocals := 3, code := jdk_65_method_121_code, exceptionTable := #[], attributes := #[] }
def k5m1 : Method := { name := "copyOf", desc := "([BI)[B", sig := { parameters := [(.array .byte), .int], returnType := some (.array .byte) }, accessFlags := 9, code := some k5c1 }
/-- java/util/Arrays -/
def k5 : Class := { plain "java/util/Arrays" (some 0) with
  accessFlags := 49
  interfaces := #[]
  cf := some (fileOf pool5 14 #[.nestMembers #[975, 375, 113, 74]] #[{ accessFlags := 2, nameIndex := 5, descriptorIndex := 6, attributes := #[] }, { accessFlags := 9, nameIndex := 302, descriptorIndex := 869, attributes := #[] }] 49 2 #[] #[{ accessFlags := 26, nameIndex := 715, descriptorIndex := 716, attributes := #[] }, { accessFlags := 26, nameIndex := 719, descriptorIndex := 716, attributes := #[] }, { accessFlags := 4120, nameIndex := 445, descriptorIndex := 117, attributes := #[] }])
  fields := #[{ name := "MIN_ARRAY_SORT_GRAN", type := .int, accessFlags := 26, slot := 0, constantValue := 0 }, { name := "INSERTIONSORT_THRESHOLD", type := .int, accessFlags := 26, slot := 1, constantValue := 0 }, { name := "$assertionsDisabled", type := .boolean, accessFlags := 4120, slot := 2, constantValue := 0 }]
  methods := #[k5m0, k5m1]
  instanceTypes := #[]
  staticTypes := #[.int, .int, .boolean]
  resolved := Array.replicate 1029 none
  statics := none }

def pool6 : Array CpInfo := pool [(1, .class_ 2), (0, u "java/lang/Math"), (1, .class_ 6), (1, u "java/lang/Object"), (0, u "<init>"), (0, u "()V"), (89, .class_ 100), (1, u "java/lang/Math$RandomNumberGeneratorHolder"), (71, u "negativeZeroFloatBits"), (0, u "J"), (2, u "negativeZeroDoubleBits"), (24, u "min"), (43, u "$assertionsDisabled"), (0, u "Z"), (88, u "(II)I"), (2, u "twoToTheDoubleScaleDown"), (0, u "D"), (4, u "twoToTheDoubleScaleUp"), (9, u "E"), (3, u "PI"), (2, u "TAU"), (2, u "DEGREES_TO_RADIANS"), (0, u "RADIANS_TO_DEGREES")] 94

def k6m0 : Method := { name := "<init>", desc := "()V", sig := { parameters := [], returnType := none }, accessFlags := 2, code := none }
def k6c1 : Code := { maxStack := 2, maxLocals := 2, code := jdk_29_method_69_code, exceptionTable := #[], attributes := #[] }
def k6m1 : Method := { name := "min", desc := "(II)I", sig := { parameters := [.int, .int], returnType := some .int }, accessFlags := 9, code := some k6c1 }
/-- java/lang/Math -/
def k6 : Class := { plain "java/lang/Math" (some 0) with
  accessFlags := 49
  interfaces := #[]
  cf := some (fileOf pool6 1 #[.nestMembers #[98]] #[{ accessFlags := 2, nameIndex := 7, descriptorIndex := 8, attributes := #[] }, { accessFlags := 9, nameIndex := 201, descriptorIndex := 335, attributes := #[] }] 49 4 #[] #[{ accessFlags := 25, nameIndex := 354, descriptorIndex := 339, attributes := #[] }, { accessFlags := 25, nameIndex := 358, descriptorIndex := 339, attributes := #[] }, { accessFlags := 25, nameIndex := 361, descriptorIndex := 339, attributes := #[] }, { accessFlags := 26, nameIndex := 364, descriptorIndex := 339, attributes := #[] }, { accessFlags := 26, nameIndex := 365, descriptorIndex := 339, attributes := #[] }, { accessFlags := 26, nameIndex := 172, descriptorIndex := 173, attributes := #[] }, { accessFlags := 26, nameIndex := 176, descriptorIndex := 173, attributes := #[] }, { accessFlags := 8, nameIndex := 344, descriptorIndex := 339, attributes := #[] }, { accessFlags := 8, nameIndex := 338, descriptorIndex := 339, attributes := #[] }, { accessFlags := 4120, nameIndex := 245, descriptorIndex := 246, attributes := #[] }])
  fields := #[{ name := "E", type := .double, accessFlags := 25, slot := 0, constantValue := 0 }, { name := "PI", type := .double, accessFlags := 25, slot := 1, constantValue := 0 }, { name := "TAU", type := .double, accessFlags := 25, slot := 2, constantValue := 0 }, { name := "DEGREES_TO_RADIANS", type := .double, accessFlags := 26, slot := 3, constantValue := 0 }, { name := "RADIANS_TO_DEGREES", type := .double, accessFlags := 26, slot := 4, constantValue := 0 }, { name := "negativeZeroFloatBits", type := .long, accessFlags := 26, slot := 5, constantValue := 0 }, { name := "negativeZeroDoubleBits", type := .long, accessFlags := 26, slot := 6, constantValue := 0 }, { name := "twoToTheDoubleScaleUp", type := .double, accessFlags := 8, slot := 7, constantValue := 0 }, { name := "twoToTheDoubleScaleDown", type := .double, accessFlags := 8, slot := 8, constantValue := 0 }, { name := "$assertionsDisabled", type := .boolean, accessFlags := 4120, slot := 9, constantValue := 0 }]
  methods := #[k6m0, k6m1]
  instanceTypes := #[]
  staticTypes := #[.double, .double, .double, .double, .double, .long, .long, .double, .double, .boolean]
  resolved := Array.replicate 460 none
  statics := none }

def pool7 : Array CpInfo := pool [(2, .class_ 4), (1, u "java/lang/Object"), (0, u "<init>"), (0, u "()V"), (1, .class_ 10), (1, u "java/lang/System"), (0, u "allowSecurityManager"), (0, u "I"), (16, u "cons"), (0, u "Ljava/io/Console;"), (77, .class_ 110), (1, u "java/lang/System$CallersHolder"), (43, u "initialErrStream"), (0, u "Ljava/io/PrintStream;"), (19, u "security"), (0, u "Ljava/lang/SecurityManager;"), (31, .class_ 209), (0, u "java/lang/System$1"), (7, u "props"), (0, u "Ljava/util/Properties;"), (2, u "lineSeparator"), (0, u "Ljava/lang/String;"), (96, .class_ 321), (1, u "java/lang/System$LoggerFinder"), (5, .class_ 328), (0, u "java/lang/System$Logger"), (67, u "err"), (2, u "out"), (91, u "notSupportedJnuEncoding"), (15, u "in"), (17, u "initialIn"), (0, u "Ljava/io/InputStream;"), (35, u "bootLayer"), (0, u "Ljava/lang/ModuleLayer;"), (99, .class_ 664), (0, u "java/lang/System$2"), (9, u "NEVER"), (2, u "MAYBE"), (49, u "arraycopy"), (0, u "(Ljava/lang/Object;ILjava/lang/Object;II)V"), (72, .class_ 802), (0, u "java/lang/System$Logger$Level")] 31

def k7m0 : Method := { name := "<init>", desc := "()V", sig := { parameters := [], returnType := none }, accessFlags := 2, code := none }
def k7m1 : Method := { name := "arraycopy", desc := "(Ljava/lang/Object;ILjava/lang/Object;II)V", sig := { parameters := [(.object "java/lang/Object"), .int, (.object "java/lang/Object"), .int, .int], returnType := none }, accessFlags := 265, code := none }
/-- java/lang/System -/
def k7 : Class := { plain "java/lang/System" (some 0) with
  accessFlags := 49
  interfaces := #[]
  cf := some (fileOf pool7 8 #[.nestMembers #[319, 327, 801, 108, 663, 208]] #[{ accessFlags := 2, nameIndex := 5, descriptorIndex := 6, attributes := #[] }, { accessFlags := 265, nameIndex := 727, descriptorIndex := 728, attributes := #[] }] 49 2 #[] #[{ accessFlags := 25, nameIndex := 507, descriptorIndex := 526, attributes := #[] }, { accessFlags := 25, nameIndex := 399, descriptorIndex := 155, attributes := #[] }, { accessFlags := 25, nameIndex := 396, descriptorIndex := 155, attributes := #[] }, { accessFlags := 10, nameIndex := 525, descriptorIndex := 526, attributes := #[] }, { accessFlags := 26, nameIndex := 674, descriptorIndex := 12, attributes := #[] }, { accessFlags := 26, nameIndex := 677, descriptorIndex := 12, attributes := #[] }, { accessFlags := 10, nameIndex := 11, descriptorIndex := 12, attributes := #[] }, { accessFlags := 74, nameIndex := 175, descriptorIndex := 176, attributes := #[] }, { accessFlags := 10, nameIndex := 491, descriptorIndex := 222, attributes := #[] }, { accessFlags := 74, nameIndex := 29, descriptorIndex := 30, attributes := #[] }, { accessFlags := 74, nameIndex := 154, descriptorIndex := 155, attributes := #[] }, { accessFlags := 10, nameIndex := 217, descriptorIndex := 218, attributes := #[] }, { accessFlags := 10, nameIndex := 221, descriptorIndex := 222, attributes := #[] }, { accessFlags := 8, nameIndex := 562, descriptorIndex := 563, attributes := #[] }])
  fields := #[{ name := "in", type := (.object "java/io/InputStream"), accessFlags := 25, slot := 0, constantValue := 0 }, { name := "out", type := (.object "java/io/PrintStream"), accessFlags := 25, slot := 1, constantValue := 0 }, { name := "err", type := (.object "java/io/PrintStream"), accessFlags := 25, slot := 2, constantValue := 0 }, { name := "initialIn", type := (.object "java/io/InputStream"), accessFlags := 10, slot := 3, constantValue := 0 }, { name := "NEVER", type := .int, accessFlags := 26, slot := 4, constantValue := 0 }, { name := "MAYBE", type := .int, accessFlags := 26, slot := 5, constantValue := 0 }, { name := "allowSecurityManager", type := .int, accessFlags := 10, slot := 6, constantValue := 0 }, { name := "security", type := (.object "java/lang/SecurityManager"), accessFlags := 74, slot := 7, constantValue := 0 }, { name := "notSupportedJnuEncoding", type := (.object "java/lang/String"), accessFlags := 10, slot := 8, constantValue := 0 }, { name := "cons", type := (.object "java/io/Console"), accessFlags := 74, slot := 9, constantValue := 0 }, { name := "initialErrStream", type := (.object "java/io/PrintStream"), accessFlags := 74, slot := 10, constantValue := 0 }, { name := "props", type := (.object "java/util/Properties"), accessFlags := 10, slot := 11, constantValue := 0 }, { name := "lineSeparator", type := (.object "java/lang/String"), accessFlags := 10, slot := 12, constantValue := 0 }, { name := "bootLayer", type := (.object "java/lang/ModuleLayer"), accessFlags := 8, slot := 13, constantValue := 0 }]
  methods := #[k7m0, k7m1]
  instanceTypes := #[]
  staticTypes := #[(.object "java/io/InputStream"), (.object "java/io/PrintStream"), (.object "java/io/PrintStream"), (.object "java/io/InputStream"), .int, .int, .int, (.object "java/lang/SecurityManager"), (.object "java/lang/String"), (.object "java/io/Console"), (.object "java/io/PrintStream"), (.object "java/util/Properties"), (.object "java/lang/String"), (.object "java/lang/ModuleLayer")]
  resolved := Array.replicate 834 none
  statics := none }

def pool8 : Array CpInfo := pool [(1, u "java/lang/Cloneable"), (0, .class_ 1), (0, u "java/lang/Object"), (0, .class_ 3)] 3

/-- java/lang/Cloneable -/
def k8 : Class := { plain "java/lang/Cloneable" (some 0) with
  accessFlags := 1537
  interfaces := #[]
  cf := some (fileOf pool8 2 #[] #[] 1537 4 #[] #[])
  fields := #[]
  methods := #[]
  instanceTypes := #[]
  staticTypes := #[]
  resolved := Array.replicate 8 none
  statics := none }

def pool9 : Array CpInfo := pool [(1, u "java/io/Serializable"), (0, .class_ 1), (0, u "java/lang/Object"), (0, .class_ 3)] 3

/-- java/io/Serializable -/
def k9 : Class := { plain "java/io/Serializable" (some 0) with
  accessFlags := 1537
  interfaces := #[]
  cf := some (fileOf pool9 2 #[] #[] 1537 4 #[] #[])
  fields := #[]
  methods := #[]
  instanceTypes := #[]
  staticTypes := #[]
  resolved := Array.replicate 8 none
  statics := none }

/-- the primitive byte -/
def k10 : Class := { plain "byte" none with kind := .primitive 'B', accessFlags := 0x411 }
/-- [B -/
def k11 : Class := { plain "[B" (some 0) with kind := .array 10 .byte, interfaces := #[8, 9], accessFlags := 1041 }

/-- the primitive int -/
def k12 : Class := { plain "int" none with kind := .primitive 'I', accessFlags := 0x411 }
/-- [I -/
def k13 : Class := { plain "[I" (some 0) with kind := .array 12 .int, interfaces := #[8, 9], accessFlags := 1041 }

def heap : Heap := #[]
def classes : Array Class := #[k0, k1, k2, k3, k4, k5, k6, k7, k8, k9, k10, k11, k12, k13]
def interned : List (Array UInt16 × Addr) := []
def slotsUsed : Nat := 0
def theMethod : MethodId := ⟨1, 1⟩
def args0 : Array Value := #[.long 300, .long 77777777777, .int 67]
def aboutOver (below : List Frame) : State where
  vm := { classes := classes, interned := interned.toArray }
  heap := heap
  slotsUsed := slotsUsed
  threads := #[{ frames := .invoking theMethod args0 :: below }]
def below0 : List Frame := [.native { method := ⟨0, 0⟩, args := #[] }]
def about1 : State := aboutOver below0
def p0 : Program := .bare "" "" ""
def e0 : Env := launch0.env 0 0 0
theorem w_frames : about1.frames = Frame.invoking theMethod args0 :: below0 := rfl
set_option maxRecDepth 65536 in
theorem w_args : argsFit about1.vm theMethod args0 = true := by decide +kernel
set_option maxRecDepth 65536 in
theorem w_heap : heapFits about1 = true := by decide +kernel
set_option maxRecDepth 65536 in
theorem w_runnable : about1.curStatus? = some .runnable := by decide +kernel
set_option maxRecDepth 65536 in
theorem w_alone : about1.alone = true := by decide +kernel
set_option maxRecDepth 65536 in
theorem w_named : about1.methodNamed? x = some theMethod := by decide +kernel
set_option maxRecDepth 65536 in
theorem w_hears : about1.hears theMethod below0 = true := by decide +kernel
set_option maxRecDepth 65536 in
theorem w_ripe : about1.ripe theMethod args0 below0 = true := by decide +kernel
theorem w_running : about1.status = .running := rfl
set_option maxRecDepth 65536 in
theorem w_room : about1.hasRoom e0.platform room_1 = true :=
  launch0.hasRoom_least _ room_1 (by decide +kernel) (by decide +kernel) (by decide +kernel) (by decide +kernel) (by decide +kernel) (by decide +kernel)
theorem allAtoms_all (ts : List Jvm.Cond) (a : Array Jvm.Value) (st : Jvm.State) : (allAtoms ts).before a st = ts.all (fun c => c.before a st) := by
  induction ts with
  | nil => rfl
  | cons c t ih =>
    show (Jvm.Cond.and c (allAtoms t)).before a st = _
    rw [Jvm.Cond.before_and, ih, List.all_cons]
def words1 : List Jvm.Cond := Jvm.Cond.code x code maxLocals ret :: tables_1
/-- a 'code' word, met by the world's own term for the bytes: nothing is compared byte by byte -/
theorem code_word {y : MethodName} {bytes : ByteArray} {mx : Nat} {rt : Option FieldType} {a : Array Value} {s : State} {m : MethodId} {meth : Method} {c : Code} (h1 : s.methodNamed? y = some m) (h2 : s.vm.method? m = some meth) (h3 : meth.code = some c) (h4 : c.code = bytes)
    (h5 : (c.maxLocals == mx && c.exceptionTable.isEmpty && decide (c.maxStack ≤ mostOperands) && decide (meth.sig.returnType = rt) && !meth.locks && decide (parseMethodDescriptor y.desc = some meth.sig)) = true) : (Jvm.Cond.code y bytes mx rt).before a s = true := by
  simp only [Bool.and_eq_true, beq_iff_eq, Bool.not_eq_true', decide_eq_true_eq] at h5
  obtain ⟨⟨⟨⟨⟨g1, g2⟩, g3⟩, g4⟩, g5⟩, g6⟩ := h5
  simp [Cond.before, Cond.holds, Cond.value, h1, h2, h3, h4, g1, g2, g3, g4, g5, g6]
def isCode : Jvm.Cond → Bool
  | .code _ _ _ _ => true
  | _ => false
theorem all_split {L : List Jvm.Cond} {P : Jvm.Cond → Bool} (h1 : L.all (fun c => isCode c || P c) = true) (h2 : ∀ c ∈ L.filter isCode, P c = true) : L.all P = true := by
  refine List.all_eq_true.mpr fun c hc => ?_
  have h := List.all_eq_true.mp h1 c hc
  rcases Bool.eq_false_or_eq_true (isCode c) with hi | hi
  · exact h2 c (List.mem_filter.mpr ⟨hc, hi⟩)
  · simpa [hi] using h
set_option maxRecDepth 65536 in
theorem w_c0 : (Jvm.Cond.code x code maxLocals ret).before args0 about1 = true := code_word (m := ⟨1, 1⟩) (meth := k1m1) (c := k1c1) (by decide +kernel) rfl rfl rfl (by decide +kernel)
set_option maxRecDepth 65536 in
theorem w_c1 : (Jvm.Cond.code ({ cls := "com/example/nymtrace/nymtrace/lookup/PackedNumbers", name := "<init>", desc := "()V" } : Jvm.MethodName) prog_69_method_1_code (1 : Nat) (Option.none : Option Jvm.ClassFile.FieldType)).before args0 about1 = true := code_word (m := ⟨2, 0⟩) (meth := k2m0) (c := k2c0) (by decide +kernel) rfl rfl rfl (by decide +kernel)
set_option maxRecDepth 65536 in
theorem w_c2 : (Jvm.Cond.code ({ cls := "java/lang/Object", name := "<init>", desc := "()V" } : Jvm.MethodName) object_method_1_code (1 : Nat) (Option.none : Option Jvm.ClassFile.FieldType)).before args0 about1 = true := code_word (m := ⟨0, 0⟩) (meth := k0m0) (c := k0c0) (by decide +kernel) rfl rfl rfl (by decide +kernel)
set_option maxRecDepth 65536 in
theorem w_c3 : (Jvm.Cond.code ({ cls := "com/example/nymtrace/nymtrace/lookup/PackedNumbers", name := "add", desc := "(J)V" } : Jvm.MethodName) prog_69_method_2_code (5 : Nat) (Option.none : Option Jvm.ClassFile.FieldType)).before args0 about1 = true := code_word (m := ⟨2, 1⟩) (meth := k2m1) (c := k2c1) (by decide +kernel) rfl rfl rfl (by decide +kernel)
set_option maxRecDepth 65536 in
theorem w_c4 : (Jvm.Cond.code ({ cls := "com/example/nymtrace/nymtrace/lookup/PackedNumbers", name := "put", desc := "(B)V" } : Jvm.MethodName) prog_69_method_6_code (2 : Nat) (Option.none : Option Jvm.ClassFile.FieldType)).before args0 about1 = true := code_word (m := ⟨2, 2⟩) (meth := k2m2) (c := k2c2) (by decide +kernel) rfl rfl rfl (by decide +kernel)
set_option maxRecDepth 65536 in
theorem w_c5 : (Jvm.Cond.code ({ cls := "java/util/Objects", name := "requireNonNull", desc := "(Ljava/lang/Object;)Ljava/lang/Object;" } : Jvm.MethodName) jdk_31_method_10_code (1 : Nat) (Option.some (Jvm.ClassFile.FieldType.object "java/lang/Object"))).before args0 about1 = true := code_word (m := ⟨4, 1⟩) (meth := k4m1) (c := k4c1) (by decide +kernel) rfl rfl rfl (by decide +kernel)
set_option maxRecDepth 65536 in
theorem w_c6 : (Jvm.Cond.code ({ cls := "com/example/nymtrace/nymtrace/lookup/PackedNumbers$Reader", name := "<init>", desc := "(Lcom/example/nymtrace/nymtrace/lookup/PackedNumbers;)V" } : Jvm.MethodName) prog_70_method_1_code (2 : Nat) (Option.none : Option Jvm.ClassFile.FieldType)).before args0 about1 = true := code_word (m := ⟨3, 0⟩) (meth := k3m0) (c := k3c0) (by decide +kernel) rfl rfl rfl (by decide +kernel)
set_option maxRecDepth 65536 in
theorem w_c7 : (Jvm.Cond.code ({ cls := "com/example/nymtrace/nymtrace/lookup/PackedNumbers$Reader", name := "next", desc := "()J" } : Jvm.MethodName) prog_70_method_3_code (5 : Nat) (Option.some Jvm.ClassFile.FieldType.long)).before args0 about1 = true := code_word (m := ⟨3, 2⟩) (meth := k3m2) (c := k3c2) (by decide +kernel) rfl rfl rfl (by decide +kernel)
set_option maxRecDepth 65536 in
theorem w_c8 : (Jvm.Cond.code ({ cls := "com/example/nymtrace/nymtrace/lookup/PackedNumbers$Reader", name := "hasNext", desc := "()Z" } : Jvm.MethodName) prog_70_method_2_code (1 : Nat) (Option.some Jvm.ClassFile.FieldType.boolean)).before args0 about1 = true := code_word (m := ⟨3, 1⟩) (meth := k3m1) (c := k3c1) (by decide +kernel) rfl rfl rfl (by decide +kernel)
set_option maxRecDepth 65536 in
theorem w_c9 : (Jvm.Cond.code ({ cls := "java/util/Arrays", name := "copyOf", desc := "([BI)[B" } : Jvm.MethodName) jdk_65_method_121_code (3 : Nat) (Option.some (Jvm.ClassFile.FieldType.array Jvm.ClassFile.FieldType.byte))).before args0 about1 = true := code_word (m := ⟨5, 1⟩) (meth := k5m1) (c := k5c1) (by decide +kernel) rfl rfl rfl (by decide +kernel)
set_option maxRecDepth 65536 in
theorem w_c10 : (Jvm.Cond.code ({ cls := "java/lang/Math", name := "min", desc := "(II)I" } : Jvm.MethodName) jdk_29_method_69_code (2 : Nat) (Option.some Jvm.ClassFile.FieldType.int)).before args0 about1 = true := code_word (m := ⟨6, 1⟩) (meth := k6m1) (c := k6c1) (by decide +kernel) rfl rfl rfl (by decide +kernel)
def codes1 : List Jvm.Cond := [Jvm.Cond.code x code maxLocals ret, Jvm.Cond.code ({ cls := "com/example/nymtrace/nymtrace/lookup/PackedNumbers", name := "<init>", desc := "()V" } : Jvm.MethodName) prog_69_method_1_code (1 : Nat) (Option.none : Option Jvm.ClassFile.FieldType), Jvm.Cond.code ({ cls := "java/lang/Object", name := "<init>", desc := "()V" } : Jvm.MethodName) object_method_1_code (1 : Nat) (Option.none : Option Jvm.ClassFile.FieldType), Jvm.Cond.code ({ cls := "com/example/nymtrace/nymtrace/lookup/PackedNumbers", name := "add", desc := "(J)V" } : Jvm.MethodName) prog_69_method_2_code (5 : Nat) (Option.none : Option Jvm.ClassFile.FieldType), Jvm.Cond.code ({ cls := "com/example/nymtrace/nymtrace/lookup/PackedNumbers", name := "put", desc := "(B)V" } : Jvm.MethodName) prog_69_method_6_code (2 : Nat) (Option.none : Option Jvm.ClassFile.FieldType), Jvm.Cond.code ({ cls := "java/util/Objects", name := "requireNonNull", desc := "(Ljava/lang/Object;)Ljava/lang/Object;" } : Jvm.MethodName) jdk_31_method_10_code (1 : Nat) (Option.some (Jvm.ClassFile.FieldType.object "java/lang/Object")), Jvm.Cond.code ({ cls := "com/example/nymtrace/nymtrace/lookup/PackedNumbers$Reader", name := "<init>", desc := "(Lcom/example/nymtrace/nymtrace/lookup/PackedNumbers;)V" } : Jvm.MethodName) prog_70_method_1_code (2 : Nat) (Option.none : Option Jvm.ClassFile.FieldType), Jvm.Cond.code ({ cls := "com/example/nymtrace/nymtrace/lookup/PackedNumbers$Reader", name := "next", desc := "()J" } : Jvm.MethodName) prog_70_method_3_code (5 : Nat) (Option.some Jvm.ClassFile.FieldType.long), Jvm.Cond.code ({ cls := "com/example/nymtrace/nymtrace/lookup/PackedNumbers$Reader", name := "hasNext", desc := "()Z" } : Jvm.MethodName) prog_70_method_2_code (1 : Nat) (Option.some Jvm.ClassFile.FieldType.boolean), Jvm.Cond.code ({ cls := "java/util/Arrays", name := "copyOf", desc := "([BI)[B" } : Jvm.MethodName) jdk_65_method_121_code (3 : Nat) (Option.some (Jvm.ClassFile.FieldType.array Jvm.ClassFile.FieldType.byte)), Jvm.Cond.code ({ cls := "java/lang/Math", name := "min", desc := "(II)I" } : Jvm.MethodName) jdk_29_method_69_code (2 : Nat) (Option.some Jvm.ClassFile.FieldType.int)]
set_option maxRecDepth 65536 in
theorem codes_eq : words1.filter isCode = codes1 := rfl
theorem w_codes : ∀ c ∈ words1.filter isCode, c.before args0 about1 = true := by
  rw [codes_eq]
  intro c hc
  simp only [codes1, List.mem_cons, List.not_mem_nil, or_false] at hc
  rcases hc with rfl | rfl | rfl | rfl | rfl | rfl | rfl | rfl | rfl | rfl | rfl
  · exact w_c0
  · exact w_c1
  · exact w_c2
  · exact w_c3
  · exact w_c4
  · exact w_c5
  · exact w_c6
  · exact w_c7
  · exact w_c8
  · exact w_c9
  · exact w_c10
set_option maxRecDepth 65536 in
theorem w_t1 : (words1.take 24).all (fun c => isCode c || c.before args0 about1) = true := by decide +kernel
set_option maxRecDepth 65536 in
theorem w_t2 : ((words1.drop 24).take 24).all (fun c => isCode c || c.before args0 about1) = true := by decide +kernel
set_option maxRecDepth 65536 in
theorem w_t3 : ((words1.drop 24).drop 24).all (fun c => isCode c || c.before args0 about1) = true := by decide +kernel
theorem w_tables : (allAtoms (Jvm.Cond.code x code maxLocals ret :: tables_1)).before args0 about1 = true := by
  rw [allAtoms_all]
  show words1.all (fun c => c.before args0 about1) = true
  refine all_split ?_ w_codes
  rw [← List.take_append_drop 24 words1, List.all_append, w_t1, ← List.take_append_drop 24 (words1.drop 24), List.all_append, w_t2, w_t3]
  rfl
set_option maxRecDepth 65536 in
theorem w_case : (Jvm.Cond.and given_1 narrow_1).before args0 about1 = true := by decide +kernel
theorem w_applies : (headSpec (Jvm.Cond.code x code maxLocals ret :: tables_1) room_1).applies x e0.platform about1 = true :=
  (Spec.applies_iff w_frames).mpr ⟨w_running, w_runnable, w_alone, w_named, w_hears, w_ripe, w_room, w_tables⟩
theorem atStart : AtStart classFile x code maxLocals ret World_1 tables_1 room_1 Calls_1 rest_1 Pre_1 launch0 p0 e0 about1 theMethod args0 below0 :=
  ⟨lists_1, trivial, launch0.admits_env _ _ _, launch0.least_env, fairChoices_fair.cas, fairChoices_fair.clock, w_frames, w_args, w_heap, w_applies, trivial, trivial, w_case⟩
end start1
theorem witness_1 : WitnessClaimed_1 := ⟨start1.p0, start1.e0, start1.about1, start1.theMethod, start1.args0, start1.below0, start1.atStart⟩
end Jvm.Pilot.@@N@@
