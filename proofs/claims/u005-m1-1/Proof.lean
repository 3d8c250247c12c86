import JvmDerived
import JvmDerived.Pilot.@@N@@Statement
import JvmDerived.Pilot.@@N@@Code
set_option linter.unusedVariables false
set_option linter.unusedSimpArgs false
namespace Jvm.OwnKit
open Sem ClassFile Op Lib Jvm.Stand Jvm.Free Jvm.LawKit Jvm.RoadKit
/-- from this frame the run ends, and the end is as Q says -/
def Endz (tb : Tables) (e : Env) (below : List Frame) (Q : Outcome → State → Prop) (T : State) (g : JFrame) : Prop :=
  ∃ s₂ o, Steps tb e below (T.setTop g) s₂ ∧ s₂.status = .running ∧ Ended s₂ below o ∧ Q o s₂
theorem Endz.by {tb : Tables} {e : Env} {below : List Frame} {Q : Outcome → State → Prop} {T T' : State} {g g' : JFrame} (st : ∀ t, Steps tb e below (T'.setTop g') t → Steps tb e below (T.setTop g) t) (h : Endz tb e below Q T' g') : Endz tb e below Q T g := by
  obtain ⟨s₂, o, h1, h2⟩ := h; exact ⟨s₂, o, st _ h1, h2⟩
theorem Endz.tr {tb : Tables} {e : Env} {below : List Frame} {Q : Outcome → State → Prop} {T T' : State} {g g' : JFrame} (st : Steps tb e below (T.setTop g) (T'.setTop g')) (h : Endz tb e below Q T' g') : Endz tb e below Q T g := by
  obtain ⟨s₂, o, h1, h2⟩ := h; exact ⟨s₂, o, st.trans h1, h2⟩
theorem Endz.eq {tb : Tables} {e : Env} {below : List Frame} {Q : Outcome → State → Prop} {T : State} {g g' : JFrame} (q : g = g') (h : Endz tb e below Q T g') : Endz tb e below Q T g := q ▸ h
section Plain
variable {tb : Tables} [Ours tb] {e : Env} {below : List Frame} {Q : Outcome → State → Prop} {T : State} {m : MethodId} {c : Code} {pc n n1 n2 : Nat} {Ls Ls' : Array Slot} {st : List Value}
theorem w_iloadN (h : At T m c below) (hx : tb.exec = Jvm.exec) {k : Fin 4} {v : Int32} (hd : decode c.code pc = .ok (.iload_n k, 1)) (hn : pc + 1 = n) (hl : Ls[k.val]? = some (.val (.int v))) (hr : Endz tb e below Q T (mkF m n Ls (.int v :: st))) : Endz tb e below Q T (mkF m pc Ls (st)) := by
  subst hn; exact Endz.by (fun _ k => XS.iloadN h hx rfl hd hl k) hr
theorem w_iload (h : At T m c below) (hx : tb.exec = Jvm.exec) {k : Nat} {v : Int32} (hd : decode c.code pc = .ok (.iload k, 2)) (hn : pc + 2 = n) (hl : Ls[k]? = some (.val (.int v))) (hr : Endz tb e below Q T (mkF m n Ls (.int v :: st))) : Endz tb e below Q T (mkF m pc Ls (st)) := by
  subst hn; exact Endz.by (fun _ k => XS.iload h hx rfl hd hl k) hr
theorem w_lloadN (h : At T m c below) (hx : tb.exec = Jvm.exec) {k : Fin 4} {v : Int64} (hd : decode c.code pc = .ok (.lload_n k, 1)) (hn : pc + 1 = n) (hl : Ls[k.val]? = some (.val (.long v))) (hr : Endz tb e below Q T (mkF m n Ls (.long v :: st))) : Endz tb e below Q T (mkF m pc Ls (st)) := by
  subst hn; exact Endz.by (fun _ k => XS.lloadN h hx rfl hd hl k) hr
theorem w_lload (h : At T m c below) (hx : tb.exec = Jvm.exec) {k : Nat} {v : Int64} (hd : decode c.code pc = .ok (.lload k, 2)) (hn : pc + 2 = n) (hl : Ls[k]? = some (.val (.long v))) (hr : Endz tb e below Q T (mkF m n Ls (.long v :: st))) : Endz tb e below Q T (mkF m pc Ls (st)) := by
  subst hn; exact Endz.by (fun _ k => XS.lload h hx rfl hd hl k) hr
theorem w_aloadN (h : At T m c below) (hx : tb.exec = Jvm.exec) {k : Fin 4} {v : Value} (hd : decode c.code pc = .ok (.aload_n k, 1)) (hn : pc + 1 = n) (hl : Ls[k.val]? = some (.val v)) (hv : v.isRef = true) (hr : Endz tb e below Q T (mkF m n Ls (v :: st))) : Endz tb e below Q T (mkF m pc Ls (st)) := by
  subst hn; exact Endz.by (fun _ k => XS.aloadN h hx rfl hd hl hv k) hr
theorem w_aload (h : At T m c below) (hx : tb.exec = Jvm.exec) {k : Nat} {v : Value} (hd : decode c.code pc = .ok (.aload k, 2)) (hn : pc + 2 = n) (hl : Ls[k]? = some (.val v)) (hv : v.isRef = true) (hr : Endz tb e below Q T (mkF m n Ls (v :: st))) : Endz tb e below Q T (mkF m pc Ls (st)) := by
  subst hn; exact Endz.by (fun _ k => XS.aload h hx rfl hd hl hv k) hr
theorem w_istoreN (h : At T m c below) (hx : tb.exec = Jvm.exec) {k : Fin 4} {x : Int32} (hd : decode c.code pc = .ok (.istore_n k, 1)) (hn : pc + 1 = n) (hl : storeLocals Ls k.val (.int x) = some Ls') (hr : Endz tb e below Q T (mkF m n Ls' (st))) : Endz tb e below Q T (mkF m pc Ls (.int x :: st)) := by
  subst hn; exact Endz.by (fun _ k => XS.istoreN h hx rfl hd rfl hl k) hr
theorem w_istore (h : At T m c below) (hx : tb.exec = Jvm.exec) {k : Nat} {x : Int32} (hd : decode c.code pc = .ok (.istore k, 2)) (hn : pc + 2 = n) (hl : storeLocals Ls k (.int x) = some Ls') (hr : Endz tb e below Q T (mkF m n Ls' (st))) : Endz tb e below Q T (mkF m pc Ls (.int x :: st)) := by
  subst hn; exact Endz.by (fun _ k => XS.istore h hx rfl hd rfl hl k) hr
theorem w_lstoreN (h : At T m c below) (hx : tb.exec = Jvm.exec) {k : Fin 4} {x : Int64} (hd : decode c.code pc = .ok (.lstore_n k, 1)) (hn : pc + 1 = n) (hl : storeLocals Ls k.val (.long x) = some Ls') (hr : Endz tb e below Q T (mkF m n Ls' (st))) : Endz tb e below Q T (mkF m pc Ls (.long x :: st)) := by
  subst hn; exact Endz.by (fun _ k => XS.lstoreN h hx rfl hd rfl hl k) hr
theorem w_lstore (h : At T m c below) (hx : tb.exec = Jvm.exec) {k : Nat} {x : Int64} (hd : decode c.code pc = .ok (.lstore k, 2)) (hn : pc + 2 = n) (hl : storeLocals Ls k (.long x) = some Ls') (hr : Endz tb e below Q T (mkF m n Ls' (st))) : Endz tb e below Q T (mkF m pc Ls (.long x :: st)) := by
  subst hn; exact Endz.by (fun _ k => XS.lstore h hx rfl hd rfl hl k) hr
theorem w_astoreN (h : At T m c below) (hx : tb.exec = Jvm.exec) {k : Fin 4} {x : Value} (hd : decode c.code pc = .ok (.astore_n k, 1)) (hn : pc + 1 = n) (hv : x.isRef = true) (hl : storeLocals Ls k.val x = some Ls') (hr : Endz tb e below Q T (mkF m n Ls' (st))) : Endz tb e below Q T (mkF m pc Ls (x :: st)) := by
  subst hn; exact Endz.by (fun _ k => XS.astoreN h hx rfl hd rfl hv hl k) hr
theorem w_astore (h : At T m c below) (hx : tb.exec = Jvm.exec) {k : Nat} {x : Value} (hd : decode c.code pc = .ok (.astore k, 2)) (hn : pc + 2 = n) (hv : x.isRef = true) (hl : storeLocals Ls k x = some Ls') (hr : Endz tb e below Q T (mkF m n Ls' (st))) : Endz tb e below Q T (mkF m pc Ls (x :: st)) := by
  subst hn; exact Endz.by (fun _ k => XS.astore h hx rfl hd rfl hv hl k) hr
theorem w_iinc (h : At T m c below) (hx : tb.exec = Jvm.exec) {k : Nat} {i : Int} {x : Int32} (hd : decode c.code pc = .ok (.iinc k i, 3)) (hn : pc + 3 = n) (hl : Ls[k]? = some (.val (.int x))) (hl' : storeLocals Ls k (.int (x + Int32.ofInt i)) = some Ls') (hr : Endz tb e below Q T (mkF m n Ls' (st))) : Endz tb e below Q T (mkF m pc Ls (st)) := by
  subst hn; exact Endz.by (fun _ k => XS.iinc h hx rfl hd hl hl' k) hr
theorem w_iconst (h : At T m c below) (hx : tb.exec = Jvm.exec) {i : Int} {z : Int32} (hd : decode c.code pc = .ok (.iconst i, 1)) (hn : pc + 1 = n) (hz : Int32.ofInt i = z) (hr : Endz tb e below Q T (mkF m n Ls (.int z :: st))) : Endz tb e below Q T (mkF m pc Ls (st)) := by
  subst hn; exact Endz.by (fun _ k => XS.iconst h hx rfl hd (hz ▸ k)) hr
theorem w_bipush (h : At T m c below) (hx : tb.exec = Jvm.exec) {i : Int} {z : Int32} (hd : decode c.code pc = .ok (.bipush i, 2)) (hn : pc + 2 = n) (hz : (Int8.ofInt i).toInt32 = z) (hr : Endz tb e below Q T (mkF m n Ls (.int z :: st))) : Endz tb e below Q T (mkF m pc Ls (st)) := by
  subst hn; exact Endz.by (fun _ k => XS.bipush h hx rfl hd (hz ▸ k)) hr
theorem w_sipush (h : At T m c below) (hx : tb.exec = Jvm.exec) {i : Int} {z : Int32} (hd : decode c.code pc = .ok (.sipush i, 3)) (hn : pc + 3 = n) (hz : (Int16.ofInt i).toInt32 = z) (hr : Endz tb e below Q T (mkF m n Ls (.int z :: st))) : Endz tb e below Q T (mkF m pc Ls (st)) := by
  subst hn; exact Endz.by (fun _ k => XS.sipush h hx rfl hd (hz ▸ k)) hr
theorem w_lconst (h : At T m c below) (hx : tb.exec = Jvm.exec) {i : Fin 2} {z : Int64} (hd : decode c.code pc = .ok (.lconst i, 1)) (hn : pc + 1 = n) (hz : Int64.ofNat i = z) (hr : Endz tb e below Q T (mkF m n Ls (.long z :: st))) : Endz tb e below Q T (mkF m pc Ls (st)) := by
  subst hn; exact Endz.by (fun _ k => XS.lconst h hx rfl hd (hz ▸ k)) hr
theorem w_aconstNull (h : At T m c below) (hx : tb.exec = Jvm.exec)  (hd : decode c.code pc = .ok (.aconst_null, 1)) (hn : pc + 1 = n) (hr : Endz tb e below Q T (mkF m n Ls (.null :: st))) : Endz tb e below Q T (mkF m pc Ls (st)) := by
  subst hn; exact Endz.by (fun _ k => XS.aconstNull h hx rfl hd k) hr
theorem w_iadd (h : At T m c below) (hx : tb.exec = Jvm.exec) {x y : Int32} (hd : decode c.code pc = .ok (.iadd, 1)) (hn : pc + 1 = n) (hr : Endz tb e below Q T (mkF m n Ls (.int (x + y) :: st))) : Endz tb e below Q T (mkF m pc Ls (.int y :: .int x :: st)) := by
  subst hn; exact Endz.by (fun _ k => XS.iadd h hx rfl hd rfl k) hr
theorem w_isub (h : At T m c below) (hx : tb.exec = Jvm.exec) {x y : Int32} (hd : decode c.code pc = .ok (.isub, 1)) (hn : pc + 1 = n) (hr : Endz tb e below Q T (mkF m n Ls (.int (x - y) :: st))) : Endz tb e below Q T (mkF m pc Ls (.int y :: .int x :: st)) := by
  subst hn; exact Endz.by (fun _ k => XS.isub h hx rfl hd rfl k) hr
theorem w_imul (h : At T m c below) (hx : tb.exec = Jvm.exec) {x y : Int32} (hd : decode c.code pc = .ok (.imul, 1)) (hn : pc + 1 = n) (hr : Endz tb e below Q T (mkF m n Ls (.int (x * y) :: st))) : Endz tb e below Q T (mkF m pc Ls (.int y :: .int x :: st)) := by
  subst hn; exact Endz.by (fun _ k => XS.imul h hx rfl hd rfl k) hr
theorem w_iand (h : At T m c below) (hx : tb.exec = Jvm.exec) {x y : Int32} (hd : decode c.code pc = .ok (.iand, 1)) (hn : pc + 1 = n) (hr : Endz tb e below Q T (mkF m n Ls (.int (x &&& y) :: st))) : Endz tb e below Q T (mkF m pc Ls (.int y :: .int x :: st)) := by
  subst hn; exact Endz.by (fun _ k => XS.iand h hx rfl hd rfl k) hr
theorem w_ior (h : At T m c below) (hx : tb.exec = Jvm.exec) {x y : Int32} (hd : decode c.code pc = .ok (.ior, 1)) (hn : pc + 1 = n) (hr : Endz tb e below Q T (mkF m n Ls (.int (x ||| y) :: st))) : Endz tb e below Q T (mkF m pc Ls (.int y :: .int x :: st)) := by
  subst hn; exact Endz.by (fun _ k => XS.ior h hx rfl hd rfl k) hr
theorem w_ixor (h : At T m c below) (hx : tb.exec = Jvm.exec) {x y : Int32} (hd : decode c.code pc = .ok (.ixor, 1)) (hn : pc + 1 = n) (hr : Endz tb e below Q T (mkF m n Ls (.int (x ^^^ y) :: st))) : Endz tb e below Q T (mkF m pc Ls (.int y :: .int x :: st)) := by
  subst hn; exact Endz.by (fun _ k => XS.ixor h hx rfl hd rfl k) hr
theorem w_ishl (h : At T m c below) (hx : tb.exec = Jvm.exec) {x y : Int32} (hd : decode c.code pc = .ok (.ishl, 1)) (hn : pc + 1 = n) (hr : Endz tb e below Q T (mkF m n Ls (.int (x <<< (y &&& 31)) :: st))) : Endz tb e below Q T (mkF m pc Ls (.int y :: .int x :: st)) := by
  subst hn; exact Endz.by (fun _ k => XS.ishl h hx rfl hd rfl k) hr
theorem w_ishr (h : At T m c below) (hx : tb.exec = Jvm.exec) {x y : Int32} (hd : decode c.code pc = .ok (.ishr, 1)) (hn : pc + 1 = n) (hr : Endz tb e below Q T (mkF m n Ls (.int (x >>> (y &&& 31)) :: st))) : Endz tb e below Q T (mkF m pc Ls (.int y :: .int x :: st)) := by
  subst hn; exact Endz.by (fun _ k => XS.ishr h hx rfl hd rfl k) hr
theorem w_iushr (h : At T m c below) (hx : tb.exec = Jvm.exec) {x y : Int32} (hd : decode c.code pc = .ok (.iushr, 1)) (hn : pc + 1 = n) (hr : Endz tb e below Q T (mkF m n Ls (.int ((x.toUInt32 >>> (y &&& 31).toUInt32).toInt32) :: st))) : Endz tb e below Q T (mkF m pc Ls (.int y :: .int x :: st)) := by
  subst hn; exact Endz.by (fun _ k => XS.iushr h hx rfl hd rfl k) hr
theorem w_ladd (h : At T m c below) (hx : tb.exec = Jvm.exec) {x y : Int64} (hd : decode c.code pc = .ok (.ladd, 1)) (hn : pc + 1 = n) (hr : Endz tb e below Q T (mkF m n Ls (.long (x + y) :: st))) : Endz tb e below Q T (mkF m pc Ls (.long y :: .long x :: st)) := by
  subst hn; exact Endz.by (fun _ k => XS.ladd h hx rfl hd rfl k) hr
theorem w_lsub (h : At T m c below) (hx : tb.exec = Jvm.exec) {x y : Int64} (hd : decode c.code pc = .ok (.lsub, 1)) (hn : pc + 1 = n) (hr : Endz tb e below Q T (mkF m n Ls (.long (x - y) :: st))) : Endz tb e below Q T (mkF m pc Ls (.long y :: .long x :: st)) := by
  subst hn; exact Endz.by (fun _ k => XS.lsub h hx rfl hd rfl k) hr
theorem w_lmul (h : At T m c below) (hx : tb.exec = Jvm.exec) {x y : Int64} (hd : decode c.code pc = .ok (.lmul, 1)) (hn : pc + 1 = n) (hr : Endz tb e below Q T (mkF m n Ls (.long (x * y) :: st))) : Endz tb e below Q T (mkF m pc Ls (.long y :: .long x :: st)) := by
  subst hn; exact Endz.by (fun _ k => XS.lmul h hx rfl hd rfl k) hr
theorem w_land (h : At T m c below) (hx : tb.exec = Jvm.exec) {x y : Int64} (hd : decode c.code pc = .ok (.land, 1)) (hn : pc + 1 = n) (hr : Endz tb e below Q T (mkF m n Ls (.long (x &&& y) :: st))) : Endz tb e below Q T (mkF m pc Ls (.long y :: .long x :: st)) := by
  subst hn; exact Endz.by (fun _ k => XS.land h hx rfl hd rfl k) hr
theorem w_lor (h : At T m c below) (hx : tb.exec = Jvm.exec) {x y : Int64} (hd : decode c.code pc = .ok (.lor, 1)) (hn : pc + 1 = n) (hr : Endz tb e below Q T (mkF m n Ls (.long (x ||| y) :: st))) : Endz tb e below Q T (mkF m pc Ls (.long y :: .long x :: st)) := by
  subst hn; exact Endz.by (fun _ k => XS.lor h hx rfl hd rfl k) hr
theorem w_lxor (h : At T m c below) (hx : tb.exec = Jvm.exec) {x y : Int64} (hd : decode c.code pc = .ok (.lxor, 1)) (hn : pc + 1 = n) (hr : Endz tb e below Q T (mkF m n Ls (.long (x ^^^ y) :: st))) : Endz tb e below Q T (mkF m pc Ls (.long y :: .long x :: st)) := by
  subst hn; exact Endz.by (fun _ k => XS.lxor h hx rfl hd rfl k) hr
theorem w_idiv (h : At T m c below) (hx : tb.exec = Jvm.exec) {x y : Int32} (hd : decode c.code pc = .ok (.idiv, 1)) (hn : pc + 1 = n) (hy : y ≠ 0) (hr : Endz tb e below Q T (mkF m n Ls (.int (x / y) :: st))) : Endz tb e below Q T (mkF m pc Ls (.int y :: .int x :: st)) := by
  subst hn; exact Endz.by (fun _ k => XS.idiv h hx rfl hd rfl hy k) hr
theorem w_irem (h : At T m c below) (hx : tb.exec = Jvm.exec) {x y : Int32} (hd : decode c.code pc = .ok (.irem, 1)) (hn : pc + 1 = n) (hy : y ≠ 0) (hr : Endz tb e below Q T (mkF m n Ls (.int (x % y) :: st))) : Endz tb e below Q T (mkF m pc Ls (.int y :: .int x :: st)) := by
  subst hn; exact Endz.by (fun _ k => XS.irem h hx rfl hd rfl hy (by rw [show x - x / y * y = x % y from irem_eq_mod x y]; exact k)) hr
theorem w_ldiv (h : At T m c below) (hx : tb.exec = Jvm.exec) {x y : Int64} (hd : decode c.code pc = .ok (.ldiv, 1)) (hn : pc + 1 = n) (hy : y ≠ 0) (hr : Endz tb e below Q T (mkF m n Ls (.long (x / y) :: st))) : Endz tb e below Q T (mkF m pc Ls (.long y :: .long x :: st)) := by
  subst hn; exact Endz.by (fun _ k => XS.ldiv h hx rfl hd rfl hy k) hr
theorem w_lrem (h : At T m c below) (hx : tb.exec = Jvm.exec) {x y : Int64} (hd : decode c.code pc = .ok (.lrem, 1)) (hn : pc + 1 = n) (hy : y ≠ 0) (hr : Endz tb e below Q T (mkF m n Ls (.long (x % y) :: st))) : Endz tb e below Q T (mkF m pc Ls (.long y :: .long x :: st)) := by
  subst hn; exact Endz.by (fun _ k => XS.lrem h hx rfl hd rfl hy (by rw [show x - x / y * y = x % y from lrem_mod x y]; exact k)) hr
theorem w_ineg (h : At T m c below) (hx : tb.exec = Jvm.exec) {x : Int32} (hd : decode c.code pc = .ok (.ineg, 1)) (hn : pc + 1 = n) (hr : Endz tb e below Q T (mkF m n Ls (.int (-x) :: st))) : Endz tb e below Q T (mkF m pc Ls (.int x :: st)) := by
  subst hn; exact Endz.by (fun _ k => XS.ineg h hx rfl hd rfl k) hr
theorem w_lneg (h : At T m c below) (hx : tb.exec = Jvm.exec) {x : Int64} (hd : decode c.code pc = .ok (.lneg, 1)) (hn : pc + 1 = n) (hr : Endz tb e below Q T (mkF m n Ls (.long (-x) :: st))) : Endz tb e below Q T (mkF m pc Ls (.long x :: st)) := by
  subst hn; exact Endz.by (fun _ k => XS.lneg h hx rfl hd rfl k) hr
theorem w_i2l (h : At T m c below) (hx : tb.exec = Jvm.exec) {x : Int32} (hd : decode c.code pc = .ok (.i2l, 1)) (hn : pc + 1 = n) (hr : Endz tb e below Q T (mkF m n Ls (.long x.toInt64 :: st))) : Endz tb e below Q T (mkF m pc Ls (.int x :: st)) := by
  subst hn; exact Endz.by (fun _ k => XS.i2l h hx rfl hd rfl k) hr
theorem w_l2i (h : At T m c below) (hx : tb.exec = Jvm.exec) {x : Int64} (hd : decode c.code pc = .ok (.l2i, 1)) (hn : pc + 1 = n) (hr : Endz tb e below Q T (mkF m n Ls (.int x.toInt32 :: st))) : Endz tb e below Q T (mkF m pc Ls (.long x :: st)) := by
  subst hn; exact Endz.by (fun _ k => XS.l2i h hx rfl hd rfl k) hr
theorem w_i2b (h : At T m c below) (hx : tb.exec = Jvm.exec) {x : Int32} (hd : decode c.code pc = .ok (.i2b, 1)) (hn : pc + 1 = n) (hr : Endz tb e below Q T (mkF m n Ls (.int x.toInt8.toInt32 :: st))) : Endz tb e below Q T (mkF m pc Ls (.int x :: st)) := by
  subst hn; exact Endz.by (fun _ k => XS.i2b h hx rfl hd rfl k) hr
theorem w_i2c (h : At T m c below) (hx : tb.exec = Jvm.exec) {x : Int32} (hd : decode c.code pc = .ok (.i2c, 1)) (hn : pc + 1 = n) (hr : Endz tb e below Q T (mkF m n Ls (.int x.toUInt32.toUInt16.toUInt32.toInt32 :: st))) : Endz tb e below Q T (mkF m pc Ls (.int x :: st)) := by
  subst hn; exact Endz.by (fun _ k => XS.i2c h hx rfl hd rfl k) hr
theorem w_i2s (h : At T m c below) (hx : tb.exec = Jvm.exec) {x : Int32} (hd : decode c.code pc = .ok (.i2s, 1)) (hn : pc + 1 = n) (hr : Endz tb e below Q T (mkF m n Ls (.int x.toInt16.toInt32 :: st))) : Endz tb e below Q T (mkF m pc Ls (.int x :: st)) := by
  subst hn; exact Endz.by (fun _ k => XS.i2s h hx rfl hd rfl k) hr
theorem w_lcmp (h : At T m c below) (hx : tb.exec = Jvm.exec) {x y : Int64} (hd : decode c.code pc = .ok (.lcmp, 1)) (hn : pc + 1 = n) (hr : Endz tb e below Q T (mkF m n Ls (.int (lcmpW x y) :: st))) : Endz tb e below Q T (mkF m pc Ls (.long y :: .long x :: st)) := by
  subst hn; exact Endz.by (fun _ k => XS.lcmp h hx rfl hd rfl k) hr
theorem w_dup (h : At T m c below) (hx : tb.exec = Jvm.exec) {x : Value} (hd : decode c.code pc = .ok (.dup, 1)) (hn : pc + 1 = n) (hc : x.category = 1) (hr : Endz tb e below Q T (mkF m n Ls (x :: x :: st))) : Endz tb e below Q T (mkF m pc Ls (x :: st)) := by
  subst hn; exact Endz.by (fun _ k => XS.dup h hx rfl hd rfl hc k) hr
theorem w_dupX1 (h : At T m c below) (hx : tb.exec = Jvm.exec) {x y : Value} (hd : decode c.code pc = .ok (.dup_x1, 1)) (hn : pc + 1 = n) (hc : x.category = 1) (hc' : y.category = 1) (hr : Endz tb e below Q T (mkF m n Ls (x :: y :: x :: st))) : Endz tb e below Q T (mkF m pc Ls (x :: y :: st)) := by
  subst hn; exact Endz.by (fun _ k => XS.dupX1 h hx rfl hd rfl hc hc' k) hr
theorem w_pop (h : At T m c below) (hx : tb.exec = Jvm.exec) {x : Value} (hd : decode c.code pc = .ok (.pop, 1)) (hn : pc + 1 = n) (hc : x.category = 1) (hr : Endz tb e below Q T (mkF m n Ls (st))) : Endz tb e below Q T (mkF m pc Ls (x :: st)) := by
  subst hn; exact Endz.by (fun _ k => XS.pop h hx rfl hd rfl hc k) hr
theorem w_dup2 (h : At T m c below) (hx : tb.exec = Jvm.exec) {x y : Value} (hd : decode c.code pc = .ok (.dup2, 1)) (hn : pc + 1 = n) (hc : x.category = 1) (hc' : y.category = 1) (hr : Endz tb e below Q T (mkF m n Ls (x :: y :: x :: y :: st))) : Endz tb e below Q T (mkF m pc Ls (x :: y :: st)) := by
  subst hn; exact Endz.by (fun _ k => Jvm.Free.XT.dup2 h hx rfl hd rfl hc hc' k) hr
theorem w_goto (h : At T m c below) (hx : tb.exec = Jvm.exec) {o : Int} (hd : decode c.code pc = .ok (.goto o, 3)) (ho : 0 ≤ (pc : Int) + o) (hp : ((pc : Int) + o).toNat = n) (hr : Endz tb e below Q T (mkF m n Ls (st))) : Endz tb e below Q T (mkF m pc Ls (st)) :=
  Endz.by (fun _ k => XS.goto h hx rfl rfl hd ho hp k) hr
theorem w_ifeq (h : At T m c below) (hx : tb.exec = Jvm.exec) {x : Int32} {o : Int} (hd : decode c.code pc = .ok (.ifCond .eq o, 3)) (ho : 0 ≤ (pc : Int) + o) (hp : ((pc : Int) + o).toNat = n1) (hn : pc + 3 = n2) (h1 : x = 0 → Endz tb e below Q T (mkF m n1 Ls (st))) (h2 : ¬ (x = 0) → Endz tb e below Q T (mkF m n2 Ls (st))) : Endz tb e below Q T (mkF m pc Ls (.int x :: st)) := by
  subst hn
  by_cases q : x = 0
  · exact Endz.by (fun _ k => XS.ifYes h hx rfl rfl hd rfl ((if0 _ _).trans (teq q).1) ho hp k) (h1 q)
  · exact Endz.by (fun _ k => XS.ifNo h hx rfl hd rfl ((if0 _ _).trans (feq q).1) k) (h2 q)
theorem w_ifne (h : At T m c below) (hx : tb.exec = Jvm.exec) {x : Int32} {o : Int} (hd : decode c.code pc = .ok (.ifCond .ne o, 3)) (ho : 0 ≤ (pc : Int) + o) (hp : ((pc : Int) + o).toNat = n1) (hn : pc + 3 = n2) (h1 : ¬ x = 0 → Endz tb e below Q T (mkF m n1 Ls (st))) (h2 : ¬ (¬ x = 0) → Endz tb e below Q T (mkF m n2 Ls (st))) : Endz tb e below Q T (mkF m pc Ls (.int x :: st)) := by
  subst hn
  by_cases q : ¬ x = 0
  · exact Endz.by (fun _ k => XS.ifYes h hx rfl rfl hd rfl ((if0 _ _).trans (feq q).2) ho hp k) (h1 q)
  · exact Endz.by (fun _ k => XS.ifNo h hx rfl hd rfl ((if0 _ _).trans (teq (Classical.not_not.mp q)).2) k) (h2 q)
theorem w_iflt (h : At T m c below) (hx : tb.exec = Jvm.exec) {x : Int32} {o : Int} (hd : decode c.code pc = .ok (.ifCond .lt o, 3)) (ho : 0 ≤ (pc : Int) + o) (hp : ((pc : Int) + o).toNat = n1) (hn : pc + 3 = n2) (h1 : x < 0 → Endz tb e below Q T (mkF m n1 Ls (st))) (h2 : ¬ (x < 0) → Endz tb e below Q T (mkF m n2 Ls (st))) : Endz tb e below Q T (mkF m pc Ls (.int x :: st)) := by
  subst hn
  by_cases q : x < 0
  · exact Endz.by (fun _ k => XS.ifYes h hx rfl rfl hd rfl ((if0 _ _).trans (tlt q).1) ho hp k) (h1 q)
  · exact Endz.by (fun _ k => XS.ifNo h hx rfl hd rfl ((if0 _ _).trans (flt q).1) k) (h2 q)
theorem w_ifge (h : At T m c below) (hx : tb.exec = Jvm.exec) {x : Int32} {o : Int} (hd : decode c.code pc = .ok (.ifCond .ge o, 3)) (ho : 0 ≤ (pc : Int) + o) (hp : ((pc : Int) + o).toNat = n1) (hn : pc + 3 = n2) (h1 : ¬ x < 0 → Endz tb e below Q T (mkF m n1 Ls (st))) (h2 : ¬ (¬ x < 0) → Endz tb e below Q T (mkF m n2 Ls (st))) : Endz tb e below Q T (mkF m pc Ls (.int x :: st)) := by
  subst hn
  by_cases q : ¬ x < 0
  · exact Endz.by (fun _ k => XS.ifYes h hx rfl rfl hd rfl ((if0 _ _).trans (flt q).2.1) ho hp k) (h1 q)
  · exact Endz.by (fun _ k => XS.ifNo h hx rfl hd rfl ((if0 _ _).trans (tlt (Classical.not_not.mp q)).2.1) k) (h2 q)
theorem w_ifgt (h : At T m c below) (hx : tb.exec = Jvm.exec) {x : Int32} {o : Int} (hd : decode c.code pc = .ok (.ifCond .gt o, 3)) (ho : 0 ≤ (pc : Int) + o) (hp : ((pc : Int) + o).toNat = n1) (hn : pc + 3 = n2) (h1 : 0 < x → Endz tb e below Q T (mkF m n1 Ls (st))) (h2 : ¬ (0 < x) → Endz tb e below Q T (mkF m n2 Ls (st))) : Endz tb e below Q T (mkF m pc Ls (.int x :: st)) := by
  subst hn
  by_cases q : 0 < x
  · exact Endz.by (fun _ k => XS.ifYes h hx rfl rfl hd rfl ((if0 _ _).trans (tlt q).2.2.1) ho hp k) (h1 q)
  · exact Endz.by (fun _ k => XS.ifNo h hx rfl hd rfl ((if0 _ _).trans (flt q).2.2.1) k) (h2 q)
theorem w_ifle (h : At T m c below) (hx : tb.exec = Jvm.exec) {x : Int32} {o : Int} (hd : decode c.code pc = .ok (.ifCond .le o, 3)) (ho : 0 ≤ (pc : Int) + o) (hp : ((pc : Int) + o).toNat = n1) (hn : pc + 3 = n2) (h1 : ¬ 0 < x → Endz tb e below Q T (mkF m n1 Ls (st))) (h2 : ¬ (¬ 0 < x) → Endz tb e below Q T (mkF m n2 Ls (st))) : Endz tb e below Q T (mkF m pc Ls (.int x :: st)) := by
  subst hn
  by_cases q : ¬ 0 < x
  · exact Endz.by (fun _ k => XS.ifYes h hx rfl rfl hd rfl ((if0 _ _).trans (flt q).2.2.2) ho hp k) (h1 q)
  · exact Endz.by (fun _ k => XS.ifNo h hx rfl hd rfl ((if0 _ _).trans (tlt (Classical.not_not.mp q)).2.2.2) k) (h2 q)
theorem w_icmpeq (h : At T m c below) (hx : tb.exec = Jvm.exec) {x y : Int32} {o : Int} (hd : decode c.code pc = .ok (.if_icmp .eq o, 3)) (ho : 0 ≤ (pc : Int) + o) (hp : ((pc : Int) + o).toNat = n1) (hn : pc + 3 = n2) (h1 : x = y → Endz tb e below Q T (mkF m n1 Ls (st))) (h2 : ¬ (x = y) → Endz tb e below Q T (mkF m n2 Ls (st))) : Endz tb e below Q T (mkF m pc Ls (.int y :: .int x :: st)) := by
  subst hn
  by_cases q : x = y
  · exact Endz.by (fun _ k => XS.icmpYes h hx rfl rfl hd rfl ((teq q).1) ho hp k) (h1 q)
  · exact Endz.by (fun _ k => XS.icmpNo h hx rfl hd rfl ((feq q).1) k) (h2 q)
theorem w_icmpne (h : At T m c below) (hx : tb.exec = Jvm.exec) {x y : Int32} {o : Int} (hd : decode c.code pc = .ok (.if_icmp .ne o, 3)) (ho : 0 ≤ (pc : Int) + o) (hp : ((pc : Int) + o).toNat = n1) (hn : pc + 3 = n2) (h1 : ¬ x = y → Endz tb e below Q T (mkF m n1 Ls (st))) (h2 : ¬ (¬ x = y) → Endz tb e below Q T (mkF m n2 Ls (st))) : Endz tb e below Q T (mkF m pc Ls (.int y :: .int x :: st)) := by
  subst hn
  by_cases q : ¬ x = y
  · exact Endz.by (fun _ k => XS.icmpYes h hx rfl rfl hd rfl ((feq q).2) ho hp k) (h1 q)
  · exact Endz.by (fun _ k => XS.icmpNo h hx rfl hd rfl ((teq (Classical.not_not.mp q)).2) k) (h2 q)
theorem w_icmplt (h : At T m c below) (hx : tb.exec = Jvm.exec) {x y : Int32} {o : Int} (hd : decode c.code pc = .ok (.if_icmp .lt o, 3)) (ho : 0 ≤ (pc : Int) + o) (hp : ((pc : Int) + o).toNat = n1) (hn : pc + 3 = n2) (h1 : x < y → Endz tb e below Q T (mkF m n1 Ls (st))) (h2 : ¬ (x < y) → Endz tb e below Q T (mkF m n2 Ls (st))) : Endz tb e below Q T (mkF m pc Ls (.int y :: .int x :: st)) := by
  subst hn
  by_cases q : x < y
  · exact Endz.by (fun _ k => XS.icmpYes h hx rfl rfl hd rfl ((tlt q).1) ho hp k) (h1 q)
  · exact Endz.by (fun _ k => XS.icmpNo h hx rfl hd rfl ((flt q).1) k) (h2 q)
theorem w_icmpge (h : At T m c below) (hx : tb.exec = Jvm.exec) {x y : Int32} {o : Int} (hd : decode c.code pc = .ok (.if_icmp .ge o, 3)) (ho : 0 ≤ (pc : Int) + o) (hp : ((pc : Int) + o).toNat = n1) (hn : pc + 3 = n2) (h1 : ¬ x < y → Endz tb e below Q T (mkF m n1 Ls (st))) (h2 : ¬ (¬ x < y) → Endz tb e below Q T (mkF m n2 Ls (st))) : Endz tb e below Q T (mkF m pc Ls (.int y :: .int x :: st)) := by
  subst hn
  by_cases q : ¬ x < y
  · exact Endz.by (fun _ k => XS.icmpYes h hx rfl rfl hd rfl ((flt q).2.1) ho hp k) (h1 q)
  · exact Endz.by (fun _ k => XS.icmpNo h hx rfl hd rfl ((tlt (Classical.not_not.mp q)).2.1) k) (h2 q)
theorem w_icmpgt (h : At T m c below) (hx : tb.exec = Jvm.exec) {x y : Int32} {o : Int} (hd : decode c.code pc = .ok (.if_icmp .gt o, 3)) (ho : 0 ≤ (pc : Int) + o) (hp : ((pc : Int) + o).toNat = n1) (hn : pc + 3 = n2) (h1 : y < x → Endz tb e below Q T (mkF m n1 Ls (st))) (h2 : ¬ (y < x) → Endz tb e below Q T (mkF m n2 Ls (st))) : Endz tb e below Q T (mkF m pc Ls (.int y :: .int x :: st)) := by
  subst hn
  by_cases q : y < x
  · exact Endz.by (fun _ k => XS.icmpYes h hx rfl rfl hd rfl ((tlt q).2.2.1) ho hp k) (h1 q)
  · exact Endz.by (fun _ k => XS.icmpNo h hx rfl hd rfl ((flt q).2.2.1) k) (h2 q)
theorem w_icmple (h : At T m c below) (hx : tb.exec = Jvm.exec) {x y : Int32} {o : Int} (hd : decode c.code pc = .ok (.if_icmp .le o, 3)) (ho : 0 ≤ (pc : Int) + o) (hp : ((pc : Int) + o).toNat = n1) (hn : pc + 3 = n2) (h1 : ¬ y < x → Endz tb e below Q T (mkF m n1 Ls (st))) (h2 : ¬ (¬ y < x) → Endz tb e below Q T (mkF m n2 Ls (st))) : Endz tb e below Q T (mkF m pc Ls (.int y :: .int x :: st)) := by
  subst hn
  by_cases q : ¬ y < x
  · exact Endz.by (fun _ k => XS.icmpYes h hx rfl rfl hd rfl ((flt q).2.2.2) ho hp k) (h1 q)
  · exact Endz.by (fun _ k => XS.icmpNo h hx rfl hd rfl ((tlt (Classical.not_not.mp q)).2.2.2) k) (h2 q)
theorem w_ifnull (h : At T m c below) (hx : tb.exec = Jvm.exec) {v : Value} {o : Int} (hv : v.isRef = true) (hd : decode c.code pc = .ok (.ifnull o, 3)) (ho : 0 ≤ (pc : Int) + o) (hp : ((pc : Int) + o).toNat = n1) (hn : pc + 3 = n2) (h1 : v = .null → Endz tb e below Q T (mkF m n1 Ls (st))) (h2 : v ≠ .null → Endz tb e below Q T (mkF m n2 Ls (st))) : Endz tb e below Q T (mkF m pc Ls (v :: st)) := by
  subst hn
  rcases ref_cases hv with rfl | ⟨a, rfl⟩
  · exact Endz.by (fun _ k => XS.ifnullYes h hx rfl rfl hd rfl ho hp k) (h1 rfl)
  · exact Endz.by (fun _ k => XS.ifnullNo h hx rfl hd rfl k) (h2 (by simp))
theorem w_ifnonnull (h : At T m c below) (hx : tb.exec = Jvm.exec) {v : Value} {o : Int} (hv : v.isRef = true) (hd : decode c.code pc = .ok (.ifnonnull o, 3)) (ho : 0 ≤ (pc : Int) + o) (hp : ((pc : Int) + o).toNat = n1) (hn : pc + 3 = n2) (h1 : v ≠ .null → Endz tb e below Q T (mkF m n1 Ls (st))) (h2 : v = .null → Endz tb e below Q T (mkF m n2 Ls (st))) : Endz tb e below Q T (mkF m pc Ls (v :: st)) := by
  subst hn
  rcases ref_cases hv with rfl | ⟨a, rfl⟩
  · exact Endz.by (fun _ k => XS.ifnonnullNo h hx rfl hd rfl k) (h2 rfl)
  · exact Endz.by (fun _ k => XS.ifnonnullYes h hx rfl rfl hd rfl ho hp k) (h1 (by simp))
theorem w_acmpeq (h : At T m c below) (hx : tb.exec = Jvm.exec) {x y : Value} {o : Int} (hv : x.isRef = true) (hv' : y.isRef = true) (hd : decode c.code pc = .ok (.if_acmp .eq o, 3)) (ho : 0 ≤ (pc : Int) + o) (hp : ((pc : Int) + o).toNat = n1) (hn : pc + 3 = n2) (h1 : x = y → Endz tb e below Q T (mkF m n1 Ls (st))) (h2 : ¬ x = y → Endz tb e below Q T (mkF m n2 Ls (st))) : Endz tb e below Q T (mkF m pc Ls (y :: x :: st)) := by
  subst hn
  by_cases q : x = y
  · exact Endz.by (fun _ k => Jvm.Free.XT.acmpYes h hx rfl rfl hd rfl hv hv' (by simp [Jvm.Free.XT.acmp, q]) ho hp k) (h1 q)
  · exact Endz.by (fun _ k => Jvm.Free.XT.acmpNo h hx rfl hd rfl hv hv' (by simp [Jvm.Free.XT.acmp, q]) k) (h2 q)
theorem w_acmpne (h : At T m c below) (hx : tb.exec = Jvm.exec) {x y : Value} {o : Int} (hv : x.isRef = true) (hv' : y.isRef = true) (hd : decode c.code pc = .ok (.if_acmp .ne o, 3)) (ho : 0 ≤ (pc : Int) + o) (hp : ((pc : Int) + o).toNat = n1) (hn : pc + 3 = n2) (h1 : x ≠ y → Endz tb e below Q T (mkF m n1 Ls (st))) (h2 : x = y → Endz tb e below Q T (mkF m n2 Ls (st))) : Endz tb e below Q T (mkF m pc Ls (y :: x :: st)) := by
  subst hn
  by_cases q : x = y
  · exact Endz.by (fun _ k => Jvm.Free.XT.acmpNo h hx rfl hd rfl hv hv' (by simp [Jvm.Free.XT.acmp, q]) k) (h2 q)
  · exact Endz.by (fun _ k => Jvm.Free.XT.acmpYes h hx rfl rfl hd rfl hv hv' (by simp [Jvm.Free.XT.acmp, q]) ho hp k) (h1 q)
end Plain
section Heap
theorem Ext.rfl' (h : Heap) : Ext h h := ⟨Nat.le_refl _, fun _ _ q => q⟩
theorem Ext.tr {h0 h h' : Heap} (E : Ext h0 h) (E' : Ext h h') : Ext h0 h' := ⟨Nat.le_trans E.1 E'.1, fun a c q => E'.2 a c (E.2 a c q)⟩
theorem Ext.wr {h0 h h' : Heap} {a : Addr} {sl : Nat} {v : Value} (E : Ext h0 h) (W : Wr h h' a sl v) (q : h0.size ≤ a) : Ext h0 h' := by
  obtain ⟨cell, h1, h2, h3, rfl⟩ := W
  refine ⟨by simpa using E.1, fun b c hb => ?_⟩
  have hne : b ≠ a := fun e => by subst e; exact absurd (Array.getElem?_eq_some_iff.mp hb).1 (Nat.not_lt.mpr q)
  rw [Array.getElem?_setIfInBounds_ne (Ne.symm hne)]; exact E.2 b c hb
theorem Ext.kp {h0 h : Heap} (K : Keep h0 h []) : Ext h0 h := ⟨K.1, fun a c q => K.2.1 a c q nin0⟩
theorem Arv.ex {Z : State} {h h' : Heap} {a : Addr} {k : ClassId} {ty : FieldType} {z : Int32} {vs : List Value} {d : Value} (E : Ext h h') (F : Arv Z h a k ty z vs d) : Arv Z h' a k ty z vs d := F.ext E
/-- what the run leaves -/
abbrev Finz (s : State) (rm : Room) (Qv : Option Value → Heap → List Loc → Prop) : Outcome → State → Prop := fun o U' => ∃ v L, o = .returned v ∧ Qv v U'.heap L ∧ FrameEnd s o U' L rm.cells rm.slots
/-- a body's contract at given arguments and heap -/
abbrev Con (l : Launch) (Z : State) (y : MethodName) (bytes : ByteArray) (maxL : Nat) (ret : Option FieldType) (ws : List Jvm.Cond) (rm : Room) (as : Array Value) (h0 : Heap) (Qv : Option Value → Heap → List Loc → Prop) : Prop :=
  MetFree l y (head1 (Jvm.Cond.code y bytes maxL ret :: ws) rm) (fun a U => a = as ∧ Z.Warmed39 U.vm ∧ U.heap = h0) (fun _ _ _ _ _ => True) (fun _ U o U' => ∃ v L, o = .returned v ∧ Qv v U'.heap L ∧ FrameEnd U o U' L rm.cells rm.slots)
theorem con_of {l : Launch} {Z : State} {y : MethodName} {bytes : ByteArray} {maxL : Nat} {ret : Option FieldType} {ws : List Jvm.Cond} {rm : Room} {as : Array Value} {h0 : Heap} {Qv : Option Value → Heap → List Loc → Prop} (hn : plainFor y = true)
    (body : ∀ (p : Program) (e : Env) (s : State) (m : MethodId) (below : List Frame) (meth : Method) (c : Code) (T : State), Stand p l e rm s m as below meth c T [] 0 0 → p.tables.exec = Jvm.exec → Z.Warmed39 s.vm → c.code = bytes → c.maxLocals = maxL → s.vm.findClass y.cls = some m.cls → meth.sig.returnType = ret → meth.name = y.name → meth.locks = false → T.heap = h0 → Endz p.tables e below (Finz s rm Qv) T (entryFrame m as maxL)) :
    Con l Z y bytes maxL ret ws rm as h0 Qv := by
  refine MetFree.of_bodySF hn hisR ?_
  intro p e s m args below meth c s₁ Bd hml0 hP hK
  obtain ⟨rfl, hZ, hh⟩ := hP
  have X0 : Stand p l e rm s m args below meth c s₁ [] 0 0 := Stand.of_body Bd
  exact body p e s m below meth c s₁ X0 Bd.exec hZ Bd.bytes hml0 (findClass_of_methodNamed Bd.named) Bd.returns (name_of_methodNamed Bd.named Bd.method).1 Bd.notSynchronized (by rw [← hh, Bd.state]; rfl)
variable {p : Program} {l : Launch} {e : Env} {R : Room} {s : State} {m : MethodId} {args : Array Value} {below : List Frame} {meth : Method} {c : Code} {T : State} {locs : List Loc} {cells slots : Nat} {Z : State} {a0 : Array Value} {h : Heap} {pc n : Nat} {Ls : Array Slot} {st : List Value} {rm : Room} {Qv : Option Value → Heap → List Loc → Prop}
/-! the ends -/
theorem fin_of (X : Stand p l e R s m args below meth c T locs cells slots) (hlk : meth.locks = false) (eT : T.heap = h) {v : Option Value} {g : JFrame} (hv : meth.sig.returnType = none → v = none) (hc : cells ≤ rm.cells) (hs : slots ≤ rm.slots) (hQ : Qv v h locs)
    (hstep : ∀ fs, (∀ (f : JFrame) (acts : List Action), f.method = m → f.locked = none → f.entered = [] → (doReturn e (T.setTop f) acts v).1 = T.setFrames fs) → Steps p.tables e below (T.setTop g) (T.setFrames fs)) : Endz p.tables e below (Finz s rm Qv) T g := by
  obtain ⟨fs, hr, hrun, hended, hW, hsame⟩ := X.leave (v := v) hv hlk
  have hQ' : Qv v (T.setFrames fs).heap locs := by show Qv v T.heap locs; rw [eT]; exact hQ
  exact ⟨_, _, hstep fs hr, hrun, hended, v, locs, rfl, hQ', ⟨_, rfl⟩, hW, hsame.mono hc hs⟩
theorem fin_Z (X : Stand p l e R s m args below meth c T locs cells slots) (hx : p.tables.exec = Jvm.exec) (hlk : meth.locks = false) (eT : T.heap = h) {t : FieldType} {z : Int32} (hret : meth.sig.returnType = some t) (ht : t = .boolean ∨ t = .byte ∨ t = .char ∨ t = .short) (hd : decode c.code pc = .ok (.ireturn, 1)) (hc : cells ≤ rm.cells) (hs : slots ≤ rm.slots) (hQ : Qv (some (.int (nar t z))) h locs) :
    Endz p.tables e below (Finz s rm Qv) T (mkF m pc Ls (.int z :: st)) :=
  fin_of X hlk eT (fun q => by rw [hret] at q; cases q) hc hs hQ fun fs hl => retN X hx hret ht hd hl
theorem fin_I (X : Stand p l e R s m args below meth c T locs cells slots) (hx : p.tables.exec = Jvm.exec) (hlk : meth.locks = false) (eT : T.heap = h) {z : Int32} (hret : meth.sig.returnType = some .int) (hd : decode c.code pc = .ok (.ireturn, 1)) (hc : cells ≤ rm.cells) (hs : slots ≤ rm.slots) (hQ : Qv (some (.int z)) h locs) :
    Endz p.tables e below (Finz s rm Qv) T (mkF m pc Ls (.int z :: st)) :=
  fin_of X hlk eT (fun q => by rw [hret] at q; cases q) hc hs hQ fun fs hl => retOut X hx hret rfl (Or.inl ⟨rfl, Or.inl rfl, _, rfl⟩) hd hl
theorem fin_J (X : Stand p l e R s m args below meth c T locs cells slots) (hx : p.tables.exec = Jvm.exec) (hlk : meth.locks = false) (eT : T.heap = h) {z : Int64} (hret : meth.sig.returnType = some .long) (hd : decode c.code pc = .ok (.lreturn, 1)) (hc : cells ≤ rm.cells) (hs : slots ≤ rm.slots) (hQ : Qv (some (.long z)) h locs) :
    Endz p.tables e below (Finz s rm Qv) T (mkF m pc Ls (.long z :: st)) :=
  fin_of X hlk eT (fun q => by rw [hret] at q; cases q) hc hs hQ fun fs hl => retOut X hx hret rfl (Or.inr (Or.inl ⟨rfl, rfl, _, rfl⟩)) hd hl
theorem fin_A (X : Stand p l e R s m args below meth c T locs cells slots) (hx : p.tables.exec = Jvm.exec) (hlk : meth.locks = false) (eT : T.heap = h) {w : Value} {t : FieldType} (hret : meth.sig.returnType = some t) (hn : narrow t w = w) (ht : t.isReference = true) (hw : w.isRef = true) (hd : decode c.code pc = .ok (.areturn, 1)) (hc : cells ≤ rm.cells) (hs : slots ≤ rm.slots) (hQ : Qv (some w) h locs) :
    Endz p.tables e below (Finz s rm Qv) T (mkF m pc Ls (w :: st)) :=
  fin_of X hlk eT (fun q => by rw [hret] at q; cases q) hc hs hQ fun fs hl => retOut X hx hret hn (Or.inr (Or.inr (Or.inr (Or.inr ⟨rfl, ht, hw⟩)))) hd hl
theorem fin_V (X : Stand p l e R s m args below meth c T locs cells slots) (hx : p.tables.exec = Jvm.exec) (hlk : meth.locks = false) (eT : T.heap = h) (hret : meth.sig.returnType = none) (hd : decode c.code pc = .ok (.return_, 1)) (hc : cells ≤ rm.cells) (hs : slots ≤ rm.slots) (hQ : Qv none h locs) :
    Endz p.tables e below (Finz s rm Qv) T (mkF m pc Ls []) :=
  fin_of X hlk eT (fun _ => rfl) hc hs hQ fun fs hl => X.returnOut hx hret hd hl
variable {Q : Outcome → State → Prop}
/-! fields and statics: what comes behind is asked of every such state -/
theorem g_F (X : Stand p l e R s m args below meth c T locs cells slots) (hx : p.tables.exec = Jvm.exec) (hZ : Z.Warmed39 s.vm) {own O nm d : String} {idx : Nat} (hown : s.vm.findClass own = some m.cls) (w : (Jvm.Cond.fieldLink own idx O nm d).before a0 Z = true) (eT : T.heap = h) {a : Addr} {v : Value} (F : Fld Z h a O nm d v) (hd : decode c.code pc = .ok (.getfield idx, 3)) (hn : pc + 3 = n)
    (hr : ∀ T', Stand p l e R s m args below meth c T' locs cells slots → T'.heap = h → Endz p.tables e below Q T' (mkF m n Ls (v :: st))) : Endz p.tables e below Q T (mkF m pc Ls (.ref a :: st)) := by
  subst hn
  obtain ⟨T', X', e', st'⟩ := getF X hx hZ hown (host := "") (Or.inl w) Via.refl eT F (g := mkF m pc Ls (.ref a :: st)) rfl rfl hd
  exact Endz.by st' (hr T' X' e')
theorem g_FV (X : Stand p l e R s m args below meth c T locs cells slots) (hx : p.tables.exec = Jvm.exec) (hZ : Z.Warmed39 s.vm) {own R0 O nm d : String} {idx : Nat} (hown : s.vm.findClass own = some m.cls) (w : (Jvm.Cond.fieldLink own idx R0 nm d).before a0 Z = true) (via : Via Z R0 O nm d) (eT : T.heap = h) {a : Addr} {v : Value} (F : Fld Z h a O nm d v) (hd : decode c.code pc = .ok (.getfield idx, 3)) (hn : pc + 3 = n)
    (hr : ∀ T', Stand p l e R s m args below meth c T' locs cells slots → T'.heap = h → Endz p.tables e below Q T' (mkF m n Ls (v :: st))) : Endz p.tables e below Q T (mkF m pc Ls (.ref a :: st)) := by
  subst hn
  obtain ⟨T', X', e', st'⟩ := getF X hx hZ hown (host := "") (Or.inl w) via eT F (g := mkF m pc Ls (.ref a :: st)) rfl rfl hd
  exact Endz.by st' (hr T' X' e')
theorem g_S (X : Stand p l e R s m args below meth c T locs cells slots) (hx : p.tables.exec = Jvm.exec) (hZ : Z.Warmed39 s.vm) {own O nm d : String} {idx : Nat} (hown : s.vm.findClass own = some m.cls) (w : (Jvm.Cond.fieldLink own idx O nm d).before a0 Z = true) (eT : T.heap = h) {v : Value} (F : Sta Z h O nm d v) (hd : decode c.code pc = .ok (.getstatic idx, 3)) (hn : pc + 3 = n)
    (hr : ∀ T', Stand p l e R s m args below meth c T' locs cells slots → T'.heap = h → Endz p.tables e below Q T' (mkF m n Ls (v :: st))) : Endz p.tables e below Q T (mkF m pc Ls st) := by
  subst hn
  obtain ⟨T', X', e', st'⟩ := getS2 X hx hZ hown (host := "") (Or.inl w) Via.refl eT F (g := mkF m pc Ls st) rfl hd
  exact Endz.by st' (hr T' X' e')
theorem p_F (X : Stand p l e R s m args below meth c T locs cells slots) (hx : p.tables.exec = Jvm.exec) (hZ : Z.Warmed39 s.vm) {own O nm d C : String} {idx kk : Nat} {ty : FieldType} (hown : s.vm.findClass own = some m.cls) (w : (Jvm.Cond.fieldLink own idx O nm d).before a0 Z = true) (eT : T.heap = h) {a : Addr} {v old : Value} (F : Fld Z h a O nm d old) (A : Exa Z h a C)
    (L : (Jvm.Cond.lays C O nm d).before a0 Z = true ∨ ((Jvm.Cond.laysFinal C O nm d).before a0 Z = true ∧ own = O ∧ meth.name = "<init>")) (wi : (Jvm.Cond.instantiable C kk).before a0 Z = true) (hty : parseFieldDescriptor d = some ty) (hna : narrow ty v = v) (hf : fits ty v = true) (hd : decode c.code pc = .ok (.putfield idx, 3)) (hn : pc + 3 = n)
    (hr : ∀ T' h', Stand p l e R s m args below meth c T' (locs ++ [⟨a, Jvm.RoadKit.slotOf Z O nm d⟩]) cells slots → T'.heap = h' → Wr h h' a (Jvm.RoadKit.slotOf Z O nm d) v → Endz p.tables e below Q T' (mkF m n Ls st)) : Endz p.tables e below Q T (mkF m pc Ls (v :: .ref a :: st)) := by
  subst hn
  obtain ⟨T', h', X', e', W', st'⟩ := putF X hx hZ hown (host := "") (Or.inl w) Via.refl eT F A L wi hty hna hf (g := mkF m pc Ls (v :: .ref a :: st)) rfl rfl hd
  exact Endz.by st' (hr T' h' X' e' W')
/-- putfield of a boolean, byte, char or short: what lies there is the narrowed int -/
theorem p_FN (X : Stand p l e R s m args below meth c T locs cells slots) (hx : p.tables.exec = Jvm.exec) (hZ : Z.Warmed39 s.vm) {own O nm d C : String} {idx kk : Nat} {ty : FieldType} (hown : s.vm.findClass own = some m.cls) (w : (Jvm.Cond.fieldLink own idx O nm d).before a0 Z = true) (eT : T.heap = h) {a : Addr} {v v' old : Value} (F : Fld Z h a O nm d old) (A : Exa Z h a C)
    (L : (Jvm.Cond.lays C O nm d).before a0 Z = true ∨ ((Jvm.Cond.laysFinal C O nm d).before a0 Z = true ∧ own = O ∧ meth.name = "<init>")) (wi : (Jvm.Cond.instantiable C kk).before a0 Z = true) (hty : parseFieldDescriptor d = some ty) (hna : narrow ty v = v') (hf : fits ty v' = true) (hd : decode c.code pc = .ok (.putfield idx, 3)) (hn : pc + 3 = n)
    (hr : ∀ T' h', Stand p l e R s m args below meth c T' (locs ++ [⟨a, Jvm.RoadKit.slotOf Z O nm d⟩]) cells slots → T'.heap = h' → Wr h h' a (Jvm.RoadKit.slotOf Z O nm d) v' → Endz p.tables e below Q T' (mkF m n Ls st)) : Endz p.tables e below Q T (mkF m pc Ls (v :: .ref a :: st)) := by
  subst hn
  obtain ⟨T', h', X', e', W', st'⟩ := putFN X hx hZ hown w Via.refl eT F A L wi hty hna hf (g := mkF m pc Ls (v :: .ref a :: st)) rfl rfl hd
  exact Endz.by st' (hr T' h' X' e' W')
/-! constants of the pool -/
theorem k_I (X : Stand p l e R s m args below meth c T locs cells slots) (hx : p.tables.exec = Jvm.exec) (hZ : Z.Warmed39 s.vm) {own : String} {idx : Nat} {v : Int32} (hown : s.vm.findClass own = some m.cls) (w : (Jvm.Cond.constant own idx v).before a0 Z = true) (hd : decode c.code pc = .ok (.ldc idx, 2)) (hn : pc + 2 = n) (hr : Endz p.tables e below Q T (mkF m n Ls (.int v :: st))) : Endz p.tables e below Q T (mkF m pc Ls st) := by
  subst hn
  exact Endz.by (X.ldcInt hx hown (mvT hZ w) (g := mkF m pc Ls st) rfl hd) hr
theorem k_J (X : Stand p l e R s m args below meth c T locs cells slots) (hx : p.tables.exec = Jvm.exec) (hZ : Z.Warmed39 s.vm) {own : String} {idx : Nat} {v : Int64} (hown : s.vm.findClass own = some m.cls) (w : (Jvm.Cond.constantLong own idx v).before a0 Z = true) (hd : decode c.code pc = .ok (.ldc2_w idx, 3)) (hn : pc + 3 = n) (hr : Endz p.tables e below Q T (mkF m n Ls (.long v :: st))) : Endz p.tables e below Q T (mkF m pc Ls st) := by
  subst hn
  exact Endz.by (X.ldc2Long hx hown (mvT hZ w) (g := mkF m pc Ls st) rfl hd) hr
/-! objects and arrays made -/
theorem n_O (X : Stand p l e R s m args below meth c T locs cells slots) (hx : p.tables.exec = Jvm.exec) (hZ : Z.Warmed39 s.vm) {own C : String} {idx k : Nat} (hown : s.vm.findClass own = some m.cls) (w : (Jvm.Cond.classLink own idx C).before a0 Z = true) (wi : (Jvm.Cond.instantiable C k).before a0 Z = true) (wz : (Jvm.Cond.initialized C).before a0 Z = true) (eT : T.heap = h) (hd : decode c.code pc = .ok (.new idx, 3)) (hn : pc + 3 = n) (hc : cells + 1 ≤ R.cells) (hl : slots + k ≤ R.slots)
    (hr : ∀ T' h' b, b = h.size → Stand p l e R s m args below meth c T' locs (cells + 1) (slots + k) → T'.heap = h' → Ext h h' → Exa Z h' b C → (∀ {O nm d : String} {ty : FieldType}, Laid Z a0 C O nm d → parseFieldDescriptor d = some ty → Fld Z h' b O nm d (defaultValue ty)) → (∃ cell : Cell, h'[b]? = some cell ∧ cell.vm = .none ∧ cell.monitor = {}) → Endz p.tables e below Q T' (mkF m n Ls (.ref b :: st))) : Endz p.tables e below Q T (mkF m pc Ls st) := by
  subst hn
  obtain ⟨T', h', X', e', E', A', D', U', st'⟩ := newO X hx hZ hown w wi wz eT (g := mkF m pc Ls st) rfl hd hc hl
  exact Endz.by st' (hr T' h' _ rfl X' e' E' A' D' U')
theorem n_P (X : Stand p l e R s m args below meth c T locs cells slots) (hx : p.tables.exec = Jvm.exec) (hZ : Z.Warmed39 s.vm) {aty : ArrayType} (w : (Jvm.Cond.arrayClass (newarray.typeOf aty)).before a0 Z = true) (eT : T.heap = h) {z : Int32} (hd : decode c.code pc = .ok (.newarray aty, 2)) (hn : pc + 2 = n) (hz : ¬ z < 0) (cap : Nat) (hcap : z.toNatClampNeg ≤ cap) (hb : cap * 8 ≤ 536870912) (hc : cells + 1 ≤ R.cells) (hl : slots + cap ≤ R.slots)
    (hr : ∀ T' h' k b, b = h.size → Stand p l e R s m args below meth c T' locs (cells + 1) (slots + cap) → T'.heap = h' → Ext h h' → Arv Z h' b k (newarray.typeOf aty) z [] (defaultValue (newarray.typeOf aty)) → Endz p.tables e below Q T' (mkF m n Ls (.ref b :: st))) : Endz p.tables e below Q T (mkF m pc Ls (.int z :: st)) := by
  subst hn
  obtain ⟨T', h', k, X', e', E', A', st'⟩ := newP X hx hZ w eT (g := mkF m pc Ls (.int z :: st)) rfl hd rfl hz (cap := cap) hcap hb hc hl
  exact Endz.by st' (hr T' h' k _ rfl X' e' E' (Arv.new A' hz))
theorem n_R (X : Stand p l e R s m args below meth c T locs cells slots) (hx : p.tables.exec = Jvm.exec) (hZ : Z.Warmed39 s.vm) {own C : String} {idx : Nat} (hown : s.vm.findClass own = some m.cls) (w1 : (Jvm.Cond.classLink own idx C).before a0 Z = true) (w2 : (Jvm.Cond.arrayOver (.object C)).before a0 Z = true) (eT : T.heap = h) {z : Int32} (hd : decode c.code pc = .ok (.anewarray idx, 3)) (hn : pc + 3 = n) (hz : ¬ z < 0) (cap : Nat) (hcap : z.toNatClampNeg ≤ cap) (hb : cap * 8 ≤ 536870912) (hc : cells + 1 ≤ R.cells) (hl : slots + cap ≤ R.slots)
    (hr : ∀ T' h' k b, b = h.size → Stand p l e R s m args below meth c T' locs (cells + 1) (slots + cap) → T'.heap = h' → Ext h h' → Arv Z h' b k (.object C) z [] .null → Ovr Z k C → Endz p.tables e below Q T' (mkF m n Ls (.ref b :: st))) : Endz p.tables e below Q T (mkF m pc Ls (.int z :: st)) := by
  subst hn
  obtain ⟨T', h', k, X', e', E', A', O', st'⟩ := newR X hx hZ hown w1 w2 eT (g := mkF m pc Ls (.int z :: st)) rfl hd rfl hz (cap := cap) hcap hb hc hl
  exact Endz.by st' (hr T' h' k _ rfl X' e' E' (Arv.new A' hz) O')
/-! stores into arrays: the place is j, the i-th of the list -/
theorem pad0 {h : Heap} {a : Addr} {k : ClassId} {ty : FieldType} {z : Int32} {d : Value} (V : Arv Z h a k ty z [] d) (i : Nat) : Arv Z h a k ty z (List.replicate i d) d := V.pad (pad_rep [] d i)
theorem s_R (X : Stand p l e R s m args below meth c T locs cells slots) (hx : p.tables.exec = Jvm.exec) (hZ : Z.Warmed39 s.vm) (eT : T.heap = h) {b : Addr} {k : ClassId} {C : String} {z j : Int32} {vs : List Value} {y : Addr} (V : Arv Z h b k (.object C) z vs .null) (O : Ovr Z k C) (I : Ins Z h y C true) (i : Nat) (hj : j.toNatClampNeg = i) (hi : i < vs.length) (hj0 : ¬ j < 0) (hjz : j < z) (hd : decode c.code pc = .ok (.aastore, 1)) (hn : pc + 1 = n)
    (hr : ∀ T' h', Stand p l e R s m args below meth c T' (locs ++ [⟨b, j.toNatClampNeg⟩]) cells slots → T'.heap = h' → Wr h h' b j.toNatClampNeg (.ref y) → Arv Z h' b k (.object C) z (vs.set i (.ref y)) .null → Endz p.tables e below Q T' (mkF m n Ls st)) : Endz p.tables e below Q T (mkF m pc Ls (.ref y :: .int j :: .ref b :: st)) := by
  subst hn
  obtain ⟨cl, A, q1, S, N, H, G⟩ := V
  obtain ⟨T', h', X', e', W', st'⟩ := stR X hx hZ eT A (j := j) (inb_of S ⟨hj0, hjz⟩) rfl (Sto.ofV A q1 O I) (g := mkF m pc Ls (.ref y :: .int j :: .ref b :: st)) rfl rfl hd
  exact Endz.by st' (hr T' h' X' e' W' (Arv.set A q1 S N H G rfl W' i hj hi))
theorem s_I (X : Stand p l e R s m args below meth c T locs cells slots) (hx : p.tables.exec = Jvm.exec) (hZ : Z.Warmed39 s.vm) (eT : T.heap = h) {b : Addr} {k : ClassId} {z j x : Int32} {vs : List Value} {dv : Value} (V : Arv Z h b k .int z vs dv) (i : Nat) (hj : j.toNatClampNeg = i) (hi : i < vs.length) (hj0 : ¬ j < 0) (hjz : j < z) (hd : decode c.code pc = .ok (.iastore, 1)) (hn : pc + 1 = n)
    (hr : ∀ T' h', Stand p l e R s m args below meth c T' (locs ++ [⟨b, j.toNatClampNeg⟩]) cells slots → T'.heap = h' → Wr h h' b j.toNatClampNeg (.int x) → Arv Z h' b k .int z (vs.set i (.int x)) dv → Endz p.tables e below Q T' (mkF m n Ls st)) : Endz p.tables e below Q T (mkF m pc Ls (.int x :: .int j :: .ref b :: st)) := by
  subst hn
  obtain ⟨cl, A, q1, S, N, H, G⟩ := V
  obtain ⟨T', h', X', e', W', st'⟩ := stI X hx hZ eT A (j := j) (inb_of S ⟨hj0, hjz⟩) (g := mkF m pc Ls (.int x :: .int j :: .ref b :: st)) rfl rfl hd
  exact Endz.by st' (hr T' h' X' e' W' (Arv.set A q1 S N H G rfl W' i hj hi))
theorem s_B (X : Stand p l e R s m args below meth c T locs cells slots) (hx : p.tables.exec = Jvm.exec) (hZ : Z.Warmed39 s.vm) (eT : T.heap = h) {b : Addr} {k : ClassId} {z j x : Int32} {vs : List Value} {dv : Value} (V : Arv Z h b k .byte z vs dv) (i : Nat) (hj : j.toNatClampNeg = i) (hi : i < vs.length) (hj0 : ¬ j < 0) (hjz : j < z) (hd : decode c.code pc = .ok (.bastore, 1)) (hn : pc + 1 = n)
    (hr : ∀ T' h', Stand p l e R s m args below meth c T' (locs ++ [⟨b, j.toNatClampNeg⟩]) cells slots → T'.heap = h' → Wr h h' b j.toNatClampNeg (.int (nar .byte x)) → Arv Z h' b k .byte z (vs.set i (.int (nar .byte x))) dv → Endz p.tables e below Q T' (mkF m n Ls st)) : Endz p.tables e below Q T (mkF m pc Ls (.int x :: .int j :: .ref b :: st)) := by
  subst hn
  obtain ⟨cl, A, q1, S, N, H, G⟩ := V
  obtain ⟨T', h', X', e', W', st'⟩ := stB X hx hZ eT A (j := j) (inb_of S ⟨hj0, hjz⟩) (g := mkF m pc Ls (.int x :: .int j :: .ref b :: st)) rfl rfl hd
  exact Endz.by st' (hr T' h' X' e' W' (Arv.set A q1 S N H G (fits_nar_byte _) W' i hj hi))
theorem s_Z (X : Stand p l e R s m args below meth c T locs cells slots) (hx : p.tables.exec = Jvm.exec) (hZ : Z.Warmed39 s.vm) (eT : T.heap = h) {b : Addr} {k : ClassId} {z j x : Int32} {vs : List Value} {dv : Value} (V : Arv Z h b k .boolean z vs dv) (i : Nat) (hj : j.toNatClampNeg = i) (hi : i < vs.length) (hj0 : ¬ j < 0) (hjz : j < z) (hd : decode c.code pc = .ok (.bastore, 1)) (hn : pc + 1 = n)
    (hr : ∀ T' h', Stand p l e R s m args below meth c T' (locs ++ [⟨b, j.toNatClampNeg⟩]) cells slots → T'.heap = h' → Wr h h' b j.toNatClampNeg (.int (nar .boolean x)) → Arv Z h' b k .boolean z (vs.set i (.int (nar .boolean x))) dv → Endz p.tables e below Q T' (mkF m n Ls st)) : Endz p.tables e below Q T (mkF m pc Ls (.int x :: .int j :: .ref b :: st)) := by
  subst hn
  obtain ⟨cl, A, q1, S, N, H, G⟩ := V
  obtain ⟨T', h', X', e', W', st'⟩ := stZ X hx hZ eT A (j := j) (inb_of S ⟨hj0, hjz⟩) (g := mkF m pc Ls (.int x :: .int j :: .ref b :: st)) rfl rfl hd
  exact Endz.by st' (hr T' h' X' e' W' (Arv.set A q1 S N H G (fits_nar_bool _) W' i hj hi))
theorem s_C (X : Stand p l e R s m args below meth c T locs cells slots) (hx : p.tables.exec = Jvm.exec) (hZ : Z.Warmed39 s.vm) (eT : T.heap = h) {b : Addr} {k : ClassId} {z j x : Int32} {vs : List Value} {dv : Value} (V : Arv Z h b k .char z vs dv) (i : Nat) (hj : j.toNatClampNeg = i) (hi : i < vs.length) (hj0 : ¬ j < 0) (hjz : j < z) (hd : decode c.code pc = .ok (.castore, 1)) (hn : pc + 1 = n)
    (hr : ∀ T' h', Stand p l e R s m args below meth c T' (locs ++ [⟨b, j.toNatClampNeg⟩]) cells slots → T'.heap = h' → Wr h h' b j.toNatClampNeg (.int (nar .char x)) → Arv Z h' b k .char z (vs.set i (.int (nar .char x))) dv → Endz p.tables e below Q T' (mkF m n Ls st)) : Endz p.tables e below Q T (mkF m pc Ls (.int x :: .int j :: .ref b :: st)) := by
  subst hn
  obtain ⟨cl, A, q1, S, N, H, G⟩ := V
  obtain ⟨T', h', X', e', W', st'⟩ := stC X hx hZ eT A (j := j) (inb_of S ⟨hj0, hjz⟩) (g := mkF m pc Ls (.int x :: .int j :: .ref b :: st)) rfl rfl hd
  exact Endz.by st' (hr T' h' X' e' W' (Arv.set A q1 S N H G (fits_nar_char _) W' i hj hi))
/-! reads of arrays -/
theorem Arv.at {h : Heap} {b : Addr} {k : ClassId} {ty : FieldType} {z j : Int32} {vs : List Value} {dv v : Value} (V : Arv Z h b k ty z vs dv) (hj0 : ¬ j < 0) (hjz : j < z) (hv : vs.getD j.toNatClampNeg dv = v) : ∃ cl, Arr Z h b cl ty ∧ ¬ (j < 0 ∨ cl.slots.size ≤ j.toNatClampNeg) ∧ cl.slots[j.toNatClampNeg]? = some v := by
  obtain ⟨cl, A, q1, S, N, H, G⟩ := V
  exact ⟨cl, A, inb_of S ⟨hj0, hjz⟩, H.at (inb_of S ⟨hj0, hjz⟩) hv⟩
theorem l_I (X : Stand p l e R s m args below meth c T locs cells slots) (hx : p.tables.exec = Jvm.exec) (hZ : Z.Warmed39 s.vm) (eT : T.heap = h) {b : Addr} {k : ClassId} {z j : Int32} {vs : List Value} {dv v : Value} (V : Arv Z h b k .int z vs dv) (hj0 : ¬ j < 0) (hjz : j < z) (hv : vs.getD j.toNatClampNeg dv = v) (hd : decode c.code pc = .ok (.iaload, 1)) (hn : pc + 1 = n) (hr : Endz p.tables e below Q T (mkF m n Ls (v :: st))) : Endz p.tables e below Q T (mkF m pc Ls (.int j :: .ref b :: st)) := by
  subst hn
  obtain ⟨cl, A, hin, hat⟩ := Arv.at V hj0 hjz hv
  exact Endz.by (fun _ q => X.iaload hx (j := j) (v := v) (by rw [eT]; exact A.1) (State.isArrayOf_alike hZ.alike A.2.1) A.2.2 hin hat (g := mkF m pc Ls (.int j :: .ref b :: st)) rfl rfl hd _ q) hr
theorem l_B (X : Stand p l e R s m args below meth c T locs cells slots) (hx : p.tables.exec = Jvm.exec) (hZ : Z.Warmed39 s.vm) (eT : T.heap = h) {b : Addr} {k : ClassId} {z j : Int32} {vs : List Value} {dv v : Value} (V : Arv Z h b k .byte z vs dv) (hj0 : ¬ j < 0) (hjz : j < z) (hv : vs.getD j.toNatClampNeg dv = v) (hd : decode c.code pc = .ok (.baload, 1)) (hn : pc + 1 = n) (hr : Endz p.tables e below Q T (mkF m n Ls (v :: st))) : Endz p.tables e below Q T (mkF m pc Ls (.int j :: .ref b :: st)) := by
  subst hn
  obtain ⟨cl, A, hin, hat⟩ := Arv.at V hj0 hjz hv
  exact Endz.by (fun _ q => X.baloadBytes hx (j := j) (v := v) (by rw [eT]; exact A.1) (State.isArrayOf_alike hZ.alike A.2.1) A.2.2 hin hat (g := mkF m pc Ls (.int j :: .ref b :: st)) rfl rfl hd _ q) hr
theorem l_Z (X : Stand p l e R s m args below meth c T locs cells slots) (hx : p.tables.exec = Jvm.exec) (hZ : Z.Warmed39 s.vm) (eT : T.heap = h) {b : Addr} {k : ClassId} {z j : Int32} {vs : List Value} {dv v : Value} (V : Arv Z h b k .boolean z vs dv) (hj0 : ¬ j < 0) (hjz : j < z) (hv : vs.getD j.toNatClampNeg dv = v) (hd : decode c.code pc = .ok (.baload, 1)) (hn : pc + 1 = n) (hr : Endz p.tables e below Q T (mkF m n Ls (v :: st))) : Endz p.tables e below Q T (mkF m pc Ls (.int j :: .ref b :: st)) := by
  subst hn
  obtain ⟨cl, A, hin, hat⟩ := Arv.at V hj0 hjz hv
  exact Endz.by (fun _ q => X.baloadBooleans hx (j := j) (v := v) (by rw [eT]; exact A.1) (State.isArrayOf_alike hZ.alike A.2.1) A.2.2 hin hat (g := mkF m pc Ls (.int j :: .ref b :: st)) rfl rfl hd _ q) hr
theorem l_C (X : Stand p l e R s m args below meth c T locs cells slots) (hx : p.tables.exec = Jvm.exec) (hZ : Z.Warmed39 s.vm) (eT : T.heap = h) {b : Addr} {k : ClassId} {z j : Int32} {vs : List Value} {dv v : Value} (V : Arv Z h b k .char z vs dv) (hj0 : ¬ j < 0) (hjz : j < z) (hv : vs.getD j.toNatClampNeg dv = v) (hd : decode c.code pc = .ok (.caload, 1)) (hn : pc + 1 = n) (hr : Endz p.tables e below Q T (mkF m n Ls (v :: st))) : Endz p.tables e below Q T (mkF m pc Ls (.int j :: .ref b :: st)) := by
  subst hn
  obtain ⟨cl, A, hin, hat⟩ := Arv.at V hj0 hjz hv
  exact Endz.by (fun _ q => X.caload hx (j := j) (v := v) (by rw [eT]; exact A.1) (State.isArrayOf_alike hZ.alike A.2.1) A.2.2 hin hat (g := mkF m pc Ls (.int j :: .ref b :: st)) rfl rfl hd _ q) hr
theorem l_A (X : Stand p l e R s m args below meth c T locs cells slots) (hx : p.tables.exec = Jvm.exec) (hZ : Z.Warmed39 s.vm) (eT : T.heap = h) {b : Addr} {k : ClassId} {z j : Int32} {vs : List Value} {dv v : Value} {ty : FieldType} (V : Arv Z h b k ty z vs dv) (hty : ty.isReference = true) (hj0 : ¬ j < 0) (hjz : j < z) (hv : vs.getD j.toNatClampNeg dv = v) (hd : decode c.code pc = .ok (.aaload, 1)) (hn : pc + 1 = n) (hr : Endz p.tables e below Q T (mkF m n Ls (v :: st))) : Endz p.tables e below Q T (mkF m pc Ls (.int j :: .ref b :: st)) := by
  subst hn
  obtain ⟨cl, A, hin, hat⟩ := Arv.at V hj0 hjz hv
  exact Endz.by (fun _ q => X.aaload hx (j := j) (v := v) (by rw [eT]; exact A.1) (State.isArrayOf_alike hZ.alike A.2.1) hty A.2.2 hin hat (g := mkF m pc Ls (.int j :: .ref b :: st)) rfl rfl hd _ q) hr
theorem l_J (X : Stand p l e R s m args below meth c T locs cells slots) (hx : p.tables.exec = Jvm.exec) (hZ : Z.Warmed39 s.vm) (eT : T.heap = h) {b : Addr} {k : ClassId} {z j : Int32} {vs : List Value} {dv v : Value} (V : Arv Z h b k .long z vs dv) (hj0 : ¬ j < 0) (hjz : j < z) (hv : vs.getD j.toNatClampNeg dv = v) (hd : decode c.code pc = .ok (.laload, 1)) (hn : pc + 1 = n) (hr : Endz p.tables e below Q T (mkF m n Ls (v :: st))) : Endz p.tables e below Q T (mkF m pc Ls (.int j :: .ref b :: st)) := by
  subst hn
  obtain ⟨cl, A, hin, hat⟩ := Arv.at V hj0 hjz hv
  exact Endz.by (fun _ q => X.laload hx (j := j) (v := v) (by rw [eT]; exact A.1) (State.isArrayOf_alike hZ.alike A.2.1) A.2.2 hin hat (g := mkF m pc Ls (.int j :: .ref b :: st)) rfl rfl hd _ q) hr
theorem a_L (X : Stand p l e R s m args below meth c T locs cells slots) (hx : p.tables.exec = Jvm.exec) (hZ : Z.Warmed39 s.vm) (eT : T.heap = h) {b : Addr} {k : ClassId} {ty : FieldType} {z : Int32} {vs : List Value} {dv : Value} (V : Arv Z h b k ty z vs dv) (hd : decode c.code pc = .ok (.arraylength, 1)) (hn : pc + 1 = n) (hr : Endz p.tables e below Q T (mkF m n Ls (.int z :: st))) : Endz p.tables e below Q T (mkF m pc Ls (.ref b :: st)) := by
  subst hn
  obtain ⟨cl, A, q1, S, N, H, G⟩ := V
  exact Endz.by (fun _ q => X.arraylength hx (by rw [eT]; exact A.1) (State.isArrayOf_alike hZ.alike A.2.1) (g := mkF m pc Ls (.ref b :: st)) rfl rfl hd _ (by rw [len_of S N]; exact q)) hr
/-! calls -/
theorem c_S (X : Stand p l e R s m args below meth c T locs cells slots) (hx : p.tables.exec = Jvm.exec) (hZ : Z.Warmed39 s.vm) {own : String} {idx : Nat} {y : MethodName} {bytes : ByteArray} {maxL : Nat} {ret : Option FieldType} {argsL rest stk : List Value} {ps : List FieldType} {r : Option FieldType} (hown : s.vm.findClass own = some m.cls) (hM : Con l Z y bytes maxL ret [] rm argsL.toArray h Qv) (eT : T.heap = h)
    (w1 : (Jvm.Cond.methodLink own idx y).before a0 Z = true) (w2 : (Jvm.Cond.static y).before a0 Z = true) (w3 : (Jvm.Cond.initialized y.cls).before a0 Z = true) (w4 : (Jvm.Cond.code y bytes maxL ret).before a0 Z = true) (hy : y.cls ≠ "java/lang/invoke/MethodHandle" ∧ y.cls ≠ "java/lang/invoke/VarHandle")
    (W : Nat) (hf : rm.frames + 1 ≤ R.frames) (hl : W + (maxL + 11) + rm.locals ≤ R.locals) (hcl : cells + rm.cells ≤ R.cells) (hsl : slots + rm.slots ≤ R.slots) (hml : Ls.size = c.maxLocals) (hpd : parseMethodDescriptor y.desc = some ⟨ps, r⟩) (hlen : argsL.length = ps.length) (hstk : stk = argsL.reverse ++ rest) (hW : 2 * 0 + (rest.map fun v => v.category).sum ≤ W) (hd : decode c.code pc = .ok (.invokestatic idx, 3)) (hn : pc + 3 = n)
    (hr : ∀ v T' L, Stand p l e R s m args below meth c T' (locs ++ L) (cells + rm.cells) (slots + rm.slots) → Qv v T'.heap L → Endz p.tables e below Q T' (mkF m n Ls (v.toList ++ rest))) : Endz p.tables e below Q T (mkF m pc Ls stk) := by
  subst hn hstk
  obtain ⟨v, _, ⟨T', L', k', n'⟩, -, X', ⟨L, hQ, l1, y1, z1⟩, st'⟩ := Jvm.LawKit.callS X hx (y := y) hown (mvT hZ w1) (mvT hZ w2) (mvT hZ w3) (mvT hZ w4) hy (backOf (W := W) hM hZ w4 w3 hf hl) (g := mkF m pc Ls (argsL.reverse ++ rest)) rfl hml (argsL := argsL) (rest := rest) (lenOf hpd hlen) rfl hW hd (fun _ _ => ⟨rfl, eT, hcl, hsl⟩)
  dsimp only [Pt.U, Pt.locs, Pt.cells, Pt.slots] at X' l1 y1 z1 st' hQ
  subst l1 y1 z1
  exact Endz.by st' (hr v T' L X' hQ)
theorem c_N (X : Stand p l e R s m args below meth c T locs cells slots) (hx : p.tables.exec = Jvm.exec) (hZ : Z.Warmed39 s.vm) {own : String} {idx : Nat} {y : MethodName} {bytes : ByteArray} {maxL : Nat} {b : Addr} {argsL rest stk : List Value} {ps : List FieldType} {r : Option FieldType} (hy1 : y.name = "<init>") (hown : s.vm.findClass own = some m.cls) (hM : Con l Z y bytes maxL none [] rm (.ref b :: argsL).toArray h Qv) (eT : T.heap = h)
    (w1 : (Jvm.Cond.methodLink own idx y).before a0 Z = true) (w2 : (Jvm.Cond.instanceMethod y).before a0 Z = true) (w3 : (Jvm.Cond.initialized y.cls).before a0 Z = true) (w4 : (Jvm.Cond.code y bytes maxL none).before a0 Z = true) (hy : y.cls ≠ "java/lang/invoke/MethodHandle" ∧ y.cls ≠ "java/lang/invoke/VarHandle")
    (W : Nat) (hf : rm.frames + 1 ≤ R.frames) (hl : W + (maxL + 11) + rm.locals ≤ R.locals) (hcl : cells + rm.cells ≤ R.cells) (hsl : slots + rm.slots ≤ R.slots) (hml : Ls.size = c.maxLocals) (hpd : parseMethodDescriptor y.desc = some ⟨ps, r⟩) (hlen : argsL.length = ps.length) (hstk : stk = argsL.reverse ++ .ref b :: rest) (hW : 2 * 0 + (rest.map fun v => v.category).sum ≤ W) (hd : decode c.code pc = .ok (.invokespecial idx, 3)) (hn : pc + 3 = n)
    (hr : ∀ v T' L, Stand p l e R s m args below meth c T' (locs ++ L) (cells + rm.cells) (slots + rm.slots) → Qv v T'.heap L → Endz p.tables e below Q T' (mkF m n Ls (v.toList ++ rest))) : Endz p.tables e below Q T (mkF m pc Ls stk) := by
  subst hn hstk
  obtain ⟨v, _, ⟨T', L', k', n'⟩, -, X', ⟨L, hQ, l1, y1, z1⟩, st'⟩ := X.specialBack hx (y := y) hy1 hown (mvT hZ w1) (mvT hZ w2) (mvT hZ w4) hy (backOf (W := W) hM hZ w4 w3 hf hl) (g := mkF m pc Ls (argsL.reverse ++ .ref b :: rest)) rfl hml (Steps.refl _) (a := b) (argsL := argsL) (rest := rest) (lenOf hpd hlen) rfl hW hd (fun _ _ => ⟨rfl, eT, hcl, hsl⟩)
  dsimp only [Pt.U, Pt.locs, Pt.cells, Pt.slots] at X' l1 y1 z1 st' hQ
  subst l1 y1 z1
  exact Endz.tr st' (hr v T' L X' hQ)
theorem c_V (X : Stand p l e R s m args below meth c T locs cells slots) (hx : p.tables.exec = Jvm.exec) (hZ : Z.Warmed39 s.vm) {own C : String} {idx : Nat} {y z : MethodName} {bytes : ByteArray} {maxL : Nat} {ret : Option FieldType} {b : Addr} {argsL rest stk : List Value} {ps : List FieldType} {r : Option FieldType} (hown : s.vm.findClass own = some m.cls) (hM : Con l Z z bytes maxL ret [] rm (.ref b :: argsL).toArray h Qv) (eT : T.heap = h) (A : Exa Z h b C)
    (w1 : (Jvm.Cond.methodLink own idx y).before a0 Z = true) (w2 : (Jvm.Cond.declares y).before a0 Z = true) (hnf : NotFace s y) (w5 : (Jvm.Cond.selects C y z).before a0 Z = true) (w6 : (Jvm.Cond.instanceMethod z).before a0 Z = true) (w3 : (Jvm.Cond.initialized z.cls).before a0 Z = true) (w4 : (Jvm.Cond.code z bytes maxL ret).before a0 Z = true) (hy : y.cls ≠ "java/lang/invoke/MethodHandle" ∧ y.cls ≠ "java/lang/invoke/VarHandle")
    (W : Nat) (hf : rm.frames + 1 ≤ R.frames) (hl : W + (maxL + 11) + rm.locals ≤ R.locals) (hcl : cells + rm.cells ≤ R.cells) (hsl : slots + rm.slots ≤ R.slots) (hml : Ls.size = c.maxLocals) (hpd : parseMethodDescriptor y.desc = some ⟨ps, r⟩) (hlen : argsL.length = ps.length) (hstk : stk = argsL.reverse ++ .ref b :: rest) (hW : 2 * 0 + (rest.map fun v => v.category).sum ≤ W) (hd : decode c.code pc = .ok (.invokevirtual idx, 3)) (hn : pc + 3 = n)
    (hr : ∀ v T' L, Stand p l e R s m args below meth c T' (locs ++ L) (cells + rm.cells) (slots + rm.slots) → Qv v T'.heap L → Endz p.tables e below Q T' (mkF m n Ls (v.toList ++ rest))) : Endz p.tables e below Q T (mkF m pc Ls stk) := by
  subst hn hstk
  obtain ⟨cq, kq, qa, qb, qc⟩ := isOf hZ eT A
  obtain ⟨v, _, ⟨T', L', k', n'⟩, -, X', ⟨L, hQ, l1, y1, z1⟩, st'⟩ := X.virtualBack hx (y := y) (z := z) hown (mvT hZ w1) (mvT hZ w2) hnf (mvT hZ w5) (mvT hZ w6) hy (backOf (W := W) hM hZ w4 w3 hf hl) qa qc (g := mkF m pc Ls (argsL.reverse ++ .ref b :: rest)) rfl hml (Steps.refl _) (argsL := argsL) (rest := rest) (lenOf hpd hlen) rfl hW hd (fun _ _ => ⟨rfl, eT, hcl, hsl⟩)
  dsimp only [Pt.U, Pt.locs, Pt.cells, Pt.slots] at X' l1 y1 z1 st' hQ
  subst l1 y1 z1
  exact Endz.tr st' (hr v T' L X' hQ)
/-- Object.<init> -/
theorem c_O (X : Stand p l e R s m args below meth c T locs cells slots) (hx : p.tables.exec = Jvm.exec) (hZ : Z.Warmed39 s.vm) {own : String} {idx : Nat} {b : Addr} (hown : s.vm.findClass own = some m.cls) (w1 : (Jvm.Cond.methodLink own idx Lib.objectInit).before a0 Z = true) (w2 : (Jvm.Cond.instanceMethod Lib.objectInit).before a0 Z = true) (w3 : (Jvm.Cond.code Lib.objectInit ⟨#[0xb1]⟩ 1 none).before a0 Z = true) (eT : T.heap = h) (hml : Ls.size = c.maxLocals) (hd : decode c.code pc = .ok (.invokespecial idx, 3)) (hn : pc + 3 = n)
    (W : Nat) (hf : 1 ≤ R.frames) (hW : 2 * 0 + (st.map fun v => v.category).sum ≤ W) (hl : W + 12 ≤ R.locals) (hr : ∀ T', Stand p l e R s m args below meth c T' locs cells slots → T'.heap = h → Endz p.tables e below Q T' (mkF m n Ls st)) : Endz p.tables e below Q T (mkF m pc Ls (.ref b :: st)) := by
  subst hn
  obtain ⟨T', X', e', st'⟩ := initO X hx hZ hown w1 w2 w3 eT (g := mkF m pc Ls (.ref b :: st)) rfl hml rfl hd hf (W := W) hW hl
  exact Endz.by st' (hr T' X' e')
/-- the clone of an array -/
theorem c_C (X : Stand p l e R s m args below meth c T locs cells slots) (hx : p.tables.exec = Jvm.exec) (hZ : Z.Warmed39 s.vm) {own ad : String} {idx : Nat} (hown : s.vm.findClass own = some m.cls)
    (w1 : (Jvm.Cond.methodLink own idx ⟨ad, "clone", "()Ljava/lang/Object;"⟩).before a0 Z = true) (w2 : (Jvm.Cond.sameMethod ad "java/lang/Object" "clone" "()Ljava/lang/Object;").before a0 Z = true) (w3 : (Jvm.Cond.native ⟨"java/lang/Object", "clone", "()Ljava/lang/Object;"⟩).before a0 Z = true)
    (w4 : (Jvm.Cond.instanceMethod ⟨"java/lang/Object", "clone", "()Ljava/lang/Object;"⟩).before a0 Z = true) (w5 : (Jvm.Cond.selects ad ⟨ad, "clone", "()Ljava/lang/Object;"⟩ ⟨"java/lang/Object", "clone", "()Ljava/lang/Object;"⟩).before a0 Z = true) (w6 : (Jvm.Cond.castable ad "java/lang/Cloneable").before a0 Z = true)
    (eT : T.heap = h) {a : Addr} {k : ClassId} {ty : FieldType} {z : Int32} {vs : List Value} {dv : Value} (F : Arv Z h a k ty z vs dv) (A : Exa Z h a ad) (hml : Ls.size = c.maxLocals) (hd : decode c.code pc = .ok (.invokevirtual idx, 3)) (hn : pc + 3 = n)
    (W cap : Nat) (hf : 1 ≤ R.frames) (hW : 2 * 0 + (st.map fun v => v.category).sum ≤ W) (hl : W + 14 ≤ R.locals) (hcap : z.toNatClampNeg ≤ cap) (hc : cells + 1 ≤ R.cells) (hsl : slots + cap ≤ R.slots)
    (hr : ∀ T' h' b, b = h.size → Stand p l e R s m args below meth c T' locs (cells + 1) (slots + cap) → T'.heap = h' → Ext h h' → Arv Z h' b k ty z vs dv → Exa Z h' b ad → Endz p.tables e below Q T' (mkF m n Ls (.ref b :: st))) : Endz p.tables e below Q T (mkF m pc Ls (.ref a :: st)) := by
  subst hn
  obtain ⟨T', h', X', e', E', V', A', st'⟩ := cloneH X hx hZ hown w1 w2 w3 w4 w5 w6 eT F.arh A (g := mkF m pc Ls (.ref a :: st)) rfl hml rfl hd hf (W := W) (cap := cap) hW hl hcap hc hsl
  exact Endz.by st' (hr T' h' _ rfl X' e' E' V' A')
theorem k_C (X : Stand p l e R s m args below meth c T locs cells slots) (hx : p.tables.exec = Jvm.exec) (hZ : Z.Warmed39 s.vm) {own K : String} {idx : Nat} (hown : s.vm.findClass own = some m.cls) (w : (Jvm.Cond.classLink own idx K).before a0 Z = true) (eT : T.heap = h) {a : Addr} (F : Ins Z h a K true) (hd : decode c.code pc = .ok (.checkcast idx, 3)) (hn : pc + 3 = n)
    (hr : ∀ T', Stand p l e R s m args below meth c T' locs cells slots → T'.heap = h → Endz p.tables e below Q T' (mkF m n Ls (.ref a :: st))) : Endz p.tables e below Q T (mkF m pc Ls (.ref a :: st)) := by
  subst hn
  obtain ⟨T', X', e', st'⟩ := castY X hx hZ hown w eT F (g := mkF m pc Ls (.ref a :: st)) rfl rfl hd
  exact Endz.by st' (hr T' X' e')
theorem i_Y (X : Stand p l e R s m args below meth c T locs cells slots) (hx : p.tables.exec = Jvm.exec) (hZ : Z.Warmed39 s.vm) {own K : String} {idx : Nat} (hown : s.vm.findClass own = some m.cls) (w : (Jvm.Cond.classLink own idx K).before a0 Z = true) (eT : T.heap = h) {a : Addr} (F : Ins Z h a K true) (hd : decode c.code pc = .ok (.instanceof idx, 3)) (hn : pc + 3 = n)
    (hr : ∀ T', Stand p l e R s m args below meth c T' locs cells slots → T'.heap = h → Endz p.tables e below Q T' (mkF m n Ls (.int 1 :: st))) : Endz p.tables e below Q T (mkF m pc Ls (.ref a :: st)) := by
  subst hn
  obtain ⟨T', X', e', st'⟩ := instY X hx hZ hown w eT F (g := mkF m pc Ls (.ref a :: st)) rfl rfl hd
  exact Endz.by st' (hr T' X' e')
theorem Ext.keep1 {h0 h h' : Heap} {b : Addr} (E : Ext h0 h) (K : Keep h h' [b]) (q : h0.size ≤ b) : Ext h0 h' := ⟨Nat.le_trans E.1 K.1, fun a c z => K.2.1 a c (E.2 a c z) (ninS (fun e => by subst e; exact absurd (Array.getElem?_eq_some_iff.mp z).1 (Nat.not_lt.mpr q)) nin0)⟩
/-- System.arraycopy -/
theorem c_Y (X : Stand p l e R s m args below meth c T locs cells slots) (hx : p.tables.exec = Jvm.exec) (hZ : Z.Warmed39 s.vm) {own : String} {idx : Nat} (hown : s.vm.findClass own = some m.cls)
    (w1 : (Jvm.Cond.methodLink own idx Jvm.Stand.acN).before a0 Z = true) (w2 : (Jvm.Cond.native Jvm.Stand.acN).before a0 Z = true) (w3 : (Jvm.Cond.static Jvm.Stand.acN).before a0 Z = true) (w4 : (Jvm.Cond.initialized "java/lang/System").before a0 Z = true) (eT : T.heap = h)
    {a b : Addr} {k k' : ClassId} {ty : FieldType} {z z' sp dp nn : Int32} {vs vd us : List Value} {dv dd : Value} (A : Arv Z h a k ty z vs dv) (B : Arv Z h b k' ty z' vd dd) (hty : refKind ty = false)
    (h1 : ¬ sp < 0) (h2 : ¬ dp < 0) (h3 : ¬ nn < 0) (h4 : sp.toNatClampNeg + nn.toNatClampNeg ≤ z.toNatClampNeg) (h5 : dp.toNatClampNeg + nn.toNatClampNeg ≤ z'.toNatClampNeg)
    (hus : us = (List.range nn.toNatClampNeg).map fun i => vs.getD (sp.toNatClampNeg + i) dv) (hl : dp.toNatClampNeg + nn.toNatClampNeg ≤ vd.length) {n0 : Nat} (N : Fr n0 locs) (ge : n0 ≤ b) (hml : Ls.size = c.maxLocals) (hd : decode c.code pc = .ok (.invokestatic idx, 3)) (hn : pc + 3 = n)
    (W : Nat) (hf : 1 ≤ R.frames) (hW : 2 * 0 + (st.map fun v => v.category).sum ≤ W) (hlo : W + (nativeFrameWords "java/lang/System" "arraycopy" 5 + 11) ≤ R.locals)
    (hr : ∀ T' h' L, Stand p l e R s m args below meth c T' L cells slots → T'.heap = h' → Fr n0 L → Keep h h' [b] → Arv Z h' b k' ty z' (vd.take dp.toNatClampNeg ++ us ++ vd.drop (dp.toNatClampNeg + nn.toNatClampNeg)) dd → Endz p.tables e below Q T' (mkF m n Ls st)) : Endz p.tables e below Q T (mkF m pc Ls (.int nn :: .int dp :: .ref b :: .int sp :: .ref a :: st)) := by
  subst hn
  obtain ⟨T', h', L, X', e', N', K', V', st'⟩ := cpA X hx hZ hown w1 w2 w3 w4 eT A B (Or.inl ⟨rfl, hty⟩) h1 h2 h3 h4 h5 hus hl N ge (g := mkF m pc Ls (.int nn :: .int dp :: .ref b :: .int sp :: .ref a :: st)) rfl hml rfl hd hf (W := W) hW hlo
  exact Endz.by st' (hr T' h' L X' e' N' K' V')
end Heap
section Start
variable {args : Array Value} {s : State}
/-- a static that the case says to be exactly of a class -/
theorem sta_v {C nm d K : String} (h : (Jvm.Cond.exactly (.static C nm d) K).value args s none s [] = some true) (wi : (Jvm.Cond.initialized C).before args s = true) (wl : (Jvm.Cond.laysStatic C nm d).before args s = true) : ∃ a, (Term.static C nm d).eval args s none [] s = some (.ref a) ∧ Exa s s.heap a K ∧ Sta s s.heap C nm d (.ref a) := by
  obtain ⟨a, ev⟩ := exa_v h
  exact ⟨a, ev, Exa.start ev h, Sta.start ev (Or.inr ⟨wi, wl⟩)⟩
/-- a field of it that the case says to be an int -/
theorem fldi_v {t : Term} {a : Addr} {C nm d : String} {k : Int32} (ev : t.eval args s none [] s = some (.ref a)) (h : (Jvm.Cond.eq (.field t C nm d) (.int k)).value args s none s [] = some true) : Fld s s.heap a C nm d (.int k) := by
  obtain ⟨x, y, e1, e2, k1, k2⟩ := cmp_v (Or.inl h)
  have hy : y = .int k := by have := (Term.int_eval (args := args) (first := s) (o := none) (idx := []) (s := s) k).symm.trans e2; exact (Option.some.inj this).symm
  subst hy
  obtain ⟨z, rfl⟩ := k2
  have := gotT (Cond.eq_ints e1 e2) h
  subst this
  exact Fld.start (by rw [← fld_at ev]; exact e1)
theorem len_is {t : Term} {a : Addr} {cl : Cell} {z : Int32} (ev : t.eval args s none [] s = some (.ref a)) (hc : s.heap[a]? = some cl) (h : (Jvm.Cond.eq (.length t) (.int z)).value args s none s [] = some true) : cl.slots.size < 2 ^ 31 ∧ cl.slots.size.toInt32 = z := by
  obtain ⟨x, y, e1, e2, -, k2⟩ := cmp_v (Or.inl h)
  cases (Term.int_eval (args := args) (first := s) (o := none) (idx := []) (s := s) z).symm.trans e2
  obtain ⟨w, rfl⟩ := k2
  have hw := gotT (Cond.eq_ints e1 e2) h
  subst hw
  simp only [Term.eval, ev, Option.bind_eq_bind, Option.bind_some] at e1
  cases ha : s.arrayAt? a with
  | none => simp [ha] at e1
  | some c2 =>
    cases hc.symm.trans (State.arrayAt?_spec ha).1
    by_cases hb : cl.slots.size < 2 ^ 31
    · simp [ha, hb] at e1; exact ⟨hb, e1⟩
    · simp [ha, hb] at e1
theorem elem_is {t u : Term} {a : Addr} {cl : Cell} {j : Int32} {v : Value} (ev : t.eval args s none [] s = some (.ref a)) (hc : s.heap[a]? = some cl) (eu : u.eval args s none [] s = some v) (hv : v.isRef = true) (h : (Jvm.Cond.eq (.elem t (.int j)) u).value args s none s [] = some true) : cl.slots[j.toNatClampNeg]? = some v := by
  obtain ⟨x, y, e1, e2, k1, k2⟩ := cmp_v (Or.inl h)
  cases eu.symm.trans e2
  have hx : x.isRef = true := by
    rcases ref_cases hv with rfl | ⟨b, rfl⟩
    · exact k2.2
    · exact k2.2
  have hw := gotT (eq_R e1 eu hx hv) h
  subst hw
  exact (elem_in e1 ev (Term.int_eval _) hc).2
theorem elemi_is {t : Term} {a : Addr} {cl : Cell} {j k : Int32} (ev : t.eval args s none [] s = some (.ref a)) (hc : s.heap[a]? = some cl) (h : (Jvm.Cond.eq (.elem t (.int j)) (.int k)).value args s none s [] = some true) : cl.slots[j.toNatClampNeg]? = some (.int k) := by
  obtain ⟨x, y, e1, e2, -, k2⟩ := cmp_v (Or.inl h)
  cases (Term.int_eval (args := args) (first := s) (o := none) (idx := []) (s := s) k).symm.trans e2
  obtain ⟨w, rfl⟩ := k2
  have hw := gotT (Cond.eq_ints e1 e2) h
  subst hw
  exact (elem_in e1 ev (Term.int_eval _) hc).2
theorem fldr_v {t : Term} {a b : Addr} {C nm d : String} (ev : t.eval args s none [] s = some (.ref a)) (h : (Term.field t C nm d).eval args s none [] s = some (.ref b)) : Fld s s.heap a C nm d (.ref b) := Fld.start (by rw [← fld_at ev]; exact h)
theorem eleml_is {t : Term} {a : Addr} {cl : Cell} {j : Int32} {k : Int64} (ev : t.eval args s none [] s = some (.ref a)) (hc : s.heap[a]? = some cl) (h : (Jvm.Cond.eq (.elem t (.int j)) (.long k)).value args s none s [] = some true) : cl.slots[j.toNatClampNeg]? = some (.long k) := by
  obtain ⟨x, y, e1, e2, -, k2⟩ := cmp_v (Or.inl h)
  have hk : (Term.long k).eval args s none [] s = some (.long k) := rfl
  cases hk.symm.trans e2
  obtain ⟨w, rfl⟩ := k2
  have hw := gotT (eq_L e1 e2) h
  subst hw
  exact (elem_in e1 ev (Term.int_eval _) hc).2
end Start
section Index
theorem i0_toInt : (0 : Int32).toInt = 0 := by decide
/-- (x & MAX) mod m is a place below m -/
theorem idx_mod (x m : Int32) (M : Nat) (hm : m.toInt = M) (hM : 0 < M) : ¬ ((x &&& 2147483647) % m < 0) ∧ (x &&& 2147483647) % m < m ∧ ((x &&& 2147483647) % m).toNatClampNeg < M := by
  have h1 := c_mask x 2147483647 31 (by decide) (by decide)
  have h2 := (c_irem (x &&& 2147483647) m M hm).1 (by rw [h1]; exact Int.emod_nonneg _ (by decide))
  have h3 := Int.emod_nonneg (x &&& 2147483647).toInt (show (M : Int) ≠ 0 by omega)
  have h4 := Int.emod_lt_of_pos (x &&& 2147483647).toInt (show (0 : Int) < M by omega)
  generalize (x &&& 2147483647) % m = n at h2 ⊢
  have h5 : ¬ n < 0 := by rw [Int32.lt_iff_toInt_lt, i0_toInt]; omega
  have h6 := nat_of h5
  exact ⟨h5, by rw [Int32.lt_iff_toInt_lt, hm]; omega, by omega⟩
theorem idx_eq {n k : Int32} {j : Nat} (h : ¬ n < 0) (hk : k.toInt = j) : n = k ↔ n.toNatClampNeg = j := by
  have h6 := nat_of h
  rw [← Int32.toInt_inj]; omega
theorem getD_map (ws : List Addr) (j : Nat) (h : j < ws.length) : (ws.map Value.ref).getD j .null = .ref (ws.getD j 0) := by
  simp [List.getD_eq_getElem?_getD, List.getElem?_eq_getElem, h]
theorem getD_mapI (ws : List Int32) (j : Nat) : (ws.map Value.int).getD j (.int 0) = .int (ws.getD j 0) := by
  simp only [List.getD_eq_getElem?_getD, List.getElem?_map]
  cases ws[j]? <;> rfl
theorem getD_mapJ (ws : List Int64) (j : Nat) : (ws.map Value.long).getD j (.long 0) = .long (ws.getD j 0) := by
  simp only [List.getD_eq_getElem?_getD, List.getElem?_map]
  cases ws[j]? <;> rfl
/-! small naturals as ints -/
theorem nat_toInt {n : Nat} (h : n < 2147483648) : (Int32.ofNat n).toInt = n := Int32.toInt_ofNat_small h
theorem nat_clamp {n : Nat} (h : n < 2147483648) : (Int32.ofNat n).toNatClampNeg = n := by
  show (Int32.ofNat n).toInt.toNat = n
  rw [nat_toInt h]; rfl
theorem nat_nn {n : Nat} (h : n < 2147483648) : ¬ Int32.ofNat n < 0 := by rw [Int32.lt_iff_toInt_lt, nat_toInt h, i0_toInt]; omega
theorem nat_lt {n k : Nat} (h : n < 2147483648) (h' : k < 2147483648) : Int32.ofNat n < Int32.ofNat k ↔ n < k := by rw [Int32.lt_iff_toInt_lt, nat_toInt h, nat_toInt h']; omega
theorem nat_eq {n k : Nat} (h : n < 2147483648) (h' : k < 2147483648) : Int32.ofNat n = Int32.ofNat k ↔ n = k := by rw [← Int32.toInt_inj, nat_toInt h, nat_toInt h']; omega
theorem nat_up (n : Nat) : Int32.ofNat n + 1 = Int32.ofNat (n + 1) := by simp [Int32.ofNat_add]
theorem Fld.fun {Z : State} {h : Heap} {a : Addr} {C n d : String} {v w : Value} (F : Fld Z h a C n d v) (G : Fld Z h a C n d w) : v = w := Classical.byContradiction fun q => F.ne G q rfl
end Index
end Jvm.OwnKit
namespace Jvm.Pilot.@@N@@
open Jvm Jvm.ClassFile Sem Op Lib Jvm.Free Jvm.Stand Jvm.LawKit Jvm.RoadKit Bundle Jvm.Pilot.@@N@@.Jvm.D Jvm.OwnKit
theorem d1_0 : decode prog_5_method_7_code 0 = .ok (.aload_n 1, 1) := by decide +kernel
theorem d1_1 : decode prog_5_method_7_code 1 = .ok (.arraylength, 1) := by decide +kernel
theorem d1_2 : decode prog_5_method_7_code 2 = .ok (.iconst 5, 1) := by decide +kernel
theorem d1_3 : decode prog_5_method_7_code 3 = .ok (.if_icmp .eq 18, 3) := by decide +kernel
theorem d1_21 : decode prog_5_method_7_code 21 = .ok (.aload_n 1, 1) := by decide +kernel
theorem d1_22 : decode prog_5_method_7_code 22 = .ok (.iconst 5, 1) := by decide +kernel
theorem d1_23 : decode prog_5_method_7_code 23 = .ok (.aload_n 0, 1) := by decide +kernel
theorem d1_24 : decode prog_5_method_7_code 24 = .ok (.getfield 36, 3) := by decide +kernel
theorem d1_27 : decode prog_5_method_7_code 27 = .ok (.arraylength, 1) := by decide +kernel
theorem d1_28 : decode prog_5_method_7_code 28 = .ok (.iadd, 1) := by decide +kernel
theorem d1_29 : decode prog_5_method_7_code 29 = .ok (.invokestatic 72, 3) := by decide +kernel
theorem d1_32 : decode prog_5_method_7_code 32 = .ok (.astore_n 2, 1) := by decide +kernel
theorem d1_33 : decode prog_5_method_7_code 33 = .ok (.aload_n 0, 1) := by decide +kernel
theorem d1_34 : decode prog_5_method_7_code 34 = .ok (.getfield 36, 3) := by decide +kernel
theorem d1_37 : decode prog_5_method_7_code 37 = .ok (.iconst 0, 1) := by decide +kernel
theorem d1_38 : decode prog_5_method_7_code 38 = .ok (.aload_n 2, 1) := by decide +kernel
theorem d1_39 : decode prog_5_method_7_code 39 = .ok (.iconst 5, 1) := by decide +kernel
theorem d1_40 : decode prog_5_method_7_code 40 = .ok (.aload_n 0, 1) := by decide +kernel
theorem d1_41 : decode prog_5_method_7_code 41 = .ok (.getfield 36, 3) := by decide +kernel
theorem d1_44 : decode prog_5_method_7_code 44 = .ok (.arraylength, 1) := by decide +kernel
theorem d1_45 : decode prog_5_method_7_code 45 = .ok (.invokestatic 78, 3) := by decide +kernel
theorem d1_48 : decode prog_5_method_7_code 48 = .ok (.aload_n 2, 1) := by decide +kernel
theorem d1_49 : decode prog_5_method_7_code 49 = .ok (.areturn, 1) := by decide +kernel
theorem d2_0 : decode jdk_65_method_121_code 0 = .ok (.iload_n 1, 1) := by decide +kernel
theorem d2_1 : decode jdk_65_method_121_code 1 = .ok (.aload_n 0, 1) := by decide +kernel
theorem d2_2 : decode jdk_65_method_121_code 2 = .ok (.arraylength, 1) := by decide +kernel
theorem d2_3 : decode jdk_65_method_121_code 3 = .ok (.if_icmp .ne 11, 3) := by decide +kernel
theorem d2_14 : decode jdk_65_method_121_code 14 = .ok (.iload_n 1, 1) := by decide +kernel
theorem d2_15 : decode jdk_65_method_121_code 15 = .ok (.newarray .byte, 2) := by decide +kernel
theorem d2_17 : decode jdk_65_method_121_code 17 = .ok (.astore_n 2, 1) := by decide +kernel
theorem d2_18 : decode jdk_65_method_121_code 18 = .ok (.aload_n 0, 1) := by decide +kernel
theorem d2_19 : decode jdk_65_method_121_code 19 = .ok (.iconst 0, 1) := by decide +kernel
theorem d2_20 : decode jdk_65_method_121_code 20 = .ok (.aload_n 2, 1) := by decide +kernel
theorem d2_21 : decode jdk_65_method_121_code 21 = .ok (.iconst 0, 1) := by decide +kernel
theorem d2_22 : decode jdk_65_method_121_code 22 = .ok (.aload_n 0, 1) := by decide +kernel
theorem d2_23 : decode jdk_65_method_121_code 23 = .ok (.arraylength, 1) := by decide +kernel
theorem d2_24 : decode jdk_65_method_121_code 24 = .ok (.iload_n 1, 1) := by decide +kernel
theorem d2_25 : decode jdk_65_method_121_code 25 = .ok (.invokestatic 304, 3) := by decide +kernel
theorem d2_28 : decode jdk_65_method_121_code 28 = .ok (.invokestatic 150, 3) := by decide +kernel
theorem d2_31 : decode jdk_65_method_121_code 31 = .ok (.aload_n 2, 1) := by decide +kernel
theorem d2_32 : decode jdk_65_method_121_code 32 = .ok (.areturn, 1) := by decide +kernel
theorem d3_0 : decode jdk_29_method_69_code 0 = .ok (.iload_n 0, 1) := by decide +kernel
theorem d3_1 : decode jdk_29_method_69_code 1 = .ok (.iload_n 1, 1) := by decide +kernel
theorem d3_2 : decode jdk_29_method_69_code 2 = .ok (.if_icmp .gt 7, 3) := by decide +kernel
theorem d3_5 : decode jdk_29_method_69_code 5 = .ok (.iload_n 0, 1) := by decide +kernel
theorem d3_6 : decode jdk_29_method_69_code 6 = .ok (.goto 4, 3) := by decide +kernel
theorem d3_9 : decode jdk_29_method_69_code 9 = .ok (.iload_n 1, 1) := by decide +kernel
theorem d3_10 : decode jdk_29_method_69_code 10 = .ok (.ireturn, 1) := by decide +kernel
theorem pn_0 : plainName "com/example/legitka/legitka/CardKindApplicationIdPinLaw" = true := by first | (simp [plainName, overriddenIn]; done) | decide +kernel
theorem pn_1 : plainName "com/example/legitka/legitka/CardKind" = true := by first | (simp [plainName, overriddenIn]; done) | decide +kernel
theorem pn_2 : plainName "java/util/Arrays" = true := by first | (simp [plainName, overriddenIn]; done) | decide +kernel
theorem pd_0 : parseMethodDescriptor "([B)[B" = some ⟨[(.array .byte)], some (.array .byte)⟩ := by decide +kernel
theorem pd_1 : parseMethodDescriptor "([BI)[B" = some ⟨[(.array .byte), .int], some (.array .byte)⟩ := by decide +kernel
theorem pd_2 : parseMethodDescriptor "(II)I" = some ⟨[.int, .int], some .int⟩ := by decide +kernel
theorem ef_a (m : MethodId) (a : Addr) (b : Addr) : entryFrame m #[(.ref a), (.ref b)] 3 = mkF m 0 #[.val (.ref a), .val (.ref b), .unset] [] := by first | (simp [entryFrame, mkF, argsToLocals, Value.category]; done) | rfl
theorem ef_c (m : MethodId) (a : Addr) (n : Int32) : entryFrame m #[(.ref a), (.int n)] 3 = mkF m 0 #[.val (.ref a), .val (.int n), .unset] [] := by first | (simp [entryFrame, mkF, argsToLocals, Value.category]; done) | rfl
theorem ef_m (m : MethodId) (i : Int32) (j : Int32) : entryFrame m #[(.int i), (.int j)] 2 = mkF m 0 #[.val (.int i), .val (.int j)] [] := by first | (simp [entryFrame, mkF, argsToLocals, Value.category]; done) | rfl
theorem ef_0 (m : MethodId) (k : Int32) (r0 : Int32) (r1 : Int32) (r2 : Int32) (r3 : Int32) (r4 : Int32) : entryFrame m #[(.int k), (.int r0), (.int r1), (.int r2), (.int r3), (.int r4)] maxLocals = mkF m 0 #[.val (.int k), .val (.int r0), .val (.int r1), .val (.int r2), .val (.int r3), .val (.int r4), .unset, .unset, .unset, .unset, .unset, .unset, .unset, .unset] [] := by first | (simp [entryFrame, mkF, argsToLocals, Value.category, maxLocals]; done) | rfl
theorem own_i2b (x : Int32) : nar .byte x.toInt8.toInt32 = x.toInt8.toInt32 := by
  show x.toInt8.toInt32.toInt8.toInt32 = x.toInt8.toInt32
  rw [← Int32.toInt_inj]
  have a := c_i2b x; have b := c_i2b x.toInt8.toInt32
  omega
abbrev own_rm : Room := { frames := 0, cells := 0, slots := 0, locals := 0 }
abbrev own_rc : Room := { frames := 1, cells := 1, slots := 7, locals := 40 }
abbrev own_ra : Room := { frames := 2, cells := 1, slots := 7, locals := 60 }
set_option maxRecDepth 65536 in
set_option maxHeartbeats 40000000 in
theorem rmm (l : Launch) (Z : State) (a0 : Array Value) (hw : ∀ d ∈ tables_1, d.before a0 Z = true) (ws : List Jvm.Cond) (h0 : Heap) :
    Con l Z (⟨"java/lang/Math", "min", "(II)I"⟩ : MethodName) jdk_29_method_69_code 2 (some .int) ws own_rm #[.int 5, .int 7] h0 (fun v h L => v = some (.int 5) ∧ h = h0 ∧ L = []) := by
  refine con_of (Jvm.Free.JP.mathPlain rfl (by decide +kernel)) ?_
  intro p e s m below meth c T0 X0 hx hZ hby hml hown hret hnm hlk e0
  refine Endz.eq (ef_m m 5 7) ?_
  refine w_iloadN (n := 1) X0.here hx (hb hby d3_0) rfl rfl ?_
  refine w_iloadN (n := 2) X0.here hx (hb hby d3_1) rfl rfl ?_
  refine w_icmpgt (n1 := 9) (n2 := 5) X0.here hx (hb hby d3_2) (by decide) (by decide) rfl (fun hc2 => absurd hc2 (by decide)) (fun hc2 => ?_)
  refine w_iloadN (n := 6) X0.here hx (hb hby d3_5) rfl rfl ?_
  refine w_goto (n := 10) X0.here hx (hb hby d3_6) (by decide) (by decide) ?_
  exact fin_I X0 hx hlk e0 hret (hb hby d3_10) (by decide) (by decide) ⟨rfl, rfl, rfl⟩
set_option maxRecDepth 65536 in
set_option maxHeartbeats 40000000 in
theorem rmc (l : Launch) (Z : State) (a0 : Array Value) (hw : ∀ d ∈ tables_1, d.before a0 Z = true) (ws : List Jvm.Cond) (a : Addr) (ka : ClassId) (v0 v1 v2 v3 v4 : Int32) (h0 : Heap) (V : Arv Z h0 a ka .byte 5 [.int v0, .int v1, .int v2, .int v3, .int v4] (.int 0)) :
    Con l Z (⟨"java/util/Arrays", "copyOf", "([BI)[B"⟩ : MethodName) jdk_65_method_121_code 3 (some (.array .byte)) ws own_rc #[.ref a, .int 7] h0 (fun v h L => ∃ b kb, v = some (.ref b) ∧ h0.size ≤ b ∧ Ext h0 h ∧ Arv Z h b kb .byte 7 [.int v0, .int v1, .int v2, .int v3, .int v4, .int 0, .int 0] (.int 0) ∧ Fr h0.size L) := by
  refine con_of (plainFor_of_name pn_2) ?_
  intro p e s m below meth c T0 X0 hx hZ hby hml hown hret hnm hlk e0
  refine Endz.eq (ef_c m a 7) ?_
  refine w_iloadN (n := 1) X0.here hx (hb hby d2_0) rfl rfl ?_
  refine w_aloadN (n := 2) X0.here hx (hb hby d2_1) rfl rfl rfl ?_
  refine a_L (n := 3) X0 hx hZ e0 V (hb hby d2_2) rfl ?_
  refine w_icmpne (n1 := 14) (n2 := 6) X0.here hx (hb hby d2_3) (by decide) (by decide) rfl (fun hc3 => ?_) (fun hc3 => absurd hc3 (by decide))
  refine w_iloadN (n := 15) X0.here hx (hb hby d2_14) rfl rfl ?_
  refine n_P (n := 17) X0 hx hZ (hw _ (List.mem_of_getElem? (i := 3) rfl)) e0 (hb hby d2_15) rfl (by decide) 7 (by decide) (by decide) (by decide) (by decide) (fun T1 h1 kb b gb X1 e1 E1 VB => ?_)
  have hb0 : h0.size ≤ b := Nat.le_of_eq gb.symm
  refine w_astoreN (Ls' := #[.val (.ref a), .val (.int (7 : Int32)), .val (.ref b)]) (n := 18) X1.here hx (hb hby d2_17) rfl rfl rfl ?_
  refine w_aloadN (n := 19) X1.here hx (hb hby d2_18) rfl rfl rfl ?_
  refine w_iconst (z := (0 : Int32)) (n := 20) X1.here hx (hb hby d2_19) rfl rfl ?_
  refine w_aloadN (n := 21) X1.here hx (hb hby d2_20) rfl rfl rfl ?_
  refine w_iconst (z := (0 : Int32)) (n := 22) X1.here hx (hb hby d2_21) rfl rfl ?_
  refine w_aloadN (n := 23) X1.here hx (hb hby d2_22) rfl rfl rfl ?_
  refine a_L (n := 24) X1 hx hZ e1 (V.ext E1) (hb hby d2_23) rfl ?_
  refine w_iloadN (n := 25) X1.here hx (hb hby d2_24) rfl rfl ?_
  refine c_S (n := 28) (rest := [(.int (0 : Int32)), (.ref b), (.int (0 : Int32)), (.ref a)]) (argsL := [.int 5, .int 7]) X1 hx hZ hown (rmm l Z a0 hw [] h1) e1 (hw _ (List.mem_of_getElem? (i := 15) rfl)) (hw _ (List.mem_of_getElem? (i := 16) rfl)) (hw _ (List.mem_of_getElem? (i := 17) rfl)) (hw _ (List.mem_of_getElem? (i := 18) rfl)) (by decide) 4 (by decide) (by decide) (by decide) (by decide) (by rw [hml]; rfl) pd_2 rfl rfl (Nat.le_of_ble_eq_true rfl) (hb hby d2_25) rfl (fun v2 T2 L2 X2 hQ2 => ?_)
  obtain ⟨rfl, e2, rfl⟩ := hQ2
  show Endz _ _ _ _ T2 (mkF m 28 #[.val (.ref a), .val (.int (7 : Int32)), .val (.ref b)] [(.int (5 : Int32)), (.int (0 : Int32)), (.ref b), (.int (0 : Int32)), (.ref a)])
  refine c_Y (n := 31) X2 hx hZ hown (hw _ (List.mem_of_getElem? (i := 19) rfl)) (hw _ (List.mem_of_getElem? (i := 22) rfl)) (hw _ (List.mem_of_getElem? (i := 20) rfl)) (hw _ (List.mem_of_getElem? (i := 21) rfl)) e2 (V.ext E1) (pad0 VB 7) rfl (by decide) (by decide) (by decide) (by decide) (by decide) (us := [.int v0, .int v1, .int v2, .int v3, .int v4]) rfl (by decide) (n0 := h0.size) (Fr.nil _) hb0 (by rw [hml]; rfl) (hb hby d2_28) rfl 0 (by decide) (by decide) (by decide) (fun T9 h9 L9 X9 e9 N9 K9 V9 => ?_)
  refine w_aloadN (n := 32) X9.here hx (hb hby d2_31) rfl rfl rfl ?_
  exact fin_A X9 hx hlk e9 hret rfl rfl rfl (hb hby d2_32) (by decide) (by decide) ⟨b, kb, rfl, hb0, Ext.keep1 E1 K9 hb0, V9, N9⟩
set_option maxRecDepth 65536 in
set_option maxHeartbeats 40000000 in
theorem rma (l : Launch) (Z : State) (a0 : Array Value) (hw : ∀ d ∈ tables_1, d.before a0 Z = true) (ws : List Jvm.Cond) (a b pa : Addr) (kb kp : ClassId) (v0 v1 v2 v3 v4 p0 p1 : Int32) (h0 : Heap) (F : Fld Z h0 a "com/example/legitka/legitka/CardKind" "pix" "[B" (.ref pa)) (V : Arv Z h0 b kb .byte 5 [.int v0, .int v1, .int v2, .int v3, .int v4] (.int 0)) (P : Arv Z h0 pa kp .byte 2 [.int p0, .int p1] (.int 0)) :
    Con l Z (⟨"com/example/legitka/legitka/CardKind", "applicationId", "([B)[B"⟩ : MethodName) prog_5_method_7_code 3 (some (.array .byte)) ws own_ra #[.ref a, .ref b] h0 (fun v h L => ∃ b2 k2, v = some (.ref b2) ∧ Ext h0 h ∧ Arv Z h b2 k2 .byte 7 [.int v0, .int v1, .int v2, .int v3, .int v4, .int p0, .int p1] (.int 0) ∧ Fr h0.size L) := by
  refine con_of (plainFor_of_name pn_1) ?_
  intro p e s m below meth c T0 X0 hx hZ hby hml hown hret hnm hlk e0
  refine Endz.eq (ef_a m a b) ?_
  refine w_aloadN (n := 1) X0.here hx (hb hby d1_0) rfl rfl rfl ?_
  refine a_L (n := 2) X0 hx hZ e0 V (hb hby d1_1) rfl ?_
  refine w_iconst (z := (5 : Int32)) (n := 3) X0.here hx (hb hby d1_2) rfl rfl ?_
  refine w_icmpeq (n1 := 21) (n2 := 6) X0.here hx (hb hby d1_3) (by decide) (by decide) rfl (fun hc3 => ?_) (fun hc3 => absurd rfl hc3)
  refine w_aloadN (n := 22) X0.here hx (hb hby d1_21) rfl rfl rfl ?_
  refine w_iconst (z := (5 : Int32)) (n := 23) X0.here hx (hb hby d1_22) rfl rfl ?_
  refine w_aloadN (n := 24) X0.here hx (hb hby d1_23) rfl rfl rfl ?_
  refine g_F (n := 27) X0 hx hZ hown (hw _ (List.mem_of_getElem? (i := 9) rfl)) e0 F (hb hby d1_24) rfl (fun T1 X1 e1 => ?_)
  refine a_L (n := 28) X1 hx hZ e1 P (hb hby d1_27) rfl ?_
  refine w_iadd (n := 29) X1.here hx (hb hby d1_28) rfl ?_
  show Endz _ _ _ _ T1 (mkF m 29 #[.val (.ref a), .val (.ref b), .unset] [.int 7, .ref b])
  refine c_S (n := 32) (rest := []) (argsL := [.ref b, .int 7]) X1 hx hZ hown (rmc l Z a0 hw [] b kb v0 v1 v2 v3 v4 h0 V) e1 (hw _ (List.mem_of_getElem? (i := 11) rfl)) (hw _ (List.mem_of_getElem? (i := 12) rfl)) (hw _ (List.mem_of_getElem? (i := 13) rfl)) (hw _ (List.mem_of_getElem? (i := 14) rfl)) (by decide) 0 (by decide) (by decide) (by decide) (by decide) (by rw [hml]; rfl) pd_1 rfl rfl (Nat.le_of_ble_eq_true rfl) (hb hby d1_29) rfl (fun v2 T2 L2 X2 hQ2 => ?_)
  obtain ⟨b2, k2, rfl, hb2, E2, V2, N2⟩ := hQ2
  show Endz _ _ _ _ T2 (mkF m 32 #[.val (.ref a), .val (.ref b), .unset] [(.ref b2)])
  refine w_astoreN (Ls' := #[.val (.ref a), .val (.ref b), .val (.ref b2)]) (n := 33) X2.here hx (hb hby d1_32) rfl rfl rfl ?_
  refine w_aloadN (n := 34) X2.here hx (hb hby d1_33) rfl rfl rfl ?_
  refine g_F (n := 37) X2 hx hZ hown (hw _ (List.mem_of_getElem? (i := 9) rfl)) rfl (F.ext E2) (hb hby d1_34) rfl (fun T3 X3 e3 => ?_)
  refine w_iconst (z := (0 : Int32)) (n := 38) X3.here hx (hb hby d1_37) rfl rfl ?_
  refine w_aloadN (n := 39) X3.here hx (hb hby d1_38) rfl rfl rfl ?_
  refine w_iconst (z := (5 : Int32)) (n := 40) X3.here hx (hb hby d1_39) rfl rfl ?_
  refine w_aloadN (n := 41) X3.here hx (hb hby d1_40) rfl rfl rfl ?_
  refine g_F (n := 44) X3 hx hZ hown (hw _ (List.mem_of_getElem? (i := 9) rfl)) e3 (F.ext E2) (hb hby d1_41) rfl (fun T4 X4 e4 => ?_)
  refine a_L (n := 45) X4 hx hZ e4 (P.ext E2) (hb hby d1_44) rfl ?_
  refine c_Y (n := 48) X4 hx hZ hown (hw _ (List.mem_of_getElem? (i := 23) rfl)) (hw _ (List.mem_of_getElem? (i := 22) rfl)) (hw _ (List.mem_of_getElem? (i := 20) rfl)) (hw _ (List.mem_of_getElem? (i := 21) rfl)) e4 (P.ext E2) V2 rfl (by decide) (by decide) (by decide) (by decide) (by decide) (us := [.int p0, .int p1]) rfl (by show 7 ≤ 7; decide) (n0 := h0.size) (Fr.app (Fr.nil _) N2) hb2 (by rw [hml]; rfl) (hb hby d1_45) rfl 0 (by decide) (by decide) (by decide) (fun T9 h9 L9 X9 e9 N9 K9 V9 => ?_)
  refine w_aloadN (n := 49) X9.here hx (hb hby d1_48) rfl rfl rfl ?_
  exact fin_A X9 hx hlk e9 hret rfl rfl rfl (hb hby d1_49) (by decide) (by decide) ⟨b2, k2, rfl, Ext.keep1 E2 K9 hb2, V9, N9⟩
set_option maxRecDepth 65536 in
set_option maxHeartbeats 40000000 in
theorem rm0 (l : Launch) (Z : State) (a0 : Array Value) (hw : ∀ d ∈ tables_1, d.before a0 Z = true) (ws : List Jvm.Cond) (k r0 r1 r2 r3 r4 : Int32) (wS wD pS pD : Addr) (kS kD : ClassId) (h0 : Heap) (SS : Sta Z h0 "com/example/legitka/legitka/CardKind" "STUDENT" "Lcom/example/legitka/legitka/CardKind;" (.ref wS)) (AS : Exa Z h0 wS "com/example/legitka/legitka/CardKind") (FS : Fld Z h0 wS "com/example/legitka/legitka/CardKind" "pix" "[B" (.ref pS)) (PS : Arv Z h0 pS kS .byte 2 [.int 1, .int 1] (.int 0)) (SD : Sta Z h0 "com/example/legitka/legitka/CardKind" "DOCTORAL" "Lcom/example/legitka/legitka/CardKind;" (.ref wD)) (AD : Exa Z h0 wD "com/example/legitka/legitka/CardKind") (FD : Fld Z h0 wD "com/example/legitka/legitka/CardKind" "pix" "[B" (.ref pD)) (PD : Arv Z h0 pD kD .byte 2 [.int 1, .int 2] (.int 0)) :
    Con l Z x code maxLocals ret ws room_1 #[.int k, .int r0, .int r1, .int r2, .int r3, .int r4] h0 (fun v _ L => v = some (.int 1) ∧ Fr h0.size L) := by
  refine con_of (plainFor_of_name pn_0) ?_
  intro p e s m below meth c T0 X0 hx hZ hby hml hown hret hnm hlk e0
  refine Endz.eq (ef_0 m k r0 r1 r2 r3 r4) ?_
  refine w_iloadN (n := 1) X0.here hx (hb hby at_0) rfl rfl ?_
  refine w_iconst (z := (1 : Int32)) (n := 2) X0.here hx (hb hby at_1) rfl rfl ?_
  refine w_iand (n := 3) X0.here hx (hb hby at_2) rfl ?_
  refine w_ifeq (n1 := 10) (n2 := 6) X0.here hx (hb hby at_3) (by decide) (by decide) rfl (fun hc3 => ?_) (fun hc3 => ?_)
  · refine w_iconst (z := (0 : Int32)) (n := 11) X0.here hx (hb hby at_10) rfl rfl ?_
    refine w_istore (Ls' := #[.val (.int k), .val (.int r0), .val (.int r1), .val (.int r2), .val (.int r3), .val (.int r4), .val (.int (0 : Int32)), .unset, .unset, .unset, .unset, .unset, .unset, .unset]) (n := 13) X0.here hx (hb hby at_11) rfl rfl ?_
    refine w_iload (n := 15) X0.here hx (hb hby at_13) rfl rfl ?_
    refine w_ifeq (n1 := 24) (n2 := 18) X0.here hx (hb hby at_15) (by decide) (by decide) rfl (fun hc15 => ?_) (fun hc15 => absurd rfl hc15)
    refine g_S (n := 27) X0 hx hZ hown (hw _ (List.mem_of_getElem? (i := 0) rfl)) e0 SS (hb hby at_24) rfl (fun T1 X1 e1 => ?_)
    refine w_astore (Ls' := #[.val (.int k), .val (.int r0), .val (.int r1), .val (.int r2), .val (.int r3), .val (.int r4), .val (.int (0 : Int32)), .val (.ref wS), .unset, .unset, .unset, .unset, .unset, .unset]) (n := 29) X1.here hx (hb hby at_27) rfl rfl rfl ?_
    refine w_iconst (z := (5 : Int32)) (n := 30) X1.here hx (hb hby at_29) rfl rfl ?_
    refine n_P (n := 32) X1 hx hZ (hw _ (List.mem_of_getElem? (i := 3) rfl)) e1 (hb hby at_30) rfl (by decide) 5 (by decide) (by decide) (by decide) (by decide) (fun T2 h2 kb b gb X2 e2 E2 VB => ?_)
    have hb0 : h0.size ≤ b := Nat.le_of_eq gb.symm
    have V2 := pad0 VB 5
    have N2 := Fr.nil h0.size
    refine w_dup (n := 33) X2.here hx (hb hby at_32) rfl rfl ?_
    refine w_iconst (z := (0 : Int32)) (n := 34) X2.here hx (hb hby at_33) rfl rfl ?_
    refine w_iloadN (n := 35) X2.here hx (hb hby at_34) rfl rfl ?_
    refine w_i2b (n := 36) X2.here hx (hb hby at_35) rfl ?_
    refine s_B (n := 37) X2 hx hZ e2 V2 0 rfl (Nat.le_of_ble_eq_true rfl) (by decide) (by decide) (hb hby at_36) rfl (fun T3 h3 X3 e3 W3 (V3 : Arv Z h3 b kb .byte 5 [.int (nar .byte r0.toInt8.toInt32), .int (0 : Int32), .int (0 : Int32), .int (0 : Int32), .int (0 : Int32)] (.int 0)) => ?_)
    have E3 := Ext.wr E2 W3 hb0
    have N3 := Fr.snoc X3 N2 hb0
    refine w_dup (n := 38) X3.here hx (hb hby at_37) rfl rfl ?_
    refine w_iconst (z := (1 : Int32)) (n := 39) X3.here hx (hb hby at_38) rfl rfl ?_
    refine w_iloadN (n := 40) X3.here hx (hb hby at_39) rfl rfl ?_
    refine w_i2b (n := 41) X3.here hx (hb hby at_40) rfl ?_
    refine s_B (n := 42) X3 hx hZ e3 V3 1 rfl (Nat.le_of_ble_eq_true rfl) (by decide) (by decide) (hb hby at_41) rfl (fun T4 h4 X4 e4 W4 (V4 : Arv Z h4 b kb .byte 5 [.int (nar .byte r0.toInt8.toInt32), .int (nar .byte r1.toInt8.toInt32), .int (0 : Int32), .int (0 : Int32), .int (0 : Int32)] (.int 0)) => ?_)
    have E4 := Ext.wr E3 W4 hb0
    have N4 := Fr.snoc X4 N3 hb0
    refine w_dup (n := 43) X4.here hx (hb hby at_42) rfl rfl ?_
    refine w_iconst (z := (2 : Int32)) (n := 44) X4.here hx (hb hby at_43) rfl rfl ?_
    refine w_iloadN (n := 45) X4.here hx (hb hby at_44) rfl rfl ?_
    refine w_i2b (n := 46) X4.here hx (hb hby at_45) rfl ?_
    refine s_B (n := 47) X4 hx hZ e4 V4 2 rfl (Nat.le_of_ble_eq_true rfl) (by decide) (by decide) (hb hby at_46) rfl (fun T5 h5 X5 e5 W5 (V5 : Arv Z h5 b kb .byte 5 [.int (nar .byte r0.toInt8.toInt32), .int (nar .byte r1.toInt8.toInt32), .int (nar .byte r2.toInt8.toInt32), .int (0 : Int32), .int (0 : Int32)] (.int 0)) => ?_)
    have E5 := Ext.wr E4 W5 hb0
    have N5 := Fr.snoc X5 N4 hb0
    refine w_dup (n := 48) X5.here hx (hb hby at_47) rfl rfl ?_
    refine w_iconst (z := (3 : Int32)) (n := 49) X5.here hx (hb hby at_48) rfl rfl ?_
    refine w_iload (n := 51) X5.here hx (hb hby at_49) rfl rfl ?_
    refine w_i2b (n := 52) X5.here hx (hb hby at_51) rfl ?_
    refine s_B (n := 53) X5 hx hZ e5 V5 3 rfl (Nat.le_of_ble_eq_true rfl) (by decide) (by decide) (hb hby at_52) rfl (fun T6 h6 X6 e6 W6 (V6 : Arv Z h6 b kb .byte 5 [.int (nar .byte r0.toInt8.toInt32), .int (nar .byte r1.toInt8.toInt32), .int (nar .byte r2.toInt8.toInt32), .int (nar .byte r3.toInt8.toInt32), .int (0 : Int32)] (.int 0)) => ?_)
    have E6 := Ext.wr E5 W6 hb0
    have N6 := Fr.snoc X6 N5 hb0
    refine w_dup (n := 54) X6.here hx (hb hby at_53) rfl rfl ?_
    refine w_iconst (z := (4 : Int32)) (n := 55) X6.here hx (hb hby at_54) rfl rfl ?_
    refine w_iload (n := 57) X6.here hx (hb hby at_55) rfl rfl ?_
    refine w_i2b (n := 58) X6.here hx (hb hby at_57) rfl ?_
    refine s_B (n := 59) X6 hx hZ e6 V6 4 rfl (Nat.le_of_ble_eq_true rfl) (by decide) (by decide) (hb hby at_58) rfl (fun T7 h7 X7 e7 W7 (V7 : Arv Z h7 b kb .byte 5 [.int (nar .byte r0.toInt8.toInt32), .int (nar .byte r1.toInt8.toInt32), .int (nar .byte r2.toInt8.toInt32), .int (nar .byte r3.toInt8.toInt32), .int (nar .byte r4.toInt8.toInt32)] (.int 0)) => ?_)
    have E7 := Ext.wr E6 W7 hb0
    have N7 := Fr.snoc X7 N6 hb0
    refine w_astore (Ls' := #[.val (.int k), .val (.int r0), .val (.int r1), .val (.int r2), .val (.int r3), .val (.int r4), .val (.int (0 : Int32)), .val (.ref wS), .val (.ref b), .unset, .unset, .unset, .unset, .unset]) (n := 61) X7.here hx (hb hby at_59) rfl rfl rfl ?_
    refine w_aload (n := 63) X7.here hx (hb hby at_61) rfl rfl rfl ?_
    refine w_aload (n := 65) X7.here hx (hb hby at_63) rfl rfl rfl ?_
    refine c_V (n := 68) (argsL := [.ref b]) (rest := []) X7 hx hZ hown (rma l Z a0 hw [] wS b pS kb kS (nar .byte r0.toInt8.toInt32) (nar .byte r1.toInt8.toInt32) (nar .byte r2.toInt8.toInt32) (nar .byte r3.toInt8.toInt32) (nar .byte r4.toInt8.toInt32) 1 1 h7 (FS.ext E7) V7 (PS.ext E7)) e7 (AS.ext E7) (hw _ (List.mem_of_getElem? (i := 4) rfl)) (hw _ (List.mem_of_getElem? (i := 5) rfl)) (notFace_of_selects (args := #[]) (mvT hZ (hw _ (List.mem_of_getElem? (i := 7) rfl)))) (hw _ (List.mem_of_getElem? (i := 7) rfl)) (hw _ (List.mem_of_getElem? (i := 6) rfl)) (hw _ (List.mem_of_getElem? (i := 1) rfl)) (hw _ (List.mem_of_getElem? (i := 8) rfl)) (by decide) 0 (by decide) (by decide) (by decide) (by decide) (by rw [hml]; rfl) pd_0 rfl rfl (Nat.le_of_ble_eq_true rfl) (hb hby at_65) rfl (fun v8 T8 L8 X8 hQ8 => ?_)
    obtain ⟨b2, k2, rfl, EF, V2, NF'⟩ := hQ8
    show Endz _ _ _ _ T8 (mkF m 68 #[.val (.int k), .val (.int r0), .val (.int r1), .val (.int r2), .val (.int r3), .val (.int r4), .val (.int (0 : Int32)), .val (.ref wS), .val (.ref b), .unset, .unset, .unset, .unset, .unset] [(.ref b2)])
    have NF := Fr.app N7 (fun z hz => Nat.le_trans E7.1 (NF' z hz))
    have VR := V7.ext EF
    refine w_astore (Ls' := #[.val (.int k), .val (.int r0), .val (.int r1), .val (.int r2), .val (.int r3), .val (.int r4), .val (.int (0 : Int32)), .val (.ref wS), .val (.ref b), .val (.ref b2), .unset, .unset, .unset, .unset]) (n := 70) X8.here hx (hb hby at_68) rfl rfl rfl ?_
    refine w_aload (n := 72) X8.here hx (hb hby at_70) rfl rfl rfl ?_
    refine w_ifnull (n1 := 83) (n2 := 75) X8.here hx rfl (hb hby at_72) (by decide) (by decide) rfl (fun hc72 => nomatch hc72) (fun hc72 => ?_)
    refine w_aload (n := 77) X8.here hx (hb hby at_75) rfl rfl rfl ?_
    refine a_L (n := 78) X8 hx hZ rfl V2 (hb hby at_77) rfl ?_
    refine w_bipush (z := (7 : Int32)) (n := 80) X8.here hx (hb hby at_78) rfl rfl ?_
    refine w_icmpeq (n1 := 85) (n2 := 83) X8.here hx (hb hby at_80) (by decide) (by decide) rfl (fun hc80 => ?_) (fun hc80 => absurd rfl hc80)
    refine w_iload (n := 87) X8.here hx (hb hby at_85) rfl rfl ?_
    refine w_ifeq (n1 := 94) (n2 := 90) X8.here hx (hb hby at_87) (by decide) (by decide) rfl (fun hc87 => ?_) (fun hc87 => absurd rfl hc87)
    refine w_iconst (z := (1 : Int32)) (n := 95) X8.here hx (hb hby at_94) rfl rfl ?_
    refine w_istore (Ls' := #[.val (.int k), .val (.int r0), .val (.int r1), .val (.int r2), .val (.int r3), .val (.int r4), .val (.int (0 : Int32)), .val (.ref wS), .val (.ref b), .val (.ref b2), .val (.int (1 : Int32)), .unset, .unset, .unset]) (n := 97) X8.here hx (hb hby at_95) rfl rfl ?_
    refine w_aload (n := 99) X8.here hx (hb hby at_97) rfl rfl rfl ?_
    refine w_iconst (z := (0 : Int32)) (n := 100) X8.here hx (hb hby at_99) rfl rfl ?_
    refine l_B (n := 101) X8 hx hZ rfl V2 (by decide) (by decide) rfl (hb hby at_100) rfl ?_
    refine w_iloadN (n := 102) X8.here hx (hb hby at_101) rfl rfl ?_
    refine w_i2b (n := 103) X8.here hx (hb hby at_102) rfl ?_
    refine w_icmpne (n1 := 148) (n2 := 106) X8.here hx (hb hby at_103) (by decide) (by decide) rfl (fun hc103 => hc103.elim (own_i2b _)) (fun hc103 => ?_)
    refine w_aload (n := 108) X8.here hx (hb hby at_106) rfl rfl rfl ?_
    refine w_iconst (z := (1 : Int32)) (n := 109) X8.here hx (hb hby at_108) rfl rfl ?_
    refine l_B (n := 110) X8 hx hZ rfl V2 (by decide) (by decide) rfl (hb hby at_109) rfl ?_
    refine w_iloadN (n := 111) X8.here hx (hb hby at_110) rfl rfl ?_
    refine w_i2b (n := 112) X8.here hx (hb hby at_111) rfl ?_
    refine w_icmpne (n1 := 148) (n2 := 115) X8.here hx (hb hby at_112) (by decide) (by decide) rfl (fun hc112 => hc112.elim (own_i2b _)) (fun hc112 => ?_)
    refine w_aload (n := 117) X8.here hx (hb hby at_115) rfl rfl rfl ?_
    refine w_iconst (z := (2 : Int32)) (n := 118) X8.here hx (hb hby at_117) rfl rfl ?_
    refine l_B (n := 119) X8 hx hZ rfl V2 (by decide) (by decide) rfl (hb hby at_118) rfl ?_
    refine w_iloadN (n := 120) X8.here hx (hb hby at_119) rfl rfl ?_
    refine w_i2b (n := 121) X8.here hx (hb hby at_120) rfl ?_
    refine w_icmpne (n1 := 148) (n2 := 124) X8.here hx (hb hby at_121) (by decide) (by decide) rfl (fun hc121 => hc121.elim (own_i2b _)) (fun hc121 => ?_)
    refine w_aload (n := 126) X8.here hx (hb hby at_124) rfl rfl rfl ?_
    refine w_iconst (z := (3 : Int32)) (n := 127) X8.here hx (hb hby at_126) rfl rfl ?_
    refine l_B (n := 128) X8 hx hZ rfl V2 (by decide) (by decide) rfl (hb hby at_127) rfl ?_
    refine w_iload (n := 130) X8.here hx (hb hby at_128) rfl rfl ?_
    refine w_i2b (n := 131) X8.here hx (hb hby at_130) rfl ?_
    refine w_icmpne (n1 := 148) (n2 := 134) X8.here hx (hb hby at_131) (by decide) (by decide) rfl (fun hc131 => hc131.elim (own_i2b _)) (fun hc131 => ?_)
    refine w_aload (n := 136) X8.here hx (hb hby at_134) rfl rfl rfl ?_
    refine w_iconst (z := (4 : Int32)) (n := 137) X8.here hx (hb hby at_136) rfl rfl ?_
    refine l_B (n := 138) X8 hx hZ rfl V2 (by decide) (by decide) rfl (hb hby at_137) rfl ?_
    refine w_iload (n := 140) X8.here hx (hb hby at_138) rfl rfl ?_
    refine w_i2b (n := 141) X8.here hx (hb hby at_140) rfl ?_
    refine w_icmpne (n1 := 148) (n2 := 144) X8.here hx (hb hby at_141) (by decide) (by decide) rfl (fun hc141 => hc141.elim (own_i2b _)) (fun hc141 => ?_)
    refine w_iconst (z := (1 : Int32)) (n := 145) X8.here hx (hb hby at_144) rfl rfl ?_
    refine w_goto (n := 149) X8.here hx (hb hby at_145) (by decide) (by decide) ?_
    refine w_istore (Ls' := #[.val (.int k), .val (.int r0), .val (.int r1), .val (.int r2), .val (.int r3), .val (.int r4), .val (.int (0 : Int32)), .val (.ref wS), .val (.ref b), .val (.ref b2), .val (.int (1 : Int32)), .val (.int (1 : Int32)), .unset, .unset]) (n := 151) X8.here hx (hb hby at_149) rfl rfl ?_
    refine w_aload (n := 153) X8.here hx (hb hby at_151) rfl rfl rfl ?_
    refine w_iconst (z := (5 : Int32)) (n := 154) X8.here hx (hb hby at_153) rfl rfl ?_
    refine l_B (n := 155) X8 hx hZ rfl V2 (by decide) (by decide) rfl (hb hby at_154) rfl ?_
    refine w_iconst (z := (1 : Int32)) (n := 156) X8.here hx (hb hby at_155) rfl rfl ?_
    refine w_icmpne (n1 := 173) (n2 := 159) X8.here hx (hb hby at_156) (by decide) (by decide) rfl (fun hc156 => hc156.elim (rfl)) (fun hc156 => ?_)
    refine w_aload (n := 161) X8.here hx (hb hby at_159) rfl rfl rfl ?_
    refine w_bipush (z := (6 : Int32)) (n := 163) X8.here hx (hb hby at_161) rfl rfl ?_
    refine l_B (n := 164) X8 hx hZ rfl V2 (by decide) (by decide) rfl (hb hby at_163) rfl ?_
    refine w_iload (n := 166) X8.here hx (hb hby at_164) rfl rfl ?_
    refine w_icmpne (n1 := 173) (n2 := 169) X8.here hx (hb hby at_166) (by decide) (by decide) rfl (fun hc166 => hc166.elim (rfl)) (fun hc166 => ?_)
    refine w_iconst (z := (1 : Int32)) (n := 170) X8.here hx (hb hby at_169) rfl rfl ?_
    refine w_goto (n := 174) X8.here hx (hb hby at_170) (by decide) (by decide) ?_
    refine w_istore (Ls' := #[.val (.int k), .val (.int r0), .val (.int r1), .val (.int r2), .val (.int r3), .val (.int r4), .val (.int (0 : Int32)), .val (.ref wS), .val (.ref b), .val (.ref b2), .val (.int (1 : Int32)), .val (.int (1 : Int32)), .val (.int (1 : Int32)), .unset]) (n := 176) X8.here hx (hb hby at_174) rfl rfl ?_
    refine w_aload (n := 178) X8.here hx (hb hby at_176) rfl rfl rfl ?_
    refine w_iconst (z := (0 : Int32)) (n := 179) X8.here hx (hb hby at_178) rfl rfl ?_
    refine l_B (n := 180) X8 hx hZ rfl VR (by decide) (by decide) rfl (hb hby at_179) rfl ?_
    refine w_iloadN (n := 181) X8.here hx (hb hby at_180) rfl rfl ?_
    refine w_i2b (n := 182) X8.here hx (hb hby at_181) rfl ?_
    refine w_icmpne (n1 := 227) (n2 := 185) X8.here hx (hb hby at_182) (by decide) (by decide) rfl (fun hc182 => hc182.elim (own_i2b _)) (fun hc182 => ?_)
    refine w_aload (n := 187) X8.here hx (hb hby at_185) rfl rfl rfl ?_
    refine w_iconst (z := (1 : Int32)) (n := 188) X8.here hx (hb hby at_187) rfl rfl ?_
    refine l_B (n := 189) X8 hx hZ rfl VR (by decide) (by decide) rfl (hb hby at_188) rfl ?_
    refine w_iloadN (n := 190) X8.here hx (hb hby at_189) rfl rfl ?_
    refine w_i2b (n := 191) X8.here hx (hb hby at_190) rfl ?_
    refine w_icmpne (n1 := 227) (n2 := 194) X8.here hx (hb hby at_191) (by decide) (by decide) rfl (fun hc191 => hc191.elim (own_i2b _)) (fun hc191 => ?_)
    refine w_aload (n := 196) X8.here hx (hb hby at_194) rfl rfl rfl ?_
    refine w_iconst (z := (2 : Int32)) (n := 197) X8.here hx (hb hby at_196) rfl rfl ?_
    refine l_B (n := 198) X8 hx hZ rfl VR (by decide) (by decide) rfl (hb hby at_197) rfl ?_
    refine w_iloadN (n := 199) X8.here hx (hb hby at_198) rfl rfl ?_
    refine w_i2b (n := 200) X8.here hx (hb hby at_199) rfl ?_
    refine w_icmpne (n1 := 227) (n2 := 203) X8.here hx (hb hby at_200) (by decide) (by decide) rfl (fun hc200 => hc200.elim (own_i2b _)) (fun hc200 => ?_)
    refine w_aload (n := 205) X8.here hx (hb hby at_203) rfl rfl rfl ?_
    refine w_iconst (z := (3 : Int32)) (n := 206) X8.here hx (hb hby at_205) rfl rfl ?_
    refine l_B (n := 207) X8 hx hZ rfl VR (by decide) (by decide) rfl (hb hby at_206) rfl ?_
    refine w_iload (n := 209) X8.here hx (hb hby at_207) rfl rfl ?_
    refine w_i2b (n := 210) X8.here hx (hb hby at_209) rfl ?_
    refine w_icmpne (n1 := 227) (n2 := 213) X8.here hx (hb hby at_210) (by decide) (by decide) rfl (fun hc210 => hc210.elim (own_i2b _)) (fun hc210 => ?_)
    refine w_aload (n := 215) X8.here hx (hb hby at_213) rfl rfl rfl ?_
    refine w_iconst (z := (4 : Int32)) (n := 216) X8.here hx (hb hby at_215) rfl rfl ?_
    refine l_B (n := 217) X8 hx hZ rfl VR (by decide) (by decide) rfl (hb hby at_216) rfl ?_
    refine w_iload (n := 219) X8.here hx (hb hby at_217) rfl rfl ?_
    refine w_i2b (n := 220) X8.here hx (hb hby at_219) rfl ?_
    refine w_icmpne (n1 := 227) (n2 := 223) X8.here hx (hb hby at_220) (by decide) (by decide) rfl (fun hc220 => hc220.elim (own_i2b _)) (fun hc220 => ?_)
    refine w_iconst (z := (1 : Int32)) (n := 224) X8.here hx (hb hby at_223) rfl rfl ?_
    refine w_goto (n := 228) X8.here hx (hb hby at_224) (by decide) (by decide) ?_
    refine w_istore (Ls' := #[.val (.int k), .val (.int r0), .val (.int r1), .val (.int r2), .val (.int r3), .val (.int r4), .val (.int (0 : Int32)), .val (.ref wS), .val (.ref b), .val (.ref b2), .val (.int (1 : Int32)), .val (.int (1 : Int32)), .val (.int (1 : Int32)), .val (.int (1 : Int32))]) (n := 230) X8.here hx (hb hby at_228) rfl rfl ?_
    refine w_iload (n := 232) X8.here hx (hb hby at_230) rfl rfl ?_
    refine w_ifeq (n1 := 249) (n2 := 235) X8.here hx (hb hby at_232) (by decide) (by decide) rfl (fun hc232 => absurd hc232 (by decide)) (fun hc232 => ?_)
    refine w_iload (n := 237) X8.here hx (hb hby at_235) rfl rfl ?_
    refine w_ifeq (n1 := 249) (n2 := 240) X8.here hx (hb hby at_237) (by decide) (by decide) rfl (fun hc237 => absurd hc237 (by decide)) (fun hc237 => ?_)
    refine w_iload (n := 242) X8.here hx (hb hby at_240) rfl rfl ?_
    refine w_ifeq (n1 := 249) (n2 := 245) X8.here hx (hb hby at_242) (by decide) (by decide) rfl (fun hc242 => absurd hc242 (by decide)) (fun hc242 => ?_)
    refine w_iconst (z := (1 : Int32)) (n := 246) X8.here hx (hb hby at_245) rfl rfl ?_
    refine w_goto (n := 250) X8.here hx (hb hby at_246) (by decide) (by decide) ?_
    exact fin_Z X8 hx hlk rfl hret (Or.inl rfl) (hb hby at_250) (by decide) (by decide) ⟨rfl, NF⟩
  · refine w_iconst (z := (1 : Int32)) (n := 7) X0.here hx (hb hby at_6) rfl rfl ?_
    refine w_goto (n := 11) X0.here hx (hb hby at_7) (by decide) (by decide) ?_
    refine w_istore (Ls' := #[.val (.int k), .val (.int r0), .val (.int r1), .val (.int r2), .val (.int r3), .val (.int r4), .val (.int (1 : Int32)), .unset, .unset, .unset, .unset, .unset, .unset, .unset]) (n := 13) X0.here hx (hb hby at_11) rfl rfl ?_
    refine w_iload (n := 15) X0.here hx (hb hby at_13) rfl rfl ?_
    refine w_ifeq (n1 := 24) (n2 := 18) X0.here hx (hb hby at_15) (by decide) (by decide) rfl (fun hc15 => absurd hc15 (by decide)) (fun hc15 => ?_)
    refine g_S (n := 21) X0 hx hZ hown (hw _ (List.mem_of_getElem? (i := 24) rfl)) e0 SD (hb hby at_18) rfl (fun T9 X9 e9 => ?_)
    refine w_goto (n := 27) X9.here hx (hb hby at_21) (by decide) (by decide) ?_
    refine w_astore (Ls' := #[.val (.int k), .val (.int r0), .val (.int r1), .val (.int r2), .val (.int r3), .val (.int r4), .val (.int (1 : Int32)), .val (.ref wD), .unset, .unset, .unset, .unset, .unset, .unset]) (n := 29) X9.here hx (hb hby at_27) rfl rfl rfl ?_
    refine w_iconst (z := (5 : Int32)) (n := 30) X9.here hx (hb hby at_29) rfl rfl ?_
    refine n_P (n := 32) X9 hx hZ (hw _ (List.mem_of_getElem? (i := 3) rfl)) e9 (hb hby at_30) rfl (by decide) 5 (by decide) (by decide) (by decide) (by decide) (fun T10 h10 kb b gb X10 e10 E10 VB => ?_)
    have hb0 : h0.size ≤ b := Nat.le_of_eq gb.symm
    have V10 := pad0 VB 5
    have N10 := Fr.nil h0.size
    refine w_dup (n := 33) X10.here hx (hb hby at_32) rfl rfl ?_
    refine w_iconst (z := (0 : Int32)) (n := 34) X10.here hx (hb hby at_33) rfl rfl ?_
    refine w_iloadN (n := 35) X10.here hx (hb hby at_34) rfl rfl ?_
    refine w_i2b (n := 36) X10.here hx (hb hby at_35) rfl ?_
    refine s_B (n := 37) X10 hx hZ e10 V10 0 rfl (Nat.le_of_ble_eq_true rfl) (by decide) (by decide) (hb hby at_36) rfl (fun T11 h11 X11 e11 W11 (V11 : Arv Z h11 b kb .byte 5 [.int (nar .byte r0.toInt8.toInt32), .int (0 : Int32), .int (0 : Int32), .int (0 : Int32), .int (0 : Int32)] (.int 0)) => ?_)
    have E11 := Ext.wr E10 W11 hb0
    have N11 := Fr.snoc X11 N10 hb0
    refine w_dup (n := 38) X11.here hx (hb hby at_37) rfl rfl ?_
    refine w_iconst (z := (1 : Int32)) (n := 39) X11.here hx (hb hby at_38) rfl rfl ?_
    refine w_iloadN (n := 40) X11.here hx (hb hby at_39) rfl rfl ?_
    refine w_i2b (n := 41) X11.here hx (hb hby at_40) rfl ?_
    refine s_B (n := 42) X11 hx hZ e11 V11 1 rfl (Nat.le_of_ble_eq_true rfl) (by decide) (by decide) (hb hby at_41) rfl (fun T12 h12 X12 e12 W12 (V12 : Arv Z h12 b kb .byte 5 [.int (nar .byte r0.toInt8.toInt32), .int (nar .byte r1.toInt8.toInt32), .int (0 : Int32), .int (0 : Int32), .int (0 : Int32)] (.int 0)) => ?_)
    have E12 := Ext.wr E11 W12 hb0
    have N12 := Fr.snoc X12 N11 hb0
    refine w_dup (n := 43) X12.here hx (hb hby at_42) rfl rfl ?_
    refine w_iconst (z := (2 : Int32)) (n := 44) X12.here hx (hb hby at_43) rfl rfl ?_
    refine w_iloadN (n := 45) X12.here hx (hb hby at_44) rfl rfl ?_
    refine w_i2b (n := 46) X12.here hx (hb hby at_45) rfl ?_
    refine s_B (n := 47) X12 hx hZ e12 V12 2 rfl (Nat.le_of_ble_eq_true rfl) (by decide) (by decide) (hb hby at_46) rfl (fun T13 h13 X13 e13 W13 (V13 : Arv Z h13 b kb .byte 5 [.int (nar .byte r0.toInt8.toInt32), .int (nar .byte r1.toInt8.toInt32), .int (nar .byte r2.toInt8.toInt32), .int (0 : Int32), .int (0 : Int32)] (.int 0)) => ?_)
    have E13 := Ext.wr E12 W13 hb0
    have N13 := Fr.snoc X13 N12 hb0
    refine w_dup (n := 48) X13.here hx (hb hby at_47) rfl rfl ?_
    refine w_iconst (z := (3 : Int32)) (n := 49) X13.here hx (hb hby at_48) rfl rfl ?_
    refine w_iload (n := 51) X13.here hx (hb hby at_49) rfl rfl ?_
    refine w_i2b (n := 52) X13.here hx (hb hby at_51) rfl ?_
    refine s_B (n := 53) X13 hx hZ e13 V13 3 rfl (Nat.le_of_ble_eq_true rfl) (by decide) (by decide) (hb hby at_52) rfl (fun T14 h14 X14 e14 W14 (V14 : Arv Z h14 b kb .byte 5 [.int (nar .byte r0.toInt8.toInt32), .int (nar .byte r1.toInt8.toInt32), .int (nar .byte r2.toInt8.toInt32), .int (nar .byte r3.toInt8.toInt32), .int (0 : Int32)] (.int 0)) => ?_)
    have E14 := Ext.wr E13 W14 hb0
    have N14 := Fr.snoc X14 N13 hb0
    refine w_dup (n := 54) X14.here hx (hb hby at_53) rfl rfl ?_
    refine w_iconst (z := (4 : Int32)) (n := 55) X14.here hx (hb hby at_54) rfl rfl ?_
    refine w_iload (n := 57) X14.here hx (hb hby at_55) rfl rfl ?_
    refine w_i2b (n := 58) X14.here hx (hb hby at_57) rfl ?_
    refine s_B (n := 59) X14 hx hZ e14 V14 4 rfl (Nat.le_of_ble_eq_true rfl) (by decide) (by decide) (hb hby at_58) rfl (fun T15 h15 X15 e15 W15 (V15 : Arv Z h15 b kb .byte 5 [.int (nar .byte r0.toInt8.toInt32), .int (nar .byte r1.toInt8.toInt32), .int (nar .byte r2.toInt8.toInt32), .int (nar .byte r3.toInt8.toInt32), .int (nar .byte r4.toInt8.toInt32)] (.int 0)) => ?_)
    have E15 := Ext.wr E14 W15 hb0
    have N15 := Fr.snoc X15 N14 hb0
    refine w_astore (Ls' := #[.val (.int k), .val (.int r0), .val (.int r1), .val (.int r2), .val (.int r3), .val (.int r4), .val (.int (1 : Int32)), .val (.ref wD), .val (.ref b), .unset, .unset, .unset, .unset, .unset]) (n := 61) X15.here hx (hb hby at_59) rfl rfl rfl ?_
    refine w_aload (n := 63) X15.here hx (hb hby at_61) rfl rfl rfl ?_
    refine w_aload (n := 65) X15.here hx (hb hby at_63) rfl rfl rfl ?_
    refine c_V (n := 68) (argsL := [.ref b]) (rest := []) X15 hx hZ hown (rma l Z a0 hw [] wD b pD kb kD (nar .byte r0.toInt8.toInt32) (nar .byte r1.toInt8.toInt32) (nar .byte r2.toInt8.toInt32) (nar .byte r3.toInt8.toInt32) (nar .byte r4.toInt8.toInt32) 1 2 h15 (FD.ext E15) V15 (PD.ext E15)) e15 (AD.ext E15) (hw _ (List.mem_of_getElem? (i := 4) rfl)) (hw _ (List.mem_of_getElem? (i := 5) rfl)) (notFace_of_selects (args := #[]) (mvT hZ (hw _ (List.mem_of_getElem? (i := 7) rfl)))) (hw _ (List.mem_of_getElem? (i := 7) rfl)) (hw _ (List.mem_of_getElem? (i := 6) rfl)) (hw _ (List.mem_of_getElem? (i := 1) rfl)) (hw _ (List.mem_of_getElem? (i := 8) rfl)) (by decide) 0 (by decide) (by decide) (by decide) (by decide) (by rw [hml]; rfl) pd_0 rfl rfl (Nat.le_of_ble_eq_true rfl) (hb hby at_65) rfl (fun v16 T16 L16 X16 hQ16 => ?_)
    obtain ⟨b2, k2, rfl, EF, V2, NF'⟩ := hQ16
    show Endz _ _ _ _ T16 (mkF m 68 #[.val (.int k), .val (.int r0), .val (.int r1), .val (.int r2), .val (.int r3), .val (.int r4), .val (.int (1 : Int32)), .val (.ref wD), .val (.ref b), .unset, .unset, .unset, .unset, .unset] [(.ref b2)])
    have NF := Fr.app N15 (fun z hz => Nat.le_trans E15.1 (NF' z hz))
    have VR := V15.ext EF
    refine w_astore (Ls' := #[.val (.int k), .val (.int r0), .val (.int r1), .val (.int r2), .val (.int r3), .val (.int r4), .val (.int (1 : Int32)), .val (.ref wD), .val (.ref b), .val (.ref b2), .unset, .unset, .unset, .unset]) (n := 70) X16.here hx (hb hby at_68) rfl rfl rfl ?_
    refine w_aload (n := 72) X16.here hx (hb hby at_70) rfl rfl rfl ?_
    refine w_ifnull (n1 := 83) (n2 := 75) X16.here hx rfl (hb hby at_72) (by decide) (by decide) rfl (fun hc72 => nomatch hc72) (fun hc72 => ?_)
    refine w_aload (n := 77) X16.here hx (hb hby at_75) rfl rfl rfl ?_
    refine a_L (n := 78) X16 hx hZ rfl V2 (hb hby at_77) rfl ?_
    refine w_bipush (z := (7 : Int32)) (n := 80) X16.here hx (hb hby at_78) rfl rfl ?_
    refine w_icmpeq (n1 := 85) (n2 := 83) X16.here hx (hb hby at_80) (by decide) (by decide) rfl (fun hc80 => ?_) (fun hc80 => absurd rfl hc80)
    refine w_iload (n := 87) X16.here hx (hb hby at_85) rfl rfl ?_
    refine w_ifeq (n1 := 94) (n2 := 90) X16.here hx (hb hby at_87) (by decide) (by decide) rfl (fun hc87 => absurd hc87 (by decide)) (fun hc87 => ?_)
    refine w_iconst (z := (2 : Int32)) (n := 91) X16.here hx (hb hby at_90) rfl rfl ?_
    refine w_goto (n := 95) X16.here hx (hb hby at_91) (by decide) (by decide) ?_
    refine w_istore (Ls' := #[.val (.int k), .val (.int r0), .val (.int r1), .val (.int r2), .val (.int r3), .val (.int r4), .val (.int (1 : Int32)), .val (.ref wD), .val (.ref b), .val (.ref b2), .val (.int (2 : Int32)), .unset, .unset, .unset]) (n := 97) X16.here hx (hb hby at_95) rfl rfl ?_
    refine w_aload (n := 99) X16.here hx (hb hby at_97) rfl rfl rfl ?_
    refine w_iconst (z := (0 : Int32)) (n := 100) X16.here hx (hb hby at_99) rfl rfl ?_
    refine l_B (n := 101) X16 hx hZ rfl V2 (by decide) (by decide) rfl (hb hby at_100) rfl ?_
    refine w_iloadN (n := 102) X16.here hx (hb hby at_101) rfl rfl ?_
    refine w_i2b (n := 103) X16.here hx (hb hby at_102) rfl ?_
    refine w_icmpne (n1 := 148) (n2 := 106) X16.here hx (hb hby at_103) (by decide) (by decide) rfl (fun hc103 => hc103.elim (own_i2b _)) (fun hc103 => ?_)
    refine w_aload (n := 108) X16.here hx (hb hby at_106) rfl rfl rfl ?_
    refine w_iconst (z := (1 : Int32)) (n := 109) X16.here hx (hb hby at_108) rfl rfl ?_
    refine l_B (n := 110) X16 hx hZ rfl V2 (by decide) (by decide) rfl (hb hby at_109) rfl ?_
    refine w_iloadN (n := 111) X16.here hx (hb hby at_110) rfl rfl ?_
    refine w_i2b (n := 112) X16.here hx (hb hby at_111) rfl ?_
    refine w_icmpne (n1 := 148) (n2 := 115) X16.here hx (hb hby at_112) (by decide) (by decide) rfl (fun hc112 => hc112.elim (own_i2b _)) (fun hc112 => ?_)
    refine w_aload (n := 117) X16.here hx (hb hby at_115) rfl rfl rfl ?_
    refine w_iconst (z := (2 : Int32)) (n := 118) X16.here hx (hb hby at_117) rfl rfl ?_
    refine l_B (n := 119) X16 hx hZ rfl V2 (by decide) (by decide) rfl (hb hby at_118) rfl ?_
    refine w_iloadN (n := 120) X16.here hx (hb hby at_119) rfl rfl ?_
    refine w_i2b (n := 121) X16.here hx (hb hby at_120) rfl ?_
    refine w_icmpne (n1 := 148) (n2 := 124) X16.here hx (hb hby at_121) (by decide) (by decide) rfl (fun hc121 => hc121.elim (own_i2b _)) (fun hc121 => ?_)
    refine w_aload (n := 126) X16.here hx (hb hby at_124) rfl rfl rfl ?_
    refine w_iconst (z := (3 : Int32)) (n := 127) X16.here hx (hb hby at_126) rfl rfl ?_
    refine l_B (n := 128) X16 hx hZ rfl V2 (by decide) (by decide) rfl (hb hby at_127) rfl ?_
    refine w_iload (n := 130) X16.here hx (hb hby at_128) rfl rfl ?_
    refine w_i2b (n := 131) X16.here hx (hb hby at_130) rfl ?_
    refine w_icmpne (n1 := 148) (n2 := 134) X16.here hx (hb hby at_131) (by decide) (by decide) rfl (fun hc131 => hc131.elim (own_i2b _)) (fun hc131 => ?_)
    refine w_aload (n := 136) X16.here hx (hb hby at_134) rfl rfl rfl ?_
    refine w_iconst (z := (4 : Int32)) (n := 137) X16.here hx (hb hby at_136) rfl rfl ?_
    refine l_B (n := 138) X16 hx hZ rfl V2 (by decide) (by decide) rfl (hb hby at_137) rfl ?_
    refine w_iload (n := 140) X16.here hx (hb hby at_138) rfl rfl ?_
    refine w_i2b (n := 141) X16.here hx (hb hby at_140) rfl ?_
    refine w_icmpne (n1 := 148) (n2 := 144) X16.here hx (hb hby at_141) (by decide) (by decide) rfl (fun hc141 => hc141.elim (own_i2b _)) (fun hc141 => ?_)
    refine w_iconst (z := (1 : Int32)) (n := 145) X16.here hx (hb hby at_144) rfl rfl ?_
    refine w_goto (n := 149) X16.here hx (hb hby at_145) (by decide) (by decide) ?_
    refine w_istore (Ls' := #[.val (.int k), .val (.int r0), .val (.int r1), .val (.int r2), .val (.int r3), .val (.int r4), .val (.int (1 : Int32)), .val (.ref wD), .val (.ref b), .val (.ref b2), .val (.int (2 : Int32)), .val (.int (1 : Int32)), .unset, .unset]) (n := 151) X16.here hx (hb hby at_149) rfl rfl ?_
    refine w_aload (n := 153) X16.here hx (hb hby at_151) rfl rfl rfl ?_
    refine w_iconst (z := (5 : Int32)) (n := 154) X16.here hx (hb hby at_153) rfl rfl ?_
    refine l_B (n := 155) X16 hx hZ rfl V2 (by decide) (by decide) rfl (hb hby at_154) rfl ?_
    refine w_iconst (z := (1 : Int32)) (n := 156) X16.here hx (hb hby at_155) rfl rfl ?_
    refine w_icmpne (n1 := 173) (n2 := 159) X16.here hx (hb hby at_156) (by decide) (by decide) rfl (fun hc156 => hc156.elim (rfl)) (fun hc156 => ?_)
    refine w_aload (n := 161) X16.here hx (hb hby at_159) rfl rfl rfl ?_
    refine w_bipush (z := (6 : Int32)) (n := 163) X16.here hx (hb hby at_161) rfl rfl ?_
    refine l_B (n := 164) X16 hx hZ rfl V2 (by decide) (by decide) rfl (hb hby at_163) rfl ?_
    refine w_iload (n := 166) X16.here hx (hb hby at_164) rfl rfl ?_
    refine w_icmpne (n1 := 173) (n2 := 169) X16.here hx (hb hby at_166) (by decide) (by decide) rfl (fun hc166 => hc166.elim (rfl)) (fun hc166 => ?_)
    refine w_iconst (z := (1 : Int32)) (n := 170) X16.here hx (hb hby at_169) rfl rfl ?_
    refine w_goto (n := 174) X16.here hx (hb hby at_170) (by decide) (by decide) ?_
    refine w_istore (Ls' := #[.val (.int k), .val (.int r0), .val (.int r1), .val (.int r2), .val (.int r3), .val (.int r4), .val (.int (1 : Int32)), .val (.ref wD), .val (.ref b), .val (.ref b2), .val (.int (2 : Int32)), .val (.int (1 : Int32)), .val (.int (1 : Int32)), .unset]) (n := 176) X16.here hx (hb hby at_174) rfl rfl ?_
    refine w_aload (n := 178) X16.here hx (hb hby at_176) rfl rfl rfl ?_
    refine w_iconst (z := (0 : Int32)) (n := 179) X16.here hx (hb hby at_178) rfl rfl ?_
    refine l_B (n := 180) X16 hx hZ rfl VR (by decide) (by decide) rfl (hb hby at_179) rfl ?_
    refine w_iloadN (n := 181) X16.here hx (hb hby at_180) rfl rfl ?_
    refine w_i2b (n := 182) X16.here hx (hb hby at_181) rfl ?_
    refine w_icmpne (n1 := 227) (n2 := 185) X16.here hx (hb hby at_182) (by decide) (by decide) rfl (fun hc182 => hc182.elim (own_i2b _)) (fun hc182 => ?_)
    refine w_aload (n := 187) X16.here hx (hb hby at_185) rfl rfl rfl ?_
    refine w_iconst (z := (1 : Int32)) (n := 188) X16.here hx (hb hby at_187) rfl rfl ?_
    refine l_B (n := 189) X16 hx hZ rfl VR (by decide) (by decide) rfl (hb hby at_188) rfl ?_
    refine w_iloadN (n := 190) X16.here hx (hb hby at_189) rfl rfl ?_
    refine w_i2b (n := 191) X16.here hx (hb hby at_190) rfl ?_
    refine w_icmpne (n1 := 227) (n2 := 194) X16.here hx (hb hby at_191) (by decide) (by decide) rfl (fun hc191 => hc191.elim (own_i2b _)) (fun hc191 => ?_)
    refine w_aload (n := 196) X16.here hx (hb hby at_194) rfl rfl rfl ?_
    refine w_iconst (z := (2 : Int32)) (n := 197) X16.here hx (hb hby at_196) rfl rfl ?_
    refine l_B (n := 198) X16 hx hZ rfl VR (by decide) (by decide) rfl (hb hby at_197) rfl ?_
    refine w_iloadN (n := 199) X16.here hx (hb hby at_198) rfl rfl ?_
    refine w_i2b (n := 200) X16.here hx (hb hby at_199) rfl ?_
    refine w_icmpne (n1 := 227) (n2 := 203) X16.here hx (hb hby at_200) (by decide) (by decide) rfl (fun hc200 => hc200.elim (own_i2b _)) (fun hc200 => ?_)
    refine w_aload (n := 205) X16.here hx (hb hby at_203) rfl rfl rfl ?_
    refine w_iconst (z := (3 : Int32)) (n := 206) X16.here hx (hb hby at_205) rfl rfl ?_
    refine l_B (n := 207) X16 hx hZ rfl VR (by decide) (by decide) rfl (hb hby at_206) rfl ?_
    refine w_iload (n := 209) X16.here hx (hb hby at_207) rfl rfl ?_
    refine w_i2b (n := 210) X16.here hx (hb hby at_209) rfl ?_
    refine w_icmpne (n1 := 227) (n2 := 213) X16.here hx (hb hby at_210) (by decide) (by decide) rfl (fun hc210 => hc210.elim (own_i2b _)) (fun hc210 => ?_)
    refine w_aload (n := 215) X16.here hx (hb hby at_213) rfl rfl rfl ?_
    refine w_iconst (z := (4 : Int32)) (n := 216) X16.here hx (hb hby at_215) rfl rfl ?_
    refine l_B (n := 217) X16 hx hZ rfl VR (by decide) (by decide) rfl (hb hby at_216) rfl ?_
    refine w_iload (n := 219) X16.here hx (hb hby at_217) rfl rfl ?_
    refine w_i2b (n := 220) X16.here hx (hb hby at_219) rfl ?_
    refine w_icmpne (n1 := 227) (n2 := 223) X16.here hx (hb hby at_220) (by decide) (by decide) rfl (fun hc220 => hc220.elim (own_i2b _)) (fun hc220 => ?_)
    refine w_iconst (z := (1 : Int32)) (n := 224) X16.here hx (hb hby at_223) rfl rfl ?_
    refine w_goto (n := 228) X16.here hx (hb hby at_224) (by decide) (by decide) ?_
    refine w_istore (Ls' := #[.val (.int k), .val (.int r0), .val (.int r1), .val (.int r2), .val (.int r3), .val (.int r4), .val (.int (1 : Int32)), .val (.ref wD), .val (.ref b), .val (.ref b2), .val (.int (2 : Int32)), .val (.int (1 : Int32)), .val (.int (1 : Int32)), .val (.int (1 : Int32))]) (n := 230) X16.here hx (hb hby at_228) rfl rfl ?_
    refine w_iload (n := 232) X16.here hx (hb hby at_230) rfl rfl ?_
    refine w_ifeq (n1 := 249) (n2 := 235) X16.here hx (hb hby at_232) (by decide) (by decide) rfl (fun hc232 => absurd hc232 (by decide)) (fun hc232 => ?_)
    refine w_iload (n := 237) X16.here hx (hb hby at_235) rfl rfl ?_
    refine w_ifeq (n1 := 249) (n2 := 240) X16.here hx (hb hby at_237) (by decide) (by decide) rfl (fun hc237 => absurd hc237 (by decide)) (fun hc237 => ?_)
    refine w_iload (n := 242) X16.here hx (hb hby at_240) rfl rfl ?_
    refine w_ifeq (n1 := 249) (n2 := 245) X16.here hx (hb hby at_242) (by decide) (by decide) rfl (fun hc242 => absurd hc242 (by decide)) (fun hc242 => ?_)
    refine w_iconst (z := (1 : Int32)) (n := 246) X16.here hx (hb hby at_245) rfl rfl ?_
    refine w_goto (n := 250) X16.here hx (hb hby at_246) (by decide) (by decide) ?_
    exact fin_Z X16 hx hlk rfl hret (Or.inl rfl) (hb hby at_250) (by decide) (by decide) ⟨rfl, NF⟩
set_option maxRecDepth 65536 in
set_option maxHeartbeats 40000000 in
theorem comes_1 {Post : Tables → Env → Array Value → State → Outcome → State → Prop} (hpost : ∀ tb e args s v u, (limb_1_1.after args s (.returned v) u = true ∧ limb_1_2.after args s (.returned v) u = true ∧ True) → FrameEnd s (.returned v) u (Jvm.fieldLocs frame_1_writes args s ++ Jvm.arrayLocs frame_1_arrays args s ++ Jvm.staticLocs frame_1_statics s) 16 128 → Post tb e args s (.returned v) u) :
    ArmFor flags0 classFile x code maxLocals ret World_1 tables_1 room_1 Calls_1 rest_1 Pre_1 Post := by
  intro l hfl _ _ p e ha hc hk s m args below hf hA hF happ hP
  obtain ⟨hcalls, hrest, hpre⟩ := hP
  obtain ⟨-, -, -, hnamed, -, -, -, hat⟩ := (Spec.applies_iff hf).mp happ
  obtain ⟨hg, hn⟩ := and_e (Cond.before_iff.mp (show (Jvm.Cond.and given_1 narrow_1).before args s = true from hpre))
  obtain ⟨q1, q2⟩ := and_e hg
  obtain ⟨q3, q4⟩ := and_e q2
  obtain ⟨q5, q6⟩ := and_e q4
  obtain ⟨q7, q8⟩ := and_e q6
  obtain ⟨q9, q10⟩ := and_e q8
  obtain ⟨q11, q12⟩ := and_e q10
  obtain ⟨w0, w1, w2, w3, w4, w5, rfl⟩ : ∃ w0 w1 w2 w3 w4 w5 : Value, args = #[w0, w1, w2, w3, w4, w5] := by
    have hs : args.size = 6 := by simpa [Cond.value, given_1] using q1
    obtain ⟨L⟩ := args
    match L, hs with
    | [w0, w1, w2, w3, w4, w5], _ => exact ⟨w0, w1, w2, w3, w4, w5, rfl⟩
  have hw := fun d (hd : d ∈ tables_1) => atoms_spec (ws := Jvm.Cond.code x code maxLocals ret :: tables_1) hat d (List.mem_cons_of_mem _ hd)
  have hfit : Fit s := fun {y c} hc i hi => by
    obtain ⟨ha, rfl⟩ := Array.getElem?_eq_some_iff.mp hc
    have q := List.all_eq_true.mp ((Array.all_eq_true_iff_forall_mem.mp hF) _ (Array.getElem_mem ha)) i (List.mem_range.mpr hi)
    simpa [Array.getElem?_eq_getElem hi] using q
  obtain ⟨i0, ei0⟩ := is_v q3
  obtain rfl : w0 = (.int i0) := Option.some.inj ei0
  obtain ⟨i1, ei1⟩ := is_v q5
  obtain rfl : w1 = (.int i1) := Option.some.inj ei1
  obtain ⟨i2, ei2⟩ := is_v q7
  obtain rfl : w2 = (.int i2) := Option.some.inj ei2
  obtain ⟨i3, ei3⟩ := is_v q9
  obtain rfl : w3 = (.int i3) := Option.some.inj ei3
  obtain ⟨i4, ei4⟩ := is_v q11
  obtain rfl : w4 = (.int i4) := Option.some.inj ei4
  obtain ⟨i5, ei5⟩ := is_v q12
  obtain rfl : w5 = (.int i5) := Option.some.inj ei5
  obtain ⟨q101, q102⟩ := and_e hn
  obtain ⟨q103, q104⟩ := and_e q102
  obtain ⟨q105, q106⟩ := and_e q104
  obtain ⟨q107, q108⟩ := and_e q106
  obtain ⟨q109, q110⟩ := and_e q108
  obtain ⟨q111, q112⟩ := and_e q110
  obtain ⟨q113, q114⟩ := and_e q112
  obtain ⟨q115, q116⟩ := and_e q114
  obtain ⟨q117, q118⟩ := and_e q116
  obtain ⟨q119, q120⟩ := and_e q118
  obtain ⟨q121, q122⟩ := and_e q120
  obtain ⟨wS, evS, AS, SS⟩ := sta_v q101 (hw _ (List.mem_of_getElem? (i := 1) rfl)) (hw _ (List.mem_of_getElem? (i := 2) rfl))
  obtain ⟨pS, pvS⟩ := exa_v q105
  have FS := fldr_v evS pvS
  obtain ⟨cS, arS⟩ := Arr.start pvS q103
  obtain ⟨lS, zS⟩ := len_is pvS arS.1 q107
  have elS0 : cS.slots[0]? = some (.int 1) := elemi_is pvS arS.1 q109
  have elS1 : cS.slots[1]? = some (.int 1) := elemi_is pvS arS.1 q111
  have PS : Arv s s.heap pS cS.cls .byte 2 [.int 1, .int 1] (.int 0) := Arv.start hfit arS lS zS (by decide) rfl ⟨elS0, elS1, trivial⟩
  obtain ⟨wD, evD, AD, SD⟩ := sta_v q113 (hw _ (List.mem_of_getElem? (i := 1) rfl)) (hw _ (List.mem_of_getElem? (i := 25) rfl))
  obtain ⟨pD, pvD⟩ := exa_v q117
  have FD := fldr_v evD pvD
  obtain ⟨cD, arD⟩ := Arr.start pvD q115
  obtain ⟨lD, zD⟩ := len_is pvD arD.1 q119
  have elD0 : cD.slots[0]? = some (.int 1) := elemi_is pvD arD.1 q121
  have elD1 : cD.slots[1]? = some (.int 2) := elemi_is pvD arD.1 q122
  have PD : Arv s s.heap pD cD.cls .byte 2 [.int 1, .int 2] (.int 0) := Arv.start hfit arD lD zD (by decide) rfl ⟨elD0, elD1, trivial⟩
  obtain ⟨n, o, h1, h2, h3, _, L, rfl, ⟨rfl, N⟩, hq⟩ := rm0 l s _ hw tables_1 i0 i1 i2 i3 i4 i5 wS wD pS pD cS.cls cD.cls s.heap SS AS FS PS SD AD FD PD p e ha hc hk s m _ below hf ((Spec.applies_iff_loose hf).mp happ).1 ⟨rfl, State.Warmed39.refl s, rfl⟩ trivial
  exact ⟨n, _, h1, h2, h3, hpost _ _ _ _ _ _ ⟨Cond.after_iff.mpr rfl, Cond.after_iff.mpr (eq_i res_at (Term.int_eval (1)) rfl), trivial⟩ ⟨hq.1, hq.2.1, (hq.2.2.sift fun y hy => Or.inr (N y hy)).mono (by decide) (by decide)⟩⟩
theorem main_1_1 : Claimed_1_1 := comes_1 fun _ _ _ _ _ _ h hF => ⟨h.1, hF⟩
theorem main_1_2 : Claimed_1_2 := comes_1 fun _ _ _ _ _ _ h hF => ⟨h.2.1, hF⟩
end Jvm.Pilot.@@N@@
namespace Jvm.Pilot.@@N@@
open Jvm Jvm.ClassFile Sem Op Lib Jvm.Free Jvm.Stand Jvm.Pilot.@@N@@.Jvm.D
/-! MADE BY PROGRAM (witnessworld.py) out of the Statement's table words and the real class files: 15 classes; the members and pool entries that the words name. The judged class is class 1, her method 1. -/
namespace start1
open Jvm.ClassFile
def u (s : String) : CpInfo := .utf8 (stringToUtf16 s)
/-- a pool by its gaps: so many unusable entries, then the entry; so many at the end -/
def gap : Nat → List CpInfo → List CpInfo
  | 0, r => r
  | n + 1, r => .unusable :: gap n r
def poolList (es : List (Nat × CpInfo)) (last : Nat) : List CpInfo := es.foldr (fun e r => gap e.1 (e.2 :: r)) (gap last [])
def pool (es : List (Nat × CpInfo)) (last : Nat) : Array CpInfo := ⟨poolList es last⟩
def fileOf (pool : Array CpInfo) (this : Nat) (attrs : Array Attribute := #[]) (ms : Array MethodInfo := #[]) (fl : Nat := 33) (sup : Nat := 0) (ifs : Array Nat := #[]) (fds : Array FieldInfo := #[]) : ClassFile where
  minorVersion := 0
  majorVersion := 65
  constantPool := pool
  accessFlags := fl
  thisClass := this
  superClass := sup
  interfaces := ifs
  fields := fds
  methods := ms
  attributes := attrs
def plain (name : String) (sup : Option ClassId) : Class where
  name := name
  kind := .ordinary
  loader := none
  accessFlags := 33
  super := sup
  interfaces := #[]
  cf := none
  fields := #[]
  methods := #[]
  instanceTypes := #[]
  staticTypes := #[]
  resolved := #[]
  callSites := []
  init := .initialized
  statics := none
  mirror := none

def pool0 : Array CpInfo := pool [(5, u "<init>"), (0, u "()V"), (1, .class_ 10), (1, u "java/lang/Object")] 113

def k0m0 : Method := { name := "<init>", desc := "()V", sig := { parameters := [], returnType := none }, accessFlags := 1, code := none }
/-- java/lang/Object -/
def k0 : Class := { plain "java/lang/Object" none with
  accessFlags := 33
  interfaces := #[]
  cf := some (fileOf pool0 8 #[] #[{ accessFlags := 1, nameIndex := 5, descriptorIndex := 6, attributes := #[] }] 33 0 #[] #[])
  fields := #[]
  methods := #[k0m0]
  instanceTypes := #[]
  staticTypes := #[]
  resolved := Array.replicate 124 none
  statics := none }

def pool1 : Array CpInfo := pool [(2, .class_ 4), (1, u "java/lang/Object"), (0, u "<init>"), (0, u "()V"), (0, .fieldref 8 9), (0, .class_ 10), (0, .nameAndType 11 12), (0, u "com/example/legitka/legitka/CardKind"), (0, u "DOCTORAL"), (0, u "Lcom/example/legitka/legitka/CardKind;"), (0, .fieldref 8 14), (0, .nameAndType 15 12), (0, u "STUDENT"), (0, .methodref 8 17), (0, .nameAndType 18 19), (0, u "applicationId"), (0, u "([B)[B"), (0, .class_ 21), (0, u "com/example/legitka/legitka/CardKindApplicationIdPinLaw"), (2, u "law"), (0, u "(IIIIII)Z")] 5

def k1m0 : Method := { name := "<init>", desc := "()V", sig := { parameters := [], returnType := none }, accessFlags := 1, code := none }
def k1c1 : Code := { maxStack := 4, maxLocals := 14, code := code, exceptionTable := #[], attributes := #[] }
def k1m1 : Method := { name := "law", desc := "(IIIIII)Z", sig := { parameters := [.int, .int, .int, .int, .int, .int], returnType := some .boolean }, accessFlags := 9, code := some k1c1 }
/-- com/example/legitka/legitka/CardKindApplicationIdPinLaw -/
def k1 : Class := { plain "com/example/legitka/legitka/CardKindApplicationIdPinLaw" (some 0) with
  accessFlags := 49
  interfaces := #[]
  cf := some (fileOf pool1 20 #[] #[{ accessFlags := 1, nameIndex := 5, descriptorIndex := 6, attributes := #[] }, { accessFlags := 9, nameIndex := 24, descriptorIndex := 25, attributes := #[] }] 49 2 #[] #[])
  fields := #[]
  methods := #[k1m0, k1m1]
  instanceTypes := #[]
  staticTypes := #[]
  resolved := Array.replicate 31 none
  statics := none }

def pool2 : Array CpInfo := pool [(1, .class_ 2), (0, u "java/lang/constant/Constable"), (0, .class_ 4), (0, u "java/lang/Object")] 6

/-- java/lang/constant/Constable -/
def k2 : Class := { plain "java/lang/constant/Constable" (some 0) with
  accessFlags := 1537
  interfaces := #[]
  cf := some (fileOf pool2 1 #[] #[] 1537 3 #[] #[])
  fields := #[]
  methods := #[]
  instanceTypes := #[]
  staticTypes := #[]
  resolved := Array.replicate 11 none
  statics := none }

def pool3 : Array CpInfo := pool [(1, .class_ 2), (0, u "java/lang/Comparable"), (0, .class_ 4), (0, u "java/lang/Object")] 7

/-- java/lang/Comparable -/
def k3 : Class := { plain "java/lang/Comparable" (some 0) with
  accessFlags := 1537
  interfaces := #[]
  cf := some (fileOf pool3 1 #[] #[] 1537 3 #[] #[])
  fields := #[]
  methods := #[]
  instanceTypes := #[]
  staticTypes := #[]
  resolved := Array.replicate 12 none
  statics := none }

def pool4 : Array CpInfo := pool [(1, .class_ 2), (0, u "java/io/Serializable"), (0, .class_ 4), (0, u "java/lang/Object")] 2

/-- java/io/Serializable -/
def k4 : Class := { plain "java/io/Serializable" (some 0) with
  accessFlags := 1537
  interfaces := #[]
  cf := some (fileOf pool4 1 #[] #[] 1537 3 #[] #[])
  fields := #[]
  methods := #[]
  instanceTypes := #[]
  staticTypes := #[]
  resolved := Array.replicate 7 none
  statics := none }

def pool5 : Array CpInfo := pool [(2, .class_ 4), (1, u "java/lang/Enum"), (0, u "name"), (0, u "Ljava/lang/String;"), (2, u "ordinal"), (0, u "I"), (1, .class_ 14), (1, u "java/lang/Object"), (4, u "hash"), (86, .class_ 108), (1, u "java/lang/Enum$EnumDesc"), (2, .class_ 112), (0, u "java/lang/constant/Constable"), (0, .class_ 114), (0, u "java/lang/Comparable"), (0, .class_ 116), (0, u "java/io/Serializable")] 87

/-- java/lang/Enum -/
def k5 : Class := { plain "java/lang/Enum" (some 0) with
  accessFlags := 1057
  interfaces := #[2, 3, 4]
  cf := some (fileOf pool5 2 #[.nestMembers #[106]] #[] 1057 12 #[111, 113, 115] #[{ accessFlags := 18, nameIndex := 5, descriptorIndex := 6, attributes := #[] }, { accessFlags := 18, nameIndex := 9, descriptorIndex := 10, attributes := #[] }, { accessFlags := 2, nameIndex := 19, descriptorIndex := 10, attributes := #[] }])
  fields := #[{ name := "name", type := (.object "java/lang/String"), accessFlags := 18, slot := 0, constantValue := 0 }, { name := "ordinal", type := .int, accessFlags := 18, slot := 1, constantValue := 0 }, { name := "hash", type := .int, accessFlags := 2, slot := 2, constantValue := 0 }]
  methods := #[]
  instanceTypes := #[(.object "java/lang/String"), .int, .int]
  staticTypes := #[]
  resolved := Array.replicate 204 none
  statics := none }

def pool6 : Array CpInfo := pool [(1, .class_ 2), (0, u "com/example/legitka/legitka/CardKind"), (2, u "STUDENT"), (0, u "Lcom/example/legitka/legitka/CardKind;"), (2, u "DOCTORAL"), (2, u "$VALUES"), (0, u "[Lcom/example/legitka/legitka/CardKind;"), (6, .class_ 22), (1, u "java/lang/Enum"), (8, u "contentType"), (0, u "Ljava/lang/String;"), (2, u "dataFileName"), (0, .fieldref 1 37), (0, .nameAndType 38 39), (0, u "pix"), (0, u "[B"), (2, u "signingWindow"), (0, u "I"), (2, u "issuerCommonName"), (25, .methodref 73 74), (0, .class_ 75), (0, .nameAndType 76 77), (0, u "java/util/Arrays"), (0, u "copyOf"), (0, u "([BI)[B"), (0, .methodref 79 80), (0, .class_ 81), (0, .nameAndType 82 83), (0, u "java/lang/System"), (0, u "arraycopy"), (0, u "(Ljava/lang/Object;ILjava/lang/Object;II)V"), (63, u "RID_LENGTH"), (2, u "CERTIFICATE_FILE_ID"), (1, u "SIGNED_FILE_ID"), (7, u "applicationId"), (0, u "([B)[B")] 27

def k6c0 : Code := { maxStack := 5, maxLocals := 3, code := prog_5_method_7_code, exceptionTable := #[], attributes := #[] }
def k6m0 : Method := { name := "applicationId", desc := "([B)[B", sig := { parameters := [(.array .byte)], returnType := some (.array .byte) }, accessFlags := 1, code := some k6c0 }
/-- com/example/legitka/legitka/CardKind -/
def k6 : Class := { plain "com/example/legitka/legitka/CardKind" (some 5) with
  accessFlags := 16433
  interfaces := #[]
  cf := some (fileOf pool6 1 #[] #[{ accessFlags := 1, nameIndex := 160, descriptorIndex := 161, attributes := #[] }] 16433 20 #[] #[{ accessFlags := 16409, nameIndex := 5, descriptorIndex := 6, attributes := #[] }, { accessFlags := 16409, nameIndex := 9, descriptorIndex := 6, attributes := #[] }, { accessFlags := 25, nameIndex := 147, descriptorIndex := 43, attributes := #[] }, { accessFlags := 24, nameIndex := 150, descriptorIndex := 43, attributes := #[] }, { accessFlags := 24, nameIndex := 152, descriptorIndex := 43, attributes := #[] }, { accessFlags := 18, nameIndex := 31, descriptorIndex := 32, attributes := #[] }, { accessFlags := 18, nameIndex := 35, descriptorIndex := 32, attributes := #[] }, { accessFlags := 18, nameIndex := 38, descriptorIndex := 39, attributes := #[] }, { accessFlags := 18, nameIndex := 42, descriptorIndex := 43, attributes := #[] }, { accessFlags := 18, nameIndex := 46, descriptorIndex := 32, attributes := #[] }, { accessFlags := 4122, nameIndex := 12, descriptorIndex := 13, attributes := #[] }])
  fields := #[{ name := "STUDENT", type := (.object "com/example/legitka/legitka/CardKind"), accessFlags := 16409, slot := 0, constantValue := 0 }, { name := "DOCTORAL", type := (.object "com/example/legitka/legitka/CardKind"), accessFlags := 16409, slot := 1, constantValue := 0 }, { name := "RID_LENGTH", type := .int, accessFlags := 25, slot := 2, constantValue := 0 }, { name := "CERTIFICATE_FILE_ID", type := .int, accessFlags := 24, slot := 3, constantValue := 0 }, { name := "SIGNED_FILE_ID", type := .int, accessFlags := 24, slot := 4, constantValue := 0 }, { name := "contentType", type := (.object "java/lang/String"), accessFlags := 18, slot := 3, constantValue := 0 }, { name := "dataFileName", type := (.object "java/lang/String"), accessFlags := 18, slot := 4, constantValue := 0 }, { name := "pix", type := (.array .byte), accessFlags := 18, slot := 5, constantValue := 0 }, { name := "signingWindow", type := .int, accessFlags := 18, slot := 6, constantValue := 0 }, { name := "issuerCommonName", type := (.object "java/lang/String"), accessFlags := 18, slot := 7, constantValue := 0 }, { name := "$VALUES", type := (.array (.object "com/example/legitka/legitka/CardKind")), accessFlags := 4122, slot := 5, constantValue := 0 }]
  methods := #[k6m0]
  instanceTypes := #[(.object "java/lang/String"), .int, .int, (.object "java/lang/String"), (.object "java/lang/String"), (.array .byte), .int, (.object "java/lang/String")]
  staticTypes := #[(.object "com/example/legitka/legitka/CardKind"), (.object "com/example/legitka/legitka/CardKind"), .int, .int, .int, (.array (.object "com/example/legitka/legitka/CardKind"))]
  resolved := Array.replicate 189 none
  statics := some 0 }

def pool7 : Array CpInfo := pool [(2, .class_ 4), (1, u "java/lang/Object"), (0, u "<init>"), (0, u "()V"), (7, .class_ 16), (1, u "java/util/Arrays"), (57, .class_ 76), (1, u "java/util/Arrays$NaturalOrder"), (36, .class_ 115), (1, u "java/util/Arrays$LegacyMergeSort"), (1, u "Z"), (32, .methodref 151 152), (0, .class_ 153), (0, .nameAndType 154 155), (0, u "java/lang/System"), (0, u "arraycopy"), (0, u "(Ljava/lang/Object;ILjava/lang/Object;II)V"), (146, u "copyOf"), (1, .methodref 305 306), (0, .class_ 307), (0, .nameAndType 308 309), (0, u "java/lang/Math"), (0, u "min"), (0, u "(II)I"), (65, .class_ 376), (0, u "java/util/Arrays$ArrayList"), (68, u "$assertionsDisabled"), (269, u "MIN_ARRAY_SORT_GRAN"), (0, u "I"), (2, u "INSERTIONSORT_THRESHOLD"), (149, u "([BI)[B"), (105, .class_ 976), (0, u "java/util/Arrays$ArrayItr")] 52

def k7m0 : Method := { name := "<init>", desc := "()V", sig := { parameters := [], returnType := none }, accessFlags := 2, code := none }
def k7c1 : Code := { maxStack := 6, maxLocals := 3, code := jdk_65_method_121_code, exceptionTable := #[], attributes := #[] }
def k7m1 : Method := { name := "copyOf", desc := "([BI)[B", sig := { parameters := [(.array .byte), .int], returnType := some (.array .byte) }, accessFlags := 9, code := some k7c1 }
/-- java/util/Arrays -/
def k7 : Class := { plain "java/util/Arrays" (some 0) with
  accessFlags := 49
  interfaces := #[]
  cf := some (fileOf pool7 14 #[.nestMembers #[975, 375, 113, 74]] #[{ accessFlags := 2, nameIndex := 5, descriptorIndex := 6, attributes := #[] }, { accessFlags := 9, nameIndex := 302, descriptorIndex := 869, attributes := #[] }] 49 2 #[] #[{ accessFlags := 26, nameIndex := 715, descriptorIndex := 716, attributes := #[] }, { accessFlags := 26, nameIndex := 719, descriptorIndex := 716, attributes := #[] }, { accessFlags := 4120, nameIndex := 445, descriptorIndex := 117, attributes := #[] }])
  fields := #[{ name := "MIN_ARRAY_SORT_GRAN", type := .int, accessFlags := 26, slot := 0, constantValue := 0 }, { name := "INSERTIONSORT_THRESHOLD", type := .int, accessFlags := 26, slot := 1, constantValue := 0 }, { name := "$assertionsDisabled", type := .boolean, accessFlags := 4120, slot := 2, constantValue := 0 }]
  methods := #[k7m0, k7m1]
  instanceTypes := #[]
  staticTypes := #[.int, .int, .boolean]
  resolved := Array.replicate 1029 none
  statics := none }

def pool8 : Array CpInfo := pool [(1, .class_ 2), (0, u "java/lang/Math"), (1, .class_ 6), (1, u "java/lang/Object"), (0, u "<init>"), (0, u "()V"), (89, .class_ 100), (1, u "java/lang/Math$RandomNumberGeneratorHolder"), (71, u "negativeZeroFloatBits"), (0, u "J"), (2, u "negativeZeroDoubleBits"), (24, u "min"), (43, u "$assertionsDisabled"), (0, u "Z"), (88, u "(II)I"), (2, u "twoToTheDoubleScaleDown"), (0, u "D"), (4, u "twoToTheDoubleScaleUp"), (9, u "E"), (3, u "PI"), (2, u "TAU"), (2, u "DEGREES_TO_RADIANS"), (0, u "RADIANS_TO_DEGREES")] 94

def k8m0 : Method := { name := "<init>", desc := "()V", sig := { parameters := [], returnType := none }, accessFlags := 2, code := none }
def k8c1 : Code := { maxStack := 2, maxLocals := 2, code := jdk_29_method_69_code, exceptionTable := #[], attributes := #[] }
def k8m1 : Method := { name := "min", desc := "(II)I", sig := { parameters := [.int, .int], returnType := some .int }, accessFlags := 9, code := some k8c1 }
/-- java/lang/Math -/
def k8 : Class := { plain "java/lang/Math" (some 0) with
  accessFlags := 49
  interfaces := #[]
  cf := some (fileOf pool8 1 #[.nestMembers #[98]] #[{ accessFlags := 2, nameIndex := 7, descriptorIndex := 8, attributes := #[] }, { accessFlags := 9, nameIndex := 201, descriptorIndex := 335, attributes := #[] }] 49 4 #[] #[{ accessFlags := 25, nameIndex := 354, descriptorIndex := 339, attributes := #[] }, { accessFlags := 25, nameIndex := 358, descriptorIndex := 339, attributes := #[] }, { accessFlags := 25, nameIndex := 361, descriptorIndex := 339, attributes := #[] }, { accessFlags := 26, nameIndex := 364, descriptorIndex := 339, attributes := #[] }, { accessFlags := 26, nameIndex := 365, descriptorIndex := 339, attributes := #[] }, { accessFlags := 26, nameIndex := 172, descriptorIndex := 173, attributes := #[] }, { accessFlags := 26, nameIndex := 176, descriptorIndex := 173, attributes := #[] }, { accessFlags := 8, nameIndex := 344, descriptorIndex := 339, attributes := #[] }, { accessFlags := 8, nameIndex := 338, descriptorIndex := 339, attributes := #[] }, { accessFlags := 4120, nameIndex := 245, descriptorIndex := 246, attributes := #[] }])
  fields := #[{ name := "E", type := .double, accessFlags := 25, slot := 0, constantValue := 0 }, { name := "PI", type := .double, accessFlags := 25, slot := 1, constantValue := 0 }, { name := "TAU", type := .double, accessFlags := 25, slot := 2, constantValue := 0 }, { name := "DEGREES_TO_RADIANS", type := .double, accessFlags := 26, slot := 3, constantValue := 0 }, { name := "RADIANS_TO_DEGREES", type := .double, accessFlags := 26, slot := 4, constantValue := 0 }, { name := "negativeZeroFloatBits", type := .long, accessFlags := 26, slot := 5, constantValue := 0 }, { name := "negativeZeroDoubleBits", type := .long, accessFlags := 26, slot := 6, constantValue := 0 }, { name := "twoToTheDoubleScaleUp", type := .double, accessFlags := 8, slot := 7, constantValue := 0 }, { name := "twoToTheDoubleScaleDown", type := .double, accessFlags := 8, slot := 8, constantValue := 0 }, { name := "$assertionsDisabled", type := .boolean, accessFlags := 4120, slot := 9, constantValue := 0 }]
  methods := #[k8m0, k8m1]
  instanceTypes := #[]
  staticTypes := #[.double, .double, .double, .double, .double, .long, .long, .double, .double, .boolean]
  resolved := Array.replicate 460 none
  statics := none }

def pool9 : Array CpInfo := pool [(2, .class_ 4), (1, u "java/lang/Object"), (0, u "<init>"), (0, u "()V"), (1, .class_ 10), (1, u "java/lang/System"), (0, u "allowSecurityManager"), (0, u "I"), (16, u "cons"), (0, u "Ljava/io/Console;"), (77, .class_ 110), (1, u "java/lang/System$CallersHolder"), (43, u "initialErrStream"), (0, u "Ljava/io/PrintStream;"), (19, u "security"), (0, u "Ljava/lang/SecurityManager;"), (31, .class_ 209), (0, u "java/lang/System$1"), (7, u "props"), (0, u "Ljava/util/Properties;"), (2, u "lineSeparator"), (0, u "Ljava/lang/String;"), (96, .class_ 321), (1, u "java/lang/System$LoggerFinder"), (5, .class_ 328), (0, u "java/lang/System$Logger"), (67, u "err"), (2, u "out"), (91, u "notSupportedJnuEncoding"), (15, u "in"), (17, u "initialIn"), (0, u "Ljava/io/InputStream;"), (35, u "bootLayer"), (0, u "Ljava/lang/ModuleLayer;"), (99, .class_ 664), (0, u "java/lang/System$2"), (9, u "NEVER"), (2, u "MAYBE"), (49, u "arraycopy"), (0, u "(Ljava/lang/Object;ILjava/lang/Object;II)V"), (72, .class_ 802), (0, u "java/lang/System$Logger$Level")] 31

def k9m0 : Method := { name := "<init>", desc := "()V", sig := { parameters := [], returnType := none }, accessFlags := 2, code := none }
def k9m1 : Method := { name := "arraycopy", desc := "(Ljava/lang/Object;ILjava/lang/Object;II)V", sig := { parameters := [(.object "java/lang/Object"), .int, (.object "java/lang/Object"), .int, .int], returnType := none }, accessFlags := 265, code := none }
/-- java/lang/System -/
def k9 : Class := { plain "java/lang/System" (some 0) with
  accessFlags := 49
  interfaces := #[]
  cf := some (fileOf pool9 8 #[.nestMembers #[319, 327, 801, 108, 663, 208]] #[{ accessFlags := 2, nameIndex := 5, descriptorIndex := 6, attributes := #[] }, { accessFlags := 265, nameIndex := 727, descriptorIndex := 728, attributes := #[] }] 49 2 #[] #[{ accessFlags := 25, nameIndex := 507, descriptorIndex := 526, attributes := #[] }, { accessFlags := 25, nameIndex := 399, descriptorIndex := 155, attributes := #[] }, { accessFlags := 25, nameIndex := 396, descriptorIndex := 155, attributes := #[] }, { accessFlags := 10, nameIndex := 525, descriptorIndex := 526, attributes := #[] }, { accessFlags := 26, nameIndex := 674, descriptorIndex := 12, attributes := #[] }, { accessFlags := 26, nameIndex := 677, descriptorIndex := 12, attributes := #[] }, { accessFlags := 10, nameIndex := 11, descriptorIndex := 12, attributes := #[] }, { accessFlags := 74, nameIndex := 175, descriptorIndex := 176, attributes := #[] }, { accessFlags := 10, nameIndex := 491, descriptorIndex := 222, attributes := #[] }, { accessFlags := 74, nameIndex := 29, descriptorIndex := 30, attributes := #[] }, { accessFlags := 74, nameIndex := 154, descriptorIndex := 155, attributes := #[] }, { accessFlags := 10, nameIndex := 217, descriptorIndex := 218, attributes := #[] }, { accessFlags := 10, nameIndex := 221, descriptorIndex := 222, attributes := #[] }, { accessFlags := 8, nameIndex := 562, descriptorIndex := 563, attributes := #[] }])
  fields := #[{ name := "in", type := (.object "java/io/InputStream"), accessFlags := 25, slot := 0, constantValue := 0 }, { name := "out", type := (.object "java/io/PrintStream"), accessFlags := 25, slot := 1, constantValue := 0 }, { name := "err", type := (.object "java/io/PrintStream"), accessFlags := 25, slot := 2, constantValue := 0 }, { name := "initialIn", type := (.object "java/io/InputStream"), accessFlags := 10, slot := 3, constantValue := 0 }, { name := "NEVER", type := .int, accessFlags := 26, slot := 4, constantValue := 0 }, { name := "MAYBE", type := .int, accessFlags := 26, slot := 5, constantValue := 0 }, { name := "allowSecurityManager", type := .int, accessFlags := 10, slot := 6, constantValue := 0 }, { name := "security", type := (.object "java/lang/SecurityManager"), accessFlags := 74, slot := 7, constantValue := 0 }, { name := "notSupportedJnuEncoding", type := (.object "java/lang/String"), accessFlags := 10, slot := 8, constantValue := 0 }, { name := "cons", type := (.object "java/io/Console"), accessFlags := 74, slot := 9, constantValue := 0 }, { name := "initialErrStream", type := (.object "java/io/PrintStream"), accessFlags := 74, slot := 10, constantValue := 0 }, { name := "props", type := (.object "java/util/Properties"), accessFlags := 10, slot := 11, constantValue := 0 }, { name := "lineSeparator", type := (.object "java/lang/String"), accessFlags := 10, slot := 12, constantValue := 0 }, { name := "bootLayer", type := (.object "java/lang/ModuleLayer"), accessFlags := 8, slot := 13, constantValue := 0 }]
  methods := #[k9m0, k9m1]
  instanceTypes := #[]
  staticTypes := #[(.object "java/io/InputStream"), (.object "java/io/PrintStream"), (.object "java/io/PrintStream"), (.object "java/io/InputStream"), .int, .int, .int, (.object "java/lang/SecurityManager"), (.object "java/lang/String"), (.object "java/io/Console"), (.object "java/io/PrintStream"), (.object "java/util/Properties"), (.object "java/lang/String"), (.object "java/lang/ModuleLayer")]
  resolved := Array.replicate 834 none
  statics := none }

def pool10 : Array CpInfo := pool [(1, u "java/lang/Cloneable"), (0, .class_ 1), (0, u "java/lang/Object"), (0, .class_ 3)] 3

/-- java/lang/Cloneable -/
def k10 : Class := { plain "java/lang/Cloneable" (some 0) with
  accessFlags := 1537
  interfaces := #[]
  cf := some (fileOf pool10 2 #[] #[] 1537 4 #[] #[])
  fields := #[]
  methods := #[]
  instanceTypes := #[]
  staticTypes := #[]
  resolved := Array.replicate 8 none
  statics := none }

/-- the primitive byte -/
def k11 : Class := { plain "byte" none with kind := .primitive 'B', accessFlags := 0x411 }
/-- [B -/
def k12 : Class := { plain "[B" (some 0) with kind := .array 11 .byte, interfaces := #[10, 4], accessFlags := 1041 }

/-- the primitive int -/
def k13 : Class := { plain "int" none with kind := .primitive 'I', accessFlags := 0x411 }
/-- [I -/
def k14 : Class := { plain "[I" (some 0) with kind := .array 13 .int, interfaces := #[10, 4], accessFlags := 1041 }

def heap : Heap := #[{ cls := 6, slots := #[.ref 3, .ref 4, .int 0, .int 0, .int 0, .null], vm := .statics 6 },
  { cls := 12, slots := #[.int 1, .int 1], vm := .none },
  { cls := 12, slots := #[.int 1, .int 2], vm := .none },
  { cls := 6, slots := #[.null, .int 0, .int 0, .null, .null, .ref 1, .int 0, .null], vm := .none },
  { cls := 6, slots := #[.null, .int 1, .int 0, .null, .null, .ref 2, .int 0, .null], vm := .none }]
def classes : Array Class := #[k0, k1, k2, k3, k4, k5, k6, k7, k8, k9, k10, k11, k12, k13, k14]
def interned : List (Array UInt16 × Addr) := []
def slotsUsed : Nat := 26
def theMethod : MethodId := ⟨1, 1⟩
def args0 : Array Value := #[.int 1, .int 200, .int 3, .int 4, .int 5, .int 6]
def aboutOver (below : List Frame) : State where
  vm := { classes := classes, interned := interned.toArray }
  heap := heap
  slotsUsed := slotsUsed
  threads := #[{ frames := .invoking theMethod args0 :: below }]
def below0 : List Frame := [.native { method := ⟨0, 0⟩, args := #[] }]
def about1 : State := aboutOver below0
def p0 : Program := .bare "" "" ""
def e0 : Env := launch0.env 0 0 0
theorem w_frames : about1.frames = Frame.invoking theMethod args0 :: below0 := rfl
set_option maxRecDepth 65536 in
theorem w_args : argsFit about1.vm theMethod args0 = true := by decide +kernel
set_option maxRecDepth 65536 in
theorem w_heap : heapFits about1 = true := by decide +kernel
set_option maxRecDepth 65536 in
theorem w_runnable : about1.curStatus? = some .runnable := by decide +kernel
set_option maxRecDepth 65536 in
theorem w_alone : about1.alone = true := by decide +kernel
set_option maxRecDepth 65536 in
theorem w_named : about1.methodNamed? x = some theMethod := by decide +kernel
set_option maxRecDepth 65536 in
theorem w_hears : about1.hears theMethod below0 = true := by decide +kernel
set_option maxRecDepth 65536 in
theorem w_ripe : about1.ripe theMethod args0 below0 = true := by decide +kernel
theorem w_running : about1.status = .running := rfl
set_option maxRecDepth 65536 in
theorem w_room : about1.hasRoom e0.platform room_1 = true :=
  launch0.hasRoom_least _ room_1 (by decide +kernel) (by decide +kernel) (by decide +kernel) (by decide +kernel) (by decide +kernel) (by decide +kernel)
theorem allAtoms_all (ts : List Jvm.Cond) (a : Array Jvm.Value) (st : Jvm.State) : (allAtoms ts).before a st = ts.all (fun c => c.before a st) := by
  induction ts with
  | nil => rfl
  | cons c t ih =>
    show (Jvm.Cond.and c (allAtoms t)).before a st = _
    rw [Jvm.Cond.before_and, ih, List.all_cons]
def words1 : List Jvm.Cond := Jvm.Cond.code x code maxLocals ret :: tables_1
/-- a 'code' word, met by the world's own term for the bytes: nothing is compared byte by byte -/
theorem code_word {y : MethodName} {bytes : ByteArray} {mx : Nat} {rt : Option FieldType} {a : Array Value} {s : State} {m : MethodId} {meth : Method} {c : Code} (h1 : s.methodNamed? y = some m) (h2 : s.vm.method? m = some meth) (h3 : meth.code = some c) (h4 : c.code = bytes)
    (h5 : (c.maxLocals == mx && c.exceptionTable.isEmpty && decide (c.maxStack ≤ mostOperands) && decide (meth.sig.returnType = rt) && !meth.locks && decide (parseMethodDescriptor y.desc = some meth.sig)) = true) : (Jvm.Cond.code y bytes mx rt).before a s = true := by
  simp only [Bool.and_eq_true, beq_iff_eq, Bool.not_eq_true', decide_eq_true_eq] at h5
  obtain ⟨⟨⟨⟨⟨g1, g2⟩, g3⟩, g4⟩, g5⟩, g6⟩ := h5
  simp [Cond.before, Cond.holds, Cond.value, h1, h2, h3, h4, g1, g2, g3, g4, g5, g6]
def isCode : Jvm.Cond → Bool
  | .code _ _ _ _ => true
  | _ => false
theorem all_split {L : List Jvm.Cond} {P : Jvm.Cond → Bool} (h1 : L.all (fun c => isCode c || P c) = true) (h2 : ∀ c ∈ L.filter isCode, P c = true) : L.all P = true := by
  refine List.all_eq_true.mpr fun c hc => ?_
  have h := List.all_eq_true.mp h1 c hc
  rcases Bool.eq_false_or_eq_true (isCode c) with hi | hi
  · exact h2 c (List.mem_filter.mpr ⟨hc, hi⟩)
  · simpa [hi] using h
set_option maxRecDepth 65536 in
theorem w_c0 : (Jvm.Cond.code x code maxLocals ret).before args0 about1 = true := code_word (m := ⟨1, 1⟩) (meth := k1m1) (c := k1c1) (by decide +kernel) rfl rfl rfl (by decide +kernel)
set_option maxRecDepth 65536 in
theorem w_c1 : (Jvm.Cond.code ({ cls := "com/example/legitka/legitka/CardKind", name := "applicationId", desc := "([B)[B" } : Jvm.MethodName) prog_5_method_7_code (3 : Nat) (Option.some (Jvm.ClassFile.FieldType.array Jvm.ClassFile.FieldType.byte))).before args0 about1 = true := code_word (m := ⟨6, 0⟩) (meth := k6m0) (c := k6c0) (by decide +kernel) rfl rfl rfl (by decide +kernel)
set_option maxRecDepth 65536 in
theorem w_c2 : (Jvm.Cond.code ({ cls := "java/util/Arrays", name := "copyOf", desc := "([BI)[B" } : Jvm.MethodName) jdk_65_method_121_code (3 : Nat) (Option.some (Jvm.ClassFile.FieldType.array Jvm.ClassFile.FieldType.byte))).before args0 about1 = true := code_word (m := ⟨7, 1⟩) (meth := k7m1) (c := k7c1) (by decide +kernel) rfl rfl rfl (by decide +kernel)
set_option maxRecDepth 65536 in
theorem w_c3 : (Jvm.Cond.code ({ cls := "java/lang/Math", name := "min", desc := "(II)I" } : Jvm.MethodName) jdk_29_method_69_code (2 : Nat) (Option.some Jvm.ClassFile.FieldType.int)).before args0 about1 = true := code_word (m := ⟨8, 1⟩) (meth := k8m1) (c := k8c1) (by decide +kernel) rfl rfl rfl (by decide +kernel)
def codes1 : List Jvm.Cond := [Jvm.Cond.code x code maxLocals ret, Jvm.Cond.code ({ cls := "com/example/legitka/legitka/CardKind", name := "applicationId", desc := "([B)[B" } : Jvm.MethodName) prog_5_method_7_code (3 : Nat) (Option.some (Jvm.ClassFile.FieldType.array Jvm.ClassFile.FieldType.byte)), Jvm.Cond.code ({ cls := "java/util/Arrays", name := "copyOf", desc := "([BI)[B" } : Jvm.MethodName) jdk_65_method_121_code (3 : Nat) (Option.some (Jvm.ClassFile.FieldType.array Jvm.ClassFile.FieldType.byte)), Jvm.Cond.code ({ cls := "java/lang/Math", name := "min", desc := "(II)I" } : Jvm.MethodName) jdk_29_method_69_code (2 : Nat) (Option.some Jvm.ClassFile.FieldType.int)]
set_option maxRecDepth 65536 in
theorem codes_eq : words1.filter isCode = codes1 := rfl
theorem w_codes : ∀ c ∈ words1.filter isCode, c.before args0 about1 = true := by
  rw [codes_eq]
  intro c hc
  simp only [codes1, List.mem_cons, List.not_mem_nil, or_false] at hc
  rcases hc with rfl | rfl | rfl | rfl
  · exact w_c0
  · exact w_c1
  · exact w_c2
  · exact w_c3
set_option maxRecDepth 65536 in
theorem w_t1 : (words1.take 24).all (fun c => isCode c || c.before args0 about1) = true := by decide +kernel
set_option maxRecDepth 65536 in
theorem w_t2 : (words1.drop 24).all (fun c => isCode c || c.before args0 about1) = true := by decide +kernel
theorem w_tables : (allAtoms (Jvm.Cond.code x code maxLocals ret :: tables_1)).before args0 about1 = true := by
  rw [allAtoms_all]
  show words1.all (fun c => c.before args0 about1) = true
  refine all_split ?_ w_codes
  rw [← List.take_append_drop 24 words1, List.all_append, w_t1, w_t2]
  rfl
set_option maxRecDepth 65536 in
theorem w_case : (Jvm.Cond.and given_1 narrow_1).before args0 about1 = true := by decide +kernel
theorem w_applies : (headSpec (Jvm.Cond.code x code maxLocals ret :: tables_1) room_1).applies x e0.platform about1 = true :=
  (Spec.applies_iff w_frames).mpr ⟨w_running, w_runnable, w_alone, w_named, w_hears, w_ripe, w_room, w_tables⟩
theorem atStart : AtStart classFile x code maxLocals ret World_1 tables_1 room_1 Calls_1 rest_1 Pre_1 launch0 p0 e0 about1 theMethod args0 below0 :=
  ⟨lists_1, trivial, launch0.admits_env _ _ _, launch0.least_env, fairChoices_fair.cas, fairChoices_fair.clock, w_frames, w_args, w_heap, w_applies, trivial, trivial, w_case⟩
end start1
theorem witness_1 : WitnessClaimed_1 := ⟨start1.p0, start1.e0, start1.about1, start1.theMethod, start1.args0, start1.below0, start1.atStart⟩
end Jvm.Pilot.@@N@@
