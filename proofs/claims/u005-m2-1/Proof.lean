import JvmDerived
import JvmDerived.Pilot.@@N@@Statement
import JvmDerived.Pilot.@@N@@Code
set_option linter.unusedVariables false
set_option linter.unusedSimpArgs false
namespace Jvm.OwnKit
open Sem ClassFile Op Lib Jvm.Stand Jvm.Free Jvm.LawKit Jvm.RoadKit
/-- from this frame the run ends, and the end is as Q says -/
def Endz (tb : Tables) (e : Env) (below : List Frame) (Q : Outcome → State → Prop) (T : State) (g : JFrame) : Prop :=
  ∃ s₂ o, Steps tb e below (T.setTop g) s₂ ∧ s₂.status = .running ∧ Ended s₂ below o ∧ Q o s₂
theorem Endz.by {tb : Tables} {e : Env} {below : List Frame} {Q : Outcome → State → Prop} {T T' : State} {g g' : JFrame} (st : ∀ t, Steps tb e below (T'.setTop g') t → Steps tb e below (T.setTop g) t) (h : Endz tb e below Q T' g') : Endz tb e below Q T g := by
  obtain ⟨s₂, o, h1, h2⟩ := h; exact ⟨s₂, o, st _ h1, h2⟩
theorem Endz.tr {tb : Tables} {e : Env} {below : List Frame} {Q : Outcome → State → Prop} {T T' : State} {g g' : JFrame} (st : Steps tb e below (T.setTop g) (T'.setTop g')) (h : Endz tb e below Q T' g') : Endz tb e below Q T g := by
  obtain ⟨s₂, o, h1, h2⟩ := h; exact ⟨s₂, o, st.trans h1, h2⟩
theorem Endz.eq {tb : Tables} {e : Env} {below : List Frame} {Q : Outcome → State → Prop} {T : State} {g g' : JFrame} (q : g = g') (h : Endz tb e below Q T g') : Endz tb e below Q T g := q ▸ h
section Plain
variable {tb : Tables} [Ours tb] {e : Env} {below : List Frame} {Q : Outcome → State → Prop} {T : State} {m : MethodId} {c : Code} {pc n n1 n2 : Nat} {Ls Ls' : Array Slot} {st : List Value}
theorem w_iloadN (h : At T m c below) (hx : tb.exec = Jvm.exec) {k : Fin 4} {v : Int32} (hd : decode c.code pc = .ok (.iload_n k, 1)) (hn : pc + 1 = n) (hl : Ls[k.val]? = some (.val (.int v))) (hr : Endz tb e below Q T (mkF m n Ls (.int v :: st))) : Endz tb e below Q T (mkF m pc Ls (st)) := by
  subst hn; exact Endz.by (fun _ k => XS.iloadN h hx rfl hd hl k) hr
theorem w_iload (h : At T m c below) (hx : tb.exec = Jvm.exec) {k : Nat} {v : Int32} (hd : decode c.code pc = .ok (.iload k, 2)) (hn : pc + 2 = n) (hl : Ls[k]? = some (.val (.int v))) (hr : Endz tb e below Q T (mkF m n Ls (.int v :: st))) : Endz tb e below Q T (mkF m pc Ls (st)) := by
  subst hn; exact Endz.by (fun _ k => XS.iload h hx rfl hd hl k) hr
theorem w_lloadN (h : At T m c below) (hx : tb.exec = Jvm.exec) {k : Fin 4} {v : Int64} (hd : decode c.code pc = .ok (.lload_n k, 1)) (hn : pc + 1 = n) (hl : Ls[k.val]? = some (.val (.long v))) (hr : Endz tb e below Q T (mkF m n Ls (.long v :: st))) : Endz tb e below Q T (mkF m pc Ls (st)) := by
  subst hn; exact Endz.by (fun _ k => XS.lloadN h hx rfl hd hl k) hr
theorem w_lload (h : At T m c below) (hx : tb.exec = Jvm.exec) {k : Nat} {v : Int64} (hd : decode c.code pc = .ok (.lload k, 2)) (hn : pc + 2 = n) (hl : Ls[k]? = some (.val (.long v))) (hr : Endz tb e below Q T (mkF m n Ls (.long v :: st))) : Endz tb e below Q T (mkF m pc Ls (st)) := by
  subst hn; exact Endz.by (fun _ k => XS.lload h hx rfl hd hl k) hr
theorem w_aloadN (h : At T m c below) (hx : tb.exec = Jvm.exec) {k : Fin 4} {v : Value} (hd : decode c.code pc = .ok (.aload_n k, 1)) (hn : pc + 1 = n) (hl : Ls[k.val]? = some (.val v)) (hv : v.isRef = true) (hr : Endz tb e below Q T (mkF m n Ls (v :: st))) : Endz tb e below Q T (mkF m pc Ls (st)) := by
  subst hn; exact Endz.by (fun _ k => XS.aloadN h hx rfl hd hl hv k) hr
theorem w_aload (h : At T m c below) (hx : tb.exec = Jvm.exec) {k : Nat} {v : Value} (hd : decode c.code pc = .ok (.aload k, 2)) (hn : pc + 2 = n) (hl : Ls[k]? = some (.val v)) (hv : v.isRef = true) (hr : Endz tb e below Q T (mkF m n Ls (v :: st))) : Endz tb e below Q T (mkF m pc Ls (st)) := by
  subst hn; exact Endz.by (fun _ k => XS.aload h hx rfl hd hl hv k) hr
theorem w_istoreN (h : At T m c below) (hx : tb.exec = Jvm.exec) {k : Fin 4} {x : Int32} (hd : decode c.code pc = .ok (.istore_n k, 1)) (hn : pc + 1 = n) (hl : storeLocals Ls k.val (.int x) = some Ls') (hr : Endz tb e below Q T (mkF m n Ls' (st))) : Endz tb e below Q T (mkF m pc Ls (.int x :: st)) := by
  subst hn; exact Endz.by (fun _ k => XS.istoreN h hx rfl hd rfl hl k) hr
theorem w_istore (h : At T m c below) (hx : tb.exec = Jvm.exec) {k : Nat} {x : Int32} (hd : decode c.code pc = .ok (.istore k, 2)) (hn : pc + 2 = n) (hl : storeLocals Ls k (.int x) = some Ls') (hr : Endz tb e below Q T (mkF m n Ls' (st))) : Endz tb e below Q T (mkF m pc Ls (.int x :: st)) := by
  subst hn; exact Endz.by (fun _ k => XS.istore h hx rfl hd rfl hl k) hr
theorem w_lstoreN (h : At T m c below) (hx : tb.exec = Jvm.exec) {k : Fin 4} {x : Int64} (hd : decode c.code pc = .ok (.lstore_n k, 1)) (hn : pc + 1 = n) (hl : storeLocals Ls k.val (.long x) = some Ls') (hr : Endz tb e below Q T (mkF m n Ls' (st))) : Endz tb e below Q T (mkF m pc Ls (.long x :: st)) := by
  subst hn; exact Endz.by (fun _ k => XS.lstoreN h hx rfl hd rfl hl k) hr
theorem w_lstore (h : At T m c below) (hx : tb.exec = Jvm.exec) {k : Nat} {x : Int64} (hd : decode c.code pc = .ok (.lstore k, 2)) (hn : pc + 2 = n) (hl : storeLocals Ls k (.long x) = some Ls') (hr : Endz tb e below Q T (mkF m n Ls' (st))) : Endz tb e below Q T (mkF m pc Ls (.long x :: st)) := by
  subst hn; exact Endz.by (fun _ k => XS.lstore h hx rfl hd rfl hl k) hr
theorem w_astoreN (h : At T m c below) (hx : tb.exec = Jvm.exec) {k : Fin 4} {x : Value} (hd : decode c.code pc = .ok (.astore_n k, 1)) (hn : pc + 1 = n) (hv : x.isRef = true) (hl : storeLocals Ls k.val x = some Ls') (hr : Endz tb e below Q T (mkF m n Ls' (st))) : Endz tb e below Q T (mkF m pc Ls (x :: st)) := by
  subst hn; exact Endz.by (fun _ k => XS.astoreN h hx rfl hd rfl hv hl k) hr
theorem w_astore (h : At T m c below) (hx : tb.exec = Jvm.exec) {k : Nat} {x : Value} (hd : decode c.code pc = .ok (.astore k, 2)) (hn : pc + 2 = n) (hv : x.isRef = true) (hl : storeLocals Ls k x = some Ls') (hr : Endz tb e below Q T (mkF m n Ls' (st))) : Endz tb e below Q T (mkF m pc Ls (x :: st)) := by
  subst hn; exact Endz.by (fun _ k => XS.astore h hx rfl hd rfl hv hl k) hr
theorem w_iinc (h : At T m c below) (hx : tb.exec = Jvm.exec) {k : Nat} {i : Int} {x : Int32} (hd : decode c.code pc = .ok (.iinc k i, 3)) (hn : pc + 3 = n) (hl : Ls[k]? = some (.val (.int x))) (hl' : storeLocals Ls k (.int (x + Int32.ofInt i)) = some Ls') (hr : Endz tb e below Q T (mkF m n Ls' (st))) : Endz tb e below Q T (mkF m pc Ls (st)) := by
  subst hn; exact Endz.by (fun _ k => XS.iinc h hx rfl hd hl hl' k) hr
theorem w_iconst (h : At T m c below) (hx : tb.exec = Jvm.exec) {i : Int} {z : Int32} (hd : decode c.code pc = .ok (.iconst i, 1)) (hn : pc + 1 = n) (hz : Int32.ofInt i = z) (hr : Endz tb e below Q T (mkF m n Ls (.int z :: st))) : Endz tb e below Q T (mkF m pc Ls (st)) := by
  subst hn; exact Endz.by (fun _ k => XS.iconst h hx rfl hd (hz ▸ k)) hr
theorem w_bipush (h : At T m c below) (hx : tb.exec = Jvm.exec) {i : Int} {z : Int32} (hd : decode c.code pc = .ok (.bipush i, 2)) (hn : pc + 2 = n) (hz : (Int8.ofInt i).toInt32 = z) (hr : Endz tb e below Q T (mkF m n Ls (.int z :: st))) : Endz tb e below Q T (mkF m pc Ls (st)) := by
  subst hn; exact Endz.by (fun _ k => XS.bipush h hx rfl hd (hz ▸ k)) hr
theorem w_sipush (h : At T m c below) (hx : tb.exec = Jvm.exec) {i : Int} {z : Int32} (hd : decode c.code pc = .ok (.sipush i, 3)) (hn : pc + 3 = n) (hz : (Int16.ofInt i).toInt32 = z) (hr : Endz tb e below Q T (mkF m n Ls (.int z :: st))) : Endz tb e below Q T (mkF m pc Ls (st)) := by
  subst hn; exact Endz.by (fun _ k => XS.sipush h hx rfl hd (hz ▸ k)) hr
theorem w_lconst (h : At T m c below) (hx : tb.exec = Jvm.exec) {i : Fin 2} {z : Int64} (hd : decode c.code pc = .ok (.lconst i, 1)) (hn : pc + 1 = n) (hz : Int64.ofNat i = z) (hr : Endz tb e below Q T (mkF m n Ls (.long z :: st))) : Endz tb e below Q T (mkF m pc Ls (st)) := by
  subst hn; exact Endz.by (fun _ k => XS.lconst h hx rfl hd (hz ▸ k)) hr
theorem w_aconstNull (h : At T m c below) (hx : tb.exec = Jvm.exec)  (hd : decode c.code pc = .ok (.aconst_null, 1)) (hn : pc + 1 = n) (hr : Endz tb e below Q T (mkF m n Ls (.null :: st))) : Endz tb e below Q T (mkF m pc Ls (st)) := by
  subst hn; exact Endz.by (fun _ k => XS.aconstNull h hx rfl hd k) hr
theorem w_iadd (h : At T m c below) (hx : tb.exec = Jvm.exec) {x y : Int32} (hd : decode c.code pc = .ok (.iadd, 1)) (hn : pc + 1 = n) (hr : Endz tb e below Q T (mkF m n Ls (.int (x + y) :: st))) : Endz tb e below Q T (mkF m pc Ls (.int y :: .int x :: st)) := by
  subst hn; exact Endz.by (fun _ k => XS.iadd h hx rfl hd rfl k) hr
theorem w_isub (h : At T m c below) (hx : tb.exec = Jvm.exec) {x y : Int32} (hd : decode c.code pc = .ok (.isub, 1)) (hn : pc + 1 = n) (hr : Endz tb e below Q T (mkF m n Ls (.int (x - y) :: st))) : Endz tb e below Q T (mkF m pc Ls (.int y :: .int x :: st)) := by
  subst hn; exact Endz.by (fun _ k => XS.isub h hx rfl hd rfl k) hr
theorem w_imul (h : At T m c below) (hx : tb.exec = Jvm.exec) {x y : Int32} (hd : decode c.code pc = .ok (.imul, 1)) (hn : pc + 1 = n) (hr : Endz tb e below Q T (mkF m n Ls (.int (x * y) :: st))) : Endz tb e below Q T (mkF m pc Ls (.int y :: .int x :: st)) := by
  subst hn; exact Endz.by (fun _ k => XS.imul h hx rfl hd rfl k) hr
theorem w_iand (h : At T m c below) (hx : tb.exec = Jvm.exec) {x y : Int32} (hd : decode c.code pc = .ok (.iand, 1)) (hn : pc + 1 = n) (hr : Endz tb e below Q T (mkF m n Ls (.int (x &&& y) :: st))) : Endz tb e below Q T (mkF m pc Ls (.int y :: .int x :: st)) := by
  subst hn; exact Endz.by (fun _ k => XS.iand h hx rfl hd rfl k) hr
theorem w_ior (h : At T m c below) (hx : tb.exec = Jvm.exec) {x y : Int32} (hd : decode c.code pc = .ok (.ior, 1)) (hn : pc + 1 = n) (hr : Endz tb e below Q T (mkF m n Ls (.int (x ||| y) :: st))) : Endz tb e below Q T (mkF m pc Ls (.int y :: .int x :: st)) := by
  subst hn; exact Endz.by (fun _ k => XS.ior h hx rfl hd rfl k) hr
theorem w_ixor (h : At T m c below) (hx : tb.exec = Jvm.exec) {x y : Int32} (hd : decode c.code pc = .ok (.ixor, 1)) (hn : pc + 1 = n) (hr : Endz tb e below Q T (mkF m n Ls (.int (x ^^^ y) :: st))) : Endz tb e below Q T (mkF m pc Ls (.int y :: .int x :: st)) := by
  subst hn; exact Endz.by (fun _ k => XS.ixor h hx rfl hd rfl k) hr
theorem w_ishl (h : At T m c below) (hx : tb.exec = Jvm.exec) {x y : Int32} (hd : decode c.code pc = .ok (.ishl, 1)) (hn : pc + 1 = n) (hr : Endz tb e below Q T (mkF m n Ls (.int (x <<< (y &&& 31)) :: st))) : Endz tb e below Q T (mkF m pc Ls (.int y :: .int x :: st)) := by
  subst hn; exact Endz.by (fun _ k => XS.ishl h hx rfl hd rfl k) hr
theorem w_ishr (h : At T m c below) (hx : tb.exec = Jvm.exec) {x y : Int32} (hd : decode c.code pc = .ok (.ishr, 1)) (hn : pc + 1 = n) (hr : Endz tb e below Q T (mkF m n Ls (.int (x >>> (y &&& 31)) :: st))) : Endz tb e below Q T (mkF m pc Ls (.int y :: .int x :: st)) := by
  subst hn; exact Endz.by (fun _ k => XS.ishr h hx rfl hd rfl k) hr
theorem w_iushr (h : At T m c below) (hx : tb.exec = Jvm.exec) {x y : Int32} (hd : decode c.code pc = .ok (.iushr, 1)) (hn : pc + 1 = n) (hr : Endz tb e below Q T (mkF m n Ls (.int ((x.toUInt32 >>> (y &&& 31).toUInt32).toInt32) :: st))) : Endz tb e below Q T (mkF m pc Ls (.int y :: .int x :: st)) := by
  subst hn; exact Endz.by (fun _ k => XS.iushr h hx rfl hd rfl k) hr
theorem w_ladd (h : At T m c below) (hx : tb.exec = Jvm.exec) {x y : Int64} (hd : decode c.code pc = .ok (.ladd, 1)) (hn : pc + 1 = n) (hr : Endz tb e below Q T (mkF m n Ls (.long (x + y) :: st))) : Endz tb e below Q T (mkF m pc Ls (.long y :: .long x :: st)) := by
  subst hn; exact Endz.by (fun _ k => XS.ladd h hx rfl hd rfl k) hr
theorem w_lsub (h : At T m c below) (hx : tb.exec = Jvm.exec) {x y : Int64} (hd : decode c.code pc = .ok (.lsub, 1)) (hn : pc + 1 = n) (hr : Endz tb e below Q T (mkF m n Ls (.long (x - y) :: st))) : Endz tb e below Q T (mkF m pc Ls (.long y :: .long x :: st)) := by
  subst hn; exact Endz.by (fun _ k => XS.lsub h hx rfl hd rfl k) hr
theorem w_lmul (h : At T m c below) (hx : tb.exec = Jvm.exec) {x y : Int64} (hd : decode c.code pc = .ok (.lmul, 1)) (hn : pc + 1 = n) (hr : Endz tb e below Q T (mkF m n Ls (.long (x * y) :: st))) : Endz tb e below Q T (mkF m pc Ls (.long y :: .long x :: st)) := by
  subst hn; exact Endz.by (fun _ k => XS.lmul h hx rfl hd rfl k) hr
theorem w_land (h : At T m c below) (hx : tb.exec = Jvm.exec) {x y : Int64} (hd : decode c.code pc = .ok (.land, 1)) (hn : pc + 1 = n) (hr : Endz tb e below Q T (mkF m n Ls (.long (x &&& y) :: st))) : Endz tb e below Q T (mkF m pc Ls (.long y :: .long x :: st)) := by
  subst hn; exact Endz.by (fun _ k => XS.land h hx rfl hd rfl k) hr
theorem w_lor (h : At T m c below) (hx : tb.exec = Jvm.exec) {x y : Int64} (hd : decode c.code pc = .ok (.lor, 1)) (hn : pc + 1 = n) (hr : Endz tb e below Q T (mkF m n Ls (.long (x ||| y) :: st))) : Endz tb e below Q T (mkF m pc Ls (.long y :: .long x :: st)) := by
  subst hn; exact Endz.by (fun _ k => XS.lor h hx rfl hd rfl k) hr
theorem w_lxor (h : At T m c below) (hx : tb.exec = Jvm.exec) {x y : Int64} (hd : decode c.code pc = .ok (.lxor, 1)) (hn : pc + 1 = n) (hr : Endz tb e below Q T (mkF m n Ls (.long (x ^^^ y) :: st))) : Endz tb e below Q T (mkF m pc Ls (.long y :: .long x :: st)) := by
  subst hn; exact Endz.by (fun _ k => XS.lxor h hx rfl hd rfl k) hr
theorem w_idiv (h : At T m c below) (hx : tb.exec = Jvm.exec) {x y : Int32} (hd : decode c.code pc = .ok (.idiv, 1)) (hn : pc + 1 = n) (hy : y ≠ 0) (hr : Endz tb e below Q T (mkF m n Ls (.int (x / y) :: st))) : Endz tb e below Q T (mkF m pc Ls (.int y :: .int x :: st)) := by
  subst hn; exact Endz.by (fun _ k => XS.idiv h hx rfl hd rfl hy k) hr
theorem w_irem (h : At T m c below) (hx : tb.exec = Jvm.exec) {x y : Int32} (hd : decode c.code pc = .ok (.irem, 1)) (hn : pc + 1 = n) (hy : y ≠ 0) (hr : Endz tb e below Q T (mkF m n Ls (.int (x % y) :: st))) : Endz tb e below Q T (mkF m pc Ls (.int y :: .int x :: st)) := by
  subst hn; exact Endz.by (fun _ k => XS.irem h hx rfl hd rfl hy (by rw [show x - x / y * y = x % y from irem_eq_mod x y]; exact k)) hr
theorem w_ldiv (h : At T m c below) (hx : tb.exec = Jvm.exec) {x y : Int64} (hd : decode c.code pc = .ok (.ldiv, 1)) (hn : pc + 1 = n) (hy : y ≠ 0) (hr : Endz tb e below Q T (mkF m n Ls (.long (x / y) :: st))) : Endz tb e below Q T (mkF m pc Ls (.long y :: .long x :: st)) := by
  subst hn; exact Endz.by (fun _ k => XS.ldiv h hx rfl hd rfl hy k) hr
theorem w_lrem (h : At T m c below) (hx : tb.exec = Jvm.exec) {x y : Int64} (hd : decode c.code pc = .ok (.lrem, 1)) (hn : pc + 1 = n) (hy : y ≠ 0) (hr : Endz tb e below Q T (mkF m n Ls (.long (x % y) :: st))) : Endz tb e below Q T (mkF m pc Ls (.long y :: .long x :: st)) := by
  subst hn; exact Endz.by (fun _ k => XS.lrem h hx rfl hd rfl hy (by rw [show x - x / y * y = x % y from lrem_mod x y]; exact k)) hr
theorem w_ineg (h : At T m c below) (hx : tb.exec = Jvm.exec) {x : Int32} (hd : decode c.code pc = .ok (.ineg, 1)) (hn : pc + 1 = n) (hr : Endz tb e below Q T (mkF m n Ls (.int (-x) :: st))) : Endz tb e below Q T (mkF m pc Ls (.int x :: st)) := by
  subst hn; exact Endz.by (fun _ k => XS.ineg h hx rfl hd rfl k) hr
theorem w_lneg (h : At T m c below) (hx : tb.exec = Jvm.exec) {x : Int64} (hd : decode c.code pc = .ok (.lneg, 1)) (hn : pc + 1 = n) (hr : Endz tb e below Q T (mkF m n Ls (.long (-x) :: st))) : Endz tb e below Q T (mkF m pc Ls (.long x :: st)) := by
  subst hn; exact Endz.by (fun _ k => XS.lneg h hx rfl hd rfl k) hr
theorem w_i2l (h : At T m c below) (hx : tb.exec = Jvm.exec) {x : Int32} (hd : decode c.code pc = .ok (.i2l, 1)) (hn : pc + 1 = n) (hr : Endz tb e below Q T (mkF m n Ls (.long x.toInt64 :: st))) : Endz tb e below Q T (mkF m pc Ls (.int x :: st)) := by
  subst hn; exact Endz.by (fun _ k => XS.i2l h hx rfl hd rfl k) hr
theorem w_l2i (h : At T m c below) (hx : tb.exec = Jvm.exec) {x : Int64} (hd : decode c.code pc = .ok (.l2i, 1)) (hn : pc + 1 = n) (hr : Endz tb e below Q T (mkF m n Ls (.int x.toInt32 :: st))) : Endz tb e below Q T (mkF m pc Ls (.long x :: st)) := by
  subst hn; exact Endz.by (fun _ k => XS.l2i h hx rfl hd rfl k) hr
theorem w_i2b (h : At T m c below) (hx : tb.exec = Jvm.exec) {x : Int32} (hd : decode c.code pc = .ok (.i2b, 1)) (hn : pc + 1 = n) (hr : Endz tb e below Q T (mkF m n Ls (.int x.toInt8.toInt32 :: st))) : Endz tb e below Q T (mkF m pc Ls (.int x :: st)) := by
  subst hn; exact Endz.by (fun _ k => XS.i2b h hx rfl hd rfl k) hr
theorem w_i2c (h : At T m c below) (hx : tb.exec = Jvm.exec) {x : Int32} (hd : decode c.code pc = .ok (.i2c, 1)) (hn : pc + 1 = n) (hr : Endz tb e below Q T (mkF m n Ls (.int x.toUInt32.toUInt16.toUInt32.toInt32 :: st))) : Endz tb e below Q T (mkF m pc Ls (.int x :: st)) := by
  subst hn; exact Endz.by (fun _ k => XS.i2c h hx rfl hd rfl k) hr
theorem w_i2s (h : At T m c below) (hx : tb.exec = Jvm.exec) {x : Int32} (hd : decode c.code pc = .ok (.i2s, 1)) (hn : pc + 1 = n) (hr : Endz tb e below Q T (mkF m n Ls (.int x.toInt16.toInt32 :: st))) : Endz tb e below Q T (mkF m pc Ls (.int x :: st)) := by
  subst hn; exact Endz.by (fun _ k => XS.i2s h hx rfl hd rfl k) hr
theorem w_lcmp (h : At T m c below) (hx : tb.exec = Jvm.exec) {x y : Int64} (hd : decode c.code pc = .ok (.lcmp, 1)) (hn : pc + 1 = n) (hr : Endz tb e below Q T (mkF m n Ls (.int (lcmpW x y) :: st))) : Endz tb e below Q T (mkF m pc Ls (.long y :: .long x :: st)) := by
  subst hn; exact Endz.by (fun _ k => XS.lcmp h hx rfl hd rfl k) hr
theorem w_dup (h : At T m c below) (hx : tb.exec = Jvm.exec) {x : Value} (hd : decode c.code pc = .ok (.dup, 1)) (hn : pc + 1 = n) (hc : x.category = 1) (hr : Endz tb e below Q T (mkF m n Ls (x :: x :: st))) : Endz tb e below Q T (mkF m pc Ls (x :: st)) := by
  subst hn; exact Endz.by (fun _ k => XS.dup h hx rfl hd rfl hc k) hr
theorem w_dupX1 (h : At T m c below) (hx : tb.exec = Jvm.exec) {x y : Value} (hd : decode c.code pc = .ok (.dup_x1, 1)) (hn : pc + 1 = n) (hc : x.category = 1) (hc' : y.category = 1) (hr : Endz tb e below Q T (mkF m n Ls (x :: y :: x :: st))) : Endz tb e below Q T (mkF m pc Ls (x :: y :: st)) := by
  subst hn; exact Endz.by (fun _ k => XS.dupX1 h hx rfl hd rfl hc hc' k) hr
theorem w_pop (h : At T m c below) (hx : tb.exec = Jvm.exec) {x : Value} (hd : decode c.code pc = .ok (.pop, 1)) (hn : pc + 1 = n) (hc : x.category = 1) (hr : Endz tb e below Q T (mkF m n Ls (st))) : Endz tb e below Q T (mkF m pc Ls (x :: st)) := by
  subst hn; exact Endz.by (fun _ k => XS.pop h hx rfl hd rfl hc k) hr
theorem w_dup2 (h : At T m c below) (hx : tb.exec = Jvm.exec) {x y : Value} (hd : decode c.code pc = .ok (.dup2, 1)) (hn : pc + 1 = n) (hc : x.category = 1) (hc' : y.category = 1) (hr : Endz tb e below Q T (mkF m n Ls (x :: y :: x :: y :: st))) : Endz tb e below Q T (mkF m pc Ls (x :: y :: st)) := by
  subst hn; exact Endz.by (fun _ k => Jvm.Free.XT.dup2 h hx rfl hd rfl hc hc' k) hr
theorem w_goto (h : At T m c below) (hx : tb.exec = Jvm.exec) {o : Int} (hd : decode c.code pc = .ok (.goto o, 3)) (ho : 0 ≤ (pc : Int) + o) (hp : ((pc : Int) + o).toNat = n) (hr : Endz tb e below Q T (mkF m n Ls (st))) : Endz tb e below Q T (mkF m pc Ls (st)) :=
  Endz.by (fun _ k => XS.goto h hx rfl rfl hd ho hp k) hr
theorem w_ifeq (h : At T m c below) (hx : tb.exec = Jvm.exec) {x : Int32} {o : Int} (hd : decode c.code pc = .ok (.ifCond .eq o, 3)) (ho : 0 ≤ (pc : Int) + o) (hp : ((pc : Int) + o).toNat = n1) (hn : pc + 3 = n2) (h1 : x = 0 → Endz tb e below Q T (mkF m n1 Ls (st))) (h2 : ¬ (x = 0) → Endz tb e below Q T (mkF m n2 Ls (st))) : Endz tb e below Q T (mkF m pc Ls (.int x :: st)) := by
  subst hn
  by_cases q : x = 0
  · exact Endz.by (fun _ k => XS.ifYes h hx rfl rfl hd rfl ((if0 _ _).trans (teq q).1) ho hp k) (h1 q)
  · exact Endz.by (fun _ k => XS.ifNo h hx rfl hd rfl ((if0 _ _).trans (feq q).1) k) (h2 q)
theorem w_ifne (h : At T m c below) (hx : tb.exec = Jvm.exec) {x : Int32} {o : Int} (hd : decode c.code pc = .ok (.ifCond .ne o, 3)) (ho : 0 ≤ (pc : Int) + o) (hp : ((pc : Int) + o).toNat = n1) (hn : pc + 3 = n2) (h1 : ¬ x = 0 → Endz tb e below Q T (mkF m n1 Ls (st))) (h2 : ¬ (¬ x = 0) → Endz tb e below Q T (mkF m n2 Ls (st))) : Endz tb e below Q T (mkF m pc Ls (.int x :: st)) := by
  subst hn
  by_cases q : ¬ x = 0
  · exact Endz.by (fun _ k => XS.ifYes h hx rfl rfl hd rfl ((if0 _ _).trans (feq q).2) ho hp k) (h1 q)
  · exact Endz.by (fun _ k => XS.ifNo h hx rfl hd rfl ((if0 _ _).trans (teq (Classical.not_not.mp q)).2) k) (h2 q)
theorem w_iflt (h : At T m c below) (hx : tb.exec = Jvm.exec) {x : Int32} {o : Int} (hd : decode c.code pc = .ok (.ifCond .lt o, 3)) (ho : 0 ≤ (pc : Int) + o) (hp : ((pc : Int) + o).toNat = n1) (hn : pc + 3 = n2) (h1 : x < 0 → Endz tb e below Q T (mkF m n1 Ls (st))) (h2 : ¬ (x < 0) → Endz tb e below Q T (mkF m n2 Ls (st))) : Endz tb e below Q T (mkF m pc Ls (.int x :: st)) := by
  subst hn
  by_cases q : x < 0
  · exact Endz.by (fun _ k => XS.ifYes h hx rfl rfl hd rfl ((if0 _ _).trans (tlt q).1) ho hp k) (h1 q)
  · exact Endz.by (fun _ k => XS.ifNo h hx rfl hd rfl ((if0 _ _).trans (flt q).1) k) (h2 q)
theorem w_ifge (h : At T m c below) (hx : tb.exec = Jvm.exec) {x : Int32} {o : Int} (hd : decode c.code pc = .ok (.ifCond .ge o, 3)) (ho : 0 ≤ (pc : Int) + o) (hp : ((pc : Int) + o).toNat = n1) (hn : pc + 3 = n2) (h1 : ¬ x < 0 → Endz tb e below Q T (mkF m n1 Ls (st))) (h2 : ¬ (¬ x < 0) → Endz tb e below Q T (mkF m n2 Ls (st))) : Endz tb e below Q T (mkF m pc Ls (.int x :: st)) := by
  subst hn
  by_cases q : ¬ x < 0
  · exact Endz.by (fun _ k => XS.ifYes h hx rfl rfl hd rfl ((if0 _ _).trans (flt q).2.1) ho hp k) (h1 q)
  · exact Endz.by (fun _ k => XS.ifNo h hx rfl hd rfl ((if0 _ _).trans (tlt (Classical.not_not.mp q)).2.1) k) (h2 q)
theorem w_ifgt (h : At T m c below) (hx : tb.exec = Jvm.exec) {x : Int32} {o : Int} (hd : decode c.code pc = .ok (.ifCond .gt o, 3)) (ho : 0 ≤ (pc : Int) + o) (hp : ((pc : Int) + o).toNat = n1) (hn : pc + 3 = n2) (h1 : 0 < x → Endz tb e below Q T (mkF m n1 Ls (st))) (h2 : ¬ (0 < x) → Endz tb e below Q T (mkF m n2 Ls (st))) : Endz tb e below Q T (mkF m pc Ls (.int x :: st)) := by
  subst hn
  by_cases q : 0 < x
  · exact Endz.by (fun _ k => XS.ifYes h hx rfl rfl hd rfl ((if0 _ _).trans (tlt q).2.2.1) ho hp k) (h1 q)
  · exact Endz.by (fun _ k => XS.ifNo h hx rfl hd rfl ((if0 _ _).trans (flt q).2.2.1) k) (h2 q)
theorem w_ifle (h : At T m c below) (hx : tb.exec = Jvm.exec) {x : Int32} {o : Int} (hd : decode c.code pc = .ok (.ifCond .le o, 3)) (ho : 0 ≤ (pc : Int) + o) (hp : ((pc : Int) + o).toNat = n1) (hn : pc + 3 = n2) (h1 : ¬ 0 < x → Endz tb e below Q T (mkF m n1 Ls (st))) (h2 : ¬ (¬ 0 < x) → Endz tb e below Q T (mkF m n2 Ls (st))) : Endz tb e below Q T (mkF m pc Ls (.int x :: st)) := by
  subst hn
  by_cases q : ¬ 0 < x
  · exact Endz.by (fun _ k => XS.ifYes h hx rfl rfl hd rfl ((if0 _ _).trans (flt q).2.2.2) ho hp k) (h1 q)
  · exact Endz.by (fun _ k => XS.ifNo h hx rfl hd rfl ((if0 _ _).trans (tlt (Classical.not_not.mp q)).2.2.2) k) (h2 q)
theorem w_icmpeq (h : At T m c below) (hx : tb.exec = Jvm.exec) {x y : Int32} {o : Int} (hd : decode c.code pc = .ok (.if_icmp .eq o, 3)) (ho : 0 ≤ (pc : Int) + o) (hp : ((pc : Int) + o).toNat = n1) (hn : pc + 3 = n2) (h1 : x = y → Endz tb e below Q T (mkF m n1 Ls (st))) (h2 : ¬ (x = y) → Endz tb e below Q T (mkF m n2 Ls (st))) : Endz tb e below Q T (mkF m pc Ls (.int y :: .int x :: st)) := by
  subst hn
  by_cases q : x = y
  · exact Endz.by (fun _ k => XS.icmpYes h hx rfl rfl hd rfl ((teq q).1) ho hp k) (h1 q)
  · exact Endz.by (fun _ k => XS.icmpNo h hx rfl hd rfl ((feq q).1) k) (h2 q)
theorem w_icmpne (h : At T m c below) (hx : tb.exec = Jvm.exec) {x y : Int32} {o : Int} (hd : decode c.code pc = .ok (.if_icmp .ne o, 3)) (ho : 0 ≤ (pc : Int) + o) (hp : ((pc : Int) + o).toNat = n1) (hn : pc + 3 = n2) (h1 : ¬ x = y → Endz tb e below Q T (mkF m n1 Ls (st))) (h2 : ¬ (¬ x = y) → Endz tb e below Q T (mkF m n2 Ls (st))) : Endz tb e below Q T (mkF m pc Ls (.int y :: .int x :: st)) := by
  subst hn
  by_cases q : ¬ x = y
  · exact Endz.by (fun _ k => XS.icmpYes h hx rfl rfl hd rfl ((feq q).2) ho hp k) (h1 q)
  · exact Endz.by (fun _ k => XS.icmpNo h hx rfl hd rfl ((teq (Classical.not_not.mp q)).2) k) (h2 q)
theorem w_icmplt (h : At T m c below) (hx : tb.exec = Jvm.exec) {x y : Int32} {o : Int} (hd : decode c.code pc = .ok (.if_icmp .lt o, 3)) (ho : 0 ≤ (pc : Int) + o) (hp : ((pc : Int) + o).toNat = n1) (hn : pc + 3 = n2) (h1 : x < y → Endz tb e below Q T (mkF m n1 Ls (st))) (h2 : ¬ (x < y) → Endz tb e below Q T (mkF m n2 Ls (st))) : Endz tb e below Q T (mkF m pc Ls (.int y :: .int x :: st)) := by
  subst hn
  by_cases q : x < y
  · exact Endz.by (fun _ k => XS.icmpYes h hx rfl rfl hd rfl ((tlt q).1) ho hp k) (h1 q)
  · exact Endz.by (fun _ k => XS.icmpNo h hx rfl hd rfl ((flt q).1) k) (h2 q)
theorem w_icmpge (h : At T m c below) (hx : tb.exec = Jvm.exec) {x y : Int32} {o : Int} (hd : decode c.code pc = .ok (.if_icmp .ge o, 3)) (ho : 0 ≤ (pc : Int) + o) (hp : ((pc : Int) + o).toNat = n1) (hn : pc + 3 = n2) (h1 : ¬ x < y → Endz tb e below Q T (mkF m n1 Ls (st))) (h2 : ¬ (¬ x < y) → Endz tb e below Q T (mkF m n2 Ls (st))) : Endz tb e below Q T (mkF m pc Ls (.int y :: .int x :: st)) := by
  subst hn
  by_cases q : ¬ x < y
  · exact Endz.by (fun _ k => XS.icmpYes h hx rfl rfl hd rfl ((flt q).2.1) ho hp k) (h1 q)
  · exact Endz.by (fun _ k => XS.icmpNo h hx rfl hd rfl ((tlt (Classical.not_not.mp q)).2.1) k) (h2 q)
theorem w_icmpgt (h : At T m c below) (hx : tb.exec = Jvm.exec) {x y : Int32} {o : Int} (hd : decode c.code pc = .ok (.if_icmp .gt o, 3)) (ho : 0 ≤ (pc : Int) + o) (hp : ((pc : Int) + o).toNat = n1) (hn : pc + 3 = n2) (h1 : y < x → Endz tb e below Q T (mkF m n1 Ls (st))) (h2 : ¬ (y < x) → Endz tb e below Q T (mkF m n2 Ls (st))) : Endz tb e below Q T (mkF m pc Ls (.int y :: .int x :: st)) := by
  subst hn
  by_cases q : y < x
  · exact Endz.by (fun _ k => XS.icmpYes h hx rfl rfl hd rfl ((tlt q).2.2.1) ho hp k) (h1 q)
  · exact Endz.by (fun _ k => XS.icmpNo h hx rfl hd rfl ((flt q).2.2.1) k) (h2 q)
theorem w_icmple (h : At T m c below) (hx : tb.exec = Jvm.exec) {x y : Int32} {o : Int} (hd : decode c.code pc = .ok (.if_icmp .le o, 3)) (ho : 0 ≤ (pc : Int) + o) (hp : ((pc : Int) + o).toNat = n1) (hn : pc + 3 = n2) (h1 : ¬ y < x → Endz tb e below Q T (mkF m n1 Ls (st))) (h2 : ¬ (¬ y < x) → Endz tb e below Q T (mkF m n2 Ls (st))) : Endz tb e below Q T (mkF m pc Ls (.int y :: .int x :: st)) := by
  subst hn
  by_cases q : ¬ y < x
  · exact Endz.by (fun _ k => XS.icmpYes h hx rfl rfl hd rfl ((flt q).2.2.2) ho hp k) (h1 q)
  · exact Endz.by (fun _ k => XS.icmpNo h hx rfl hd rfl ((tlt (Classical.not_not.mp q)).2.2.2) k) (h2 q)
theorem w_ifnull (h : At T m c below) (hx : tb.exec = Jvm.exec) {v : Value} {o : Int} (hv : v.isRef = true) (hd : decode c.code pc = .ok (.ifnull o, 3)) (ho : 0 ≤ (pc : Int) + o) (hp : ((pc : Int) + o).toNat = n1) (hn : pc + 3 = n2) (h1 : v = .null → Endz tb e below Q T (mkF m n1 Ls (st))) (h2 : v ≠ .null → Endz tb e below Q T (mkF m n2 Ls (st))) : Endz tb e below Q T (mkF m pc Ls (v :: st)) := by
  subst hn
  rcases ref_cases hv with rfl | ⟨a, rfl⟩
  · exact Endz.by (fun _ k => XS.ifnullYes h hx rfl rfl hd rfl ho hp k) (h1 rfl)
  · exact Endz.by (fun _ k => XS.ifnullNo h hx rfl hd rfl k) (h2 (by simp))
theorem w_ifnonnull (h : At T m c below) (hx : tb.exec = Jvm.exec) {v : Value} {o : Int} (hv : v.isRef = true) (hd : decode c.code pc = .ok (.ifnonnull o, 3)) (ho : 0 ≤ (pc : Int) + o) (hp : ((pc : Int) + o).toNat = n1) (hn : pc + 3 = n2) (h1 : v ≠ .null → Endz tb e below Q T (mkF m n1 Ls (st))) (h2 : v = .null → Endz tb e below Q T (mkF m n2 Ls (st))) : Endz tb e below Q T (mkF m pc Ls (v :: st)) := by
  subst hn
  rcases ref_cases hv with rfl | ⟨a, rfl⟩
  · exact Endz.by (fun _ k => XS.ifnonnullNo h hx rfl hd rfl k) (h2 rfl)
  · exact Endz.by (fun _ k => XS.ifnonnullYes h hx rfl rfl hd rfl ho hp k) (h1 (by simp))
theorem w_acmpeq (h : At T m c below) (hx : tb.exec = Jvm.exec) {x y : Value} {o : Int} (hv : x.isRef = true) (hv' : y.isRef = true) (hd : decode c.code pc = .ok (.if_acmp .eq o, 3)) (ho : 0 ≤ (pc : Int) + o) (hp : ((pc : Int) + o).toNat = n1) (hn : pc + 3 = n2) (h1 : x = y → Endz tb e below Q T (mkF m n1 Ls (st))) (h2 : ¬ x = y → Endz tb e below Q T (mkF m n2 Ls (st))) : Endz tb e below Q T (mkF m pc Ls (y :: x :: st)) := by
  subst hn
  by_cases q : x = y
  · exact Endz.by (fun _ k => Jvm.Free.XT.acmpYes h hx rfl rfl hd rfl hv hv' (by simp [Jvm.Free.XT.acmp, q]) ho hp k) (h1 q)
  · exact Endz.by (fun _ k => Jvm.Free.XT.acmpNo h hx rfl hd rfl hv hv' (by simp [Jvm.Free.XT.acmp, q]) k) (h2 q)
theorem w_acmpne (h : At T m c below) (hx : tb.exec = Jvm.exec) {x y : Value} {o : Int} (hv : x.isRef = true) (hv' : y.isRef = true) (hd : decode c.code pc = .ok (.if_acmp .ne o, 3)) (ho : 0 ≤ (pc : Int) + o) (hp : ((pc : Int) + o).toNat = n1) (hn : pc + 3 = n2) (h1 : x ≠ y → Endz tb e below Q T (mkF m n1 Ls (st))) (h2 : x = y → Endz tb e below Q T (mkF m n2 Ls (st))) : Endz tb e below Q T (mkF m pc Ls (y :: x :: st)) := by
  subst hn
  by_cases q : x = y
  · exact Endz.by (fun _ k => Jvm.Free.XT.acmpNo h hx rfl hd rfl hv hv' (by simp [Jvm.Free.XT.acmp, q]) k) (h2 q)
  · exact Endz.by (fun _ k => Jvm.Free.XT.acmpYes h hx rfl rfl hd rfl hv hv' (by simp [Jvm.Free.XT.acmp, q]) ho hp k) (h1 q)
end Plain
section Heap
theorem Ext.rfl' (h : Heap) : Ext h h := ⟨Nat.le_refl _, fun _ _ q => q⟩
theorem Ext.tr {h0 h h' : Heap} (E : Ext h0 h) (E' : Ext h h') : Ext h0 h' := ⟨Nat.le_trans E.1 E'.1, fun a c q => E'.2 a c (E.2 a c q)⟩
theorem Ext.wr {h0 h h' : Heap} {a : Addr} {sl : Nat} {v : Value} (E : Ext h0 h) (W : Wr h h' a sl v) (q : h0.size ≤ a) : Ext h0 h' := by
  obtain ⟨cell, h1, h2, h3, rfl⟩ := W
  refine ⟨by simpa using E.1, fun b c hb => ?_⟩
  have hne : b ≠ a := fun e => by subst e; exact absurd (Array.getElem?_eq_some_iff.mp hb).1 (Nat.not_lt.mpr q)
  rw [Array.getElem?_setIfInBounds_ne (Ne.symm hne)]; exact E.2 b c hb
theorem Ext.kp {h0 h : Heap} (K : Keep h0 h []) : Ext h0 h := ⟨K.1, fun a c q => K.2.1 a c q nin0⟩
theorem Arv.ex {Z : State} {h h' : Heap} {a : Addr} {k : ClassId} {ty : FieldType} {z : Int32} {vs : List Value} {d : Value} (E : Ext h h') (F : Arv Z h a k ty z vs d) : Arv Z h' a k ty z vs d := F.ext E
/-- what the run leaves -/
abbrev Finz (s : State) (rm : Room) (Qv : Option Value → Heap → List Loc → Prop) : Outcome → State → Prop := fun o U' => ∃ v L, o = .returned v ∧ Qv v U'.heap L ∧ FrameEnd s o U' L rm.cells rm.slots
/-- a body's contract at given arguments and heap -/
abbrev Con (l : Launch) (Z : State) (y : MethodName) (bytes : ByteArray) (maxL : Nat) (ret : Option FieldType) (ws : List Jvm.Cond) (rm : Room) (as : Array Value) (h0 : Heap) (Qv : Option Value → Heap → List Loc → Prop) : Prop :=
  MetFree l y (head1 (Jvm.Cond.code y bytes maxL ret :: ws) rm) (fun a U => a = as ∧ Z.Warmed39 U.vm ∧ U.heap = h0) (fun _ _ _ _ _ => True) (fun _ U o U' => ∃ v L, o = .returned v ∧ Qv v U'.heap L ∧ FrameEnd U o U' L rm.cells rm.slots)
theorem con_of {l : Launch} {Z : State} {y : MethodName} {bytes : ByteArray} {maxL : Nat} {ret : Option FieldType} {ws : List Jvm.Cond} {rm : Room} {as : Array Value} {h0 : Heap} {Qv : Option Value → Heap → List Loc → Prop} (hn : plainFor y = true)
    (body : ∀ (p : Program) (e : Env) (s : State) (m : MethodId) (below : List Frame) (meth : Method) (c : Code) (T : State), Stand p l e rm s m as below meth c T [] 0 0 → p.tables.exec = Jvm.exec → Z.Warmed39 s.vm → c.code = bytes → c.maxLocals = maxL → s.vm.findClass y.cls = some m.cls → meth.sig.returnType = ret → meth.name = y.name → meth.locks = false → T.heap = h0 → Endz p.tables e below (Finz s rm Qv) T (entryFrame m as maxL)) :
    Con l Z y bytes maxL ret ws rm as h0 Qv := by
  refine MetFree.of_bodySF hn hisR ?_
  intro p e s m args below meth c s₁ Bd hml0 hP hK
  obtain ⟨rfl, hZ, hh⟩ := hP
  have X0 : Stand p l e rm s m args below meth c s₁ [] 0 0 := Stand.of_body Bd
  exact body p e s m below meth c s₁ X0 Bd.exec hZ Bd.bytes hml0 (findClass_of_methodNamed Bd.named) Bd.returns (name_of_methodNamed Bd.named Bd.method).1 Bd.notSynchronized (by rw [← hh, Bd.state]; rfl)
variable {p : Program} {l : Launch} {e : Env} {R : Room} {s : State} {m : MethodId} {args : Array Value} {below : List Frame} {meth : Method} {c : Code} {T : State} {locs : List Loc} {cells slots : Nat} {Z : State} {a0 : Array Value} {h : Heap} {pc n : Nat} {Ls : Array Slot} {st : List Value} {rm : Room} {Qv : Option Value → Heap → List Loc → Prop}
/-! the ends -/
theorem fin_of (X : Stand p l e R s m args below meth c T locs cells slots) (hlk : meth.locks = false) (eT : T.heap = h) {v : Option Value} {g : JFrame} (hv : meth.sig.returnType = none → v = none) (hc : cells ≤ rm.cells) (hs : slots ≤ rm.slots) (hQ : Qv v h locs)
    (hstep : ∀ fs, (∀ (f : JFrame) (acts : List Action), f.method = m → f.locked = none → f.entered = [] → (doReturn e (T.setTop f) acts v).1 = T.setFrames fs) → Steps p.tables e below (T.setTop g) (T.setFrames fs)) : Endz p.tables e below (Finz s rm Qv) T g := by
  obtain ⟨fs, hr, hrun, hended, hW, hsame⟩ := X.leave (v := v) hv hlk
  have hQ' : Qv v (T.setFrames fs).heap locs := by show Qv v T.heap locs; rw [eT]; exact hQ
  exact ⟨_, _, hstep fs hr, hrun, hended, v, locs, rfl, hQ', ⟨_, rfl⟩, hW, hsame.mono hc hs⟩
theorem fin_Z (X : Stand p l e R s m args below meth c T locs cells slots) (hx : p.tables.exec = Jvm.exec) (hlk : meth.locks = false) (eT : T.heap = h) {t : FieldType} {z : Int32} (hret : meth.sig.returnType = some t) (ht : t = .boolean ∨ t = .byte ∨ t = .char ∨ t = .short) (hd : decode c.code pc = .ok (.ireturn, 1)) (hc : cells ≤ rm.cells) (hs : slots ≤ rm.slots) (hQ : Qv (some (.int (nar t z))) h locs) :
    Endz p.tables e below (Finz s rm Qv) T (mkF m pc Ls (.int z :: st)) :=
  fin_of X hlk eT (fun q => by rw [hret] at q; cases q) hc hs hQ fun fs hl => retN X hx hret ht hd hl
theorem fin_I (X : Stand p l e R s m args below meth c T locs cells slots) (hx : p.tables.exec = Jvm.exec) (hlk : meth.locks = false) (eT : T.heap = h) {z : Int32} (hret : meth.sig.returnType = some .int) (hd : decode c.code pc = .ok (.ireturn, 1)) (hc : cells ≤ rm.cells) (hs : slots ≤ rm.slots) (hQ : Qv (some (.int z)) h locs) :
    Endz p.tables e below (Finz s rm Qv) T (mkF m pc Ls (.int z :: st)) :=
  fin_of X hlk eT (fun q => by rw [hret] at q; cases q) hc hs hQ fun fs hl => retOut X hx hret rfl (Or.inl ⟨rfl, Or.inl rfl, _, rfl⟩) hd hl
theorem fin_J (X : Stand p l e R s m args below meth c T locs cells slots) (hx : p.tables.exec = Jvm.exec) (hlk : meth.locks = false) (eT : T.heap = h) {z : Int64} (hret : meth.sig.returnType = some .long) (hd : decode c.code pc = .ok (.lreturn, 1)) (hc : cells ≤ rm.cells) (hs : slots ≤ rm.slots) (hQ : Qv (some (.long z)) h locs) :
    Endz p.tables e below (Finz s rm Qv) T (mkF m pc Ls (.long z :: st)) :=
  fin_of X hlk eT (fun q => by rw [hret] at q; cases q) hc hs hQ fun fs hl => retOut X hx hret rfl (Or.inr (Or.inl ⟨rfl, rfl, _, rfl⟩)) hd hl
theorem fin_A (X : Stand p l e R s m args below meth c T locs cells slots) (hx : p.tables.exec = Jvm.exec) (hlk : meth.locks = false) (eT : T.heap = h) {w : Value} {t : FieldType} (hret : meth.sig.returnType = some t) (hn : narrow t w = w) (ht : t.isReference = true) (hw : w.isRef = true) (hd : decode c.code pc = .ok (.areturn, 1)) (hc : cells ≤ rm.cells) (hs : slots ≤ rm.slots) (hQ : Qv (some w) h locs) :
    Endz p.tables e below (Finz s rm Qv) T (mkF m pc Ls (w :: st)) :=
  fin_of X hlk eT (fun q => by rw [hret] at q; cases q) hc hs hQ fun fs hl => retOut X hx hret hn (Or.inr (Or.inr (Or.inr (Or.inr ⟨rfl, ht, hw⟩)))) hd hl
theorem fin_V (X : Stand p l e R s m args below meth c T locs cells slots) (hx : p.tables.exec = Jvm.exec) (hlk : meth.locks = false) (eT : T.heap = h) (hret : meth.sig.returnType = none) (hd : decode c.code pc = .ok (.return_, 1)) (hc : cells ≤ rm.cells) (hs : slots ≤ rm.slots) (hQ : Qv none h locs) :
    Endz p.tables e below (Finz s rm Qv) T (mkF m pc Ls []) :=
  fin_of X hlk eT (fun _ => rfl) hc hs hQ fun fs hl => X.returnOut hx hret hd hl
variable {Q : Outcome → State → Prop}
/-! fields and statics: what comes behind is asked of every such state -/
theorem g_F (X : Stand p l e R s m args below meth c T locs cells slots) (hx : p.tables.exec = Jvm.exec) (hZ : Z.Warmed39 s.vm) {own O nm d : String} {idx : Nat} (hown : s.vm.findClass own = some m.cls) (w : (Jvm.Cond.fieldLink own idx O nm d).before a0 Z = true) (eT : T.heap = h) {a : Addr} {v : Value} (F : Fld Z h a O nm d v) (hd : decode c.code pc = .ok (.getfield idx, 3)) (hn : pc + 3 = n)
    (hr : ∀ T', Stand p l e R s m args below meth c T' locs cells slots → T'.heap = h → Endz p.tables e below Q T' (mkF m n Ls (v :: st))) : Endz p.tables e below Q T (mkF m pc Ls (.ref a :: st)) := by
  subst hn
  obtain ⟨T', X', e', st'⟩ := getF X hx hZ hown (host := "") (Or.inl w) Via.refl eT F (g := mkF m pc Ls (.ref a :: st)) rfl rfl hd
  exact Endz.by st' (hr T' X' e')
theorem g_FV (X : Stand p l e R s m args below meth c T locs cells slots) (hx : p.tables.exec = Jvm.exec) (hZ : Z.Warmed39 s.vm) {own R0 O nm d : String} {idx : Nat} (hown : s.vm.findClass own = some m.cls) (w : (Jvm.Cond.fieldLink own idx R0 nm d).before a0 Z = true) (via : Via Z R0 O nm d) (eT : T.heap = h) {a : Addr} {v : Value} (F : Fld Z h a O nm d v) (hd : decode c.code pc = .ok (.getfield idx, 3)) (hn : pc + 3 = n)
    (hr : ∀ T', Stand p l e R s m args below meth c T' locs cells slots → T'.heap = h → Endz p.tables e below Q T' (mkF m n Ls (v :: st))) : Endz p.tables e below Q T (mkF m pc Ls (.ref a :: st)) := by
  subst hn
  obtain ⟨T', X', e', st'⟩ := getF X hx hZ hown (host := "") (Or.inl w) via eT F (g := mkF m pc Ls (.ref a :: st)) rfl rfl hd
  exact Endz.by st' (hr T' X' e')
theorem g_S (X : Stand p l e R s m args below meth c T locs cells slots) (hx : p.tables.exec = Jvm.exec) (hZ : Z.Warmed39 s.vm) {own O nm d : String} {idx : Nat} (hown : s.vm.findClass own = some m.cls) (w : (Jvm.Cond.fieldLink own idx O nm d).before a0 Z = true) (eT : T.heap = h) {v : Value} (F : Sta Z h O nm d v) (hd : decode c.code pc = .ok (.getstatic idx, 3)) (hn : pc + 3 = n)
    (hr : ∀ T', Stand p l e R s m args below meth c T' locs cells slots → T'.heap = h → Endz p.tables e below Q T' (mkF m n Ls (v :: st))) : Endz p.tables e below Q T (mkF m pc Ls st) := by
  subst hn
  obtain ⟨T', X', e', st'⟩ := getS2 X hx hZ hown (host := "") (Or.inl w) Via.refl eT F (g := mkF m pc Ls st) rfl hd
  exact Endz.by st' (hr T' X' e')
theorem p_F (X : Stand p l e R s m args below meth c T locs cells slots) (hx : p.tables.exec = Jvm.exec) (hZ : Z.Warmed39 s.vm) {own O nm d C : String} {idx kk : Nat} {ty : FieldType} (hown : s.vm.findClass own = some m.cls) (w : (Jvm.Cond.fieldLink own idx O nm d).before a0 Z = true) (eT : T.heap = h) {a : Addr} {v old : Value} (F : Fld Z h a O nm d old) (A : Exa Z h a C)
    (L : (Jvm.Cond.lays C O nm d).before a0 Z = true ∨ ((Jvm.Cond.laysFinal C O nm d).before a0 Z = true ∧ own = O ∧ meth.name = "<init>")) (wi : (Jvm.Cond.instantiable C kk).before a0 Z = true) (hty : parseFieldDescriptor d = some ty) (hna : narrow ty v = v) (hf : fits ty v = true) (hd : decode c.code pc = .ok (.putfield idx, 3)) (hn : pc + 3 = n)
    (hr : ∀ T' h', Stand p l e R s m args below meth c T' (locs ++ [⟨a, Jvm.RoadKit.slotOf Z O nm d⟩]) cells slots → T'.heap = h' → Wr h h' a (Jvm.RoadKit.slotOf Z O nm d) v → Endz p.tables e below Q T' (mkF m n Ls st)) : Endz p.tables e below Q T (mkF m pc Ls (v :: .ref a :: st)) := by
  subst hn
  obtain ⟨T', h', X', e', W', st'⟩ := putF X hx hZ hown (host := "") (Or.inl w) Via.refl eT F A L wi hty hna hf (g := mkF m pc Ls (v :: .ref a :: st)) rfl rfl hd
  exact Endz.by st' (hr T' h' X' e' W')
/-- putfield of a boolean, byte, char or short: what lies there is the narrowed int -/
theorem p_FN (X : Stand p l e R s m args below meth c T locs cells slots) (hx : p.tables.exec = Jvm.exec) (hZ : Z.Warmed39 s.vm) {own O nm d C : String} {idx kk : Nat} {ty : FieldType} (hown : s.vm.findClass own = some m.cls) (w : (Jvm.Cond.fieldLink own idx O nm d).before a0 Z = true) (eT : T.heap = h) {a : Addr} {v v' old : Value} (F : Fld Z h a O nm d old) (A : Exa Z h a C)
    (L : (Jvm.Cond.lays C O nm d).before a0 Z = true ∨ ((Jvm.Cond.laysFinal C O nm d).before a0 Z = true ∧ own = O ∧ meth.name = "<init>")) (wi : (Jvm.Cond.instantiable C kk).before a0 Z = true) (hty : parseFieldDescriptor d = some ty) (hna : narrow ty v = v') (hf : fits ty v' = true) (hd : decode c.code pc = .ok (.putfield idx, 3)) (hn : pc + 3 = n)
    (hr : ∀ T' h', Stand p l e R s m args below meth c T' (locs ++ [⟨a, Jvm.RoadKit.slotOf Z O nm d⟩]) cells slots → T'.heap = h' → Wr h h' a (Jvm.RoadKit.slotOf Z O nm d) v' → Endz p.tables e below Q T' (mkF m n Ls st)) : Endz p.tables e below Q T (mkF m pc Ls (v :: .ref a :: st)) := by
  subst hn
  obtain ⟨T', h', X', e', W', st'⟩ := putFN X hx hZ hown w Via.refl eT F A L wi hty hna hf (g := mkF m pc Ls (v :: .ref a :: st)) rfl rfl hd
  exact Endz.by st' (hr T' h' X' e' W')
/-! constants of the pool -/
theorem k_I (X : Stand p l e R s m args below meth c T locs cells slots) (hx : p.tables.exec = Jvm.exec) (hZ : Z.Warmed39 s.vm) {own : String} {idx : Nat} {v : Int32} (hown : s.vm.findClass own = some m.cls) (w : (Jvm.Cond.constant own idx v).before a0 Z = true) (hd : decode c.code pc = .ok (.ldc idx, 2)) (hn : pc + 2 = n) (hr : Endz p.tables e below Q T (mkF m n Ls (.int v :: st))) : Endz p.tables e below Q T (mkF m pc Ls st) := by
  subst hn
  exact Endz.by (X.ldcInt hx hown (mvT hZ w) (g := mkF m pc Ls st) rfl hd) hr
theorem k_J (X : Stand p l e R s m args below meth c T locs cells slots) (hx : p.tables.exec = Jvm.exec) (hZ : Z.Warmed39 s.vm) {own : String} {idx : Nat} {v : Int64} (hown : s.vm.findClass own = some m.cls) (w : (Jvm.Cond.constantLong own idx v).before a0 Z = true) (hd : decode c.code pc = .ok (.ldc2_w idx, 3)) (hn : pc + 3 = n) (hr : Endz p.tables e below Q T (mkF m n Ls (.long v :: st))) : Endz p.tables e below Q T (mkF m pc Ls st) := by
  subst hn
  exact Endz.by (X.ldc2Long hx hown (mvT hZ w) (g := mkF m pc Ls st) rfl hd) hr
/-! objects and arrays made -/
theorem n_O (X : Stand p l e R s m args below meth c T locs cells slots) (hx : p.tables.exec = Jvm.exec) (hZ : Z.Warmed39 s.vm) {own C : String} {idx k : Nat} (hown : s.vm.findClass own = some m.cls) (w : (Jvm.Cond.classLink own idx C).before a0 Z = true) (wi : (Jvm.Cond.instantiable C k).before a0 Z = true) (wz : (Jvm.Cond.initialized C).before a0 Z = true) (eT : T.heap = h) (hd : decode c.code pc = .ok (.new idx, 3)) (hn : pc + 3 = n) (hc : cells + 1 ≤ R.cells) (hl : slots + k ≤ R.slots)
    (hr : ∀ T' h' b, b = h.size → Stand p l e R s m args below meth c T' locs (cells + 1) (slots + k) → T'.heap = h' → Ext h h' → Exa Z h' b C → (∀ {O nm d : String} {ty : FieldType}, Laid Z a0 C O nm d → parseFieldDescriptor d = some ty → Fld Z h' b O nm d (defaultValue ty)) → (∃ cell : Cell, h'[b]? = some cell ∧ cell.vm = .none ∧ cell.monitor = {}) → Endz p.tables e below Q T' (mkF m n Ls (.ref b :: st))) : Endz p.tables e below Q T (mkF m pc Ls st) := by
  subst hn
  obtain ⟨T', h', X', e', E', A', D', U', st'⟩ := newO X hx hZ hown w wi wz eT (g := mkF m pc Ls st) rfl hd hc hl
  exact Endz.by st' (hr T' h' _ rfl X' e' E' A' D' U')
theorem n_P (X : Stand p l e R s m args below meth c T locs cells slots) (hx : p.tables.exec = Jvm.exec) (hZ : Z.Warmed39 s.vm) {aty : ArrayType} (w : (Jvm.Cond.arrayClass (newarray.typeOf aty)).before a0 Z = true) (eT : T.heap = h) {z : Int32} (hd : decode c.code pc = .ok (.newarray aty, 2)) (hn : pc + 2 = n) (hz : ¬ z < 0) (cap : Nat) (hcap : z.toNatClampNeg ≤ cap) (hb : cap * 8 ≤ 536870912) (hc : cells + 1 ≤ R.cells) (hl : slots + cap ≤ R.slots)
    (hr : ∀ T' h' k b, b = h.size → Stand p l e R s m args below meth c T' locs (cells + 1) (slots + cap) → T'.heap = h' → Ext h h' → Arv Z h' b k (newarray.typeOf aty) z [] (defaultValue (newarray.typeOf aty)) → Endz p.tables e below Q T' (mkF m n Ls (.ref b :: st))) : Endz p.tables e below Q T (mkF m pc Ls (.int z :: st)) := by
  subst hn
  obtain ⟨T', h', k, X', e', E', A', st'⟩ := newP X hx hZ w eT (g := mkF m pc Ls (.int z :: st)) rfl hd rfl hz (cap := cap) hcap hb hc hl
  exact Endz.by st' (hr T' h' k _ rfl X' e' E' (Arv.new A' hz))
theorem n_R (X : Stand p l e R s m args below meth c T locs cells slots) (hx : p.tables.exec = Jvm.exec) (hZ : Z.Warmed39 s.vm) {own C : String} {idx : Nat} (hown : s.vm.findClass own = some m.cls) (w1 : (Jvm.Cond.classLink own idx C).before a0 Z = true) (w2 : (Jvm.Cond.arrayOver (.object C)).before a0 Z = true) (eT : T.heap = h) {z : Int32} (hd : decode c.code pc = .ok (.anewarray idx, 3)) (hn : pc + 3 = n) (hz : ¬ z < 0) (cap : Nat) (hcap : z.toNatClampNeg ≤ cap) (hb : cap * 8 ≤ 536870912) (hc : cells + 1 ≤ R.cells) (hl : slots + cap ≤ R.slots)
    (hr : ∀ T' h' k b, b = h.size → Stand p l e R s m args below meth c T' locs (cells + 1) (slots + cap) → T'.heap = h' → Ext h h' → Arv Z h' b k (.object C) z [] .null → Ovr Z k C → Endz p.tables e below Q T' (mkF m n Ls (.ref b :: st))) : Endz p.tables e below Q T (mkF m pc Ls (.int z :: st)) := by
  subst hn
  obtain ⟨T', h', k, X', e', E', A', O', st'⟩ := newR X hx hZ hown w1 w2 eT (g := mkF m pc Ls (.int z :: st)) rfl hd rfl hz (cap := cap) hcap hb hc hl
  exact Endz.by st' (hr T' h' k _ rfl X' e' E' (Arv.new A' hz) O')
/-! stores into arrays: the place is j, the i-th of the list -/
theorem pad0 {h : Heap} {a : Addr} {k : ClassId} {ty : FieldType} {z : Int32} {d : Value} (V : Arv Z h a k ty z [] d) (i : Nat) : Arv Z h a k ty z (List.replicate i d) d := V.pad (pad_rep [] d i)
theorem s_R (X : Stand p l e R s m args below meth c T locs cells slots) (hx : p.tables.exec = Jvm.exec) (hZ : Z.Warmed39 s.vm) (eT : T.heap = h) {b : Addr} {k : ClassId} {C : String} {z j : Int32} {vs : List Value} {y : Addr} (V : Arv Z h b k (.object C) z vs .null) (O : Ovr Z k C) (I : Ins Z h y C true) (i : Nat) (hj : j.toNatClampNeg = i) (hi : i < vs.length) (hj0 : ¬ j < 0) (hjz : j < z) (hd : decode c.code pc = .ok (.aastore, 1)) (hn : pc + 1 = n)
    (hr : ∀ T' h', Stand p l e R s m args below meth c T' (locs ++ [⟨b, j.toNatClampNeg⟩]) cells slots → T'.heap = h' → Wr h h' b j.toNatClampNeg (.ref y) → Arv Z h' b k (.object C) z (vs.set i (.ref y)) .null → Endz p.tables e below Q T' (mkF m n Ls st)) : Endz p.tables e below Q T (mkF m pc Ls (.ref y :: .int j :: .ref b :: st)) := by
  subst hn
  obtain ⟨cl, A, q1, S, N, H, G⟩ := V
  obtain ⟨T', h', X', e', W', st'⟩ := stR X hx hZ eT A (j := j) (inb_of S ⟨hj0, hjz⟩) rfl (Sto.ofV A q1 O I) (g := mkF m pc Ls (.ref y :: .int j :: .ref b :: st)) rfl rfl hd
  exact Endz.by st' (hr T' h' X' e' W' (Arv.set A q1 S N H G rfl W' i hj hi))
theorem s_I (X : Stand p l e R s m args below meth c T locs cells slots) (hx : p.tables.exec = Jvm.exec) (hZ : Z.Warmed39 s.vm) (eT : T.heap = h) {b : Addr} {k : ClassId} {z j x : Int32} {vs : List Value} {dv : Value} (V : Arv Z h b k .int z vs dv) (i : Nat) (hj : j.toNatClampNeg = i) (hi : i < vs.length) (hj0 : ¬ j < 0) (hjz : j < z) (hd : decode c.code pc = .ok (.iastore, 1)) (hn : pc + 1 = n)
    (hr : ∀ T' h', Stand p l e R s m args below meth c T' (locs ++ [⟨b, j.toNatClampNeg⟩]) cells slots → T'.heap = h' → Wr h h' b j.toNatClampNeg (.int x) → Arv Z h' b k .int z (vs.set i (.int x)) dv → Endz p.tables e below Q T' (mkF m n Ls st)) : Endz p.tables e below Q T (mkF m pc Ls (.int x :: .int j :: .ref b :: st)) := by
  subst hn
  obtain ⟨cl, A, q1, S, N, H, G⟩ := V
  obtain ⟨T', h', X', e', W', st'⟩ := stI X hx hZ eT A (j := j) (inb_of S ⟨hj0, hjz⟩) (g := mkF m pc Ls (.int x :: .int j :: .ref b :: st)) rfl rfl hd
  exact Endz.by st' (hr T' h' X' e' W' (Arv.set A q1 S N H G rfl W' i hj hi))
theorem s_B (X : Stand p l e R s m args below meth c T locs cells slots) (hx : p.tables.exec = Jvm.exec) (hZ : Z.Warmed39 s.vm) (eT : T.heap = h) {b : Addr} {k : ClassId} {z j x : Int32} {vs : List Value} {dv : Value} (V : Arv Z h b k .byte z vs dv) (i : Nat) (hj : j.toNatClampNeg = i) (hi : i < vs.length) (hj0 : ¬ j < 0) (hjz : j < z) (hd : decode c.code pc = .ok (.bastore, 1)) (hn : pc + 1 = n)
    (hr : ∀ T' h', Stand p l e R s m args below meth c T' (locs ++ [⟨b, j.toNatClampNeg⟩]) cells slots → T'.heap = h' → Wr h h' b j.toNatClampNeg (.int (nar .byte x)) → Arv Z h' b k .byte z (vs.set i (.int (nar .byte x))) dv → Endz p.tables e below Q T' (mkF m n Ls st)) : Endz p.tables e below Q T (mkF m pc Ls (.int x :: .int j :: .ref b :: st)) := by
  subst hn
  obtain ⟨cl, A, q1, S, N, H, G⟩ := V
  obtain ⟨T', h', X', e', W', st'⟩ := stB X hx hZ eT A (j := j) (inb_of S ⟨hj0, hjz⟩) (g := mkF m pc Ls (.int x :: .int j :: .ref b :: st)) rfl rfl hd
  exact Endz.by st' (hr T' h' X' e' W' (Arv.set A q1 S N H G (fits_nar_byte _) W' i hj hi))
theorem s_Z (X : Stand p l e R s m args below meth c T locs cells slots) (hx : p.tables.exec = Jvm.exec) (hZ : Z.Warmed39 s.vm) (eT : T.heap = h) {b : Addr} {k : ClassId} {z j x : Int32} {vs : List Value} {dv : Value} (V : Arv Z h b k .boolean z vs dv) (i : Nat) (hj : j.toNatClampNeg = i) (hi : i < vs.length) (hj0 : ¬ j < 0) (hjz : j < z) (hd : decode c.code pc = .ok (.bastore, 1)) (hn : pc + 1 = n)
    (hr : ∀ T' h', Stand p l e R s m args below meth c T' (locs ++ [⟨b, j.toNatClampNeg⟩]) cells slots → T'.heap = h' → Wr h h' b j.toNatClampNeg (.int (nar .boolean x)) → Arv Z h' b k .boolean z (vs.set i (.int (nar .boolean x))) dv → Endz p.tables e below Q T' (mkF m n Ls st)) : Endz p.tables e below Q T (mkF m pc Ls (.int x :: .int j :: .ref b :: st)) := by
  subst hn
  obtain ⟨cl, A, q1, S, N, H, G⟩ := V
  obtain ⟨T', h', X', e', W', st'⟩ := stZ X hx hZ eT A (j := j) (inb_of S ⟨hj0, hjz⟩) (g := mkF m pc Ls (.int x :: .int j :: .ref b :: st)) rfl rfl hd
  exact Endz.by st' (hr T' h' X' e' W' (Arv.set A q1 S N H G (fits_nar_bool _) W' i hj hi))
theorem s_C (X : Stand p l e R s m args below meth c T locs cells slots) (hx : p.tables.exec = Jvm.exec) (hZ : Z.Warmed39 s.vm) (eT : T.heap = h) {b : Addr} {k : ClassId} {z j x : Int32} {vs : List Value} {dv : Value} (V : Arv Z h b k .char z vs dv) (i : Nat) (hj : j.toNatClampNeg = i) (hi : i < vs.length) (hj0 : ¬ j < 0) (hjz : j < z) (hd : decode c.code pc = .ok (.castore, 1)) (hn : pc + 1 = n)
    (hr : ∀ T' h', Stand p l e R s m args below meth c T' (locs ++ [⟨b, j.toNatClampNeg⟩]) cells slots → T'.heap = h' → Wr h h' b j.toNatClampNeg (.int (nar .char x)) → Arv Z h' b k .char z (vs.set i (.int (nar .char x))) dv → Endz p.tables e below Q T' (mkF m n Ls st)) : Endz p.tables e below Q T (mkF m pc Ls (.int x :: .int j :: .ref b :: st)) := by
  subst hn
  obtain ⟨cl, A, q1, S, N, H, G⟩ := V
  obtain ⟨T', h', X', e', W', st'⟩ := stC X hx hZ eT A (j := j) (inb_of S ⟨hj0, hjz⟩) (g := mkF m pc Ls (.int x :: .int j :: .ref b :: st)) rfl rfl hd
  exact Endz.by st' (hr T' h' X' e' W' (Arv.set A q1 S N H G (fits_nar_char _) W' i hj hi))
/-! reads of arrays -/
theorem Arv.at {h : Heap} {b : Addr} {k : ClassId} {ty : FieldType} {z j : Int32} {vs : List Value} {dv v : Value} (V : Arv Z h b k ty z vs dv) (hj0 : ¬ j < 0) (hjz : j < z) (hv : vs.getD j.toNatClampNeg dv = v) : ∃ cl, Arr Z h b cl ty ∧ ¬ (j < 0 ∨ cl.slots.size ≤ j.toNatClampNeg) ∧ cl.slots[j.toNatClampNeg]? = some v := by
  obtain ⟨cl, A, q1, S, N, H, G⟩ := V
  exact ⟨cl, A, inb_of S ⟨hj0, hjz⟩, H.at (inb_of S ⟨hj0, hjz⟩) hv⟩
theorem l_I (X : Stand p l e R s m args below meth c T locs cells slots) (hx : p.tables.exec = Jvm.exec) (hZ : Z.Warmed39 s.vm) (eT : T.heap = h) {b : Addr} {k : ClassId} {z j : Int32} {vs : List Value} {dv v : Value} (V : Arv Z h b k .int z vs dv) (hj0 : ¬ j < 0) (hjz : j < z) (hv : vs.getD j.toNatClampNeg dv = v) (hd : decode c.code pc = .ok (.iaload, 1)) (hn : pc + 1 = n) (hr : Endz p.tables e below Q T (mkF m n Ls (v :: st))) : Endz p.tables e below Q T (mkF m pc Ls (.int j :: .ref b :: st)) := by
  subst hn
  obtain ⟨cl, A, hin, hat⟩ := Arv.at V hj0 hjz hv
  exact Endz.by (fun _ q => X.iaload hx (j := j) (v := v) (by rw [eT]; exact A.1) (State.isArrayOf_alike hZ.alike A.2.1) A.2.2 hin hat (g := mkF m pc Ls (.int j :: .ref b :: st)) rfl rfl hd _ q) hr
theorem l_B (X : Stand p l e R s m args below meth c T locs cells slots) (hx : p.tables.exec = Jvm.exec) (hZ : Z.Warmed39 s.vm) (eT : T.heap = h) {b : Addr} {k : ClassId} {z j : Int32} {vs : List Value} {dv v : Value} (V : Arv Z h b k .byte z vs dv) (hj0 : ¬ j < 0) (hjz : j < z) (hv : vs.getD j.toNatClampNeg dv = v) (hd : decode c.code pc = .ok (.baload, 1)) (hn : pc + 1 = n) (hr : Endz p.tables e below Q T (mkF m n Ls (v :: st))) : Endz p.tables e below Q T (mkF m pc Ls (.int j :: .ref b :: st)) := by
  subst hn
  obtain ⟨cl, A, hin, hat⟩ := Arv.at V hj0 hjz hv
  exact Endz.by (fun _ q => X.baloadBytes hx (j := j) (v := v) (by rw [eT]; exact A.1) (State.isArrayOf_alike hZ.alike A.2.1) A.2.2 hin hat (g := mkF m pc Ls (.int j :: .ref b :: st)) rfl rfl hd _ q) hr
theorem l_Z (X : Stand p l e R s m args below meth c T locs cells slots) (hx : p.tables.exec = Jvm.exec) (hZ : Z.Warmed39 s.vm) (eT : T.heap = h) {b : Addr} {k : ClassId} {z j : Int32} {vs : List Value} {dv v : Value} (V : Arv Z h b k .boolean z vs dv) (hj0 : ¬ j < 0) (hjz : j < z) (hv : vs.getD j.toNatClampNeg dv = v) (hd : decode c.code pc = .ok (.baload, 1)) (hn : pc + 1 = n) (hr : Endz p.tables e below Q T (mkF m n Ls (v :: st))) : Endz p.tables e below Q T (mkF m pc Ls (.int j :: .ref b :: st)) := by
  subst hn
  obtain ⟨cl, A, hin, hat⟩ := Arv.at V hj0 hjz hv
  exact Endz.by (fun _ q => X.baloadBooleans hx (j := j) (v := v) (by rw [eT]; exact A.1) (State.isArrayOf_alike hZ.alike A.2.1) A.2.2 hin hat (g := mkF m pc Ls (.int j :: .ref b :: st)) rfl rfl hd _ q) hr
theorem l_C (X : Stand p l e R s m args below meth c T locs cells slots) (hx : p.tables.exec = Jvm.exec) (hZ : Z.Warmed39 s.vm) (eT : T.heap = h) {b : Addr} {k : ClassId} {z j : Int32} {vs : List Value} {dv v : Value} (V : Arv Z h b k .char z vs dv) (hj0 : ¬ j < 0) (hjz : j < z) (hv : vs.getD j.toNatClampNeg dv = v) (hd : decode c.code pc = .ok (.caload, 1)) (hn : pc + 1 = n) (hr : Endz p.tables e below Q T (mkF m n Ls (v :: st))) : Endz p.tables e below Q T (mkF m pc Ls (.int j :: .ref b :: st)) := by
  subst hn
  obtain ⟨cl, A, hin, hat⟩ := Arv.at V hj0 hjz hv
  exact Endz.by (fun _ q => X.caload hx (j := j) (v := v) (by rw [eT]; exact A.1) (State.isArrayOf_alike hZ.alike A.2.1) A.2.2 hin hat (g := mkF m pc Ls (.int j :: .ref b :: st)) rfl rfl hd _ q) hr
theorem l_A (X : Stand p l e R s m args below meth c T locs cells slots) (hx : p.tables.exec = Jvm.exec) (hZ : Z.Warmed39 s.vm) (eT : T.heap = h) {b : Addr} {k : ClassId} {z j : Int32} {vs : List Value} {dv v : Value} {ty : FieldType} (V : Arv Z h b k ty z vs dv) (hty : ty.isReference = true) (hj0 : ¬ j < 0) (hjz : j < z) (hv : vs.getD j.toNatClampNeg dv = v) (hd : decode c.code pc = .ok (.aaload, 1)) (hn : pc + 1 = n) (hr : Endz p.tables e below Q T (mkF m n Ls (v :: st))) : Endz p.tables e below Q T (mkF m pc Ls (.int j :: .ref b :: st)) := by
  subst hn
  obtain ⟨cl, A, hin, hat⟩ := Arv.at V hj0 hjz hv
  exact Endz.by (fun _ q => X.aaload hx (j := j) (v := v) (by rw [eT]; exact A.1) (State.isArrayOf_alike hZ.alike A.2.1) hty A.2.2 hin hat (g := mkF m pc Ls (.int j :: .ref b :: st)) rfl rfl hd _ q) hr
theorem l_J (X : Stand p l e R s m args below meth c T locs cells slots) (hx : p.tables.exec = Jvm.exec) (hZ : Z.Warmed39 s.vm) (eT : T.heap = h) {b : Addr} {k : ClassId} {z j : Int32} {vs : List Value} {dv v : Value} (V : Arv Z h b k .long z vs dv) (hj0 : ¬ j < 0) (hjz : j < z) (hv : vs.getD j.toNatClampNeg dv = v) (hd : decode c.code pc = .ok (.laload, 1)) (hn : pc + 1 = n) (hr : Endz p.tables e below Q T (mkF m n Ls (v :: st))) : Endz p.tables e below Q T (mkF m pc Ls (.int j :: .ref b :: st)) := by
  subst hn
  obtain ⟨cl, A, hin, hat⟩ := Arv.at V hj0 hjz hv
  exact Endz.by (fun _ q => X.laload hx (j := j) (v := v) (by rw [eT]; exact A.1) (State.isArrayOf_alike hZ.alike A.2.1) A.2.2 hin hat (g := mkF m pc Ls (.int j :: .ref b :: st)) rfl rfl hd _ q) hr
theorem a_L (X : Stand p l e R s m args below meth c T locs cells slots) (hx : p.tables.exec = Jvm.exec) (hZ : Z.Warmed39 s.vm) (eT : T.heap = h) {b : Addr} {k : ClassId} {ty : FieldType} {z : Int32} {vs : List Value} {dv : Value} (V : Arv Z h b k ty z vs dv) (hd : decode c.code pc = .ok (.arraylength, 1)) (hn : pc + 1 = n) (hr : Endz p.tables e below Q T (mkF m n Ls (.int z :: st))) : Endz p.tables e below Q T (mkF m pc Ls (.ref b :: st)) := by
  subst hn
  obtain ⟨cl, A, q1, S, N, H, G⟩ := V
  exact Endz.by (fun _ q => X.arraylength hx (by rw [eT]; exact A.1) (State.isArrayOf_alike hZ.alike A.2.1) (g := mkF m pc Ls (.ref b :: st)) rfl rfl hd _ (by rw [len_of S N]; exact q)) hr
/-! calls -/
theorem c_S (X : Stand p l e R s m args below meth c T locs cells slots) (hx : p.tables.exec = Jvm.exec) (hZ : Z.Warmed39 s.vm) {own : String} {idx : Nat} {y : MethodName} {bytes : ByteArray} {maxL : Nat} {ret : Option FieldType} {argsL rest stk : List Value} {ps : List FieldType} {r : Option FieldType} (hown : s.vm.findClass own = some m.cls) (hM : Con l Z y bytes maxL ret [] rm argsL.toArray h Qv) (eT : T.heap = h)
    (w1 : (Jvm.Cond.methodLink own idx y).before a0 Z = true) (w2 : (Jvm.Cond.static y).before a0 Z = true) (w3 : (Jvm.Cond.initialized y.cls).before a0 Z = true) (w4 : (Jvm.Cond.code y bytes maxL ret).before a0 Z = true) (hy : y.cls ≠ "java/lang/invoke/MethodHandle" ∧ y.cls ≠ "java/lang/invoke/VarHandle")
    (W : Nat) (hf : rm.frames + 1 ≤ R.frames) (hl : W + (maxL + 11) + rm.locals ≤ R.locals) (hcl : cells + rm.cells ≤ R.cells) (hsl : slots + rm.slots ≤ R.slots) (hml : Ls.size = c.maxLocals) (hpd : parseMethodDescriptor y.desc = some ⟨ps, r⟩) (hlen : argsL.length = ps.length) (hstk : stk = argsL.reverse ++ rest) (hW : 2 * 0 + (rest.map fun v => v.category).sum ≤ W) (hd : decode c.code pc = .ok (.invokestatic idx, 3)) (hn : pc + 3 = n)
    (hr : ∀ v T' L, Stand p l e R s m args below meth c T' (locs ++ L) (cells + rm.cells) (slots + rm.slots) → Qv v T'.heap L → Endz p.tables e below Q T' (mkF m n Ls (v.toList ++ rest))) : Endz p.tables e below Q T (mkF m pc Ls stk) := by
  subst hn hstk
  obtain ⟨v, _, ⟨T', L', k', n'⟩, -, X', ⟨L, hQ, l1, y1, z1⟩, st'⟩ := Jvm.LawKit.callS X hx (y := y) hown (mvT hZ w1) (mvT hZ w2) (mvT hZ w3) (mvT hZ w4) hy (backOf (W := W) hM hZ w4 w3 hf hl) (g := mkF m pc Ls (argsL.reverse ++ rest)) rfl hml (argsL := argsL) (rest := rest) (lenOf hpd hlen) rfl hW hd (fun _ _ => ⟨rfl, eT, hcl, hsl⟩)
  dsimp only [Pt.U, Pt.locs, Pt.cells, Pt.slots] at X' l1 y1 z1 st' hQ
  subst l1 y1 z1
  exact Endz.by st' (hr v T' L X' hQ)
theorem c_N (X : Stand p l e R s m args below meth c T locs cells slots) (hx : p.tables.exec = Jvm.exec) (hZ : Z.Warmed39 s.vm) {own : String} {idx : Nat} {y : MethodName} {bytes : ByteArray} {maxL : Nat} {b : Addr} {argsL rest stk : List Value} {ps : List FieldType} {r : Option FieldType} (hy1 : y.name = "<init>") (hown : s.vm.findClass own = some m.cls) (hM : Con l Z y bytes maxL none [] rm (.ref b :: argsL).toArray h Qv) (eT : T.heap = h)
    (w1 : (Jvm.Cond.methodLink own idx y).before a0 Z = true) (w2 : (Jvm.Cond.instanceMethod y).before a0 Z = true) (w3 : (Jvm.Cond.initialized y.cls).before a0 Z = true) (w4 : (Jvm.Cond.code y bytes maxL none).before a0 Z = true) (hy : y.cls ≠ "java/lang/invoke/MethodHandle" ∧ y.cls ≠ "java/lang/invoke/VarHandle")
    (W : Nat) (hf : rm.frames + 1 ≤ R.frames) (hl : W + (maxL + 11) + rm.locals ≤ R.locals) (hcl : cells + rm.cells ≤ R.cells) (hsl : slots + rm.slots ≤ R.slots) (hml : Ls.size = c.maxLocals) (hpd : parseMethodDescriptor y.desc = some ⟨ps, r⟩) (hlen : argsL.length = ps.length) (hstk : stk = argsL.reverse ++ .ref b :: rest) (hW : 2 * 0 + (rest.map fun v => v.category).sum ≤ W) (hd : decode c.code pc = .ok (.invokespecial idx, 3)) (hn : pc + 3 = n)
    (hr : ∀ v T' L, Stand p l e R s m args below meth c T' (locs ++ L) (cells + rm.cells) (slots + rm.slots) → Qv v T'.heap L → Endz p.tables e below Q T' (mkF m n Ls (v.toList ++ rest))) : Endz p.tables e below Q T (mkF m pc Ls stk) := by
  subst hn hstk
  obtain ⟨v, _, ⟨T', L', k', n'⟩, -, X', ⟨L, hQ, l1, y1, z1⟩, st'⟩ := X.specialBack hx (y := y) hy1 hown (mvT hZ w1) (mvT hZ w2) (mvT hZ w4) hy (backOf (W := W) hM hZ w4 w3 hf hl) (g := mkF m pc Ls (argsL.reverse ++ .ref b :: rest)) rfl hml (Steps.refl _) (a := b) (argsL := argsL) (rest := rest) (lenOf hpd hlen) rfl hW hd (fun _ _ => ⟨rfl, eT, hcl, hsl⟩)
  dsimp only [Pt.U, Pt.locs, Pt.cells, Pt.slots] at X' l1 y1 z1 st' hQ
  subst l1 y1 z1
  exact Endz.tr st' (hr v T' L X' hQ)
theorem c_V (X : Stand p l e R s m args below meth c T locs cells slots) (hx : p.tables.exec = Jvm.exec) (hZ : Z.Warmed39 s.vm) {own C : String} {idx : Nat} {y z : MethodName} {bytes : ByteArray} {maxL : Nat} {ret : Option FieldType} {b : Addr} {argsL rest stk : List Value} {ps : List FieldType} {r : Option FieldType} (hown : s.vm.findClass own = some m.cls) (hM : Con l Z z bytes maxL ret [] rm (.ref b :: argsL).toArray h Qv) (eT : T.heap = h) (A : Exa Z h b C)
    (w1 : (Jvm.Cond.methodLink own idx y).before a0 Z = true) (w2 : (Jvm.Cond.declares y).before a0 Z = true) (hnf : NotFace s y) (w5 : (Jvm.Cond.selects C y z).before a0 Z = true) (w6 : (Jvm.Cond.instanceMethod z).before a0 Z = true) (w3 : (Jvm.Cond.initialized z.cls).before a0 Z = true) (w4 : (Jvm.Cond.code z bytes maxL ret).before a0 Z = true) (hy : y.cls ≠ "java/lang/invoke/MethodHandle" ∧ y.cls ≠ "java/lang/invoke/VarHandle")
    (W : Nat) (hf : rm.frames + 1 ≤ R.frames) (hl : W + (maxL + 11) + rm.locals ≤ R.locals) (hcl : cells + rm.cells ≤ R.cells) (hsl : slots + rm.slots ≤ R.slots) (hml : Ls.size = c.maxLocals) (hpd : parseMethodDescriptor y.desc = some ⟨ps, r⟩) (hlen : argsL.length = ps.length) (hstk : stk = argsL.reverse ++ .ref b :: rest) (hW : 2 * 0 + (rest.map fun v => v.category).sum ≤ W) (hd : decode c.code pc = .ok (.invokevirtual idx, 3)) (hn : pc + 3 = n)
    (hr : ∀ v T' L, Stand p l e R s m args below meth c T' (locs ++ L) (cells + rm.cells) (slots + rm.slots) → Qv v T'.heap L → Endz p.tables e below Q T' (mkF m n Ls (v.toList ++ rest))) : Endz p.tables e below Q T (mkF m pc Ls stk) := by
  subst hn hstk
  obtain ⟨cq, kq, qa, qb, qc⟩ := isOf hZ eT A
  obtain ⟨v, _, ⟨T', L', k', n'⟩, -, X', ⟨L, hQ, l1, y1, z1⟩, st'⟩ := X.virtualBack hx (y := y) (z := z) hown (mvT hZ w1) (mvT hZ w2) hnf (mvT hZ w5) (mvT hZ w6) hy (backOf (W := W) hM hZ w4 w3 hf hl) qa qc (g := mkF m pc Ls (argsL.reverse ++ .ref b :: rest)) rfl hml (Steps.refl _) (argsL := argsL) (rest := rest) (lenOf hpd hlen) rfl hW hd (fun _ _ => ⟨rfl, eT, hcl, hsl⟩)
  dsimp only [Pt.U, Pt.locs, Pt.cells, Pt.slots] at X' l1 y1 z1 st' hQ
  subst l1 y1 z1
  exact Endz.tr st' (hr v T' L X' hQ)
/-- Object.<init> -/
theorem c_O (X : Stand p l e R s m args below meth c T locs cells slots) (hx : p.tables.exec = Jvm.exec) (hZ : Z.Warmed39 s.vm) {own : String} {idx : Nat} {b : Addr} (hown : s.vm.findClass own = some m.cls) (w1 : (Jvm.Cond.methodLink own idx Lib.objectInit).before a0 Z = true) (w2 : (Jvm.Cond.instanceMethod Lib.objectInit).before a0 Z = true) (w3 : (Jvm.Cond.code Lib.objectInit ⟨#[0xb1]⟩ 1 none).before a0 Z = true) (eT : T.heap = h) (hml : Ls.size = c.maxLocals) (hd : decode c.code pc = .ok (.invokespecial idx, 3)) (hn : pc + 3 = n)
    (W : Nat) (hf : 1 ≤ R.frames) (hW : 2 * 0 + (st.map fun v => v.category).sum ≤ W) (hl : W + 12 ≤ R.locals) (hr : ∀ T', Stand p l e R s m args below meth c T' locs cells slots → T'.heap = h → Endz p.tables e below Q T' (mkF m n Ls st)) : Endz p.tables e below Q T (mkF m pc Ls (.ref b :: st)) := by
  subst hn
  obtain ⟨T', X', e', st'⟩ := initO X hx hZ hown w1 w2 w3 eT (g := mkF m pc Ls (.ref b :: st)) rfl hml rfl hd hf (W := W) hW hl
  exact Endz.by st' (hr T' X' e')
/-- the clone of an array -/
theorem c_C (X : Stand p l e R s m args below meth c T locs cells slots) (hx : p.tables.exec = Jvm.exec) (hZ : Z.Warmed39 s.vm) {own ad : String} {idx : Nat} (hown : s.vm.findClass own = some m.cls)
    (w1 : (Jvm.Cond.methodLink own idx ⟨ad, "clone", "()Ljava/lang/Object;"⟩).before a0 Z = true) (w2 : (Jvm.Cond.sameMethod ad "java/lang/Object" "clone" "()Ljava/lang/Object;").before a0 Z = true) (w3 : (Jvm.Cond.native ⟨"java/lang/Object", "clone", "()Ljava/lang/Object;"⟩).before a0 Z = true)
    (w4 : (Jvm.Cond.instanceMethod ⟨"java/lang/Object", "clone", "()Ljava/lang/Object;"⟩).before a0 Z = true) (w5 : (Jvm.Cond.selects ad ⟨ad, "clone", "()Ljava/lang/Object;"⟩ ⟨"java/lang/Object", "clone", "()Ljava/lang/Object;"⟩).before a0 Z = true) (w6 : (Jvm.Cond.castable ad "java/lang/Cloneable").before a0 Z = true)
    (eT : T.heap = h) {a : Addr} {k : ClassId} {ty : FieldType} {z : Int32} {vs : List Value} {dv : Value} (F : Arv Z h a k ty z vs dv) (A : Exa Z h a ad) (hml : Ls.size = c.maxLocals) (hd : decode c.code pc = .ok (.invokevirtual idx, 3)) (hn : pc + 3 = n)
    (W cap : Nat) (hf : 1 ≤ R.frames) (hW : 2 * 0 + (st.map fun v => v.category).sum ≤ W) (hl : W + 14 ≤ R.locals) (hcap : z.toNatClampNeg ≤ cap) (hc : cells + 1 ≤ R.cells) (hsl : slots + cap ≤ R.slots)
    (hr : ∀ T' h' b, b = h.size → Stand p l e R s m args below meth c T' locs (cells + 1) (slots + cap) → T'.heap = h' → Ext h h' → Arv Z h' b k ty z vs dv → Exa Z h' b ad → Endz p.tables e below Q T' (mkF m n Ls (.ref b :: st))) : Endz p.tables e below Q T (mkF m pc Ls (.ref a :: st)) := by
  subst hn
  obtain ⟨T', h', X', e', E', V', A', st'⟩ := cloneH X hx hZ hown w1 w2 w3 w4 w5 w6 eT F.arh A (g := mkF m pc Ls (.ref a :: st)) rfl hml rfl hd hf (W := W) (cap := cap) hW hl hcap hc hsl
  exact Endz.by st' (hr T' h' _ rfl X' e' E' V' A')
theorem k_C (X : Stand p l e R s m args below meth c T locs cells slots) (hx : p.tables.exec = Jvm.exec) (hZ : Z.Warmed39 s.vm) {own K : String} {idx : Nat} (hown : s.vm.findClass own = some m.cls) (w : (Jvm.Cond.classLink own idx K).before a0 Z = true) (eT : T.heap = h) {a : Addr} (F : Ins Z h a K true) (hd : decode c.code pc = .ok (.checkcast idx, 3)) (hn : pc + 3 = n)
    (hr : ∀ T', Stand p l e R s m args below meth c T' locs cells slots → T'.heap = h → Endz p.tables e below Q T' (mkF m n Ls (.ref a :: st))) : Endz p.tables e below Q T (mkF m pc Ls (.ref a :: st)) := by
  subst hn
  obtain ⟨T', X', e', st'⟩ := castY X hx hZ hown w eT F (g := mkF m pc Ls (.ref a :: st)) rfl rfl hd
  exact Endz.by st' (hr T' X' e')
theorem i_Y (X : Stand p l e R s m args below meth c T locs cells slots) (hx : p.tables.exec = Jvm.exec) (hZ : Z.Warmed39 s.vm) {own K : String} {idx : Nat} (hown : s.vm.findClass own = some m.cls) (w : (Jvm.Cond.classLink own idx K).before a0 Z = true) (eT : T.heap = h) {a : Addr} (F : Ins Z h a K true) (hd : decode c.code pc = .ok (.instanceof idx, 3)) (hn : pc + 3 = n)
    (hr : ∀ T', Stand p l e R s m args below meth c T' locs cells slots → T'.heap = h → Endz p.tables e below Q T' (mkF m n Ls (.int 1 :: st))) : Endz p.tables e below Q T (mkF m pc Ls (.ref a :: st)) := by
  subst hn
  obtain ⟨T', X', e', st'⟩ := instY X hx hZ hown w eT F (g := mkF m pc Ls (.ref a :: st)) rfl rfl hd
  exact Endz.by st' (hr T' X' e')
theorem Ext.keep1 {h0 h h' : Heap} {b : Addr} (E : Ext h0 h) (K : Keep h h' [b]) (q : h0.size ≤ b) : Ext h0 h' := ⟨Nat.le_trans E.1 K.1, fun a c z => K.2.1 a c (E.2 a c z) (ninS (fun e => by subst e; exact absurd (Array.getElem?_eq_some_iff.mp z).1 (Nat.not_lt.mpr q)) nin0)⟩
/-- System.arraycopy -/
theorem c_Y (X : Stand p l e R s m args below meth c T locs cells slots) (hx : p.tables.exec = Jvm.exec) (hZ : Z.Warmed39 s.vm) {own : String} {idx : Nat} (hown : s.vm.findClass own = some m.cls)
    (w1 : (Jvm.Cond.methodLink own idx Jvm.Stand.acN).before a0 Z = true) (w2 : (Jvm.Cond.native Jvm.Stand.acN).before a0 Z = true) (w3 : (Jvm.Cond.static Jvm.Stand.acN).before a0 Z = true) (w4 : (Jvm.Cond.initialized "java/lang/System").before a0 Z = true) (eT : T.heap = h)
    {a b : Addr} {k k' : ClassId} {ty : FieldType} {z z' sp dp nn : Int32} {vs vd us : List Value} {dv dd : Value} (A : Arv Z h a k ty z vs dv) (B : Arv Z h b k' ty z' vd dd) (hty : refKind ty = false)
    (h1 : ¬ sp < 0) (h2 : ¬ dp < 0) (h3 : ¬ nn < 0) (h4 : sp.toNatClampNeg + nn.toNatClampNeg ≤ z.toNatClampNeg) (h5 : dp.toNatClampNeg + nn.toNatClampNeg ≤ z'.toNatClampNeg)
    (hus : us = (List.range nn.toNatClampNeg).map fun i => vs.getD (sp.toNatClampNeg + i) dv) (hl : dp.toNatClampNeg + nn.toNatClampNeg ≤ vd.length) {n0 : Nat} (N : Fr n0 locs) (ge : n0 ≤ b) (hml : Ls.size = c.maxLocals) (hd : decode c.code pc = .ok (.invokestatic idx, 3)) (hn : pc + 3 = n)
    (W : Nat) (hf : 1 ≤ R.frames) (hW : 2 * 0 + (st.map fun v => v.category).sum ≤ W) (hlo : W + (nativeFrameWords "java/lang/System" "arraycopy" 5 + 11) ≤ R.locals)
    (hr : ∀ T' h' L, Stand p l e R s m args below meth c T' L cells slots → T'.heap = h' → Fr n0 L → Keep h h' [b] → Arv Z h' b k' ty z' (vd.take dp.toNatClampNeg ++ us ++ vd.drop (dp.toNatClampNeg + nn.toNatClampNeg)) dd → Endz p.tables e below Q T' (mkF m n Ls st)) : Endz p.tables e below Q T (mkF m pc Ls (.int nn :: .int dp :: .ref b :: .int sp :: .ref a :: st)) := by
  subst hn
  obtain ⟨T', h', L, X', e', N', K', V', st'⟩ := cpA X hx hZ hown w1 w2 w3 w4 eT A B (Or.inl ⟨rfl, hty⟩) h1 h2 h3 h4 h5 hus hl N ge (g := mkF m pc Ls (.int nn :: .int dp :: .ref b :: .int sp :: .ref a :: st)) rfl hml rfl hd hf (W := W) hW hlo
  exact Endz.by st' (hr T' h' L X' e' N' K' V')
end Heap
section Start
variable {args : Array Value} {s : State}
/-- a static that the case says to be exactly of a class -/
theorem sta_v {C nm d K : String} (h : (Jvm.Cond.exactly (.static C nm d) K).value args s none s [] = some true) (wi : (Jvm.Cond.initialized C).before args s = true) (wl : (Jvm.Cond.laysStatic C nm d).before args s = true) : ∃ a, (Term.static C nm d).eval args s none [] s = some (.ref a) ∧ Exa s s.heap a K ∧ Sta s s.heap C nm d (.ref a) := by
  obtain ⟨a, ev⟩ := exa_v h
  exact ⟨a, ev, Exa.start ev h, Sta.start ev (Or.inr ⟨wi, wl⟩)⟩
/-- a field of it that the case says to be an int -/
theorem fldi_v {t : Term} {a : Addr} {C nm d : String} {k : Int32} (ev : t.eval args s none [] s = some (.ref a)) (h : (Jvm.Cond.eq (.field t C nm d) (.int k)).value args s none s [] = some true) : Fld s s.heap a C nm d (.int k) := by
  obtain ⟨x, y, e1, e2, k1, k2⟩ := cmp_v (Or.inl h)
  have hy : y = .int k := by have := (Term.int_eval (args := args) (first := s) (o := none) (idx := []) (s := s) k).symm.trans e2; exact (Option.some.inj this).symm
  subst hy
  obtain ⟨z, rfl⟩ := k2
  have := gotT (Cond.eq_ints e1 e2) h
  subst this
  exact Fld.start (by rw [← fld_at ev]; exact e1)
theorem len_is {t : Term} {a : Addr} {cl : Cell} {z : Int32} (ev : t.eval args s none [] s = some (.ref a)) (hc : s.heap[a]? = some cl) (h : (Jvm.Cond.eq (.length t) (.int z)).value args s none s [] = some true) : cl.slots.size < 2 ^ 31 ∧ cl.slots.size.toInt32 = z := by
  obtain ⟨x, y, e1, e2, -, k2⟩ := cmp_v (Or.inl h)
  cases (Term.int_eval (args := args) (first := s) (o := none) (idx := []) (s := s) z).symm.trans e2
  obtain ⟨w, rfl⟩ := k2
  have hw := gotT (Cond.eq_ints e1 e2) h
  subst hw
  simp only [Term.eval, ev, Option.bind_eq_bind, Option.bind_some] at e1
  cases ha : s.arrayAt? a with
  | none => simp [ha] at e1
  | some c2 =>
    cases hc.symm.trans (State.arrayAt?_spec ha).1
    by_cases hb : cl.slots.size < 2 ^ 31
    · simp [ha, hb] at e1; exact ⟨hb, e1⟩
    · simp [ha, hb] at e1
theorem elem_is {t u : Term} {a : Addr} {cl : Cell} {j : Int32} {v : Value} (ev : t.eval args s none [] s = some (.ref a)) (hc : s.heap[a]? = some cl) (eu : u.eval args s none [] s = some v) (hv : v.isRef = true) (h : (Jvm.Cond.eq (.elem t (.int j)) u).value args s none s [] = some true) : cl.slots[j.toNatClampNeg]? = some v := by
  obtain ⟨x, y, e1, e2, k1, k2⟩ := cmp_v (Or.inl h)
  cases eu.symm.trans e2
  have hx : x.isRef = true := by
    rcases ref_cases hv with rfl | ⟨b, rfl⟩
    · exact k2.2
    · exact k2.2
  have hw := gotT (eq_R e1 eu hx hv) h
  subst hw
  exact (elem_in e1 ev (Term.int_eval _) hc).2
theorem elemi_is {t : Term} {a : Addr} {cl : Cell} {j k : Int32} (ev : t.eval args s none [] s = some (.ref a)) (hc : s.heap[a]? = some cl) (h : (Jvm.Cond.eq (.elem t (.int j)) (.int k)).value args s none s [] = some true) : cl.slots[j.toNatClampNeg]? = some (.int k) := by
  obtain ⟨x, y, e1, e2, -, k2⟩ := cmp_v (Or.inl h)
  cases (Term.int_eval (args := args) (first := s) (o := none) (idx := []) (s := s) k).symm.trans e2
  obtain ⟨w, rfl⟩ := k2
  have hw := gotT (Cond.eq_ints e1 e2) h
  subst hw
  exact (elem_in e1 ev (Term.int_eval _) hc).2
theorem fldr_v {t : Term} {a b : Addr} {C nm d : String} (ev : t.eval args s none [] s = some (.ref a)) (h : (Term.field t C nm d).eval args s none [] s = some (.ref b)) : Fld s s.heap a C nm d (.ref b) := Fld.start (by rw [← fld_at ev]; exact h)
theorem eleml_is {t : Term} {a : Addr} {cl : Cell} {j : Int32} {k : Int64} (ev : t.eval args s none [] s = some (.ref a)) (hc : s.heap[a]? = some cl) (h : (Jvm.Cond.eq (.elem t (.int j)) (.long k)).value args s none s [] = some true) : cl.slots[j.toNatClampNeg]? = some (.long k) := by
  obtain ⟨x, y, e1, e2, -, k2⟩ := cmp_v (Or.inl h)
  have hk : (Term.long k).eval args s none [] s = some (.long k) := rfl
  cases hk.symm.trans e2
  obtain ⟨w, rfl⟩ := k2
  have hw := gotT (eq_L e1 e2) h
  subst hw
  exact (elem_in e1 ev (Term.int_eval _) hc).2
end Start
section Index
theorem i0_toInt : (0 : Int32).toInt = 0 := by decide
/-- (x & MAX) mod m is a place below m -/
theorem idx_mod (x m : Int32) (M : Nat) (hm : m.toInt = M) (hM : 0 < M) : ¬ ((x &&& 2147483647) % m < 0) ∧ (x &&& 2147483647) % m < m ∧ ((x &&& 2147483647) % m).toNatClampNeg < M := by
  have h1 := c_mask x 2147483647 31 (by decide) (by decide)
  have h2 := (c_irem (x &&& 2147483647) m M hm).1 (by rw [h1]; exact Int.emod_nonneg _ (by decide))
  have h3 := Int.emod_nonneg (x &&& 2147483647).toInt (show (M : Int) ≠ 0 by omega)
  have h4 := Int.emod_lt_of_pos (x &&& 2147483647).toInt (show (0 : Int) < M by omega)
  generalize (x &&& 2147483647) % m = n at h2 ⊢
  have h5 : ¬ n < 0 := by rw [Int32.lt_iff_toInt_lt, i0_toInt]; omega
  have h6 := nat_of h5
  exact ⟨h5, by rw [Int32.lt_iff_toInt_lt, hm]; omega, by omega⟩
theorem idx_eq {n k : Int32} {j : Nat} (h : ¬ n < 0) (hk : k.toInt = j) : n = k ↔ n.toNatClampNeg = j := by
  have h6 := nat_of h
  rw [← Int32.toInt_inj]; omega
theorem getD_map (ws : List Addr) (j : Nat) (h : j < ws.length) : (ws.map Value.ref).getD j .null = .ref (ws.getD j 0) := by
  simp [List.getD_eq_getElem?_getD, List.getElem?_eq_getElem, h]
theorem getD_mapI (ws : List Int32) (j : Nat) : (ws.map Value.int).getD j (.int 0) = .int (ws.getD j 0) := by
  simp only [List.getD_eq_getElem?_getD, List.getElem?_map]
  cases ws[j]? <;> rfl
theorem getD_mapJ (ws : List Int64) (j : Nat) : (ws.map Value.long).getD j (.long 0) = .long (ws.getD j 0) := by
  simp only [List.getD_eq_getElem?_getD, List.getElem?_map]
  cases ws[j]? <;> rfl
/-! small naturals as ints -/
theorem nat_toInt {n : Nat} (h : n < 2147483648) : (Int32.ofNat n).toInt = n := Int32.toInt_ofNat_small h
theorem nat_clamp {n : Nat} (h : n < 2147483648) : (Int32.ofNat n).toNatClampNeg = n := by
  show (Int32.ofNat n).toInt.toNat = n
  rw [nat_toInt h]; rfl
theorem nat_nn {n : Nat} (h : n < 2147483648) : ¬ Int32.ofNat n < 0 := by rw [Int32.lt_iff_toInt_lt, nat_toInt h, i0_toInt]; omega
theorem nat_lt {n k : Nat} (h : n < 2147483648) (h' : k < 2147483648) : Int32.ofNat n < Int32.ofNat k ↔ n < k := by rw [Int32.lt_iff_toInt_lt, nat_toInt h, nat_toInt h']; omega
theorem nat_eq {n k : Nat} (h : n < 2147483648) (h' : k < 2147483648) : Int32.ofNat n = Int32.ofNat k ↔ n = k := by rw [← Int32.toInt_inj, nat_toInt h, nat_toInt h']; omega
theorem nat_up (n : Nat) : Int32.ofNat n + 1 = Int32.ofNat (n + 1) := by simp [Int32.ofNat_add]
theorem Fld.fun {Z : State} {h : Heap} {a : Addr} {C n d : String} {v w : Value} (F : Fld Z h a C n d v) (G : Fld Z h a C n d w) : v = w := Classical.byContradiction fun q => F.ne G q rfl
end Index
section Wide
variable {p : Program} {l : Launch} {e : Env} {R : Room} {s : State} {m : MethodId} {args : Array Value} {below : List Frame} {meth : Method} {c : Code} {T : State} {locs : List Loc} {cells slots : Nat} {Z : State} {a0 : Array Value} {h hB : Heap} {pc n : Nat} {Ls : Array Slot} {st : List Value} {rm : Room} {vm0 vmB : Vm} {EL : List (String × Nat)} {Q : Outcome → State → Prop} {Qw : Option Value → Vm → Heap → List Loc → Prop} {k0 : Nat}
/-- a String of the given bytes -/
def Strz (Z : State) (h : Heap) (a : Addr) (ws : List Int32) : Prop := Exa Z h a "java/lang/String" ∧ Fld Z h a "java/lang/String" "coder" "B" (.int 0) ∧ ∃ b k z, Fld Z h a "java/lang/String" "value" "[B" (.ref b) ∧ Arv Z h b k .byte z (ws.map Value.int) (.int 0) ∧ ¬ z < 0 ∧ z.toNatClampNeg = ws.length
theorem Strz.ext {h h' : Heap} {a : Addr} {ws : List Int32} (F : Strz Z h a ws) (E : Ext h h') : Strz Z h' a ws := by
  obtain ⟨A, F, b, k, z, G, V, r⟩ := F
  exact ⟨A.ext E, F.ext E, b, k, z, G.ext E, V.ext E, r⟩
theorem Strz.fun {h : Heap} {a : Addr} {ws ws' : List Int32} (F : Strz Z h a ws) (G : Strz Z h a ws') : ws = ws' := by
  obtain ⟨A, F, b, k, z, B, V, z0, zl⟩ := F
  obtain ⟨A', F', b', k', z', B', V', z0', zl'⟩ := G
  have q : b = b' := Value.ref.inj (Fld.fun B B')
  subst q
  obtain ⟨c1, a1, -, s1, -, h1, -⟩ := V
  obtain ⟨c2, b1, -, s2, -, h2, -⟩ := V'
  cases a1.1.symm.trans b1.1
  have hl : ws.length = ws'.length := by rw [← zl, ← zl', ← s1, ← s2]
  refine List.ext_getElem hl fun i i1 i2 => ?_
  have e1 := h1 i (by rw [s1, zl]; exact i1)
  have e2 := h2 i (by rw [s1, zl]; exact i1)
  have e3 := Option.some.inj (e1.symm.trans e2)
  simp [List.getD_eq_getElem?_getD, i1, i2] at e3
  exact e3
/-- what the run leaves, where literals may be loaded -/
abbrev FinW (s : State) (rm : Room) (Qw : Option Value → Vm → Heap → List Loc → Prop) : Outcome → State → Prop := fun o U' => ∃ v L, o = .returned v ∧ Qw v U'.vm U'.heap L ∧ ReturnedEndW s o U' L rm.cells rm.slots
abbrev ConW (l : Launch) (Z : State) (EL : List (String × Nat)) (vmB : Vm) (y : MethodName) (bytes : ByteArray) (maxL : Nat) (ret : Option FieldType) (ws : List Jvm.Cond) (rm : Room) (as : Array Value) (h0 : Heap) (Qw : Option Value → Vm → Heap → List Loc → Prop) : Prop :=
  MetFree l y (head1 (Jvm.Cond.code y bytes maxL ret :: ws) rm) (fun a U => a = as ∧ Z.Warmed39 U.vm ∧ U.heap = h0 ∧ CHr Z EL vmB h0 U.vm h0) (fun _ _ _ _ _ => True) (fun _ U o U' => ∃ v L, o = .returned v ∧ Qw v U'.vm U'.heap L ∧ ReturnedEndW U o U' L rm.cells rm.slots)
theorem conW_of {y : MethodName} {bytes : ByteArray} {maxL : Nat} {ret : Option FieldType} {ws : List Jvm.Cond} {as : Array Value} {h0 : Heap} (hn : plainFor y = true)
    (body : ∀ (p : Program) (e : Env) (s : State) (vm0 : Vm) (m : MethodId) (below : List Frame) (meth : Method) (c : Code) (T : State), Stand p l e rm (s.setVm vm0) m as below meth c T [] 0 0 → p.tables.exec = Jvm.exec → Z.Warmed39 (s.setVm vm0).vm → c.code = bytes → c.maxLocals = maxL → (s.setVm vm0).vm.findClass y.cls = some m.cls → meth.sig.returnType = ret → meth.name = y.name → meth.locks = false → T.heap = h0 → s.Since vm0 h0.size → CHr Z EL vmB h0 vm0 h0 → Endz p.tables e below (FinW s rm Qw) T (entryFrame m as maxL)) :
    ConW l Z EL vmB y bytes maxL ret ws rm as h0 Qw := by
  refine MetFree.of_bodySF hn hisR ?_
  intro p e s m args below meth c s₁ Bd hml0 hP hK
  obtain ⟨rfl, hZ, hh, hC⟩ := hP
  have X0 : Stand p l e rm s m args below meth c s₁ [] 0 0 := Stand.of_body Bd
  exact body p e s s.vm m below meth c s₁ X0 Bd.exec hZ Bd.bytes hml0 (findClass_of_methodNamed Bd.named) Bd.returns (name_of_methodNamed Bd.named Bd.method).1 Bd.notSynchronized (by rw [← hh, Bd.state]; rfl) ((State.WarmedH.refl s).since _) hC
theorem finW_of (X : Stand p l e R (s.setVm vm0) m args below meth c T locs cells slots) (hlk : meth.locks = false) (eT : T.heap = h) (hS : s.Since vm0 k0) (hk : k0 ≤ h.size) {v : Option Value} {g : JFrame} (hv : meth.sig.returnType = none → v = none) (hc : cells ≤ rm.cells) (hs : slots ≤ rm.slots) (hQ : Qw v T.vm h locs)
    (hstep : ∀ fs, (∀ (f : JFrame) (acts : List Action), f.method = m → f.locked = none → f.entered = [] → (doReturn e (T.setTop f) acts v).1 = T.setFrames fs) → Steps p.tables e below (T.setTop g) (T.setFrames fs)) : Endz p.tables e below (FinW s rm Qw) T g := by
  obtain ⟨fs, hr, hrun, hended, hE⟩ := X.leaveW hS (by rw [eT]; exact hk) (v := v) hv hlk
  have hQ' : Qw v (T.setFrames fs).vm (T.setFrames fs).heap locs := by show Qw v T.vm T.heap locs; rw [eT]; exact hQ
  exact ⟨_, _, hstep fs hr, hrun, hended, v, locs, rfl, hQ', hE.1, hE.2.1, hE.2.2.1, hE.2.2.2.mono hc hs⟩
theorem finW_Z (X : Stand p l e R (s.setVm vm0) m args below meth c T locs cells slots) (hx : p.tables.exec = Jvm.exec) (hlk : meth.locks = false) (eT : T.heap = h) (hS : s.Since vm0 k0) (hk : k0 ≤ h.size) {t : FieldType} {z : Int32} (hret : meth.sig.returnType = some t) (ht : t = .boolean ∨ t = .byte ∨ t = .char ∨ t = .short) (hd : decode c.code pc = .ok (.ireturn, 1)) (hc : cells ≤ rm.cells) (hs : slots ≤ rm.slots) (hQ : Qw (some (.int (nar t z))) T.vm h locs) :
    Endz p.tables e below (FinW s rm Qw) T (mkF m pc Ls (.int z :: st)) :=
  finW_of X hlk eT hS hk (fun q => by rw [hret] at q; cases q) hc hs hQ fun fs hl => retN X hx hret ht hd hl
theorem finW_V (X : Stand p l e R (s.setVm vm0) m args below meth c T locs cells slots) (hx : p.tables.exec = Jvm.exec) (hlk : meth.locks = false) (eT : T.heap = h) (hS : s.Since vm0 k0) (hk : k0 ≤ h.size) (hret : meth.sig.returnType = none) (hd : decode c.code pc = .ok (.return_, 1)) (hc : cells ≤ rm.cells) (hs : slots ≤ rm.slots) (hQ : Qw none T.vm h locs) :
    Endz p.tables e below (FinW s rm Qw) T (mkF m pc Ls []) :=
  finW_of X hlk eT hS hk (fun _ => rfl) hc hs hQ fun fs hl => X.returnOut hx hret hd hl
theorem finW_A (X : Stand p l e R (s.setVm vm0) m args below meth c T locs cells slots) (hx : p.tables.exec = Jvm.exec) (hlk : meth.locks = false) (eT : T.heap = h) (hS : s.Since vm0 k0) (hk : k0 ≤ h.size) {w : Value} {t : FieldType} (hret : meth.sig.returnType = some t) (hn : narrow t w = w) (ht : t.isReference = true) (hw : w.isRef = true) (hd : decode c.code pc = .ok (.areturn, 1)) (hc : cells ≤ rm.cells) (hs : slots ≤ rm.slots) (hQ : Qw (some w) T.vm h locs) :
    Endz p.tables e below (FinW s rm Qw) T (mkF m pc Ls (w :: st)) :=
  finW_of X hlk eT hS hk (fun q => by rw [hret] at q; cases q) hc hs hQ fun fs hl => retOut X hx hret hn (Or.inr (Or.inr (Or.inr (Or.inr ⟨rfl, ht, hw⟩)))) hd hl
/-- what is booked now, of a walk that goes on over the tables at hand -/
theorem CHr.now (X : Stand p l e R (s.setVm vm0) m args below meth c T locs cells slots) (hZ : Z.Warmed39 vm0) (w : EW Z a0 EL) (H : CHr Z EL vmB hB vm0 h) : CHr Z EL vmB hB T.vm h := H.trans (CHv.at X hZ w H.1)
/-- a literal of the list loaded -/
theorem k_S (X : Stand p l e R (s.setVm vm0) m args below meth c T locs cells slots) (hx : p.tables.exec = Jvm.exec) (hZ : Z.Warmed39 (s.setVm vm0).vm) {own text : String} {idx : Nat} (hown : (s.setVm vm0).vm.findClass own = some m.cls) (w : (Jvm.Cond.stringLink own idx text).before a0 Z = true) (wS : ∀ a ∈ Bundle.stringAtoms, a.before a0 Z = true) (eT : T.heap = h) (hS : s.Since vm0 k0) (hk : k0 ≤ h.size) (hEL : EW Z a0 EL) (hmem : (own, idx) ∈ EL) (H : CHr Z EL vmB hB vm0 h)
    (ws : List Int32) (z : Int32) (ht : (∀ c ∈ text.toList, c.toNat < 256) ∧ text.toList.map (fun c => Value.int (Jvm.Lit.byteI c.toNat.toUInt16)) = ws.map Value.int) (hz : ¬ z < 0) (hl : z.toNatClampNeg = ws.length) (hd : decode c.code pc = .ok (.ldc idx, 2)) (hn : pc + 2 = n) (N : Nat) (hN : 4 * text.toList.length ≤ N) (hbig : N ≤ 536870912) (hc : cells + 2 ≤ R.cells) (hsl : slots + (N + 4) ≤ R.slots)
    (hr : ∀ T' h' k1 a, Stand p l e R (s.setVm T'.vm) m args below meth c T' locs (cells + 2) (slots + (N + 4)) → T'.heap = h' → Ext h h' → s.Since T'.vm k1 → k1 ≤ h'.size → Z.Warmed39 (s.setVm T'.vm).vm → (s.setVm T'.vm).vm.findClass own = some m.cls → Strz Z h' a ws → CHr Z EL vmB hB T'.vm h' → Lit (s.setVm T'.vm) own idx a → (∀ x, Safe Z EL T'.vm h' x → x ≠ a) → Endz p.tables e below Q T' (mkF m n Ls (.ref a :: st))) : Endz p.tables e below Q T (mkF m pc Ls st) := by
  subst hn
  obtain ⟨a, T', h', k1, b, k, X', e', E', hS', hk', hZ', hown', A, F, G, V, -, -, C', L', nb, st'⟩ := ldcCH X hx hZ hown w wS eT hS hk hEL hmem H.1 ht hz (by rw [hl, List.length_map]) (g := mkF m pc Ls st) rfl hd hN hbig hc hsl
  exact Endz.by st' (hr T' h' k1 a X' e' E' hS' hk' hZ' hown' ⟨A, F, b, k, z, G, V, hz, hl⟩ (H.trans C') L' (fun x S => (nb x S).1))
/-- .. and loaded again: nothing moves -/
theorem k_S2 (X : Stand p l e R (s.setVm vm0) m args below meth c T locs cells slots) (hx : p.tables.exec = Jvm.exec) (hZ : Z.Warmed39 (s.setVm vm0).vm) {own text : String} {idx : Nat} (hown : (s.setVm vm0).vm.findClass own = some m.cls) (w : (Jvm.Cond.stringLink own idx text).before a0 Z = true) {a : Addr} (L : Lit (s.setVm vm0) own idx a) (hd : decode c.code pc = .ok (.ldc idx, 2)) (hn : pc + 2 = n)
    (hr : Endz p.tables e below Q T (mkF m n Ls (.ref a :: st))) : Endz p.tables e below Q T (mkF m pc Ls st) := by
  subst hn
  exact Endz.by (ldcAgain X hx hZ hown w L (g := mkF m pc Ls st) rfl hd) hr
/-- a callee that may load literals -/
theorem backW {y : MethodName} {bytes : ByteArray} {maxL : Nat} {ret : Option FieldType} {len W : Nat} {as' : Array Value} (hM : ConW l Z EL vm0 y bytes maxL ret [] rm as' h Qw)
    (hZ : Z.Warmed39 vm0) (wc : (Jvm.Cond.code y bytes maxL ret).before a0 Z = true) (wz : (Jvm.Cond.initialized y.cls).before a0 Z = true) (hf : rm.frames + 1 ≤ R.frames) (hl : W + (maxL + 11) + rm.locals ≤ R.locals) (hEL : EW Z a0 EL) (H : CHv Z EL vm0 h) :
    BackS l R p e below (s.setVm vm0) args y len W (fun A a => a = as' ∧ A.U.heap = h ∧ A.cells + rm.cells ≤ R.cells ∧ A.slots + rm.slots ≤ R.slots)
      (fun A _ v B => ∃ L, Qw v B.U.vm B.U.heap L ∧ B.locs = A.locs ++ L ∧ B.cells = A.cells + rm.cells ∧ B.slots = A.slots + rm.slots) :=
  BackS.of_freeW (bytes := bytes) (maxL := maxL) (ret := ret) (E := fun _ _ o t L k n => k = rm.cells ∧ n = rm.slots ∧ ∃ v, o = .returned v ∧ Qw v t.vm t.heap L) hM hf hl
    (fun m meth c A a Y hp => have hU : Z.Warmed39 A.U.vm := wtrans (s := s.setVm vm0) hZ Y.warmed
      ⟨by show (Jvm.Cond.and _ .tt).before a A.U = true; rw [Cond.before_and, mv hU wc]; rfl, mv hU wc, mv hU wz, hp.2.2.1, hp.2.2.2⟩)
    (fun m meth c A a g mk Y hp => ⟨hp.1, wtrans (s := s.setVm vm0) hZ Y.warmed, hp.2.1, by have q := CHv.at Y hZ hEL H; exact q⟩) (fun _ _ _ _ _ _ _ _ _ => trivial)
    (fun _ _ _ _ ⟨v, L, h1, h2, h3⟩ => ⟨L, _, _, h3, rfl, rfl, v, h1, h2⟩)
    (fun m meth c A a g mk v t L k n Y hp _ _ ⟨e1, e2, v', e3, e4⟩ => by cases e3; subst e1 e2; exact ⟨L, e4, rfl, rfl, rfl⟩)
theorem c_NW (X : Stand p l e R (s.setVm vm0) m args below meth c T locs cells slots) (hx : p.tables.exec = Jvm.exec) (hZ : Z.Warmed39 (s.setVm vm0).vm) {own : String} {idx : Nat} {y : MethodName} {bytes : ByteArray} {maxL : Nat} {b : Addr} {argsL rest stk : List Value} {ps : List FieldType} {r : Option FieldType} (hy1 : y.name = "<init>") (hown : (s.setVm vm0).vm.findClass own = some m.cls) (hM : ConW l Z EL vm0 y bytes maxL none [] rm (.ref b :: argsL).toArray h Qw) (eT : T.heap = h) (hS : s.Since vm0 k0) (hk : k0 ≤ h.size) (hEL : EW Z a0 EL) (H : CHv Z EL vm0 h)
    (w1 : (Jvm.Cond.methodLink own idx y).before a0 Z = true) (w2 : (Jvm.Cond.instanceMethod y).before a0 Z = true) (w3 : (Jvm.Cond.initialized y.cls).before a0 Z = true) (w4 : (Jvm.Cond.code y bytes maxL none).before a0 Z = true) (hy : y.cls ≠ "java/lang/invoke/MethodHandle" ∧ y.cls ≠ "java/lang/invoke/VarHandle")
    (W : Nat) (hf : rm.frames + 1 ≤ R.frames) (hl : W + (maxL + 11) + rm.locals ≤ R.locals) (hcl : cells + rm.cells ≤ R.cells) (hsl : slots + rm.slots ≤ R.slots) (hml : Ls.size = c.maxLocals) (hpd : parseMethodDescriptor y.desc = some ⟨ps, r⟩) (hlen : argsL.length = ps.length) (hstk : stk = argsL.reverse ++ .ref b :: rest) (hW : 2 * 0 + (rest.map fun v => v.category).sum ≤ W) (hd : decode c.code pc = .ok (.invokespecial idx, 3)) (hn : pc + 3 = n)
    (hr : ∀ v T' L, Stand p l e R (s.setVm T'.vm) m args below meth c T' (locs ++ L) (cells + rm.cells) (slots + rm.slots) → s.Since T'.vm T'.heap.size → Z.Warmed39 (s.setVm T'.vm).vm → (s.setVm T'.vm).vm.findClass own = some m.cls → Qw v T'.vm T'.heap L → Endz p.tables e below Q T' (mkF m n Ls (v.toList ++ rest))) : Endz p.tables e below Q T (mkF m pc Ls stk) := by
  subst hn hstk
  obtain ⟨v, _, ⟨T', L', k', n'⟩, -, X', hS', hg', ⟨L, hQ, l1, y1, z1⟩, st'⟩ := X.specialBackS hx (y := y) hy1 hown (mvT hZ w1) (mvT hZ w2) (mvT hZ w4) hy (backW (W := W) hM hZ w4 w3 hf hl hEL H) (g := mkF m pc Ls (argsL.reverse ++ .ref b :: rest)) rfl hml (Steps.refl _) (a := b) (argsL := argsL) (rest := rest) (lenOf hpd hlen) rfl hW hd (fun _ _ => ⟨rfl, eT, hcl, hsl⟩)
  dsimp only [Pt.U, Pt.locs, Pt.cells, Pt.slots] at X' l1 y1 z1 st' hQ hS' hg'
  subst l1 y1 z1
  exact Endz.tr st' (hr v T' L X' (foldS hS (by rw [eT]; exact hk) hS' hg') (State.Warmed39.trans (t := s.setVm vm0) hZ hS'.1) (by rw [show (s.setVm T'.vm).vm = T'.vm from rfl, hS'.1.alike.findClass]; exact hown) hQ)
/-- instanceof of null -/
theorem i_N (X : Stand p l e R s m args below meth c T locs cells slots) (hx : p.tables.exec = Jvm.exec) {idx : Nat} (hd : decode c.code pc = .ok (.instanceof idx, 3)) (hn : pc + 3 = n) (hr : Endz p.tables e below Q T (mkF m n Ls (.int 0 :: st))) : Endz p.tables e below Q T (mkF m pc Ls (.null :: st)) := by
  subst hn
  exact Endz.by (X.instanceofNull hx (g := mkF m pc Ls (.null :: st)) rfl (rest := st) rfl hd) hr
/-- checkcast of null -/
theorem k_CN (X : Stand p l e R s m args below meth c T locs cells slots) (hx : p.tables.exec = Jvm.exec) {idx : Nat} (hd : decode c.code pc = .ok (.checkcast idx, 3)) (hn : pc + 3 = n) (hr : Endz p.tables e below Q T (mkF m n Ls (.null :: st))) : Endz p.tables e below Q T (mkF m pc Ls (.null :: st)) := by
  subst hn
  exact Endz.by (X.checkcastNull hx (g := mkF m pc Ls (.null :: st)) rfl (rest := st) rfl hd) hr
end Wide
end Jvm.OwnKit
namespace Jvm.Pilot.@@N@@
open Jvm Jvm.ClassFile Sem Op Lib Jvm.Free Jvm.Stand Jvm.LawKit Jvm.RoadKit Bundle Jvm.Pilot.@@N@@.Jvm.D Jvm.OwnKit
theorem d1_0 : decode prog_5_method_10_code 0 = .ok (.invokestatic 106, 3) := by decide +kernel
theorem d1_3 : decode prog_5_method_10_code 3 = .ok (.astore_n 1, 1) := by decide +kernel
theorem d1_4 : decode prog_5_method_10_code 4 = .ok (.aload_n 1, 1) := by decide +kernel
theorem d1_5 : decode prog_5_method_10_code 5 = .ok (.arraylength, 1) := by decide +kernel
theorem d1_6 : decode prog_5_method_10_code 6 = .ok (.istore_n 2, 1) := by decide +kernel
theorem d1_7 : decode prog_5_method_10_code 7 = .ok (.iconst 0, 1) := by decide +kernel
theorem d1_8 : decode prog_5_method_10_code 8 = .ok (.istore_n 3, 1) := by decide +kernel
theorem d1_9 : decode prog_5_method_10_code 9 = .ok (.iload_n 3, 1) := by decide +kernel
theorem d1_10 : decode prog_5_method_10_code 10 = .ok (.iload_n 2, 1) := by decide +kernel
theorem d1_11 : decode prog_5_method_10_code 11 = .ok (.if_icmp .ge 32, 3) := by decide +kernel
theorem d1_14 : decode prog_5_method_10_code 14 = .ok (.aload_n 1, 1) := by decide +kernel
theorem d1_15 : decode prog_5_method_10_code 15 = .ok (.iload_n 3, 1) := by decide +kernel
theorem d1_16 : decode prog_5_method_10_code 16 = .ok (.aaload, 1) := by decide +kernel
theorem d1_17 : decode prog_5_method_10_code 17 = .ok (.astore 4, 2) := by decide +kernel
theorem d1_19 : decode prog_5_method_10_code 19 = .ok (.aload 4, 2) := by decide +kernel
theorem d1_21 : decode prog_5_method_10_code 21 = .ok (.getfield 29, 3) := by decide +kernel
theorem d1_24 : decode prog_5_method_10_code 24 = .ok (.aload_n 0, 1) := by decide +kernel
theorem d1_25 : decode prog_5_method_10_code 25 = .ok (.invokevirtual 110, 3) := by decide +kernel
theorem d1_28 : decode prog_5_method_10_code 28 = .ok (.ifCond .eq 9, 3) := by decide +kernel
theorem d1_31 : decode prog_5_method_10_code 31 = .ok (.aload 4, 2) := by decide +kernel
theorem d1_33 : decode prog_5_method_10_code 33 = .ok (.invokestatic 114, 3) := by decide +kernel
theorem d1_36 : decode prog_5_method_10_code 36 = .ok (.areturn, 1) := by decide +kernel
theorem d1_37 : decode prog_5_method_10_code 37 = .ok (.iinc 3 1, 3) := by decide +kernel
theorem d1_40 : decode prog_5_method_10_code 40 = .ok (.goto (-31), 3) := by decide +kernel
theorem d1_43 : decode prog_5_method_10_code 43 = .ok (.invokestatic 120, 3) := by decide +kernel
theorem d1_46 : decode prog_5_method_10_code 46 = .ok (.areturn, 1) := by decide +kernel
theorem d2_0 : decode prog_5_method_1_code 0 = .ok (.getstatic 10, 3) := by decide +kernel
theorem d2_3 : decode prog_5_method_1_code 3 = .ok (.invokevirtual 14, 3) := by decide +kernel
theorem d2_6 : decode prog_5_method_1_code 6 = .ok (.checkcast 15, 3) := by decide +kernel
theorem d2_9 : decode prog_5_method_1_code 9 = .ok (.areturn, 1) := by decide +kernel
theorem d3_0 : decode jdk_42_method_66_code 0 = .ok (.aload_n 0, 1) := by decide +kernel
theorem d3_1 : decode jdk_42_method_66_code 1 = .ok (.aload_n 1, 1) := by decide +kernel
theorem d3_2 : decode jdk_42_method_66_code 2 = .ok (.if_acmp .ne 5, 3) := by decide +kernel
theorem d3_5 : decode jdk_42_method_66_code 5 = .ok (.iconst 1, 1) := by decide +kernel
theorem d3_6 : decode jdk_42_method_66_code 6 = .ok (.ireturn, 1) := by decide +kernel
theorem d3_7 : decode jdk_42_method_66_code 7 = .ok (.aload_n 1, 1) := by decide +kernel
theorem d3_8 : decode jdk_42_method_66_code 8 = .ok (.instanceof 10, 3) := by decide +kernel
theorem d3_11 : decode jdk_42_method_66_code 11 = .ok (.ifCond .eq 43, 3) := by decide +kernel
theorem d3_14 : decode jdk_42_method_66_code 14 = .ok (.aload_n 1, 1) := by decide +kernel
theorem d3_15 : decode jdk_42_method_66_code 15 = .ok (.checkcast 10, 3) := by decide +kernel
theorem d3_18 : decode jdk_42_method_66_code 18 = .ok (.astore_n 2, 1) := by decide +kernel
theorem d3_19 : decode jdk_42_method_66_code 19 = .ok (.getstatic 38, 3) := by decide +kernel
theorem d3_22 : decode jdk_42_method_66_code 22 = .ok (.ifCond .eq 14, 3) := by decide +kernel
theorem d3_25 : decode jdk_42_method_66_code 25 = .ok (.aload_n 0, 1) := by decide +kernel
theorem d3_26 : decode jdk_42_method_66_code 26 = .ok (.getfield 15, 3) := by decide +kernel
theorem d3_29 : decode jdk_42_method_66_code 29 = .ok (.aload_n 2, 1) := by decide +kernel
theorem d3_30 : decode jdk_42_method_66_code 30 = .ok (.getfield 15, 3) := by decide +kernel
theorem d3_33 : decode jdk_42_method_66_code 33 = .ok (.if_icmp .ne 21, 3) := by decide +kernel
theorem d3_36 : decode jdk_42_method_66_code 36 = .ok (.aload_n 0, 1) := by decide +kernel
theorem d3_37 : decode jdk_42_method_66_code 37 = .ok (.getfield 9, 3) := by decide +kernel
theorem d3_40 : decode jdk_42_method_66_code 40 = .ok (.aload_n 2, 1) := by decide +kernel
theorem d3_41 : decode jdk_42_method_66_code 41 = .ok (.getfield 9, 3) := by decide +kernel
theorem d3_44 : decode jdk_42_method_66_code 44 = .ok (.invokestatic 541, 3) := by decide +kernel
theorem d3_47 : decode jdk_42_method_66_code 47 = .ok (.ifCond .eq 7, 3) := by decide +kernel
theorem d3_50 : decode jdk_42_method_66_code 50 = .ok (.iconst 1, 1) := by decide +kernel
theorem d3_51 : decode jdk_42_method_66_code 51 = .ok (.goto 4, 3) := by decide +kernel
theorem d3_54 : decode jdk_42_method_66_code 54 = .ok (.iconst 0, 1) := by decide +kernel
theorem d3_55 : decode jdk_42_method_66_code 55 = .ok (.ireturn, 1) := by decide +kernel
theorem d4_0 : decode jdk_32_method_1_code 0 = .ok (.getstatic 1, 3) := by decide +kernel
theorem d4_3 : decode jdk_32_method_1_code 3 = .ok (.astore_n 0, 1) := by decide +kernel
theorem d4_4 : decode jdk_32_method_1_code 4 = .ok (.aload_n 0, 1) := by decide +kernel
theorem d4_5 : decode jdk_32_method_1_code 5 = .ok (.areturn, 1) := by decide +kernel
theorem d5_0 : decode jdk_32_method_15_code 0 = .ok (.aload_n 0, 1) := by decide +kernel
theorem d5_1 : decode jdk_32_method_15_code 1 = .ok (.getfield 13, 3) := by decide +kernel
theorem d5_4 : decode jdk_32_method_15_code 4 = .ok (.ifnull 10, 3) := by decide +kernel
theorem d5_7 : decode jdk_32_method_15_code 7 = .ok (.aload_n 0, 1) := by decide +kernel
theorem d5_8 : decode jdk_32_method_15_code 8 = .ok (.getfield 13, 3) := by decide +kernel
theorem d5_11 : decode jdk_32_method_15_code 11 = .ok (.goto 4, 3) := by decide +kernel
theorem d5_14 : decode jdk_32_method_15_code 14 = .ok (.aload_n 1, 1) := by decide +kernel
theorem d5_15 : decode jdk_32_method_15_code 15 = .ok (.areturn, 1) := by decide +kernel
theorem d6_0 : decode jdk_42_method_3_code 0 = .ok (.aload_n 0, 1) := by decide +kernel
theorem d6_1 : decode jdk_42_method_3_code 1 = .ok (.aload_n 1, 1) := by decide +kernel
theorem d6_2 : decode jdk_42_method_3_code 2 = .ok (.iconst 0, 1) := by decide +kernel
theorem d6_3 : decode jdk_42_method_3_code 3 = .ok (.aload_n 1, 1) := by decide +kernel
theorem d6_4 : decode jdk_42_method_3_code 4 = .ok (.arraylength, 1) := by decide +kernel
theorem d6_5 : decode jdk_42_method_3_code 5 = .ok (.aconst_null, 1) := by decide +kernel
theorem d6_6 : decode jdk_42_method_3_code 6 = .ok (.invokespecial 27, 3) := by decide +kernel
theorem d6_9 : decode jdk_42_method_3_code 9 = .ok (.return_, 1) := by decide +kernel
theorem d7_0 : decode jdk_42_method_149_code 0 = .ok (.aload_n 0, 1) := by decide +kernel
theorem d7_1 : decode jdk_42_method_149_code 1 = .ok (.invokespecial 1, 3) := by decide +kernel
theorem d7_4 : decode jdk_42_method_149_code 4 = .ok (.iload_n 3, 1) := by decide +kernel
theorem d7_5 : decode jdk_42_method_149_code 5 = .ok (.ifCond .ne 22, 3) := by decide +kernel
theorem d7_8 : decode jdk_42_method_149_code 8 = .ok (.aload_n 0, 1) := by decide +kernel
theorem d7_9 : decode jdk_42_method_149_code 9 = .ok (.ldc 7, 2) := by decide +kernel
theorem d7_11 : decode jdk_42_method_149_code 11 = .ok (.getfield 9, 3) := by decide +kernel
theorem d7_14 : decode jdk_42_method_149_code 14 = .ok (.putfield 9, 3) := by decide +kernel
theorem d7_17 : decode jdk_42_method_149_code 17 = .ok (.aload_n 0, 1) := by decide +kernel
theorem d7_18 : decode jdk_42_method_149_code 18 = .ok (.ldc 7, 2) := by decide +kernel
theorem d7_20 : decode jdk_42_method_149_code 20 = .ok (.getfield 15, 3) := by decide +kernel
theorem d7_23 : decode jdk_42_method_149_code 23 = .ok (.putfield 15, 3) := by decide +kernel
theorem d7_26 : decode jdk_42_method_149_code 26 = .ok (.return_, 1) := by decide +kernel
theorem d7_27 : decode jdk_42_method_149_code 27 = .ok (.getstatic 38, 3) := by decide +kernel
theorem d7_30 : decode jdk_42_method_149_code 30 = .ok (.ifCond .eq 28, 3) := by decide +kernel
theorem d7_33 : decode jdk_42_method_149_code 33 = .ok (.aload_n 1, 1) := by decide +kernel
theorem d7_34 : decode jdk_42_method_149_code 34 = .ok (.iload_n 2, 1) := by decide +kernel
theorem d7_35 : decode jdk_42_method_149_code 35 = .ok (.iload_n 3, 1) := by decide +kernel
theorem d7_36 : decode jdk_42_method_149_code 36 = .ok (.invokestatic 177, 3) := by decide +kernel
theorem d7_39 : decode jdk_42_method_149_code 39 = .ok (.astore 5, 2) := by decide +kernel
theorem d7_41 : decode jdk_42_method_149_code 41 = .ok (.aload_n 0, 1) := by decide +kernel
theorem d7_42 : decode jdk_42_method_149_code 42 = .ok (.aload 5, 2) := by decide +kernel
theorem d7_44 : decode jdk_42_method_149_code 44 = .ok (.iload_n 3, 1) := by decide +kernel
theorem d7_45 : decode jdk_42_method_149_code 45 = .ok (.invokestatic 47, 3) := by decide +kernel
theorem d7_48 : decode jdk_42_method_149_code 48 = .ok (.putfield 15, 3) := by decide +kernel
theorem d7_51 : decode jdk_42_method_149_code 51 = .ok (.aload_n 0, 1) := by decide +kernel
theorem d7_52 : decode jdk_42_method_149_code 52 = .ok (.aload 5, 2) := by decide +kernel
theorem d7_54 : decode jdk_42_method_149_code 54 = .ok (.putfield 9, 3) := by decide +kernel
theorem d7_57 : decode jdk_42_method_149_code 57 = .ok (.return_, 1) := by decide +kernel
theorem d7_58 : decode jdk_42_method_149_code 58 = .ok (.aload_n 0, 1) := by decide +kernel
theorem d7_59 : decode jdk_42_method_149_code 59 = .ok (.iconst 1, 1) := by decide +kernel
theorem d7_60 : decode jdk_42_method_149_code 60 = .ok (.putfield 15, 3) := by decide +kernel
theorem d7_63 : decode jdk_42_method_149_code 63 = .ok (.aload_n 0, 1) := by decide +kernel
theorem d7_64 : decode jdk_42_method_149_code 64 = .ok (.aload_n 1, 1) := by decide +kernel
theorem d7_65 : decode jdk_42_method_149_code 65 = .ok (.iload_n 2, 1) := by decide +kernel
theorem d7_66 : decode jdk_42_method_149_code 66 = .ok (.iload_n 3, 1) := by decide +kernel
theorem d7_67 : decode jdk_42_method_149_code 67 = .ok (.invokestatic 180, 3) := by decide +kernel
theorem d7_70 : decode jdk_42_method_149_code 70 = .ok (.putfield 9, 3) := by decide +kernel
theorem d7_73 : decode jdk_42_method_149_code 73 = .ok (.return_, 1) := by decide +kernel
theorem d8_0 : decode object_method_1_code 0 = .ok (.return_, 1) := by decide +kernel
theorem d9_0 : decode jdk_52_method_16_code 0 = .ok (.iload_n 2, 1) := by decide +kernel
theorem d9_1 : decode jdk_52_method_16_code 1 = .ok (.newarray .byte, 2) := by decide +kernel
theorem d9_3 : decode jdk_52_method_16_code 3 = .ok (.astore_n 3, 1) := by decide +kernel
theorem d9_4 : decode jdk_52_method_16_code 4 = .ok (.aload_n 0, 1) := by decide +kernel
theorem d9_5 : decode jdk_52_method_16_code 5 = .ok (.iload_n 1, 1) := by decide +kernel
theorem d9_6 : decode jdk_52_method_16_code 6 = .ok (.aload_n 3, 1) := by decide +kernel
theorem d9_7 : decode jdk_52_method_16_code 7 = .ok (.iconst 0, 1) := by decide +kernel
theorem d9_8 : decode jdk_52_method_16_code 8 = .ok (.iload_n 2, 1) := by decide +kernel
theorem d9_9 : decode jdk_52_method_16_code 9 = .ok (.invokestatic 115, 3) := by decide +kernel
theorem d9_12 : decode jdk_52_method_16_code 12 = .ok (.istore 4, 2) := by decide +kernel
theorem d9_14 : decode jdk_52_method_16_code 14 = .ok (.iload 4, 2) := by decide +kernel
theorem d9_16 : decode jdk_52_method_16_code 16 = .ok (.iload_n 2, 1) := by decide +kernel
theorem d9_17 : decode jdk_52_method_16_code 17 = .ok (.if_icmp .eq 40, 3) := by decide +kernel
theorem d9_20 : decode jdk_52_method_16_code 20 = .ok (.aload_n 0, 1) := by decide +kernel
theorem d9_21 : decode jdk_52_method_16_code 21 = .ok (.iload_n 1, 1) := by decide +kernel
theorem d9_22 : decode jdk_52_method_16_code 22 = .ok (.iload_n 2, 1) := by decide +kernel
theorem d9_23 : decode jdk_52_method_16_code 23 = .ok (.invokestatic 119, 3) := by decide +kernel
theorem d9_26 : decode jdk_52_method_16_code 26 = .ok (.astore 5, 2) := by decide +kernel
theorem d9_28 : decode jdk_52_method_16_code 28 = .ok (.aload 5, 2) := by decide +kernel
theorem d9_30 : decode jdk_52_method_16_code 30 = .ok (.iload 4, 2) := by decide +kernel
theorem d9_32 : decode jdk_52_method_16_code 32 = .ok (.invokestatic 71, 3) := by decide +kernel
theorem d9_35 : decode jdk_52_method_16_code 35 = .ok (.sipush 255, 3) := by decide +kernel
theorem d9_38 : decode jdk_52_method_16_code 38 = .ok (.if_icmp .gt 16, 3) := by decide +kernel
theorem d9_41 : decode jdk_52_method_16_code 41 = .ok (.aload 5, 2) := by decide +kernel
theorem d9_43 : decode jdk_52_method_16_code 43 = .ok (.iconst 0, 1) := by decide +kernel
theorem d9_44 : decode jdk_52_method_16_code 44 = .ok (.aload_n 3, 1) := by decide +kernel
theorem d9_45 : decode jdk_52_method_16_code 45 = .ok (.iconst 0, 1) := by decide +kernel
theorem d9_46 : decode jdk_52_method_16_code 46 = .ok (.iload_n 2, 1) := by decide +kernel
theorem d9_47 : decode jdk_52_method_16_code 47 = .ok (.invokestatic 123, 3) := by decide +kernel
theorem d9_50 : decode jdk_52_method_16_code 50 = .ok (.iload_n 2, 1) := by decide +kernel
theorem d9_51 : decode jdk_52_method_16_code 51 = .ok (.if_icmp .eq 6, 3) := by decide +kernel
theorem d9_54 : decode jdk_52_method_16_code 54 = .ok (.aload 5, 2) := by decide +kernel
theorem d9_56 : decode jdk_52_method_16_code 56 = .ok (.areturn, 1) := by decide +kernel
theorem d9_57 : decode jdk_52_method_16_code 57 = .ok (.aload_n 3, 1) := by decide +kernel
theorem d9_58 : decode jdk_52_method_16_code 58 = .ok (.areturn, 1) := by decide +kernel
theorem d10_0 : decode jdk_52_method_21_code 0 = .ok (.iconst 0, 1) := by decide +kernel
theorem d10_1 : decode jdk_52_method_21_code 1 = .ok (.istore 5, 2) := by decide +kernel
theorem d10_3 : decode jdk_52_method_21_code 3 = .ok (.iload 5, 2) := by decide +kernel
theorem d10_5 : decode jdk_52_method_21_code 5 = .ok (.iload 4, 2) := by decide +kernel
theorem d10_7 : decode jdk_52_method_21_code 7 = .ok (.if_icmp .ge 37, 3) := by decide +kernel
theorem d10_10 : decode jdk_52_method_21_code 10 = .ok (.aload_n 0, 1) := by decide +kernel
theorem d10_11 : decode jdk_52_method_21_code 11 = .ok (.iload_n 1, 1) := by decide +kernel
theorem d10_12 : decode jdk_52_method_21_code 12 = .ok (.caload, 1) := by decide +kernel
theorem d10_13 : decode jdk_52_method_21_code 13 = .ok (.istore 6, 2) := by decide +kernel
theorem d10_15 : decode jdk_52_method_21_code 15 = .ok (.iload 6, 2) := by decide +kernel
theorem d10_17 : decode jdk_52_method_21_code 17 = .ok (.sipush 255, 3) := by decide +kernel
theorem d10_20 : decode jdk_52_method_21_code 20 = .ok (.if_icmp .le 6, 3) := by decide +kernel
theorem d10_23 : decode jdk_52_method_21_code 23 = .ok (.iload 5, 2) := by decide +kernel
theorem d10_25 : decode jdk_52_method_21_code 25 = .ok (.ireturn, 1) := by decide +kernel
theorem d10_26 : decode jdk_52_method_21_code 26 = .ok (.aload_n 2, 1) := by decide +kernel
theorem d10_27 : decode jdk_52_method_21_code 27 = .ok (.iload_n 3, 1) := by decide +kernel
theorem d10_28 : decode jdk_52_method_21_code 28 = .ok (.iload 6, 2) := by decide +kernel
theorem d10_30 : decode jdk_52_method_21_code 30 = .ok (.i2b, 1) := by decide +kernel
theorem d10_31 : decode jdk_52_method_21_code 31 = .ok (.bastore, 1) := by decide +kernel
theorem d10_32 : decode jdk_52_method_21_code 32 = .ok (.iinc 1 1, 3) := by decide +kernel
theorem d10_35 : decode jdk_52_method_21_code 35 = .ok (.iinc 3 1, 3) := by decide +kernel
theorem d10_38 : decode jdk_52_method_21_code 38 = .ok (.iinc 5 1, 3) := by decide +kernel
theorem d10_41 : decode jdk_52_method_21_code 41 = .ok (.goto (-38), 3) := by decide +kernel
theorem d10_44 : decode jdk_52_method_21_code 44 = .ok (.iload 4, 2) := by decide +kernel
theorem d10_46 : decode jdk_52_method_21_code 46 = .ok (.ireturn, 1) := by decide +kernel
theorem d11_0 : decode jdk_52_method_15_code 0 = .ok (.iload_n 1, 1) := by decide +kernel
theorem d11_1 : decode jdk_52_method_15_code 1 = .ok (.aload_n 0, 1) := by decide +kernel
theorem d11_2 : decode jdk_52_method_15_code 2 = .ok (.arraylength, 1) := by decide +kernel
theorem d11_3 : decode jdk_52_method_15_code 3 = .ok (.isub, 1) := by decide +kernel
theorem d11_4 : decode jdk_52_method_15_code 4 = .ok (.bipush 31, 2) := by decide +kernel
theorem d11_6 : decode jdk_52_method_15_code 6 = .ok (.iushr, 1) := by decide +kernel
theorem d11_7 : decode jdk_52_method_15_code 7 = .ok (.i2b, 1) := by decide +kernel
theorem d11_8 : decode jdk_52_method_15_code 8 = .ok (.ireturn, 1) := by decide +kernel
theorem d12_0 : decode jdk_43_method_13_code 0 = .ok (.aload_n 0, 1) := by decide +kernel
theorem d12_1 : decode jdk_43_method_13_code 1 = .ok (.arraylength, 1) := by decide +kernel
theorem d12_2 : decode jdk_43_method_13_code 2 = .ok (.aload_n 1, 1) := by decide +kernel
theorem d12_3 : decode jdk_43_method_13_code 3 = .ok (.arraylength, 1) := by decide +kernel
theorem d12_4 : decode jdk_43_method_13_code 4 = .ok (.if_icmp .ne 30, 3) := by decide +kernel
theorem d12_7 : decode jdk_43_method_13_code 7 = .ok (.iconst 0, 1) := by decide +kernel
theorem d12_8 : decode jdk_43_method_13_code 8 = .ok (.istore_n 2, 1) := by decide +kernel
theorem d12_9 : decode jdk_43_method_13_code 9 = .ok (.iload_n 2, 1) := by decide +kernel
theorem d12_10 : decode jdk_43_method_13_code 10 = .ok (.aload_n 0, 1) := by decide +kernel
theorem d12_11 : decode jdk_43_method_13_code 11 = .ok (.arraylength, 1) := by decide +kernel
theorem d12_12 : decode jdk_43_method_13_code 12 = .ok (.if_icmp .ge 20, 3) := by decide +kernel
theorem d12_15 : decode jdk_43_method_13_code 15 = .ok (.aload_n 0, 1) := by decide +kernel
theorem d12_16 : decode jdk_43_method_13_code 16 = .ok (.iload_n 2, 1) := by decide +kernel
theorem d12_17 : decode jdk_43_method_13_code 17 = .ok (.baload, 1) := by decide +kernel
theorem d12_18 : decode jdk_43_method_13_code 18 = .ok (.aload_n 1, 1) := by decide +kernel
theorem d12_19 : decode jdk_43_method_13_code 19 = .ok (.iload_n 2, 1) := by decide +kernel
theorem d12_20 : decode jdk_43_method_13_code 20 = .ok (.baload, 1) := by decide +kernel
theorem d12_21 : decode jdk_43_method_13_code 21 = .ok (.if_icmp .eq 5, 3) := by decide +kernel
theorem d12_24 : decode jdk_43_method_13_code 24 = .ok (.iconst 0, 1) := by decide +kernel
theorem d12_25 : decode jdk_43_method_13_code 25 = .ok (.ireturn, 1) := by decide +kernel
theorem d12_26 : decode jdk_43_method_13_code 26 = .ok (.iinc 2 1, 3) := by decide +kernel
theorem d12_29 : decode jdk_43_method_13_code 29 = .ok (.goto (-20), 3) := by decide +kernel
theorem d12_32 : decode jdk_43_method_13_code 32 = .ok (.iconst 1, 1) := by decide +kernel
theorem d12_33 : decode jdk_43_method_13_code 33 = .ok (.ireturn, 1) := by decide +kernel
theorem d12_34 : decode jdk_43_method_13_code 34 = .ok (.iconst 0, 1) := by decide +kernel
theorem d12_35 : decode jdk_43_method_13_code 35 = .ok (.ireturn, 1) := by decide +kernel
theorem d13_0 : decode jdk_42_method_139_code 0 = .ok (.getstatic 38, 3) := by decide +kernel
theorem d13_3 : decode jdk_42_method_139_code 3 = .ok (.ifCond .eq 23, 3) := by decide +kernel
theorem d13_6 : decode jdk_42_method_139_code 6 = .ok (.iload_n 0, 1) := by decide +kernel
theorem d13_7 : decode jdk_42_method_139_code 7 = .ok (.invokestatic 1015, 3) := by decide +kernel
theorem d13_10 : decode jdk_42_method_139_code 10 = .ok (.ifCond .eq 16, 3) := by decide +kernel
theorem d13_13 : decode jdk_42_method_139_code 13 = .ok (.new 10, 3) := by decide +kernel
theorem d13_16 : decode jdk_42_method_139_code 16 = .ok (.dup, 1) := by decide +kernel
theorem d13_17 : decode jdk_42_method_139_code 17 = .ok (.iload_n 0, 1) := by decide +kernel
theorem d13_18 : decode jdk_42_method_139_code 18 = .ok (.invokestatic 1018, 3) := by decide +kernel
theorem d13_21 : decode jdk_42_method_139_code 21 = .ok (.iconst 0, 1) := by decide +kernel
theorem d13_22 : decode jdk_42_method_139_code 22 = .ok (.invokespecial 209, 3) := by decide +kernel
theorem d13_25 : decode jdk_42_method_139_code 25 = .ok (.areturn, 1) := by decide +kernel
theorem d13_26 : decode jdk_42_method_139_code 26 = .ok (.new 10, 3) := by decide +kernel
theorem d13_29 : decode jdk_42_method_139_code 29 = .ok (.dup, 1) := by decide +kernel
theorem d13_30 : decode jdk_42_method_139_code 30 = .ok (.iload_n 0, 1) := by decide +kernel
theorem d13_31 : decode jdk_42_method_139_code 31 = .ok (.invokestatic 1021, 3) := by decide +kernel
theorem d13_34 : decode jdk_42_method_139_code 34 = .ok (.iconst 1, 1) := by decide +kernel
theorem d13_35 : decode jdk_42_method_139_code 35 = .ok (.invokespecial 209, 3) := by decide +kernel
theorem d13_38 : decode jdk_42_method_139_code 38 = .ok (.areturn, 1) := by decide +kernel
theorem d14_0 : decode jdk_43_method_3_code 0 = .ok (.iload_n 0, 1) := by decide +kernel
theorem d14_1 : decode jdk_43_method_3_code 1 = .ok (.sipush 255, 3) := by decide +kernel
theorem d14_4 : decode jdk_43_method_3_code 4 = .ok (.if_icmp .gt 7, 3) := by decide +kernel
theorem d14_7 : decode jdk_43_method_3_code 7 = .ok (.iconst 1, 1) := by decide +kernel
theorem d14_8 : decode jdk_43_method_3_code 8 = .ok (.goto 4, 3) := by decide +kernel
theorem d14_11 : decode jdk_43_method_3_code 11 = .ok (.iconst 0, 1) := by decide +kernel
theorem d14_12 : decode jdk_43_method_3_code 12 = .ok (.ireturn, 1) := by decide +kernel
theorem d15_0 : decode jdk_43_method_46_code 0 = .ok (.iconst 1, 1) := by decide +kernel
theorem d15_1 : decode jdk_43_method_46_code 1 = .ok (.newarray .byte, 2) := by decide +kernel
theorem d15_3 : decode jdk_43_method_46_code 3 = .ok (.dup, 1) := by decide +kernel
theorem d15_4 : decode jdk_43_method_46_code 4 = .ok (.iconst 0, 1) := by decide +kernel
theorem d15_5 : decode jdk_43_method_46_code 5 = .ok (.iload_n 0, 1) := by decide +kernel
theorem d15_6 : decode jdk_43_method_46_code 6 = .ok (.i2b, 1) := by decide +kernel
theorem d15_7 : decode jdk_43_method_46_code 7 = .ok (.bastore, 1) := by decide +kernel
theorem d15_8 : decode jdk_43_method_46_code 8 = .ok (.areturn, 1) := by decide +kernel
theorem d16_0 : decode jdk_42_method_151_code 0 = .ok (.aload_n 0, 1) := by decide +kernel
theorem d16_1 : decode jdk_42_method_151_code 1 = .ok (.invokespecial 1, 3) := by decide +kernel
theorem d16_4 : decode jdk_42_method_151_code 4 = .ok (.aload_n 0, 1) := by decide +kernel
theorem d16_5 : decode jdk_42_method_151_code 5 = .ok (.aload_n 1, 1) := by decide +kernel
theorem d16_6 : decode jdk_42_method_151_code 6 = .ok (.putfield 9, 3) := by decide +kernel
theorem d16_9 : decode jdk_42_method_151_code 9 = .ok (.aload_n 0, 1) := by decide +kernel
theorem d16_10 : decode jdk_42_method_151_code 10 = .ok (.iload_n 2, 1) := by decide +kernel
theorem d16_11 : decode jdk_42_method_151_code 11 = .ok (.putfield 15, 3) := by decide +kernel
theorem d16_14 : decode jdk_42_method_151_code 14 = .ok (.return_, 1) := by decide +kernel
theorem d17_0 : decode method_2_code 0 = .ok (.bipush 21, 2) := by decide +kernel
theorem d17_2 : decode method_2_code 2 = .ok (.newarray .char, 2) := by decide +kernel
theorem d17_4 : decode method_2_code 4 = .ok (.dup, 1) := by decide +kernel
theorem d17_5 : decode method_2_code 5 = .ok (.iconst 0, 1) := by decide +kernel
theorem d17_6 : decode method_2_code 6 = .ok (.bipush 49, 2) := by decide +kernel
theorem d17_8 : decode method_2_code 8 = .ok (.castore, 1) := by decide +kernel
theorem d17_9 : decode method_2_code 9 = .ok (.dup, 1) := by decide +kernel
theorem d17_10 : decode method_2_code 10 = .ok (.iconst 1, 1) := by decide +kernel
theorem d17_11 : decode method_2_code 11 = .ok (.bipush 46, 2) := by decide +kernel
theorem d17_13 : decode method_2_code 13 = .ok (.castore, 1) := by decide +kernel
theorem d17_14 : decode method_2_code 14 = .ok (.dup, 1) := by decide +kernel
theorem d17_15 : decode method_2_code 15 = .ok (.iconst 2, 1) := by decide +kernel
theorem d17_16 : decode method_2_code 16 = .ok (.bipush 50, 2) := by decide +kernel
theorem d17_18 : decode method_2_code 18 = .ok (.castore, 1) := by decide +kernel
theorem d17_19 : decode method_2_code 19 = .ok (.dup, 1) := by decide +kernel
theorem d17_20 : decode method_2_code 20 = .ok (.iconst 3, 1) := by decide +kernel
theorem d17_21 : decode method_2_code 21 = .ok (.bipush 46, 2) := by decide +kernel
theorem d17_23 : decode method_2_code 23 = .ok (.castore, 1) := by decide +kernel
theorem d17_24 : decode method_2_code 24 = .ok (.dup, 1) := by decide +kernel
theorem d17_25 : decode method_2_code 25 = .ok (.iconst 4, 1) := by decide +kernel
theorem d17_26 : decode method_2_code 26 = .ok (.bipush 54, 2) := by decide +kernel
theorem d17_28 : decode method_2_code 28 = .ok (.castore, 1) := by decide +kernel
theorem d17_29 : decode method_2_code 29 = .ok (.dup, 1) := by decide +kernel
theorem d17_30 : decode method_2_code 30 = .ok (.iconst 5, 1) := by decide +kernel
theorem d17_31 : decode method_2_code 31 = .ok (.bipush 49, 2) := by decide +kernel
theorem d17_33 : decode method_2_code 33 = .ok (.castore, 1) := by decide +kernel
theorem d17_34 : decode method_2_code 34 = .ok (.dup, 1) := by decide +kernel
theorem d17_35 : decode method_2_code 35 = .ok (.bipush 6, 2) := by decide +kernel
theorem d17_37 : decode method_2_code 37 = .ok (.bipush 54, 2) := by decide +kernel
theorem d17_39 : decode method_2_code 39 = .ok (.castore, 1) := by decide +kernel
theorem d17_40 : decode method_2_code 40 = .ok (.dup, 1) := by decide +kernel
theorem d17_41 : decode method_2_code 41 = .ok (.bipush 7, 2) := by decide +kernel
theorem d17_43 : decode method_2_code 43 = .ok (.bipush 46, 2) := by decide +kernel
theorem d17_45 : decode method_2_code 45 = .ok (.castore, 1) := by decide +kernel
theorem d17_46 : decode method_2_code 46 = .ok (.dup, 1) := by decide +kernel
theorem d17_47 : decode method_2_code 47 = .ok (.bipush 8, 2) := by decide +kernel
theorem d17_49 : decode method_2_code 49 = .ok (.bipush 49, 2) := by decide +kernel
theorem d17_51 : decode method_2_code 51 = .ok (.castore, 1) := by decide +kernel
theorem d17_52 : decode method_2_code 52 = .ok (.dup, 1) := by decide +kernel
theorem d17_53 : decode method_2_code 53 = .ok (.bipush 9, 2) := by decide +kernel
theorem d17_55 : decode method_2_code 55 = .ok (.bipush 46, 2) := by decide +kernel
theorem d17_57 : decode method_2_code 57 = .ok (.castore, 1) := by decide +kernel
theorem d17_58 : decode method_2_code 58 = .ok (.dup, 1) := by decide +kernel
theorem d17_59 : decode method_2_code 59 = .ok (.bipush 10, 2) := by decide +kernel
theorem d17_61 : decode method_2_code 61 = .ok (.bipush 49, 2) := by decide +kernel
theorem d17_63 : decode method_2_code 63 = .ok (.castore, 1) := by decide +kernel
theorem d17_64 : decode method_2_code 64 = .ok (.dup, 1) := by decide +kernel
theorem d17_65 : decode method_2_code 65 = .ok (.bipush 11, 2) := by decide +kernel
theorem d17_67 : decode method_2_code 67 = .ok (.bipush 48, 2) := by decide +kernel
theorem d17_69 : decode method_2_code 69 = .ok (.castore, 1) := by decide +kernel
theorem d17_70 : decode method_2_code 70 = .ok (.dup, 1) := by decide +kernel
theorem d17_71 : decode method_2_code 71 = .ok (.bipush 12, 2) := by decide +kernel
theorem d17_73 : decode method_2_code 73 = .ok (.bipush 49, 2) := by decide +kernel
theorem d17_75 : decode method_2_code 75 = .ok (.castore, 1) := by decide +kernel
theorem d17_76 : decode method_2_code 76 = .ok (.dup, 1) := by decide +kernel
theorem d17_77 : decode method_2_code 77 = .ok (.bipush 13, 2) := by decide +kernel
theorem d17_79 : decode method_2_code 79 = .ok (.bipush 46, 2) := by decide +kernel
theorem d17_81 : decode method_2_code 81 = .ok (.castore, 1) := by decide +kernel
theorem d17_82 : decode method_2_code 82 = .ok (.dup, 1) := by decide +kernel
theorem d17_83 : decode method_2_code 83 = .ok (.bipush 14, 2) := by decide +kernel
theorem d17_85 : decode method_2_code 85 = .ok (.bipush 52, 2) := by decide +kernel
theorem d17_87 : decode method_2_code 87 = .ok (.castore, 1) := by decide +kernel
theorem d17_88 : decode method_2_code 88 = .ok (.dup, 1) := by decide +kernel
theorem d17_89 : decode method_2_code 89 = .ok (.bipush 15, 2) := by decide +kernel
theorem d17_91 : decode method_2_code 91 = .ok (.bipush 46, 2) := by decide +kernel
theorem d17_93 : decode method_2_code 93 = .ok (.castore, 1) := by decide +kernel
theorem d17_94 : decode method_2_code 94 = .ok (.dup, 1) := by decide +kernel
theorem d17_95 : decode method_2_code 95 = .ok (.bipush 16, 2) := by decide +kernel
theorem d17_97 : decode method_2_code 97 = .ok (.bipush 49, 2) := by decide +kernel
theorem d17_99 : decode method_2_code 99 = .ok (.castore, 1) := by decide +kernel
theorem d17_100 : decode method_2_code 100 = .ok (.dup, 1) := by decide +kernel
theorem d17_101 : decode method_2_code 101 = .ok (.bipush 17, 2) := by decide +kernel
theorem d17_103 : decode method_2_code 103 = .ok (.bipush 46, 2) := by decide +kernel
theorem d17_105 : decode method_2_code 105 = .ok (.castore, 1) := by decide +kernel
theorem d17_106 : decode method_2_code 106 = .ok (.dup, 1) := by decide +kernel
theorem d17_107 : decode method_2_code 107 = .ok (.bipush 18, 2) := by decide +kernel
theorem d17_109 : decode method_2_code 109 = .ok (.iload_n 0, 1) := by decide +kernel
theorem d17_110 : decode method_2_code 110 = .ok (.castore, 1) := by decide +kernel
theorem d17_111 : decode method_2_code 111 = .ok (.dup, 1) := by decide +kernel
theorem d17_112 : decode method_2_code 112 = .ok (.bipush 19, 2) := by decide +kernel
theorem d17_114 : decode method_2_code 114 = .ok (.bipush 46, 2) := by decide +kernel
theorem d17_116 : decode method_2_code 116 = .ok (.castore, 1) := by decide +kernel
theorem d17_117 : decode method_2_code 117 = .ok (.dup, 1) := by decide +kernel
theorem d17_118 : decode method_2_code 118 = .ok (.bipush 20, 2) := by decide +kernel
theorem d17_120 : decode method_2_code 120 = .ok (.bipush 49, 2) := by decide +kernel
theorem d17_122 : decode method_2_code 122 = .ok (.castore, 1) := by decide +kernel
theorem d17_123 : decode method_2_code 123 = .ok (.areturn, 1) := by decide +kernel
theorem d18_0 : decode jdk_32_method_3_code 0 = .ok (.new 2, 3) := by decide +kernel
theorem d18_3 : decode jdk_32_method_3_code 3 = .ok (.dup, 1) := by decide +kernel
theorem d18_4 : decode jdk_32_method_3_code 4 = .ok (.aload_n 0, 1) := by decide +kernel
theorem d18_5 : decode jdk_32_method_3_code 5 = .ok (.invokestatic 17, 3) := by decide +kernel
theorem d18_8 : decode jdk_32_method_3_code 8 = .ok (.invokespecial 23, 3) := by decide +kernel
theorem d18_11 : decode jdk_32_method_3_code 11 = .ok (.areturn, 1) := by decide +kernel
theorem d19_0 : decode jdk_31_method_10_code 0 = .ok (.aload_n 0, 1) := by decide +kernel
theorem d19_1 : decode jdk_31_method_10_code 1 = .ok (.ifnonnull 11, 3) := by decide +kernel
theorem d19_4 : decode jdk_31_method_10_code 4 = .ok (.new 84, 3) := by decide +kernel
theorem d19_7 : decode jdk_31_method_10_code 7 = .ok (.dup, 1) := by decide +kernel
theorem d19_8 : decode jdk_31_method_10_code 8 = .ok (.invokespecial 86, 3) := by decide +kernel
theorem d19_11 : decode jdk_31_method_10_code 11 = .ok (.athrow, 1) := by decide +kernel
theorem d19_12 : decode jdk_31_method_10_code 12 = .ok (.aload_n 0, 1) := by decide +kernel
theorem d19_13 : decode jdk_31_method_10_code 13 = .ok (.areturn, 1) := by decide +kernel
theorem d20_0 : decode jdk_32_method_2_code 0 = .ok (.aload_n 0, 1) := by decide +kernel
theorem d20_1 : decode jdk_32_method_2_code 1 = .ok (.invokespecial 7, 3) := by decide +kernel
theorem d20_4 : decode jdk_32_method_2_code 4 = .ok (.aload_n 0, 1) := by decide +kernel
theorem d20_5 : decode jdk_32_method_2_code 5 = .ok (.aload_n 1, 1) := by decide +kernel
theorem d20_6 : decode jdk_32_method_2_code 6 = .ok (.putfield 13, 3) := by decide +kernel
theorem d20_9 : decode jdk_32_method_2_code 9 = .ok (.return_, 1) := by decide +kernel
theorem d21_0 : decode method_3_code 0 = .ok (.bipush 20, 2) := by decide +kernel
theorem d21_2 : decode method_3_code 2 = .ok (.newarray .char, 2) := by decide +kernel
theorem d21_4 : decode method_3_code 4 = .ok (.dup, 1) := by decide +kernel
theorem d21_5 : decode method_3_code 5 = .ok (.iconst 0, 1) := by decide +kernel
theorem d21_6 : decode method_3_code 6 = .ok (.bipush 49, 2) := by decide +kernel
theorem d21_8 : decode method_3_code 8 = .ok (.castore, 1) := by decide +kernel
theorem d21_9 : decode method_3_code 9 = .ok (.dup, 1) := by decide +kernel
theorem d21_10 : decode method_3_code 10 = .ok (.iconst 1, 1) := by decide +kernel
theorem d21_11 : decode method_3_code 11 = .ok (.bipush 46, 2) := by decide +kernel
theorem d21_13 : decode method_3_code 13 = .ok (.castore, 1) := by decide +kernel
theorem d21_14 : decode method_3_code 14 = .ok (.dup, 1) := by decide +kernel
theorem d21_15 : decode method_3_code 15 = .ok (.iconst 2, 1) := by decide +kernel
theorem d21_16 : decode method_3_code 16 = .ok (.bipush 50, 2) := by decide +kernel
theorem d21_18 : decode method_3_code 18 = .ok (.castore, 1) := by decide +kernel
theorem d21_19 : decode method_3_code 19 = .ok (.dup, 1) := by decide +kernel
theorem d21_20 : decode method_3_code 20 = .ok (.iconst 3, 1) := by decide +kernel
theorem d21_21 : decode method_3_code 21 = .ok (.bipush 46, 2) := by decide +kernel
theorem d21_23 : decode method_3_code 23 = .ok (.castore, 1) := by decide +kernel
theorem d21_24 : decode method_3_code 24 = .ok (.dup, 1) := by decide +kernel
theorem d21_25 : decode method_3_code 25 = .ok (.iconst 4, 1) := by decide +kernel
theorem d21_26 : decode method_3_code 26 = .ok (.bipush 54, 2) := by decide +kernel
theorem d21_28 : decode method_3_code 28 = .ok (.castore, 1) := by decide +kernel
theorem d21_29 : decode method_3_code 29 = .ok (.dup, 1) := by decide +kernel
theorem d21_30 : decode method_3_code 30 = .ok (.iconst 5, 1) := by decide +kernel
theorem d21_31 : decode method_3_code 31 = .ok (.bipush 49, 2) := by decide +kernel
theorem d21_33 : decode method_3_code 33 = .ok (.castore, 1) := by decide +kernel
theorem d21_34 : decode method_3_code 34 = .ok (.dup, 1) := by decide +kernel
theorem d21_35 : decode method_3_code 35 = .ok (.bipush 6, 2) := by decide +kernel
theorem d21_37 : decode method_3_code 37 = .ok (.bipush 54, 2) := by decide +kernel
theorem d21_39 : decode method_3_code 39 = .ok (.castore, 1) := by decide +kernel
theorem d21_40 : decode method_3_code 40 = .ok (.dup, 1) := by decide +kernel
theorem d21_41 : decode method_3_code 41 = .ok (.bipush 7, 2) := by decide +kernel
theorem d21_43 : decode method_3_code 43 = .ok (.bipush 46, 2) := by decide +kernel
theorem d21_45 : decode method_3_code 45 = .ok (.castore, 1) := by decide +kernel
theorem d21_46 : decode method_3_code 46 = .ok (.dup, 1) := by decide +kernel
theorem d21_47 : decode method_3_code 47 = .ok (.bipush 8, 2) := by decide +kernel
theorem d21_49 : decode method_3_code 49 = .ok (.bipush 49, 2) := by decide +kernel
theorem d21_51 : decode method_3_code 51 = .ok (.castore, 1) := by decide +kernel
theorem d21_52 : decode method_3_code 52 = .ok (.dup, 1) := by decide +kernel
theorem d21_53 : decode method_3_code 53 = .ok (.bipush 9, 2) := by decide +kernel
theorem d21_55 : decode method_3_code 55 = .ok (.bipush 46, 2) := by decide +kernel
theorem d21_57 : decode method_3_code 57 = .ok (.castore, 1) := by decide +kernel
theorem d21_58 : decode method_3_code 58 = .ok (.dup, 1) := by decide +kernel
theorem d21_59 : decode method_3_code 59 = .ok (.bipush 10, 2) := by decide +kernel
theorem d21_61 : decode method_3_code 61 = .ok (.bipush 49, 2) := by decide +kernel
theorem d21_63 : decode method_3_code 63 = .ok (.castore, 1) := by decide +kernel
theorem d21_64 : decode method_3_code 64 = .ok (.dup, 1) := by decide +kernel
theorem d21_65 : decode method_3_code 65 = .ok (.bipush 11, 2) := by decide +kernel
theorem d21_67 : decode method_3_code 67 = .ok (.bipush 48, 2) := by decide +kernel
theorem d21_69 : decode method_3_code 69 = .ok (.castore, 1) := by decide +kernel
theorem d21_70 : decode method_3_code 70 = .ok (.dup, 1) := by decide +kernel
theorem d21_71 : decode method_3_code 71 = .ok (.bipush 12, 2) := by decide +kernel
theorem d21_73 : decode method_3_code 73 = .ok (.bipush 49, 2) := by decide +kernel
theorem d21_75 : decode method_3_code 75 = .ok (.castore, 1) := by decide +kernel
theorem d21_76 : decode method_3_code 76 = .ok (.dup, 1) := by decide +kernel
theorem d21_77 : decode method_3_code 77 = .ok (.bipush 13, 2) := by decide +kernel
theorem d21_79 : decode method_3_code 79 = .ok (.bipush 46, 2) := by decide +kernel
theorem d21_81 : decode method_3_code 81 = .ok (.castore, 1) := by decide +kernel
theorem d21_82 : decode method_3_code 82 = .ok (.dup, 1) := by decide +kernel
theorem d21_83 : decode method_3_code 83 = .ok (.bipush 14, 2) := by decide +kernel
theorem d21_85 : decode method_3_code 85 = .ok (.bipush 52, 2) := by decide +kernel
theorem d21_87 : decode method_3_code 87 = .ok (.castore, 1) := by decide +kernel
theorem d21_88 : decode method_3_code 88 = .ok (.dup, 1) := by decide +kernel
theorem d21_89 : decode method_3_code 89 = .ok (.bipush 15, 2) := by decide +kernel
theorem d21_91 : decode method_3_code 91 = .ok (.bipush 46, 2) := by decide +kernel
theorem d21_93 : decode method_3_code 93 = .ok (.castore, 1) := by decide +kernel
theorem d21_94 : decode method_3_code 94 = .ok (.dup, 1) := by decide +kernel
theorem d21_95 : decode method_3_code 95 = .ok (.bipush 16, 2) := by decide +kernel
theorem d21_97 : decode method_3_code 97 = .ok (.bipush 49, 2) := by decide +kernel
theorem d21_99 : decode method_3_code 99 = .ok (.castore, 1) := by decide +kernel
theorem d21_100 : decode method_3_code 100 = .ok (.dup, 1) := by decide +kernel
theorem d21_101 : decode method_3_code 101 = .ok (.bipush 17, 2) := by decide +kernel
theorem d21_103 : decode method_3_code 103 = .ok (.bipush 46, 2) := by decide +kernel
theorem d21_105 : decode method_3_code 105 = .ok (.castore, 1) := by decide +kernel
theorem d21_106 : decode method_3_code 106 = .ok (.dup, 1) := by decide +kernel
theorem d21_107 : decode method_3_code 107 = .ok (.bipush 18, 2) := by decide +kernel
theorem d21_109 : decode method_3_code 109 = .ok (.iload_n 0, 1) := by decide +kernel
theorem d21_110 : decode method_3_code 110 = .ok (.castore, 1) := by decide +kernel
theorem d21_111 : decode method_3_code 111 = .ok (.dup, 1) := by decide +kernel
theorem d21_112 : decode method_3_code 112 = .ok (.bipush 19, 2) := by decide +kernel
theorem d21_114 : decode method_3_code 114 = .ok (.bipush 46, 2) := by decide +kernel
theorem d21_116 : decode method_3_code 116 = .ok (.castore, 1) := by decide +kernel
theorem d21_117 : decode method_3_code 117 = .ok (.areturn, 1) := by decide +kernel
theorem d22_0 : decode method_4_code 0 = .ok (.bipush 22, 2) := by decide +kernel
theorem d22_2 : decode method_4_code 2 = .ok (.newarray .char, 2) := by decide +kernel
theorem d22_4 : decode method_4_code 4 = .ok (.dup, 1) := by decide +kernel
theorem d22_5 : decode method_4_code 5 = .ok (.iconst 0, 1) := by decide +kernel
theorem d22_6 : decode method_4_code 6 = .ok (.bipush 49, 2) := by decide +kernel
theorem d22_8 : decode method_4_code 8 = .ok (.castore, 1) := by decide +kernel
theorem d22_9 : decode method_4_code 9 = .ok (.dup, 1) := by decide +kernel
theorem d22_10 : decode method_4_code 10 = .ok (.iconst 1, 1) := by decide +kernel
theorem d22_11 : decode method_4_code 11 = .ok (.bipush 46, 2) := by decide +kernel
theorem d22_13 : decode method_4_code 13 = .ok (.castore, 1) := by decide +kernel
theorem d22_14 : decode method_4_code 14 = .ok (.dup, 1) := by decide +kernel
theorem d22_15 : decode method_4_code 15 = .ok (.iconst 2, 1) := by decide +kernel
theorem d22_16 : decode method_4_code 16 = .ok (.bipush 50, 2) := by decide +kernel
theorem d22_18 : decode method_4_code 18 = .ok (.castore, 1) := by decide +kernel
theorem d22_19 : decode method_4_code 19 = .ok (.dup, 1) := by decide +kernel
theorem d22_20 : decode method_4_code 20 = .ok (.iconst 3, 1) := by decide +kernel
theorem d22_21 : decode method_4_code 21 = .ok (.bipush 46, 2) := by decide +kernel
theorem d22_23 : decode method_4_code 23 = .ok (.castore, 1) := by decide +kernel
theorem d22_24 : decode method_4_code 24 = .ok (.dup, 1) := by decide +kernel
theorem d22_25 : decode method_4_code 25 = .ok (.iconst 4, 1) := by decide +kernel
theorem d22_26 : decode method_4_code 26 = .ok (.bipush 54, 2) := by decide +kernel
theorem d22_28 : decode method_4_code 28 = .ok (.castore, 1) := by decide +kernel
theorem d22_29 : decode method_4_code 29 = .ok (.dup, 1) := by decide +kernel
theorem d22_30 : decode method_4_code 30 = .ok (.iconst 5, 1) := by decide +kernel
theorem d22_31 : decode method_4_code 31 = .ok (.bipush 49, 2) := by decide +kernel
theorem d22_33 : decode method_4_code 33 = .ok (.castore, 1) := by decide +kernel
theorem d22_34 : decode method_4_code 34 = .ok (.dup, 1) := by decide +kernel
theorem d22_35 : decode method_4_code 35 = .ok (.bipush 6, 2) := by decide +kernel
theorem d22_37 : decode method_4_code 37 = .ok (.bipush 54, 2) := by decide +kernel
theorem d22_39 : decode method_4_code 39 = .ok (.castore, 1) := by decide +kernel
theorem d22_40 : decode method_4_code 40 = .ok (.dup, 1) := by decide +kernel
theorem d22_41 : decode method_4_code 41 = .ok (.bipush 7, 2) := by decide +kernel
theorem d22_43 : decode method_4_code 43 = .ok (.bipush 46, 2) := by decide +kernel
theorem d22_45 : decode method_4_code 45 = .ok (.castore, 1) := by decide +kernel
theorem d22_46 : decode method_4_code 46 = .ok (.dup, 1) := by decide +kernel
theorem d22_47 : decode method_4_code 47 = .ok (.bipush 8, 2) := by decide +kernel
theorem d22_49 : decode method_4_code 49 = .ok (.bipush 49, 2) := by decide +kernel
theorem d22_51 : decode method_4_code 51 = .ok (.castore, 1) := by decide +kernel
theorem d22_52 : decode method_4_code 52 = .ok (.dup, 1) := by decide +kernel
theorem d22_53 : decode method_4_code 53 = .ok (.bipush 9, 2) := by decide +kernel
theorem d22_55 : decode method_4_code 55 = .ok (.bipush 46, 2) := by decide +kernel
theorem d22_57 : decode method_4_code 57 = .ok (.castore, 1) := by decide +kernel
theorem d22_58 : decode method_4_code 58 = .ok (.dup, 1) := by decide +kernel
theorem d22_59 : decode method_4_code 59 = .ok (.bipush 10, 2) := by decide +kernel
theorem d22_61 : decode method_4_code 61 = .ok (.bipush 49, 2) := by decide +kernel
theorem d22_63 : decode method_4_code 63 = .ok (.castore, 1) := by decide +kernel
theorem d22_64 : decode method_4_code 64 = .ok (.dup, 1) := by decide +kernel
theorem d22_65 : decode method_4_code 65 = .ok (.bipush 11, 2) := by decide +kernel
theorem d22_67 : decode method_4_code 67 = .ok (.bipush 48, 2) := by decide +kernel
theorem d22_69 : decode method_4_code 69 = .ok (.castore, 1) := by decide +kernel
theorem d22_70 : decode method_4_code 70 = .ok (.dup, 1) := by decide +kernel
theorem d22_71 : decode method_4_code 71 = .ok (.bipush 12, 2) := by decide +kernel
theorem d22_73 : decode method_4_code 73 = .ok (.bipush 49, 2) := by decide +kernel
theorem d22_75 : decode method_4_code 75 = .ok (.castore, 1) := by decide +kernel
theorem d22_76 : decode method_4_code 76 = .ok (.dup, 1) := by decide +kernel
theorem d22_77 : decode method_4_code 77 = .ok (.bipush 13, 2) := by decide +kernel
theorem d22_79 : decode method_4_code 79 = .ok (.bipush 46, 2) := by decide +kernel
theorem d22_81 : decode method_4_code 81 = .ok (.castore, 1) := by decide +kernel
theorem d22_82 : decode method_4_code 82 = .ok (.dup, 1) := by decide +kernel
theorem d22_83 : decode method_4_code 83 = .ok (.bipush 14, 2) := by decide +kernel
theorem d22_85 : decode method_4_code 85 = .ok (.bipush 52, 2) := by decide +kernel
theorem d22_87 : decode method_4_code 87 = .ok (.castore, 1) := by decide +kernel
theorem d22_88 : decode method_4_code 88 = .ok (.dup, 1) := by decide +kernel
theorem d22_89 : decode method_4_code 89 = .ok (.bipush 15, 2) := by decide +kernel
theorem d22_91 : decode method_4_code 91 = .ok (.bipush 46, 2) := by decide +kernel
theorem d22_93 : decode method_4_code 93 = .ok (.castore, 1) := by decide +kernel
theorem d22_94 : decode method_4_code 94 = .ok (.dup, 1) := by decide +kernel
theorem d22_95 : decode method_4_code 95 = .ok (.bipush 16, 2) := by decide +kernel
theorem d22_97 : decode method_4_code 97 = .ok (.bipush 49, 2) := by decide +kernel
theorem d22_99 : decode method_4_code 99 = .ok (.castore, 1) := by decide +kernel
theorem d22_100 : decode method_4_code 100 = .ok (.dup, 1) := by decide +kernel
theorem d22_101 : decode method_4_code 101 = .ok (.bipush 17, 2) := by decide +kernel
theorem d22_103 : decode method_4_code 103 = .ok (.bipush 46, 2) := by decide +kernel
theorem d22_105 : decode method_4_code 105 = .ok (.castore, 1) := by decide +kernel
theorem d22_106 : decode method_4_code 106 = .ok (.dup, 1) := by decide +kernel
theorem d22_107 : decode method_4_code 107 = .ok (.bipush 18, 2) := by decide +kernel
theorem d22_109 : decode method_4_code 109 = .ok (.iload_n 0, 1) := by decide +kernel
theorem d22_110 : decode method_4_code 110 = .ok (.castore, 1) := by decide +kernel
theorem d22_111 : decode method_4_code 111 = .ok (.dup, 1) := by decide +kernel
theorem d22_112 : decode method_4_code 112 = .ok (.bipush 19, 2) := by decide +kernel
theorem d22_114 : decode method_4_code 114 = .ok (.bipush 46, 2) := by decide +kernel
theorem d22_116 : decode method_4_code 116 = .ok (.castore, 1) := by decide +kernel
theorem d22_117 : decode method_4_code 117 = .ok (.dup, 1) := by decide +kernel
theorem d22_118 : decode method_4_code 118 = .ok (.bipush 20, 2) := by decide +kernel
theorem d22_120 : decode method_4_code 120 = .ok (.bipush 49, 2) := by decide +kernel
theorem d22_122 : decode method_4_code 122 = .ok (.castore, 1) := by decide +kernel
theorem d22_123 : decode method_4_code 123 = .ok (.dup, 1) := by decide +kernel
theorem d22_124 : decode method_4_code 124 = .ok (.bipush 21, 2) := by decide +kernel
theorem d22_126 : decode method_4_code 126 = .ok (.iload_n 1, 1) := by decide +kernel
theorem d22_127 : decode method_4_code 127 = .ok (.castore, 1) := by decide +kernel
theorem d22_128 : decode method_4_code 128 = .ok (.areturn, 1) := by decide +kernel
/-- a char's byte -/
def own_by (w : Int32) : Int32 := nar .byte w.toInt8.toInt32
abbrev own_r0 : Room := { frames := 0, cells := 0, slots := 0, locals := 0 }
abbrev own_rB : Room := { frames := 1, cells := 1, slots := 24, locals := 18 }
abbrev own_rD : Room := { frames := 2, cells := 1, slots := 24, locals := 40 }
abbrev own_rE : Room := { frames := 3, cells := 1, slots := 24, locals := 60 }
abbrev own_rQ : Room := { frames := 1, cells := 0, slots := 0, locals := 14 }
abbrev own_rDW : Room := { frames := 1, cells := 2, slots := 4, locals := 14 }
abbrev own_rEW : Room := { frames := 2, cells := 2, slots := 4, locals := 34 }
theorem own_c0 (z : Int32) : nar .byte (((z - z).toUInt32 >>> ((31 : Int32) &&& 31).toUInt32).toInt32).toInt8.toInt32 = 0 := by rw [Int32.sub_self]; rfl
def own_s1 (o : Slot) : Prop := o = .unset ∨ ∃ q, o = .val (.int q)
theorem own_nat {z : Int32} {n : Nat} (h : ¬ z < 0) (q : z.toNatClampNeg = n) : n < 2147483648 ∧ z = Int32.ofNat n := by
  have h6 := nat_of h
  have h7 : z.toInt < 2147483648 := Int32.toInt_lt z
  have h8 : n < 2147483648 := by omega
  refine ⟨h8, ?_⟩
  rw [← Int32.toInt_inj, nat_toInt h8]; omega
theorem own_get {Z : State} {h : Heap} {a : Addr} {ws : List Int32} (F : Strz Z h a ws) : Exa Z h a "java/lang/String" ∧ Fld Z h a "java/lang/String" "coder" "B" (.int 0) ∧ ∃ b k, Fld Z h a "java/lang/String" "value" "[B" (.ref b) ∧ Arv Z h b k .byte (Int32.ofNat ws.length) (ws.map Value.int) (.int 0) ∧ ws.length < 2147483648 := by
  obtain ⟨A, F, b, k, z, B, V, z0, zl⟩ := F
  obtain ⟨q1, rfl⟩ := own_nat z0 zl
  exact ⟨A, F, b, k, B, V, q1⟩
theorem own_list {vs : List Value} {ds : List Int32} (hl : vs.length = ds.length) (h : ∀ j, j < ds.length → vs.getD j (.int 0) = .int (own_by (ds.getD j 0))) : vs = (ds.map own_by).map Value.int := by
  refine List.ext_getElem (by simp [hl]) fun i i1 i2 => ?_
  have q := h i (by omega)
  have i3 : i < ds.length := by omega
  simp [List.getD_eq_getElem?_getD, i1, i3] at q
  simp [q]
theorem own_setd {vs : List Value} {f : Nat → Int32} {i j : Nat} (hi : i < vs.length) (hj : j < i + 1) (hv : ∀ j, j < i → vs.getD j (.int 0) = .int (f j)) : (vs.set i (.int (f i))).getD j (.int 0) = .int (f j) := by
  by_cases q : j = i
  · subst q; simp [List.getD_eq_getElem?_getD, hi]
  · have := hv j (by omega)
    simp only [List.getD_eq_getElem?_getD] at this ⊢
    rw [List.getElem?_set_ne (by omega)]; exact this
theorem ef_1 (m : MethodId) (a : Addr) (x : Int32) (b : Addr) (y : Int32) (z : Int32) : entryFrame m #[(.ref a), (.int x), (.ref b), (.int y), (.int z)] 7 = mkF m 0 #[.val (.ref a), .val (.int x), .val (.ref b), .val (.int y), .val (.int z), .unset, .unset] [] := by first | (simp [entryFrame, mkF, argsToLocals, Value.category]; done) | rfl
theorem pn_0 : plainName "java/lang/StringUTF16" = true := by first | (simp [plainName, overriddenIn]; done) | decide +kernel
set_option maxRecDepth 65536 in
set_option maxHeartbeats 40000000 in
theorem rm_c5 (l : Launch) (Z : State) (a0 : Array Value) (hw : ∀ d ∈ tables_1, d.before a0 Z = true) (ws : List Jvm.Cond) (a b : Addr) (ka kb : ClassId) (ds : List Int32) (h0 : Heap) (hn : ds.length < 2147483648) (hd : ∀ j, j < ds.length → ¬ 255 < ds.getD j 0) (VA : Arv Z h0 a ka .char (Int32.ofNat ds.length) (ds.map Value.int) (.int 0)) (vs0 : List Value) (VB : Arv Z h0 b kb .byte (Int32.ofNat ds.length) vs0 (.int 0)) (hv0 : vs0.length = ds.length) (hab : a ≠ b) :
    Con l Z (⟨"java/lang/StringUTF16", "compress", "([CI[BII)I"⟩ : MethodName) jdk_52_method_21_code 7 (some .int) ws own_r0 #[.ref a, .int 0, .ref b, .int 0, .int (Int32.ofNat ds.length)] h0 (fun v h L => v = some (.int (Int32.ofNat ds.length)) ∧ Keep h0 h [b] ∧ Arv Z h b kb .byte (Int32.ofNat ds.length) ((ds.map own_by).map Value.int) (.int 0) ∧ ∀ n0, n0 ≤ b → Fr n0 L) := by
  refine con_of (plainFor_of_name pn_0) ?_
  intro p e s m below meth c T0 X0 hx hZ hby hml hown hret hnm hlk e0
  refine Endz.eq (ef_1 m a 0 b 0 (Int32.ofNat ds.length)) ?_
  have loop : ∀ (k i : Nat) (vs : List Value) (o : Slot) (T : State) (h : Heap) (L : List Loc), i + k = ds.length → own_s1 o → vs.length = ds.length → (∀ j, j < i → vs.getD j (.int 0) = .int (own_by (ds.getD j 0))) → Stand p l e own_r0 s m #[.ref a, .int 0, .ref b, .int 0, .int (Int32.ofNat ds.length)] below meth c T L 0 0 → T.heap = h → Keep h0 h [b] → Arv Z h b kb .byte (Int32.ofNat ds.length) vs (.int 0) → (∀ n0, n0 ≤ b → Fr n0 L) → Endz p.tables e below (Finz s own_r0 (fun v h L => v = some (.int (Int32.ofNat ds.length)) ∧ Keep h0 h [b] ∧ Arv Z h b kb .byte (Int32.ofNat ds.length) ((ds.map own_by).map Value.int) (.int 0) ∧ ∀ n0, n0 ≤ b → Fr n0 L)) T (mkF m 3 #[.val (.ref a), .val (.int (Int32.ofNat i)), .val (.ref b), .val (.int (Int32.ofNat i)), .val (.int (Int32.ofNat ds.length)), .val (.int (Int32.ofNat i)), o] []) := by
    intro k
    induction k with
    | zero =>
      intro i vs o T h L hk ho hl hv X eT K Vb N
      obtain rfl : i = ds.length := by omega
      refine w_iload (n := 5) X.here hx (hb hby d10_3) rfl rfl ?_
      refine w_iload (n := 7) X.here hx (hb hby d10_5) rfl rfl ?_
      refine w_icmpge (n1 := 44) (n2 := 10) X.here hx (hb hby d10_7) (by decide) (by decide) rfl (fun hc7 => ?_) (fun hc7 => (Int32.lt_irrefl (Classical.not_not.mp hc7)).elim)
      refine w_iload (n := 46) X.here hx (hb hby d10_44) rfl rfl ?_
      exact fin_I X hx hlk eT hret (hb hby d10_46) (by decide) (by decide) ⟨rfl, K, own_list hl hv ▸ Vb, N⟩
    | succ k ih =>
      intro i vs o T h L hk ho hl hv X eT K Vb N
      have hi : i < ds.length := by omega
      have hib : i < 2147483648 := by omega
      refine w_iload (n := 5) X.here hx (hb hby d10_3) rfl rfl ?_
      refine w_iload (n := 7) X.here hx (hb hby d10_5) rfl rfl ?_
      refine w_icmpge (n1 := 44) (n2 := 10) X.here hx (hb hby d10_7) (by decide) (by decide) rfl (fun hc7 => absurd ((nat_lt hib hn).mpr hi) hc7) (fun hc7 => ?_)
      refine w_aloadN (n := 11) X.here hx (hb hby d10_10) rfl rfl rfl ?_
      refine w_iloadN (n := 12) X.here hx (hb hby d10_11) rfl rfl ?_
      refine l_C (n := 13) (v := .int (ds.getD i 0)) X hx hZ eT (VA.keep K (ninS hab nin0)) (nat_nn hib) ((nat_lt hib hn).mpr hi) (by rw [nat_clamp hib]; exact getD_mapI ds i) (hb hby d10_12) rfl ?_
      refine w_istore (Ls' := #[.val (.ref a), .val (.int (Int32.ofNat i)), .val (.ref b), .val (.int (Int32.ofNat i)), .val (.int (Int32.ofNat ds.length)), .val (.int (Int32.ofNat i)), .val (.int (ds.getD i 0))]) (n := 15) X.here hx (hb hby d10_13) rfl (by rcases ho with rfl | ⟨_, rfl⟩ <;> rfl) ?_
      refine w_iload (n := 17) X.here hx (hb hby d10_15) rfl rfl ?_
      refine w_sipush (z := (255 : Int32)) (n := 20) X.here hx (hb hby d10_17) rfl rfl ?_
      refine w_icmple (n1 := 26) (n2 := 23) X.here hx (hb hby d10_20) (by decide) (by decide) rfl (fun hc20 => ?_) (fun hc20 => absurd (Classical.not_not.mp hc20) (hd i hi))
      refine w_aloadN (n := 27) X.here hx (hb hby d10_26) rfl rfl rfl ?_
      refine w_iloadN (n := 28) X.here hx (hb hby d10_27) rfl rfl ?_
      refine w_iload (n := 30) X.here hx (hb hby d10_28) rfl rfl ?_
      refine w_i2b (n := 31) X.here hx (hb hby d10_30) rfl ?_
      refine s_B (n := 32) X hx hZ eT Vb i (nat_clamp hib) (by rw [hl]; exact hi) (nat_nn hib) ((nat_lt hib hn).mpr hi) (hb hby d10_31) rfl (fun T' h' X' e' W' V' => ?_)
      refine w_iinc (Ls' := #[.val (.ref a), .val (.int ((Int32.ofNat i) + (1 : Int32))), .val (.ref b), .val (.int (Int32.ofNat i)), .val (.int (Int32.ofNat ds.length)), .val (.int (Int32.ofNat i)), .val (.int (ds.getD i 0))]) (n := 35) X'.here hx (hb hby d10_32) rfl rfl rfl ?_
      refine w_iinc (Ls' := #[.val (.ref a), .val (.int ((Int32.ofNat i) + (1 : Int32))), .val (.ref b), .val (.int ((Int32.ofNat i) + (1 : Int32))), .val (.int (Int32.ofNat ds.length)), .val (.int (Int32.ofNat i)), .val (.int (ds.getD i 0))]) (n := 38) X'.here hx (hb hby d10_35) rfl rfl rfl ?_
      refine w_iinc (Ls' := #[.val (.ref a), .val (.int ((Int32.ofNat i) + (1 : Int32))), .val (.ref b), .val (.int ((Int32.ofNat i) + (1 : Int32))), .val (.int (Int32.ofNat ds.length)), .val (.int ((Int32.ofNat i) + (1 : Int32))), .val (.int (ds.getD i 0))]) (n := 41) X'.here hx (hb hby d10_38) rfl rfl rfl ?_
      refine w_goto (n := 3) X'.here hx (hb hby d10_41) (by decide) (by decide) ?_
      rw [show Int32.ofNat i + (1 : Int32) = Int32.ofNat (i + 1) from nat_up i]
      exact ih (i + 1) _ _ T' h' _ (by omega) (Or.inr ⟨_, rfl⟩) (by rw [List.length_set]; exact hl) (fun j hj => own_setd (by rw [hl]; exact hi) hj hv) X' e' (K.wr W' (Or.inl (List.mem_singleton.mpr rfl))) V' (fun n0 q => Fr.snoc X' (N n0 q) q)
  refine w_iconst (z := (0 : Int32)) (n := 1) X0.here hx (hb hby d10_0) rfl rfl ?_
  refine w_istore (Ls' := #[.val (.ref a), .val (.int (0 : Int32)), .val (.ref b), .val (.int (0 : Int32)), .val (.int (Int32.ofNat ds.length)), .val (.int (0 : Int32)), .unset]) (n := 3) X0.here hx (hb hby d10_1) rfl rfl ?_
  exact loop ds.length 0 vs0 .unset T0 h0 [] (by omega) (Or.inl rfl) hv0 (fun j hj => absurd hj (Nat.not_lt_zero _)) X0 e0 (Keep.refl _ _) VB (fun n0 _ => Fr.nil n0)
theorem ef_2 (m : MethodId) (a : Addr) (x : Int32) (z : Int32) : entryFrame m #[(.ref a), (.int x), (.int z)] 6 = mkF m 0 #[.val (.ref a), .val (.int x), .val (.int z), .unset, .unset, .unset] [] := by first | (simp [entryFrame, mkF, argsToLocals, Value.category]; done) | rfl
theorem pd_1 : parseMethodDescriptor "([CI[BII)I" = some ⟨[(.array .char), .int, (.array .byte), .int, .int], some .int⟩ := by decide +kernel
set_option maxRecDepth 65536 in
set_option maxHeartbeats 40000000 in
theorem rm_cB (l : Launch) (Z : State) (a0 : Array Value) (hw : ∀ d ∈ tables_1, d.before a0 Z = true) (ws : List Jvm.Cond) (a : Addr) (ka : ClassId) (ds : List Int32) (h0 : Heap) (hn : ds.length ≤ 24) (hd : ∀ j, j < ds.length → ¬ 255 < ds.getD j 0) (VA : Arv Z h0 a ka .char (Int32.ofNat ds.length) (ds.map Value.int) (.int 0)) :
    Con l Z (⟨"java/lang/StringUTF16", "compress", "([CII)[B"⟩ : MethodName) jdk_52_method_16_code 6 (some (.array .byte)) ws own_rB #[.ref a, .int 0, .int (Int32.ofNat ds.length)] h0 (fun v h L => ∃ b k, v = some (.ref b) ∧ h0.size ≤ b ∧ Ext h0 h ∧ Arv Z h b k .byte (Int32.ofNat ds.length) ((ds.map own_by).map Value.int) (.int 0) ∧ Fr h0.size L) := by
  refine con_of (plainFor_of_name pn_0) ?_
  intro p e s m below meth c T0 X0 hx hZ hby hml hown hret hnm hlk e0
  refine Endz.eq (ef_2 m a 0 (Int32.ofNat ds.length)) ?_
  have hn' : ds.length < 2147483648 := by omega
  refine w_iloadN (n := 1) X0.here hx (hb hby d9_0) rfl rfl ?_
  refine n_P (n := 3) X0 hx hZ (hw _ (List.mem_of_getElem? (i := 60) rfl)) e0 (hb hby d9_1) rfl (nat_nn hn') 24 (by rw [nat_clamp hn']; exact hn) (by decide) (by decide) (by decide) (fun T1 h1 k1 b1 g1 X1 e1 E1 V1 => ?_)
  refine w_astoreN (Ls' := #[.val (.ref a), .val (.int (0 : Int32)), .val (.int (Int32.ofNat ds.length)), .val (.ref b1), .unset, .unset]) (n := 4) X1.here hx (hb hby d9_3) rfl rfl rfl ?_
  refine w_aloadN (n := 5) X1.here hx (hb hby d9_4) rfl rfl rfl ?_
  refine w_iloadN (n := 6) X1.here hx (hb hby d9_5) rfl rfl ?_
  refine w_aloadN (n := 7) X1.here hx (hb hby d9_6) rfl rfl rfl ?_
  refine w_iconst (z := (0 : Int32)) (n := 8) X1.here hx (hb hby d9_7) rfl rfl ?_
  refine w_iloadN (n := 9) X1.here hx (hb hby d9_8) rfl rfl ?_
  have hab : a ≠ b1 := fun q => Nat.lt_irrefl _ (by have := VA.lt; rw [q, g1] at this; exact this)
  refine c_S (n := 12) (argsL := [(.ref a), (.int (0 : Int32)), (.ref b1), (.int (0 : Int32)), (.int (Int32.ofNat ds.length))]) (rest := []) X1 hx hZ hown (rm_c5 l Z a0 hw [] a b1 ka k1 ds h1 hn' hd (VA.ext E1) _ (pad0 V1 ds.length) List.length_replicate hab) e1 (hw _ (List.mem_of_getElem? (i := 61) rfl)) (hw _ (List.mem_of_getElem? (i := 62) rfl)) (hw _ (List.mem_of_getElem? (i := 58) rfl)) (hw _ (List.mem_of_getElem? (i := 63) rfl)) (by decide) 0 (by decide) (by decide) (by decide) (by decide) (by rw [hml]; rfl) pd_1 rfl rfl (Nat.le_of_ble_eq_true rfl) (hb hby d9_9) rfl (fun v2 T2 L2 X2 hQ2 => ?_)
  obtain ⟨rfl, K, VB, N⟩ := hQ2
  show Endz _ _ _ _ T2 (mkF m 12 #[.val (.ref a), .val (.int (0 : Int32)), .val (.int (Int32.ofNat ds.length)), .val (.ref b1), .unset, .unset] [(.int (Int32.ofNat ds.length))])
  refine w_istore (Ls' := #[.val (.ref a), .val (.int (0 : Int32)), .val (.int (Int32.ofNat ds.length)), .val (.ref b1), .val (.int (Int32.ofNat ds.length)), .unset]) (n := 14) X2.here hx (hb hby d9_12) rfl rfl ?_
  refine w_iload (n := 16) X2.here hx (hb hby d9_14) rfl rfl ?_
  refine w_iloadN (n := 17) X2.here hx (hb hby d9_16) rfl rfl ?_
  refine w_icmpeq (n1 := 57) (n2 := 20) X2.here hx (hb hby d9_17) (by decide) (by decide) rfl (fun hc17 => ?_) (fun hc17 => absurd rfl hc17)
  refine w_aloadN (n := 58) X2.here hx (hb hby d9_57) rfl rfl rfl ?_
  exact fin_A X2 hx hlk rfl hret rfl rfl rfl (hb hby d9_58) (by decide) (by decide) ⟨_, _, rfl, Nat.le_of_eq g1.symm, Ext.keep1 E1 K (Nat.le_of_eq g1.symm), VB, (Fr.nil _).app (N _ (Nat.le_of_eq g1.symm))⟩
theorem ef_3 (m : MethodId) (b : Addr) (z : Int32) : entryFrame m #[(.ref b), (.int z)] 2 = mkF m 0 #[.val (.ref b), .val (.int z)] [] := by first | (simp [entryFrame, mkF, argsToLocals, Value.category]; done) | rfl
set_option maxRecDepth 65536 in
set_option maxHeartbeats 40000000 in
theorem rm_cl (l : Launch) (Z : State) (a0 : Array Value) (hw : ∀ d ∈ tables_1, d.before a0 Z = true) (ws : List Jvm.Cond) (b : Addr) (k : ClassId) (z : Int32) (vs : List Value) (dv : Value) (h0 : Heap) (VB : Arv Z h0 b k .byte z vs dv) :
    Con l Z (⟨"java/lang/StringUTF16", "coderFromArrayLen", "([BI)B"⟩ : MethodName) jdk_52_method_15_code 2 (some .byte) ws own_r0 #[.ref b, .int z] h0 (fun v h L => v = some (.int 0) ∧ L = [] ∧ h = h0) := by
  refine con_of (plainFor_of_name pn_0) ?_
  intro p e s m below meth c T0 X0 hx hZ hby hml hown hret hnm hlk e0
  refine Endz.eq (ef_3 m b z) ?_
  refine w_iloadN (n := 1) X0.here hx (hb hby d11_0) rfl rfl ?_
  refine w_aloadN (n := 2) X0.here hx (hb hby d11_1) rfl rfl rfl ?_
  refine a_L (n := 3) X0 hx hZ e0 VB (hb hby d11_2) rfl ?_
  refine w_isub (n := 4) X0.here hx (hb hby d11_3) rfl ?_
  refine w_bipush (z := (31 : Int32)) (n := 6) X0.here hx (hb hby d11_4) rfl rfl ?_
  refine w_iushr (n := 7) X0.here hx (hb hby d11_6) rfl ?_
  refine w_i2b (n := 8) X0.here hx (hb hby d11_7) rfl ?_
  exact fin_Z X0 hx hlk e0 hret (Or.inr (Or.inl rfl)) (hb hby d11_8) (by decide) (by decide) ⟨by rw [own_c0], rfl, rfl⟩
theorem pn_2 : plainName "java/lang/String" = true := by first | (simp [plainName, overriddenIn]; done) | decide +kernel
theorem ef_i4 (m : MethodId) (th a : Addr) (z : Int32) : entryFrame m #[.ref th, .ref a, .int 0, .int z, .null] 6 = mkF m 0 #[.val (.ref th), .val (.ref a), .val (.int 0), .val (.int z), .val .null, .unset] [] := by first | (simp [entryFrame, mkF, argsToLocals, Value.category]; done) | rfl
theorem pd_3 : parseMethodDescriptor "([CII)[B" = some ⟨[(.array .char), .int, .int], some (.array .byte)⟩ := by decide +kernel
theorem pd_4 : parseMethodDescriptor "([BI)B" = some ⟨[(.array .byte), .int], some .byte⟩ := by decide +kernel
set_option maxRecDepth 65536 in
set_option maxHeartbeats 40000000 in
theorem rm_i4 (l : Launch) (Z : State) (a0 : Array Value) (hw : ∀ d ∈ tables_1, d.before a0 Z = true) (ws : List Jvm.Cond) (th a : Addr) (ka : ClassId) (ds : List Int32) (h0 : Heap) (cs : Int32) (hcs : cs ≠ 0) (SC : Sta Z h0 "java/lang/String" "COMPACT_STRINGS" "Z" (.int cs)) (hne : ds ≠ []) (hn : ds.length ≤ 24) (hd : ∀ j, j < ds.length → ¬ 255 < ds.getD j 0) (VA : Arv Z h0 a ka .char (Int32.ofNat ds.length) (ds.map Value.int) (.int 0)) (A : Exa Z h0 th "java/lang/String") (o1 o2 : Value) (FC : Fld Z h0 th "java/lang/String" "coder" "B" o1) (FV : Fld Z h0 th "java/lang/String" "value" "[B" o2) :
    Con l Z (⟨"java/lang/String", "<init>", "([CIILjava/lang/Void;)V"⟩ : MethodName) jdk_42_method_149_code 6 none ws own_rD #[.ref th, .ref a, .int 0, .int (Int32.ofNat ds.length), .null] h0 (fun v h L => v = none ∧ Strz Z h th (ds.map own_by) ∧ Keep h0 h [th] ∧ ∀ n0, n0 ≤ th → n0 ≤ h0.size → Fr n0 L) := by
  refine con_of (plainFor_of_name pn_2) ?_
  intro p e s m below meth c T0 X0 hx hZ hby hml hown hret hnm hlk e0
  refine Endz.eq (ef_i4 m th a (Int32.ofNat ds.length)) ?_
  have hn' : ds.length < 2147483648 := by omega
  have hz : ¬ Int32.ofNat ds.length = 0 := fun q => hne (List.length_eq_zero_iff.mp ((nat_eq hn' (by decide)).mp q))
  refine w_aloadN (n := 1) X0.here hx (hb hby d7_0) rfl rfl rfl ?_
  refine c_O (n := 4) X0 hx hZ hown (hw _ (List.mem_of_getElem? (i := 52) rfl)) (hw _ (List.mem_of_getElem? (i := 53) rfl)) (hw _ (List.mem_of_getElem? (i := 54) rfl)) e0 (by rw [hml]; rfl) (hb hby d7_1) rfl 0 (by decide) (Nat.le_of_ble_eq_true rfl) (by decide) (fun T1 X1 e1 => ?_)
  refine w_iloadN (n := 5) X1.here hx (hb hby d7_4) rfl rfl ?_
  refine w_ifne (n1 := 27) (n2 := 8) X1.here hx (hb hby d7_5) (by decide) (by decide) rfl (fun hc5 => ?_) (fun hc5 => absurd hz hc5)
  refine g_S (n := 30) X1 hx hZ hown (hw _ (List.mem_of_getElem? (i := 55) rfl)) e1 SC (hb hby d7_27) rfl (fun T2 X2 e2 => ?_)
  refine w_ifeq (n1 := 58) (n2 := 33) X2.here hx (hb hby d7_30) (by decide) (by decide) rfl (fun hc30 => absurd hc30 hcs) (fun hc30 => ?_)
  refine w_aloadN (n := 34) X2.here hx (hb hby d7_33) rfl rfl rfl ?_
  refine w_iloadN (n := 35) X2.here hx (hb hby d7_34) rfl rfl ?_
  refine w_iloadN (n := 36) X2.here hx (hb hby d7_35) rfl rfl ?_
  refine c_S (n := 39) (argsL := [(.ref a), (.int (0 : Int32)), (.int (Int32.ofNat ds.length))]) (rest := []) X2 hx hZ hown (rm_cB l Z a0 hw [] a ka ds h0 hn hd VA) e2 (hw _ (List.mem_of_getElem? (i := 56) rfl)) (hw _ (List.mem_of_getElem? (i := 57) rfl)) (hw _ (List.mem_of_getElem? (i := 58) rfl)) (hw _ (List.mem_of_getElem? (i := 59) rfl)) (by decide) 0 (by decide) (by decide) (by decide) (by decide) (by rw [hml]; rfl) pd_3 rfl rfl (Nat.le_of_ble_eq_true rfl) (hb hby d7_36) rfl (fun v3 T3 L3 X3 hQ3 => ?_)
  obtain ⟨b, kb, rfl, hbg, E1, VB, N1⟩ := hQ3
  show Endz _ _ _ _ T3 (mkF m 39 #[.val (.ref th), .val (.ref a), .val (.int (0 : Int32)), .val (.int (Int32.ofNat ds.length)), .val .null, .unset] [(.ref b)])
  refine w_astore (Ls' := #[.val (.ref th), .val (.ref a), .val (.int (0 : Int32)), .val (.int (Int32.ofNat ds.length)), .val .null, .val (.ref b)]) (n := 41) X3.here hx (hb hby d7_39) rfl rfl rfl ?_
  refine w_aloadN (n := 42) X3.here hx (hb hby d7_41) rfl rfl rfl ?_
  refine w_aload (n := 44) X3.here hx (hb hby d7_42) rfl rfl rfl ?_
  refine w_iloadN (n := 45) X3.here hx (hb hby d7_44) rfl rfl ?_
  refine c_S (n := 48) (argsL := [(.ref b), (.int (Int32.ofNat ds.length))]) (rest := [(.ref th)]) X3 hx hZ hown (rm_cl l Z a0 hw [] b kb (Int32.ofNat ds.length) _ _ _ VB) rfl (hw _ (List.mem_of_getElem? (i := 64) rfl)) (hw _ (List.mem_of_getElem? (i := 65) rfl)) (hw _ (List.mem_of_getElem? (i := 58) rfl)) (hw _ (List.mem_of_getElem? (i := 66) rfl)) (by decide) 1 (by decide) (by decide) (by decide) (by decide) (by rw [hml]; rfl) pd_4 rfl rfl (Nat.le_of_ble_eq_true rfl) (hb hby d7_45) rfl (fun v4 T4 L4 X4 hQ4 => ?_)
  obtain ⟨rfl, rfl, e2⟩ := hQ4
  show Endz _ _ _ _ T4 (mkF m 48 #[.val (.ref th), .val (.ref a), .val (.int (0 : Int32)), .val (.int (Int32.ofNat ds.length)), .val .null, .val (.ref b)] [(.int (0 : Int32)), (.ref th)])
  refine p_F (n := 51) (ty := .byte) X4 hx hZ hown (hw _ (List.mem_of_getElem? (i := 67) rfl)) e2 (FC.ext E1) (A.ext E1) (Or.inr ⟨(hw _ (List.mem_of_getElem? (i := 68) rfl)), rfl, hnm⟩) (hw _ (List.mem_of_getElem? (i := 43) rfl)) (by decide +kernel) rfl rfl (hb hby d7_48) rfl (fun T5 h5 X5 e5 W5 => ?_)
  refine w_aloadN (n := 52) X5.here hx (hb hby d7_51) rfl rfl rfl ?_
  refine w_aload (n := 54) X5.here hx (hb hby d7_52) rfl rfl rfl ?_
  have hbt : b ≠ th := fun q => Nat.lt_irrefl _ (Nat.lt_of_lt_of_le A.lt (q ▸ hbg))
  refine p_F (n := 57) (ty := (.array .byte)) X5 hx hZ hown (hw _ (List.mem_of_getElem? (i := 69) rfl)) e5 ((FV.ext E1).other W5 (Or.inr (slot_ne (Or.inr (hw _ (List.mem_of_getElem? (i := 70) rfl))) (Or.inr (hw _ (List.mem_of_getElem? (i := 68) rfl))) (by decide) (t := (.array .byte)) (t' := .byte) (by decide +kernel) (by decide +kernel)))) ((A.ext E1).wr W5) (Or.inr ⟨(hw _ (List.mem_of_getElem? (i := 70) rfl)), rfl, hnm⟩) (hw _ (List.mem_of_getElem? (i := 43) rfl)) (by decide +kernel) rfl rfl (hb hby d7_54) rfl (fun T6 h6 X6 e6 W6 => ?_)
  have GC := ((FC.ext E1).same W5).other W6 (Or.inr (slot_ne (Or.inr (hw _ (List.mem_of_getElem? (i := 68) rfl))) (Or.inr (hw _ (List.mem_of_getElem? (i := 70) rfl))) (by decide) (t := .byte) (t' := (.array .byte)) (by decide +kernel) (by decide +kernel)))
  have GV := ((FV.ext E1).other W5 (Or.inr (slot_ne (Or.inr (hw _ (List.mem_of_getElem? (i := 70) rfl))) (Or.inr (hw _ (List.mem_of_getElem? (i := 68) rfl))) (by decide) (t := (.array .byte)) (t' := .byte) (by decide +kernel) (by decide +kernel)))).same W6
  have GB := (VB.other W5 hbt).other W6 hbt
  have KK := (((Keep.refl h0 [th]).ext E1).wr W5 (Or.inl (List.mem_singleton.mpr rfl))).wr W6 (Or.inl (List.mem_singleton.mpr rfl))
  exact fin_V X6 hx hlk e6 hret (hb hby d7_57) (by decide) (by decide) ⟨rfl, ⟨((A.ext E1).wr W5).wr W6, GC, b, kb, _, GV, GB, nat_nn hn', by rw [nat_clamp hn', List.length_map]⟩, KK, fun n0 q1 q2 => Fr.snoc X6 (Fr.snoc X5 (((Fr.nil n0).app (fun y hy => Nat.le_trans q2 (N1 y hy))).app (Fr.nil n0)) q1) q1⟩
theorem ef_4 (m : MethodId) (th : Addr) (a : Addr) : entryFrame m #[(.ref th), (.ref a)] 2 = mkF m 0 #[.val (.ref th), .val (.ref a)] [] := by first | (simp [entryFrame, mkF, argsToLocals, Value.category]; done) | rfl
theorem pd_5 : parseMethodDescriptor "([CIILjava/lang/Void;)V" = some ⟨[(.array .char), .int, .int, (.object "java/lang/Void")], none⟩ := by decide +kernel
set_option maxRecDepth 65536 in
set_option maxHeartbeats 40000000 in
theorem rm_i1 (l : Launch) (Z : State) (a0 : Array Value) (hw : ∀ d ∈ tables_1, d.before a0 Z = true) (ws : List Jvm.Cond) (th a : Addr) (ka : ClassId) (ds : List Int32) (h0 : Heap) (cs : Int32) (hcs : cs ≠ 0) (SC : Sta Z h0 "java/lang/String" "COMPACT_STRINGS" "Z" (.int cs)) (hne : ds ≠ []) (hn : ds.length ≤ 24) (hd : ∀ j, j < ds.length → ¬ 255 < ds.getD j 0) (VA : Arv Z h0 a ka .char (Int32.ofNat ds.length) (ds.map Value.int) (.int 0)) (A : Exa Z h0 th "java/lang/String") (o1 o2 : Value) (FC : Fld Z h0 th "java/lang/String" "coder" "B" o1) (FV : Fld Z h0 th "java/lang/String" "value" "[B" o2) :
    Con l Z (⟨"java/lang/String", "<init>", "([C)V"⟩ : MethodName) jdk_42_method_3_code 2 none ws own_rE #[.ref th, .ref a] h0 (fun v h L => v = none ∧ Strz Z h th (ds.map own_by) ∧ Keep h0 h [th] ∧ ∀ n0, n0 ≤ th → n0 ≤ h0.size → Fr n0 L) := by
  refine con_of (plainFor_of_name pn_2) ?_
  intro p e s m below meth c T0 X0 hx hZ hby hml hown hret hnm hlk e0
  refine Endz.eq (ef_4 m th a) ?_
  refine w_aloadN (n := 1) X0.here hx (hb hby d6_0) rfl rfl rfl ?_
  refine w_aloadN (n := 2) X0.here hx (hb hby d6_1) rfl rfl rfl ?_
  refine w_iconst (z := (0 : Int32)) (n := 3) X0.here hx (hb hby d6_2) rfl rfl ?_
  refine w_aloadN (n := 4) X0.here hx (hb hby d6_3) rfl rfl rfl ?_
  refine a_L (n := 5) X0 hx hZ e0 VA (hb hby d6_4) rfl ?_
  refine w_aconstNull (n := 6) X0.here hx (hb hby d6_5) rfl ?_
  refine c_N (n := 9) (b := th) (argsL := [(.ref a), (.int (0 : Int32)), (.int (Int32.ofNat ds.length)), .null]) (rest := []) X0 hx hZ rfl hown (rm_i4 l Z a0 hw [] th a ka ds h0 cs hcs SC hne hn hd VA A o1 o2 FC FV) e0 (hw _ (List.mem_of_getElem? (i := 48) rfl)) (hw _ (List.mem_of_getElem? (i := 49) rfl)) (hw _ (List.mem_of_getElem? (i := 28) rfl)) (hw _ (List.mem_of_getElem? (i := 51) rfl)) (by decide) 0 (by decide) (by decide) (by decide) (by decide) (by rw [hml]; rfl) pd_5 rfl rfl (Nat.le_of_ble_eq_true rfl) (hb hby d6_6) rfl (fun v1 T1 L1 X1 hQ1 => ?_)
  obtain ⟨rfl, S1, K1, N1⟩ := hQ1
  show Endz _ _ _ _ T1 (mkF m 9 #[.val (.ref th), .val (.ref a)] [])
  exact fin_V X1 hx hlk rfl hret (hb hby d6_9) (by decide) (by decide) ⟨rfl, S1, K1, fun n0 q1 q2 => (Fr.nil n0).app (N1 n0 q1 q2)⟩
abbrev own_EL : List (String × Nat) := [("com/example/legitka/legitka/CardKindForContentTypePinLaw", 30), ("com/example/legitka/legitka/CardKindForContentTypePinLaw", 42), ("java/lang/String", 7)]
set_option maxRecDepth 65536 in
set_option maxHeartbeats 40000000 in
theorem rm_i4e (l : Launch) (Z : State) (a0 : Array Value) (hw : ∀ d ∈ tables_1, d.before a0 Z = true) (ws : List Jvm.Cond) (hEL : EW Z a0 own_EL) (wS : ∀ a ∈ Bundle.stringAtoms, a.before a0 Z = true) (vmB : Vm) (th a : Addr) (h0 : Heap) (A : Exa Z h0 th "java/lang/String") (o1 o2 : Value) (FC : Fld Z h0 th "java/lang/String" "coder" "B" o1) (FV : Fld Z h0 th "java/lang/String" "value" "[B" o2) (hSf : Safe Z own_EL vmB h0 th) :
    ConW l Z own_EL vmB (⟨"java/lang/String", "<init>", "([CIILjava/lang/Void;)V"⟩ : MethodName) jdk_42_method_149_code 6 none ws own_rDW #[.ref th, .ref a, .int 0, .int 0, .null] h0 (fun v vm h L => v = none ∧ Strz Z h th [] ∧ Keep h0 h [th] ∧ (∀ n0, n0 ≤ th → n0 ≤ h0.size → Fr n0 L) ∧ CHr Z own_EL vmB h0 vm h) := by
  refine conW_of (plainFor_of_name pn_2) ?_
  intro p e s vm0 m below meth c T0 X0 hx hZ hby hml hown hret hnm hlk e0 hS H
  refine Endz.eq (ef_i4 m th a 0) ?_
  refine w_aloadN (n := 1) X0.here hx (hb hby d7_0) rfl rfl rfl ?_
  refine c_O (n := 4) X0 hx hZ hown (hw _ (List.mem_of_getElem? (i := 52) rfl)) (hw _ (List.mem_of_getElem? (i := 53) rfl)) (hw _ (List.mem_of_getElem? (i := 54) rfl)) e0 (by rw [hml]; rfl) (hb hby d7_1) rfl 0 (by decide) (Nat.le_of_ble_eq_true rfl) (by decide) (fun T1 X1 e1 => ?_)
  refine w_iloadN (n := 5) X1.here hx (hb hby d7_4) rfl rfl ?_
  refine w_ifne (n1 := 27) (n2 := 8) X1.here hx (hb hby d7_5) (by decide) (by decide) rfl (fun hc5 => absurd rfl hc5) (fun hc5 => ?_)
  refine w_aloadN (n := 9) X1.here hx (hb hby d7_8) rfl rfl rfl ?_
  refine k_S (n := 11) X1 hx hZ hown (hw _ (List.mem_of_getElem? (i := 114) rfl)) wS e1 hS (Nat.le_refl _) hEL (List.Mem.tail _ (List.Mem.tail _ (List.Mem.head _))) H [] 0 ⟨fun c hc => (nomatch hc), rfl⟩ (by decide) rfl (hb hby d7_9) rfl 0 (by decide) (by decide) (by decide) (by decide) (fun T2 h2 k1 sa X2 e2 E1 hS hk hZ hown ST C1 LT nb => ?_)
  obtain ⟨SA, SCo, b, kb, SV, VB, -⟩ := own_get ST
  refine g_F (n := 14) X2 hx hZ hown (hw _ (List.mem_of_getElem? (i := 69) rfl)) e2 SV (hb hby d7_11) rfl (fun T3 X3 e3 => ?_)
  refine p_F (n := 17) (ty := (.array .byte)) X3 hx hZ hown (hw _ (List.mem_of_getElem? (i := 69) rfl)) e3 (FV.ext E1) (A.ext E1) (Or.inr ⟨(hw _ (List.mem_of_getElem? (i := 70) rfl)), rfl, hnm⟩) (hw _ (List.mem_of_getElem? (i := 43) rfl)) (by decide +kernel) rfl rfl (hb hby d7_14) rfl (fun T4 h4 X4 e4 W4 => ?_)
  refine w_aloadN (n := 18) X4.here hx (hb hby d7_17) rfl rfl rfl ?_
  refine k_S2 (n := 20) X4 hx hZ hown (hw _ (List.mem_of_getElem? (i := 114) rfl)) LT (hb hby d7_18) rfl ?_
  refine g_F (n := 23) X4 hx hZ hown (hw _ (List.mem_of_getElem? (i := 67) rfl)) e4 (SCo.other W4 (Or.inr (slot_ne (Or.inr (hw _ (List.mem_of_getElem? (i := 68) rfl))) (Or.inr (hw _ (List.mem_of_getElem? (i := 70) rfl))) (by decide) (t := .byte) (t' := (.array .byte)) (by decide +kernel) (by decide +kernel)))) (hb hby d7_20) rfl (fun T5 X5 e5 => ?_)
  refine p_F (n := 26) (ty := .byte) X5 hx hZ hown (hw _ (List.mem_of_getElem? (i := 67) rfl)) e5 ((FC.ext E1).other W4 (Or.inr (slot_ne (Or.inr (hw _ (List.mem_of_getElem? (i := 68) rfl))) (Or.inr (hw _ (List.mem_of_getElem? (i := 70) rfl))) (by decide) (t := .byte) (t' := (.array .byte)) (by decide +kernel) (by decide +kernel)))) ((A.ext E1).wr W4) (Or.inr ⟨(hw _ (List.mem_of_getElem? (i := 68) rfl)), rfl, hnm⟩) (hw _ (List.mem_of_getElem? (i := 43) rfl)) (by decide +kernel) rfl rfl (hb hby d7_23) rfl (fun T6 h6 X6 e6 W6 => ?_)
  have GV := ((FV.ext E1).same W4).other W6 (Or.inr (slot_ne (Or.inr (hw _ (List.mem_of_getElem? (i := 70) rfl))) (Or.inr (hw _ (List.mem_of_getElem? (i := 68) rfl))) (by decide) (t := (.array .byte)) (t' := .byte) (by decide +kernel) (by decide +kernel)))
  have GC := ((FC.ext E1).other W4 (Or.inr (slot_ne (Or.inr (hw _ (List.mem_of_getElem? (i := 68) rfl))) (Or.inr (hw _ (List.mem_of_getElem? (i := 70) rfl))) (by decide) (t := .byte) (t' := (.array .byte)) (by decide +kernel) (by decide +kernel)))).same W6
  have hbt : b ≠ th := (Exa.neArv (A.ext E1) VB (hw _ (List.mem_of_getElem? (i := 43) rfl))).symm
  have GB := (VB.other W4 hbt).other W6 hbt
  have KK := (((Keep.refl h0 [th]).ext E1).wr W4 (Or.inl (List.mem_singleton.mpr rfl))).wr W6 (Or.inl (List.mem_singleton.mpr rfl))
  have Sf1 := C1.safe A.lt hSf
  have C2 := C1.trans (CHr.wr W4 Sf1 C1.1)
  have C3 := C2.trans (CHr.wr W6 (C2.safe A.lt hSf) C2.1)
  exact finW_V X6 hx hlk e6 hS (Nat.le_trans hk (by rw [W6.size, W4.size]; exact Nat.le_refl _)) hret (hb hby d7_26) (by decide) (by decide) ⟨rfl, ⟨((A.ext E1).wr W4).wr W6, GC, b, kb, _, GV, GB, by decide, rfl⟩, KK, fun n0 q1 q2 => Fr.snoc X6 (Fr.snoc X4 (Fr.nil n0) q1) q1, CHr.now X6 hZ hEL C3⟩
theorem ef_5 (m : MethodId) (th : Addr) (a : Addr) : entryFrame m #[(.ref th), (.ref a)] 2 = mkF m 0 #[.val (.ref th), .val (.ref a)] [] := by first | (simp [entryFrame, mkF, argsToLocals, Value.category]; done) | rfl
set_option maxRecDepth 65536 in
set_option maxHeartbeats 40000000 in
theorem rm_i1e (l : Launch) (Z : State) (a0 : Array Value) (hw : ∀ d ∈ tables_1, d.before a0 Z = true) (ws : List Jvm.Cond) (hEL : EW Z a0 own_EL) (wS : ∀ a ∈ Bundle.stringAtoms, a.before a0 Z = true) (vmB : Vm) (th a : Addr) (ka : ClassId) (vs : List Value) (dv : Value) (h0 : Heap) (VA : Arv Z h0 a ka .char 0 vs dv) (A : Exa Z h0 th "java/lang/String") (o1 o2 : Value) (FC : Fld Z h0 th "java/lang/String" "coder" "B" o1) (FV : Fld Z h0 th "java/lang/String" "value" "[B" o2) (hSf : Safe Z own_EL vmB h0 th) :
    ConW l Z own_EL vmB (⟨"java/lang/String", "<init>", "([C)V"⟩ : MethodName) jdk_42_method_3_code 2 none ws own_rEW #[.ref th, .ref a] h0 (fun v vm h L => v = none ∧ Strz Z h th [] ∧ Keep h0 h [th] ∧ (∀ n0, n0 ≤ th → n0 ≤ h0.size → Fr n0 L) ∧ CHr Z own_EL vmB h0 vm h) := by
  refine conW_of (plainFor_of_name pn_2) ?_
  intro p e s vm0 m below meth c T0 X0 hx hZ hby hml hown hret hnm hlk e0 hS H
  refine Endz.eq (ef_5 m th a) ?_
  refine w_aloadN (n := 1) X0.here hx (hb hby d6_0) rfl rfl rfl ?_
  refine w_aloadN (n := 2) X0.here hx (hb hby d6_1) rfl rfl rfl ?_
  refine w_iconst (z := (0 : Int32)) (n := 3) X0.here hx (hb hby d6_2) rfl rfl ?_
  refine w_aloadN (n := 4) X0.here hx (hb hby d6_3) rfl rfl rfl ?_
  refine a_L (n := 5) X0 hx hZ e0 VA (hb hby d6_4) rfl ?_
  refine w_aconstNull (n := 6) X0.here hx (hb hby d6_5) rfl ?_
  have hSf' := H.safe A.lt hSf
  refine c_NW (n := 9) (b := th) (argsL := [(.ref a), (.int (0 : Int32)), (.int (0 : Int32)), .null]) (rest := []) X0 hx hZ rfl hown (rm_i4e l Z a0 hw [] hEL wS _ th a h0 A o1 o2 FC FV hSf') e0 hS (Nat.le_refl _) hEL H.1 (hw _ (List.mem_of_getElem? (i := 48) rfl)) (hw _ (List.mem_of_getElem? (i := 49) rfl)) (hw _ (List.mem_of_getElem? (i := 28) rfl)) (hw _ (List.mem_of_getElem? (i := 51) rfl)) (by decide) 0 (by decide) (by decide) (by decide) (by decide) (by rw [hml]; rfl) pd_5 rfl rfl (Nat.le_of_ble_eq_true rfl) (hb hby d6_6) rfl (fun v1 T1 L1 X1 hS hZ hown hQ1 => ?_)
  obtain ⟨rfl, S1, K1, N1, C1⟩ := hQ1
  show Endz _ _ _ _ T1 (mkF m 9 #[.val (.ref th), .val (.ref a)] [])
  exact finW_V X1 hx hlk rfl hS (Nat.le_refl _) hret (hb hby d6_9) (by decide) (by decide) ⟨rfl, S1, K1, fun n0 q1 q2 => (Fr.nil n0).app (N1 n0 q1 q2), CHr.now X1 hZ hEL (H.trans C1)⟩
theorem pn_6 : plainName "java/lang/StringLatin1" = true := by first | (simp [plainName, overriddenIn]; done) | decide +kernel
theorem ef_6 (m : MethodId) (a : Addr) (b : Addr) : entryFrame m #[(.ref a), (.ref b)] 3 = mkF m 0 #[.val (.ref a), .val (.ref b), .unset] [] := by first | (simp [entryFrame, mkF, argsToLocals, Value.category]; done) | rfl
theorem own_eqs {us vs : List Int32} (hl : us.length = vs.length) (h : ∀ j, j < us.length → us.getD j 0 = vs.getD j 0) : us = vs := by
  refine List.ext_getElem hl fun i i1 i2 => ?_
  have q := h i i1
  simp [List.getD_eq_getElem?_getD, i1, i2] at q
  exact q
set_option maxRecDepth 65536 in
set_option maxHeartbeats 40000000 in
theorem rm_le (l : Launch) (Z : State) (a0 : Array Value) (hw : ∀ d ∈ tables_1, d.before a0 Z = true) (ws : List Jvm.Cond) (a b : Addr) (ka kb : ClassId) (us vs : List Int32) (h0 : Heap) (hu : us.length < 2147483648) (hv : vs.length < 2147483648) (VA : Arv Z h0 a ka .byte (Int32.ofNat us.length) (us.map Value.int) (.int 0)) (VB : Arv Z h0 b kb .byte (Int32.ofNat vs.length) (vs.map Value.int) (.int 0)) :
    Con l Z (⟨"java/lang/StringLatin1", "equals", "([B[B)Z"⟩ : MethodName) jdk_43_method_13_code 3 (some .boolean) ws own_r0 #[.ref a, .ref b] h0 (fun v h L => v = some (.int (if us = vs then 1 else 0)) ∧ L = [] ∧ h = h0) := by
  refine con_of (plainFor_of_name pn_6) ?_
  intro p e s m below meth c T0 X0 hx hZ hby hml hown hret hnm hlk e0
  refine Endz.eq (ef_6 m a b) ?_
  have loop : us.length = vs.length → ∀ (k i : Nat), i + k = us.length → (∀ j, j < i → us.getD j 0 = vs.getD j 0) → Endz p.tables e below (Finz s own_r0 (fun v h L => v = some (.int (if us = vs then 1 else 0)) ∧ L = [] ∧ h = h0)) T0 (mkF m 9 #[.val (.ref a), .val (.ref b), .val (.int (Int32.ofNat i))] []) := by
    intro hl k
    induction k with
    | zero =>
      intro i hk he
      obtain rfl : i = us.length := by omega
      refine w_iloadN (n := 10) X0.here hx (hb hby d12_9) rfl rfl ?_
      refine w_aloadN (n := 11) X0.here hx (hb hby d12_10) rfl rfl rfl ?_
      refine a_L (n := 12) X0 hx hZ e0 VA (hb hby d12_11) rfl ?_
      refine w_icmpge (n1 := 32) (n2 := 15) X0.here hx (hb hby d12_12) (by decide) (by decide) rfl (fun hc12 => ?_) (fun hc12 => (Int32.lt_irrefl (Classical.not_not.mp hc12)).elim)
      refine w_iconst (z := (1 : Int32)) (n := 33) X0.here hx (hb hby d12_32) rfl rfl ?_
      exact fin_Z X0 hx hlk e0 hret (Or.inl rfl) (hb hby d12_33) (by decide) (by decide) ⟨by rw [if_pos (own_eqs hl he)]; rfl, rfl, rfl⟩
    | succ k ih =>
      intro i hk he
      have hi : i < us.length := by omega
      have hib : i < 2147483648 := by omega
      refine w_iloadN (n := 10) X0.here hx (hb hby d12_9) rfl rfl ?_
      refine w_aloadN (n := 11) X0.here hx (hb hby d12_10) rfl rfl rfl ?_
      refine a_L (n := 12) X0 hx hZ e0 VA (hb hby d12_11) rfl ?_
      refine w_icmpge (n1 := 32) (n2 := 15) X0.here hx (hb hby d12_12) (by decide) (by decide) rfl (fun hc12 => absurd ((nat_lt hib hu).mpr hi) hc12) (fun hc12 => ?_)
      refine w_aloadN (n := 16) X0.here hx (hb hby d12_15) rfl rfl rfl ?_
      refine w_iloadN (n := 17) X0.here hx (hb hby d12_16) rfl rfl ?_
      refine l_B (n := 18) (v := .int (us.getD i 0)) X0 hx hZ e0 VA (nat_nn hib) ((nat_lt hib hu).mpr hi) (by rw [nat_clamp hib]; exact getD_mapI us i) (hb hby d12_17) rfl ?_
      refine w_aloadN (n := 19) X0.here hx (hb hby d12_18) rfl rfl rfl ?_
      refine w_iloadN (n := 20) X0.here hx (hb hby d12_19) rfl rfl ?_
      refine l_B (n := 21) (v := .int (vs.getD i 0)) X0 hx hZ e0 VB (nat_nn hib) ((nat_lt hib hv).mpr (hl ▸ hi)) (by rw [nat_clamp hib]; exact getD_mapI vs i) (hb hby d12_20) rfl ?_
      refine w_icmpeq (n1 := 26) (n2 := 24) X0.here hx (hb hby d12_21) (by decide) (by decide) rfl (fun hc21 => ?_) (fun hc21 => ?_)
      · refine w_iinc (Ls' := #[.val (.ref a), .val (.ref b), .val (.int ((Int32.ofNat i) + (1 : Int32)))]) (n := 29) X0.here hx (hb hby d12_26) rfl rfl rfl ?_
        refine w_goto (n := 9) X0.here hx (hb hby d12_29) (by decide) (by decide) ?_
        rw [show Int32.ofNat i + (1 : Int32) = Int32.ofNat (i + 1) from nat_up i]
        refine ih (i + 1) (by omega) (fun j hj => ?_)
        by_cases q : j = i
        · subst q; exact hc21
        · exact he j (by omega)
      · refine w_iconst (z := (0 : Int32)) (n := 25) X0.here hx (hb hby d12_24) rfl rfl ?_
        exact fin_Z X0 hx hlk e0 hret (Or.inl rfl) (hb hby d12_25) (by decide) (by decide) ⟨by rw [if_neg (fun q => hc21 (by rw [q]))]; rfl, rfl, rfl⟩
  refine w_aloadN (n := 1) X0.here hx (hb hby d12_0) rfl rfl rfl ?_
  refine a_L (n := 2) X0 hx hZ e0 VA (hb hby d12_1) rfl ?_
  refine w_aloadN (n := 3) X0.here hx (hb hby d12_2) rfl rfl rfl ?_
  refine a_L (n := 4) X0 hx hZ e0 VB (hb hby d12_3) rfl ?_
  refine w_icmpne (n1 := 34) (n2 := 7) X0.here hx (hb hby d12_4) (by decide) (by decide) rfl (fun hc4 => ?_) (fun hc4 => ?_)
  · refine w_iconst (z := (0 : Int32)) (n := 35) X0.here hx (hb hby d12_34) rfl rfl ?_
    exact fin_Z X0 hx hlk e0 hret (Or.inl rfl) (hb hby d12_35) (by decide) (by decide) ⟨by rw [if_neg (fun q => hc4 (by rw [q]))]; rfl, rfl, rfl⟩
  · refine w_iconst (z := (0 : Int32)) (n := 8) X0.here hx (hb hby d12_7) rfl rfl ?_
    refine w_istoreN (Ls' := #[.val (.ref a), .val (.ref b), .val (.int (0 : Int32))]) (n := 9) X0.here hx (hb hby d12_8) rfl rfl ?_
    exact loop ((nat_eq hu hv).mp (Classical.not_not.mp hc4)) us.length 0 (by omega) (fun j hj => absurd hj (Nat.not_lt_zero _))
theorem ef_7 (m : MethodId) (a : Addr) (b : Addr) : entryFrame m #[(.ref a), (.ref b)] 3 = mkF m 0 #[.val (.ref a), .val (.ref b), .unset] [] := by first | (simp [entryFrame, mkF, argsToLocals, Value.category]; done) | rfl
theorem pd_7 : parseMethodDescriptor "([B[B)Z" = some ⟨[(.array .byte), (.array .byte)], some .boolean⟩ := by decide +kernel
set_option maxRecDepth 65536 in
set_option maxHeartbeats 40000000 in
theorem rm_eq (l : Launch) (Z : State) (a0 : Array Value) (hw : ∀ d ∈ tables_1, d.before a0 Z = true) (ws : List Jvm.Cond) (a b : Addr) (us vs : List Int32) (h0 : Heap) (cs : Int32) (hcs : cs ≠ 0) (SC : Sta Z h0 "java/lang/String" "COMPACT_STRINGS" "Z" (.int cs)) (SA : Strz Z h0 a us) (SB : Strz Z h0 b vs) :
    Con l Z (⟨"java/lang/String", "equals", "(Ljava/lang/Object;)Z"⟩ : MethodName) jdk_42_method_66_code 3 (some .boolean) ws own_rQ #[.ref a, .ref b] h0 (fun v h L => v = some (.int (if us = vs then 1 else 0)) ∧ L = [] ∧ h = h0) := by
  refine con_of (plainFor_of_name pn_2) ?_
  intro p e s m below meth c T0 X0 hx hZ hby hml hown hret hnm hlk e0
  refine Endz.eq (ef_7 m a b) ?_
  have SA' := SA
  have SB' := SB
  obtain ⟨A1, C1, v1, k1, F1, V1, l1⟩ := own_get SA
  obtain ⟨A2, C2, v2, k2, F2, V2, l2⟩ := own_get SB
  refine w_aloadN (n := 1) X0.here hx (hb hby d3_0) rfl rfl rfl ?_
  refine w_aloadN (n := 2) X0.here hx (hb hby d3_1) rfl rfl rfl ?_
  refine w_acmpne (n1 := 7) (n2 := 5) X0.here hx rfl rfl (hb hby d3_2) (by decide) (by decide) rfl (fun hc2 => ?_) (fun hc2 => ?_)
  · refine w_aloadN (n := 8) X0.here hx (hb hby d3_7) rfl rfl rfl ?_
    refine i_Y (n := 11) X0 hx hZ hown (hw _ (List.mem_of_getElem? (i := 75) rfl)) e0 (Ins.self A2) (hb hby d3_8) rfl (fun T1 X1 e1 => ?_)
    refine w_ifeq (n1 := 54) (n2 := 14) X1.here hx (hb hby d3_11) (by decide) (by decide) rfl (fun hc11 => absurd hc11 (by decide)) (fun hc11 => ?_)
    refine w_aloadN (n := 15) X1.here hx (hb hby d3_14) rfl rfl rfl ?_
    refine k_C (n := 18) X1 hx hZ hown (hw _ (List.mem_of_getElem? (i := 75) rfl)) e1 (Ins.self A2) (hb hby d3_15) rfl (fun T2 X2 e2 => ?_)
    refine w_astoreN (Ls' := #[.val (.ref a), .val (.ref b), .val (.ref b)]) (n := 19) X2.here hx (hb hby d3_18) rfl rfl rfl ?_
    refine g_S (n := 22) X2 hx hZ hown (hw _ (List.mem_of_getElem? (i := 55) rfl)) e2 SC (hb hby d3_19) rfl (fun T3 X3 e3 => ?_)
    refine w_ifeq (n1 := 36) (n2 := 25) X3.here hx (hb hby d3_22) (by decide) (by decide) rfl (fun hc22 => absurd hc22 hcs) (fun hc22 => ?_)
    refine w_aloadN (n := 26) X3.here hx (hb hby d3_25) rfl rfl rfl ?_
    refine g_F (n := 29) X3 hx hZ hown (hw _ (List.mem_of_getElem? (i := 67) rfl)) e3 C1 (hb hby d3_26) rfl (fun T4 X4 e4 => ?_)
    refine w_aloadN (n := 30) X4.here hx (hb hby d3_29) rfl rfl rfl ?_
    refine g_F (n := 33) X4 hx hZ hown (hw _ (List.mem_of_getElem? (i := 67) rfl)) e4 C2 (hb hby d3_30) rfl (fun T5 X5 e5 => ?_)
    refine w_icmpne (n1 := 54) (n2 := 36) X5.here hx (hb hby d3_33) (by decide) (by decide) rfl (fun hc33 => absurd rfl hc33) (fun hc33 => ?_)
    refine w_aloadN (n := 37) X5.here hx (hb hby d3_36) rfl rfl rfl ?_
    refine g_F (n := 40) X5 hx hZ hown (hw _ (List.mem_of_getElem? (i := 69) rfl)) e5 F1 (hb hby d3_37) rfl (fun T6 X6 e6 => ?_)
    refine w_aloadN (n := 41) X6.here hx (hb hby d3_40) rfl rfl rfl ?_
    refine g_F (n := 44) X6 hx hZ hown (hw _ (List.mem_of_getElem? (i := 69) rfl)) e6 F2 (hb hby d3_41) rfl (fun T7 X7 e7 => ?_)
    refine c_S (n := 47) (argsL := [(.ref v1), (.ref v2)]) (rest := []) X7 hx hZ hown (rm_le l Z a0 hw [] v1 v2 k1 k2 us vs h0 l1 l2 V1 V2) e7 (hw _ (List.mem_of_getElem? (i := 76) rfl)) (hw _ (List.mem_of_getElem? (i := 77) rfl)) (hw _ (List.mem_of_getElem? (i := 78) rfl)) (hw _ (List.mem_of_getElem? (i := 79) rfl)) (by decide) 0 (by decide) (by decide) (by decide) (by decide) (by rw [hml]; rfl) pd_7 rfl rfl (Nat.le_of_ble_eq_true rfl) (hb hby d3_44) rfl (fun v8 T8 L8 X8 hQ8 => ?_)
    obtain ⟨rfl, rfl, e9⟩ := hQ8
    show Endz _ _ _ _ T8 (mkF m 47 #[.val (.ref a), .val (.ref b), .val (.ref b)] [(.int (if us = vs then 1 else 0))])
    refine w_ifeq (n1 := 54) (n2 := 50) X8.here hx (hb hby d3_47) (by decide) (by decide) rfl (fun hc47 => ?_) (fun hc47 => ?_)
    · refine w_iconst (z := (0 : Int32)) (n := 55) X8.here hx (hb hby d3_54) rfl rfl ?_
      exact fin_Z X8 hx hlk e9 hret (Or.inl rfl) (hb hby d3_55) (by decide) (by decide) ⟨by rw [hc47]; rfl, rfl, rfl⟩
    · refine w_iconst (z := (1 : Int32)) (n := 51) X8.here hx (hb hby d3_50) rfl rfl ?_
      refine w_goto (n := 55) X8.here hx (hb hby d3_51) (by decide) (by decide) ?_
      exact fin_Z X8 hx hlk e9 hret (Or.inl rfl) (hb hby d3_55) (by decide) (by decide) ⟨by rw [if_pos (Classical.byContradiction fun q => hc47 (if_neg q))]; rfl, rfl, rfl⟩
  · refine w_iconst (z := (1 : Int32)) (n := 6) X0.here hx (hb hby d3_5) rfl rfl ?_
    exact fin_Z X0 hx hlk e0 hret (Or.inl rfl) (hb hby d3_6) (by decide) (by decide) ⟨by rw [if_pos (by cases hc2; exact SA'.fun SB')]; rfl, rfl, rfl⟩
theorem ef_eqn (m : MethodId) (a : Addr) : entryFrame m #[.ref a, .null] 3 = mkF m 0 #[.val (.ref a), .val .null, .unset] [] := by first | (simp [entryFrame, mkF, argsToLocals, Value.category]; done) | rfl
set_option maxRecDepth 65536 in
set_option maxHeartbeats 40000000 in
theorem rm_en (l : Launch) (Z : State) (a0 : Array Value) (hw : ∀ d ∈ tables_1, d.before a0 Z = true) (ws : List Jvm.Cond) (a : Addr) (h0 : Heap) :
    Con l Z (⟨"java/lang/String", "equals", "(Ljava/lang/Object;)Z"⟩ : MethodName) jdk_42_method_66_code 3 (some .boolean) ws own_rQ #[.ref a, .null] h0 (fun v h L => v = some (.int 0) ∧ L = [] ∧ h = h0) := by
  refine con_of (plainFor_of_name pn_2) ?_
  intro p e s m below meth c T0 X0 hx hZ hby hml hown hret hnm hlk e0
  refine Endz.eq (ef_eqn m a) ?_
  refine w_aloadN (n := 1) X0.here hx (hb hby d3_0) rfl rfl rfl ?_
  refine w_aloadN (n := 2) X0.here hx (hb hby d3_1) rfl rfl rfl ?_
  refine w_acmpne (n1 := 7) (n2 := 5) X0.here hx rfl rfl (hb hby d3_2) (by decide) (by decide) rfl (fun hc2 => ?_) (fun hc2 => nomatch hc2)
  refine w_aloadN (n := 8) X0.here hx (hb hby d3_7) rfl rfl rfl ?_
  refine i_N (n := 11) X0 hx (hb hby d3_8) rfl ?_
  refine w_ifeq (n1 := 54) (n2 := 14) X0.here hx (hb hby d3_11) (by decide) (by decide) rfl (fun hc11 => ?_) (fun hc11 => absurd rfl hc11)
  refine w_iconst (z := (0 : Int32)) (n := 55) X0.here hx (hb hby d3_54) rfl rfl ?_
  exact fin_Z X0 hx hlk e0 hret (Or.inl rfl) (hb hby d3_55) (by decide) (by decide) ⟨rfl, rfl, rfl⟩
abbrev own_rI2 : Room := { frames := 1, cells := 0, slots := 0, locals := 12 }
abbrev own_rTB : Room := { frames := 0, cells := 1, slots := 1, locals := 0 }
abbrev own_rVO : Room := { frames := 2, cells := 2, slots := 5, locals := 30 }
abbrev own_rO2 : Room := { frames := 0, cells := 1, slots := 22, locals := 0 }
abbrev own_rv : Room := { frames := 1, cells := 1, slots := 2, locals := 14 }
abbrev own_rOf : Room := { frames := 2, cells := 1, slots := 1, locals := 30 }
abbrev own_rFC : Room := { frames := 3, cells := 2, slots := 3, locals := 50 }
def own_ok (ds : List Int32) : Prop := ∀ j, j < ds.length → ¬ 255 < ds.getD j 0
theorem own_ok_set {ds : List Int32} {i : Nat} {x : Int32} (h : own_ok ds) (hx : ¬ 255 < x) : own_ok (ds.set i x) := by
  intro j hj
  rw [List.length_set] at hj
  have := h j hj
  simp only [List.getD_eq_getElem?_getD, List.getElem?_set] at this ⊢
  split
  · split <;> simp_all
  · exact this
theorem own_m255 (x : Int32) : ¬ 255 < (x &&& 255) := by
  have h := c_mask x 255 8 (by decide) (by decide)
  have h2 := Int.emod_lt_of_pos x.toInt (show (0 : Int) < ((2 ^ 8 : Nat) : Int) by decide)
  rw [Int32.lt_iff_toInt_lt, h]
  have h3 : (255 : Int32).toInt = 255 := by decide
  have h4 : ((2 ^ 8 : Nat) : Int) = 256 := rfl
  omega
theorem own_sh (x : Int32) : ¬ ((x.toUInt32 >>> ((16 : Int32) &&& 31).toUInt32).toInt32 % 21 < 0) ∧ (x.toUInt32 >>> ((16 : Int32) &&& 31).toUInt32).toInt32 % 21 < 21 ∧ ((x.toUInt32 >>> ((16 : Int32) &&& 31).toUInt32).toInt32 % 21).toNatClampNeg < 21 := by
  have h := c_iushr x 16 16 (by decide) (by decide)
  have h1 : 0 ≤ (x.toInt % 4294967296) / ((2 ^ 16 : Nat) : Int) := Int.ediv_nonneg (Int.emod_nonneg _ (by decide)) (by decide)
  generalize (x.toUInt32 >>> ((16 : Int32) &&& 31).toUInt32).toInt32 = y at h ⊢
  have h2 := (c_irem y 21 21 (by decide)).1 (by omega)
  have h3 := Int.emod_nonneg y.toInt (show (21 : Int) ≠ 0 by decide)
  have h4 := Int.emod_lt_of_pos y.toInt (show (0 : Int) < 21 by decide)
  generalize y % 21 = n at h2 ⊢
  have h5 : ¬ n < 0 := by rw [Int32.lt_iff_toInt_lt, i0_toInt]; omega
  have h6 := nat_of h5
  have h7 : (21 : Int32).toInt = 21 := by decide
  exact ⟨h5, by rw [Int32.lt_iff_toInt_lt, h7]; omega, by omega⟩
def own_sA (o : Slot) : Prop := o = .unset ∨ ∃ q, o = .val (.ref q)
theorem ef_8 (m : MethodId) (x : Int32) : entryFrame m #[(.int x)] 1 = mkF m 0 #[.val (.int x)] [] := by first | (simp [entryFrame, mkF, argsToLocals, Value.category]; done) | rfl
set_option maxRecDepth 65536 in
set_option maxHeartbeats 40000000 in
theorem rm_ce (l : Launch) (Z : State) (a0 : Array Value) (hw : ∀ d ∈ tables_1, d.before a0 Z = true) (ws : List Jvm.Cond) (x : Int32) (hle : ¬ 255 < x) (h0 : Heap) :
    Con l Z (⟨"java/lang/StringLatin1", "canEncode", "(C)Z"⟩ : MethodName) jdk_43_method_3_code 1 (some .boolean) ws own_r0 #[.int x] h0 (fun v h L => v = some (.int 1) ∧ L = [] ∧ h = h0) := by
  refine con_of (plainFor_of_name pn_6) ?_
  intro p e s m below meth c T0 X0 hx hZ hby hml hown hret hnm hlk e0
  refine Endz.eq (ef_8 m x) ?_
  refine w_iloadN (n := 1) X0.here hx (hb hby d14_0) rfl rfl ?_
  refine w_sipush (z := (255 : Int32)) (n := 4) X0.here hx (hb hby d14_1) rfl rfl ?_
  refine w_icmpgt (n1 := 11) (n2 := 7) X0.here hx (hb hby d14_4) (by decide) (by decide) rfl (fun hc4 => absurd hc4 hle) (fun hc4 => ?_)
  refine w_iconst (z := (1 : Int32)) (n := 8) X0.here hx (hb hby d14_7) rfl rfl ?_
  refine w_goto (n := 12) X0.here hx (hb hby d14_8) (by decide) (by decide) ?_
  exact fin_Z X0 hx hlk e0 hret (Or.inl rfl) (hb hby d14_12) (by decide) (by decide) ⟨rfl, rfl, rfl⟩
theorem ef_9 (m : MethodId) (x : Int32) : entryFrame m #[(.int x)] 1 = mkF m 0 #[.val (.int x)] [] := by first | (simp [entryFrame, mkF, argsToLocals, Value.category]; done) | rfl
set_option maxRecDepth 65536 in
set_option maxHeartbeats 40000000 in
theorem rm_tb (l : Launch) (Z : State) (a0 : Array Value) (hw : ∀ d ∈ tables_1, d.before a0 Z = true) (ws : List Jvm.Cond) (x : Int32) (h0 : Heap) :
    Con l Z (⟨"java/lang/StringLatin1", "toBytes", "(C)[B"⟩ : MethodName) jdk_43_method_46_code 1 (some (.array .byte)) ws own_rTB #[.int x] h0 (fun v h L => ∃ b k, v = some (.ref b) ∧ h0.size ≤ b ∧ Ext h0 h ∧ Arv Z h b k .byte 1 [.int (own_by x)] (.int 0) ∧ Fr h0.size L) := by
  refine con_of (plainFor_of_name pn_6) ?_
  intro p e s m below meth c T0 X0 hx hZ hby hml hown hret hnm hlk e0
  refine Endz.eq (ef_9 m x) ?_
  refine w_iconst (z := (1 : Int32)) (n := 1) X0.here hx (hb hby d15_0) rfl rfl ?_
  refine n_P (n := 3) X0 hx hZ (hw _ (List.mem_of_getElem? (i := 60) rfl)) e0 (hb hby d15_1) rfl (by decide) 1 (by decide) (by decide) (by decide) (by decide) (fun T1 h1 k1 b1 g1 X1 e1 E1 V1 => ?_)
  refine w_dup (n := 4) X1.here hx (hb hby d15_3) rfl rfl ?_
  refine w_iconst (z := (0 : Int32)) (n := 5) X1.here hx (hb hby d15_4) rfl rfl ?_
  refine w_iloadN (n := 6) X1.here hx (hb hby d15_5) rfl rfl ?_
  refine w_i2b (n := 7) X1.here hx (hb hby d15_6) rfl ?_
  refine s_B (n := 8) X1 hx hZ e1 (pad0 V1 1) 0 rfl (by decide) (by decide) (by decide) (hb hby d15_7) rfl (fun T9 h9 X9 e9 W9 V9 => ?_)
  have gb : h0.size ≤ b1 := Nat.le_of_eq g1.symm
  exact fin_A X9 hx hlk e9 hret rfl rfl rfl (hb hby d15_8) (by decide) (by decide) ⟨_, _, rfl, gb, Ext.wr E1 W9 gb, V9, Fr.snoc X9 (Fr.nil _) gb⟩
theorem ef_10 (m : MethodId) (th : Addr) (b : Addr) (z : Int32) : entryFrame m #[(.ref th), (.ref b), (.int z)] 3 = mkF m 0 #[.val (.ref th), .val (.ref b), .val (.int z)] [] := by first | (simp [entryFrame, mkF, argsToLocals, Value.category]; done) | rfl
set_option maxRecDepth 65536 in
set_option maxHeartbeats 40000000 in
theorem rm_i2 (l : Launch) (Z : State) (a0 : Array Value) (hw : ∀ d ∈ tables_1, d.before a0 Z = true) (ws : List Jvm.Cond) (th b : Addr) (kb : ClassId) (zz : Int32) (vs : List Int32) (h0 : Heap) (VB : Arv Z h0 b kb .byte zz (vs.map Value.int) (.int 0)) (hz0 : ¬ zz < 0) (hzl : zz.toNatClampNeg = vs.length) (hbt : b ≠ th) (A : Exa Z h0 th "java/lang/String") (o1 o2 : Value) (FC : Fld Z h0 th "java/lang/String" "coder" "B" o1) (FV : Fld Z h0 th "java/lang/String" "value" "[B" o2) :
    Con l Z (⟨"java/lang/String", "<init>", "([BB)V"⟩ : MethodName) jdk_42_method_151_code 3 none ws own_rI2 #[.ref th, .ref b, .int 0] h0 (fun v h L => v = none ∧ Strz Z h th vs ∧ Keep h0 h [th] ∧ ∀ n0, n0 ≤ th → Fr n0 L) := by
  refine con_of (plainFor_of_name pn_2) ?_
  intro p e s m below meth c T0 X0 hx hZ hby hml hown hret hnm hlk e0
  refine Endz.eq (ef_10 m th b 0) ?_
  refine w_aloadN (n := 1) X0.here hx (hb hby d16_0) rfl rfl rfl ?_
  refine c_O (n := 4) X0 hx hZ hown (hw _ (List.mem_of_getElem? (i := 52) rfl)) (hw _ (List.mem_of_getElem? (i := 53) rfl)) (hw _ (List.mem_of_getElem? (i := 54) rfl)) e0 (by rw [hml]; rfl) (hb hby d16_1) rfl 0 (by decide) (Nat.le_of_ble_eq_true rfl) (by decide) (fun T1 X1 e1 => ?_)
  refine w_aloadN (n := 5) X1.here hx (hb hby d16_4) rfl rfl rfl ?_
  refine w_aloadN (n := 6) X1.here hx (hb hby d16_5) rfl rfl rfl ?_
  refine p_F (n := 9) (ty := (.array .byte)) X1 hx hZ hown (hw _ (List.mem_of_getElem? (i := 69) rfl)) e1 FV A (Or.inr ⟨(hw _ (List.mem_of_getElem? (i := 70) rfl)), rfl, hnm⟩) (hw _ (List.mem_of_getElem? (i := 43) rfl)) (by decide +kernel) rfl rfl (hb hby d16_6) rfl (fun T2 h2 X2 e2 W2 => ?_)
  refine w_aloadN (n := 10) X2.here hx (hb hby d16_9) rfl rfl rfl ?_
  refine w_iloadN (n := 11) X2.here hx (hb hby d16_10) rfl rfl ?_
  refine p_F (n := 14) (ty := .byte) X2 hx hZ hown (hw _ (List.mem_of_getElem? (i := 67) rfl)) e2 (FC.other W2 (Or.inr (slot_ne (Or.inr (hw _ (List.mem_of_getElem? (i := 68) rfl))) (Or.inr (hw _ (List.mem_of_getElem? (i := 70) rfl))) (by decide) (t := .byte) (t' := (.array .byte)) (by decide +kernel) (by decide +kernel)))) (A.wr W2) (Or.inr ⟨(hw _ (List.mem_of_getElem? (i := 68) rfl)), rfl, hnm⟩) (hw _ (List.mem_of_getElem? (i := 43) rfl)) (by decide +kernel) rfl rfl (hb hby d16_11) rfl (fun T3 h3 X3 e3 W3 => ?_)
  have GV := (FV.same W2).other W3 (Or.inr (slot_ne (Or.inr (hw _ (List.mem_of_getElem? (i := 70) rfl))) (Or.inr (hw _ (List.mem_of_getElem? (i := 68) rfl))) (by decide) (t := (.array .byte)) (t' := .byte) (by decide +kernel) (by decide +kernel)))
  have GC := (FC.other W2 (Or.inr (slot_ne (Or.inr (hw _ (List.mem_of_getElem? (i := 68) rfl))) (Or.inr (hw _ (List.mem_of_getElem? (i := 70) rfl))) (by decide) (t := .byte) (t' := (.array .byte)) (by decide +kernel) (by decide +kernel)))).same W3
  have GB := (VB.other W2 hbt).other W3 hbt
  exact fin_V X3 hx hlk e3 hret (hb hby d16_14) (by decide) (by decide) ⟨rfl, ⟨(A.wr W2).wr W3, GC, b, kb, _, GV, GB, hz0, hzl⟩, ((Keep.refl h0 [th]).wr W2 (Or.inl (List.mem_singleton.mpr rfl))).wr W3 (Or.inl (List.mem_singleton.mpr rfl)), fun n0 q => Fr.snoc X3 (Fr.snoc X2 (Fr.nil n0) q) q⟩
theorem ef_11 (m : MethodId) (x : Int32) : entryFrame m #[(.int x)] 1 = mkF m 0 #[.val (.int x)] [] := by first | (simp [entryFrame, mkF, argsToLocals, Value.category]; done) | rfl
theorem pd_8 : parseMethodDescriptor "(C)Z" = some ⟨[.char], some .boolean⟩ := by decide +kernel
theorem pd_9 : parseMethodDescriptor "(C)[B" = some ⟨[.char], some (.array .byte)⟩ := by decide +kernel
theorem pd_10 : parseMethodDescriptor "([BB)V" = some ⟨[(.array .byte), .byte], none⟩ := by decide +kernel
set_option maxRecDepth 65536 in
set_option maxHeartbeats 40000000 in
theorem rm_vo (l : Launch) (Z : State) (a0 : Array Value) (hw : ∀ d ∈ tables_1, d.before a0 Z = true) (ws : List Jvm.Cond) (x : Int32) (hle : ¬ 255 < x) (h0 : Heap) (cs : Int32) (hcs : cs ≠ 0) (SC : Sta Z h0 "java/lang/String" "COMPACT_STRINGS" "Z" (.int cs)) :
    Con l Z (⟨"java/lang/String", "valueOf", "(C)Ljava/lang/String;"⟩ : MethodName) jdk_42_method_139_code 1 (some (.object "java/lang/String")) ws own_rVO #[.int x] h0 (fun v h L => ∃ th us, v = some (.ref th) ∧ Strz Z h th us ∧ Ext h0 h ∧ Fr h0.size L) := by
  refine con_of (plainFor_of_name pn_2) ?_
  intro p e s m below meth c T0 X0 hx hZ hby hml hown hret hnm hlk e0
  refine Endz.eq (ef_11 m x) ?_
  refine g_S (n := 3) X0 hx hZ hown (hw _ (List.mem_of_getElem? (i := 55) rfl)) e0 SC (hb hby d13_0) rfl (fun T1 X1 e1 => ?_)
  refine w_ifeq (n1 := 26) (n2 := 6) X1.here hx (hb hby d13_3) (by decide) (by decide) rfl (fun hc3 => absurd hc3 hcs) (fun hc3 => ?_)
  refine w_iloadN (n := 7) X1.here hx (hb hby d13_6) rfl rfl ?_
  refine c_S (n := 10) (argsL := [(.int x)]) (rest := []) X1 hx hZ hown (rm_ce l Z a0 hw [] x hle h0) e1 (hw _ (List.mem_of_getElem? (i := 84) rfl)) (hw _ (List.mem_of_getElem? (i := 85) rfl)) (hw _ (List.mem_of_getElem? (i := 78) rfl)) (hw _ (List.mem_of_getElem? (i := 86) rfl)) (by decide) 0 (by decide) (by decide) (by decide) (by decide) (by rw [hml]; rfl) pd_8 rfl rfl (Nat.le_of_ble_eq_true rfl) (hb hby d13_7) rfl (fun v2 T2 L2 X2 hQ2 => ?_)
  obtain ⟨rfl, rfl, e9⟩ := hQ2
  show Endz _ _ _ _ T2 (mkF m 10 #[.val (.int x)] [(.int (1 : Int32))])
  refine w_ifeq (n1 := 26) (n2 := 13) X2.here hx (hb hby d13_10) (by decide) (by decide) rfl (fun hc10 => absurd hc10 (by decide)) (fun hc10 => ?_)
  refine n_O (n := 16) X2 hx hZ hown (hw _ (List.mem_of_getElem? (i := 75) rfl)) (hw _ (List.mem_of_getElem? (i := 43) rfl)) (hw _ (List.mem_of_getElem? (i := 28) rfl)) e9 (hb hby d13_13) rfl (by decide) (by decide) (fun T3 h3 b3 g3 X3 e3 E3 A3 D3 U3 => ?_)
  refine w_dup (n := 17) X3.here hx (hb hby d13_16) rfl rfl ?_
  refine w_iloadN (n := 18) X3.here hx (hb hby d13_17) rfl rfl ?_
  have FC := D3 (O := "java/lang/String") (nm := "coder") (d := "B") (ty := .byte) (Or.inr (hw _ (List.mem_of_getElem? (i := 68) rfl))) (by decide +kernel)
  have FV := D3 (O := "java/lang/String") (nm := "value") (d := "[B") (ty := .array .byte) (Or.inr (hw _ (List.mem_of_getElem? (i := 70) rfl))) (by decide +kernel)
  refine c_S (n := 21) (argsL := [(.int x)]) (rest := [(.ref b3), (.ref b3)]) X3 hx hZ hown (rm_tb l Z a0 hw [] x h3) e3 (hw _ (List.mem_of_getElem? (i := 87) rfl)) (hw _ (List.mem_of_getElem? (i := 88) rfl)) (hw _ (List.mem_of_getElem? (i := 78) rfl)) (hw _ (List.mem_of_getElem? (i := 89) rfl)) (by decide) 2 (by decide) (by decide) (by decide) (by decide) (by rw [hml]; rfl) pd_9 rfl rfl (Nat.le_of_ble_eq_true rfl) (hb hby d13_18) rfl (fun v4 T4 L4 X4 hQ4 => ?_)
  obtain ⟨b, kb, rfl, hbg, E9, VB, N9⟩ := hQ4
  show Endz _ _ _ _ T4 (mkF m 21 #[.val (.int x)] [(.ref b), (.ref b3), (.ref b3)])
  refine w_iconst (z := (0 : Int32)) (n := 22) X4.here hx (hb hby d13_21) rfl rfl ?_
  have hbt : b ≠ b3 := fun q => Nat.lt_irrefl _ (Nat.lt_of_lt_of_le A3.lt (q ▸ hbg))
  refine c_N (n := 25) (b := b3) (argsL := [(.ref b), (.int (0 : Int32))]) (rest := [(.ref b3)]) X4 hx hZ rfl hown (rm_i2 l Z a0 hw [] b3 b kb 1 [own_by x] _ VB (by decide) rfl hbt (A3.ext E9) _ _ (FC.ext E9) (FV.ext E9)) rfl (hw _ (List.mem_of_getElem? (i := 90) rfl)) (hw _ (List.mem_of_getElem? (i := 91) rfl)) (hw _ (List.mem_of_getElem? (i := 28) rfl)) (hw _ (List.mem_of_getElem? (i := 92) rfl)) (by decide) 1 (by decide) (by decide) (by decide) (by decide) (by rw [hml]; rfl) pd_10 rfl rfl (Nat.le_of_ble_eq_true rfl) (hb hby d13_22) rfl (fun v5 T5 L5 X5 hQ5 => ?_)
  obtain ⟨rfl, S1, K1, N1⟩ := hQ5
  show Endz _ _ _ _ T5 (mkF m 25 #[.val (.int x)] [(.ref b3)])
  have gb : h0.size ≤ b3 := Nat.le_of_eq g3.symm
  exact fin_A X5 hx hlk rfl hret rfl rfl rfl (hb hby d13_25) (by decide) (by decide) ⟨b3, _, rfl, S1, Ext.keep1 (Ext.tr E3 E9) K1 gb, ((Fr.nil _).app (fun y hy => Nat.le_trans E3.1 (N9 y hy))).app (N1 _ gb)⟩
theorem ef_12 (m : MethodId) (d : Int32) : entryFrame m #[(.int d)] 1 = mkF m 0 #[.val (.int d)] [] := by first | (simp [entryFrame, mkF, argsToLocals, Value.category]; done) | rfl
theorem pn_11 : plainName "com/example/legitka/legitka/CardKindForContentTypePinLaw" = true := by first | (simp [plainName, overriddenIn]; done) | decide +kernel
def own_oid21 (d : Int32) : List Int32 := [49, 46, 50, 46, 54, 49, 54, 46, 49, 46, 49, 48, 49, 46, 52, 46, 49, 46, nar .char d, 46, 49]
set_option maxRecDepth 65536 in
set_option maxHeartbeats 40000000 in
theorem rm_oid21 (l : Launch) (Z : State) (a0 : Array Value) (hw : ∀ d ∈ tables_1, d.before a0 Z = true) (ws : List Jvm.Cond) (d : Int32) (h0 : Heap) :
    Con l Z (⟨"com/example/legitka/legitka/CardKindForContentTypePinLaw", "oid21", "(C)[C"⟩ : MethodName) method_2_code 1 (some (.array .char)) ws own_rO2 #[.int d] h0 (fun v h L => ∃ b k, v = some (.ref b) ∧ h0.size ≤ b ∧ Ext h0 h ∧ Arv Z h b k .char (21 : Int32) ((own_oid21 d).map Value.int) (.int 0) ∧ Fr h0.size L) := by
  refine con_of (plainFor_of_name pn_11) ?_
  intro p e s m below meth c T0 X0 hx hZ hby hml hown hret hnm hlk e0
  refine Endz.eq (ef_12 m d) ?_
  refine w_bipush (z := (21 : Int32)) (n := 2) X0.here hx (hb hby d17_0) rfl rfl ?_
  refine n_P (n := 4) X0 hx hZ (hw _ (List.mem_of_getElem? (i := 44) rfl)) e0 (hb hby d17_2) rfl (by decide) 22 (by decide) (by decide) (by decide) (by decide) (fun T1 h1 k1 b1 g1 X1 e1 E1 V1 => ?_)
  have gb : h0.size ≤ b1 := Nat.le_of_eq g1.symm
  have N1 := Fr.nil h0.size
  have V101 := pad0 V1 21
  refine w_dup (n := 5) X1.here hx (hb hby d17_4) rfl rfl ?_
  refine w_iconst (z := (0 : Int32)) (n := 6) X1.here hx (hb hby d17_5) rfl rfl ?_
  refine w_bipush (z := (49 : Int32)) (n := 8) X1.here hx (hb hby d17_6) rfl rfl ?_
  refine s_C (n := 9) X1 hx hZ e1 V101 0 rfl (Nat.le_of_ble_eq_true rfl) (by decide) (by decide) (hb hby d17_8) rfl (fun T2 h2 X2 e2 W2 (V2 : Arv Z h2 b1 k1 .char (21 : Int32) [.int (49 : Int32), .int (0 : Int32), .int (0 : Int32), .int (0 : Int32), .int (0 : Int32), .int (0 : Int32), .int (0 : Int32), .int (0 : Int32), .int (0 : Int32), .int (0 : Int32), .int (0 : Int32), .int (0 : Int32), .int (0 : Int32), .int (0 : Int32), .int (0 : Int32), .int (0 : Int32), .int (0 : Int32), .int (0 : Int32), .int (0 : Int32), .int (0 : Int32), .int (0 : Int32)] (.int 0)) => ?_)
  have E2 := Ext.wr E1 W2 gb
  have N2 := Fr.snoc X2 N1 gb
  refine w_dup (n := 10) X2.here hx (hb hby d17_9) rfl rfl ?_
  refine w_iconst (z := (1 : Int32)) (n := 11) X2.here hx (hb hby d17_10) rfl rfl ?_
  refine w_bipush (z := (46 : Int32)) (n := 13) X2.here hx (hb hby d17_11) rfl rfl ?_
  refine s_C (n := 14) X2 hx hZ e2 V2 1 rfl (Nat.le_of_ble_eq_true rfl) (by decide) (by decide) (hb hby d17_13) rfl (fun T3 h3 X3 e3 W3 (V3 : Arv Z h3 b1 k1 .char (21 : Int32) [.int (49 : Int32), .int (46 : Int32), .int (0 : Int32), .int (0 : Int32), .int (0 : Int32), .int (0 : Int32), .int (0 : Int32), .int (0 : Int32), .int (0 : Int32), .int (0 : Int32), .int (0 : Int32), .int (0 : Int32), .int (0 : Int32), .int (0 : Int32), .int (0 : Int32), .int (0 : Int32), .int (0 : Int32), .int (0 : Int32), .int (0 : Int32), .int (0 : Int32), .int (0 : Int32)] (.int 0)) => ?_)
  have E3 := Ext.wr E2 W3 gb
  have N3 := Fr.snoc X3 N2 gb
  refine w_dup (n := 15) X3.here hx (hb hby d17_14) rfl rfl ?_
  refine w_iconst (z := (2 : Int32)) (n := 16) X3.here hx (hb hby d17_15) rfl rfl ?_
  refine w_bipush (z := (50 : Int32)) (n := 18) X3.here hx (hb hby d17_16) rfl rfl ?_
  refine s_C (n := 19) X3 hx hZ e3 V3 2 rfl (Nat.le_of_ble_eq_true rfl) (by decide) (by decide) (hb hby d17_18) rfl (fun T4 h4 X4 e4 W4 (V4 : Arv Z h4 b1 k1 .char (21 : Int32) [.int (49 : Int32), .int (46 : Int32), .int (50 : Int32), .int (0 : Int32), .int (0 : Int32), .int (0 : Int32), .int (0 : Int32), .int (0 : Int32), .int (0 : Int32), .int (0 : Int32), .int (0 : Int32), .int (0 : Int32), .int (0 : Int32), .int (0 : Int32), .int (0 : Int32), .int (0 : Int32), .int (0 : Int32), .int (0 : Int32), .int (0 : Int32), .int (0 : Int32), .int (0 : Int32)] (.int 0)) => ?_)
  have E4 := Ext.wr E3 W4 gb
  have N4 := Fr.snoc X4 N3 gb
  refine w_dup (n := 20) X4.here hx (hb hby d17_19) rfl rfl ?_
  refine w_iconst (z := (3 : Int32)) (n := 21) X4.here hx (hb hby d17_20) rfl rfl ?_
  refine w_bipush (z := (46 : Int32)) (n := 23) X4.here hx (hb hby d17_21) rfl rfl ?_
  refine s_C (n := 24) X4 hx hZ e4 V4 3 rfl (Nat.le_of_ble_eq_true rfl) (by decide) (by decide) (hb hby d17_23) rfl (fun T5 h5 X5 e5 W5 (V5 : Arv Z h5 b1 k1 .char (21 : Int32) [.int (49 : Int32), .int (46 : Int32), .int (50 : Int32), .int (46 : Int32), .int (0 : Int32), .int (0 : Int32), .int (0 : Int32), .int (0 : Int32), .int (0 : Int32), .int (0 : Int32), .int (0 : Int32), .int (0 : Int32), .int (0 : Int32), .int (0 : Int32), .int (0 : Int32), .int (0 : Int32), .int (0 : Int32), .int (0 : Int32), .int (0 : Int32), .int (0 : Int32), .int (0 : Int32)] (.int 0)) => ?_)
  have E5 := Ext.wr E4 W5 gb
  have N5 := Fr.snoc X5 N4 gb
  refine w_dup (n := 25) X5.here hx (hb hby d17_24) rfl rfl ?_
  refine w_iconst (z := (4 : Int32)) (n := 26) X5.here hx (hb hby d17_25) rfl rfl ?_
  refine w_bipush (z := (54 : Int32)) (n := 28) X5.here hx (hb hby d17_26) rfl rfl ?_
  refine s_C (n := 29) X5 hx hZ e5 V5 4 rfl (Nat.le_of_ble_eq_true rfl) (by decide) (by decide) (hb hby d17_28) rfl (fun T6 h6 X6 e6 W6 (V6 : Arv Z h6 b1 k1 .char (21 : Int32) [.int (49 : Int32), .int (46 : Int32), .int (50 : Int32), .int (46 : Int32), .int (54 : Int32), .int (0 : Int32), .int (0 : Int32), .int (0 : Int32), .int (0 : Int32), .int (0 : Int32), .int (0 : Int32), .int (0 : Int32), .int (0 : Int32), .int (0 : Int32), .int (0 : Int32), .int (0 : Int32), .int (0 : Int32), .int (0 : Int32), .int (0 : Int32), .int (0 : Int32), .int (0 : Int32)] (.int 0)) => ?_)
  have E6 := Ext.wr E5 W6 gb
  have N6 := Fr.snoc X6 N5 gb
  refine w_dup (n := 30) X6.here hx (hb hby d17_29) rfl rfl ?_
  refine w_iconst (z := (5 : Int32)) (n := 31) X6.here hx (hb hby d17_30) rfl rfl ?_
  refine w_bipush (z := (49 : Int32)) (n := 33) X6.here hx (hb hby d17_31) rfl rfl ?_
  refine s_C (n := 34) X6 hx hZ e6 V6 5 rfl (Nat.le_of_ble_eq_true rfl) (by decide) (by decide) (hb hby d17_33) rfl (fun T7 h7 X7 e7 W7 (V7 : Arv Z h7 b1 k1 .char (21 : Int32) [.int (49 : Int32), .int (46 : Int32), .int (50 : Int32), .int (46 : Int32), .int (54 : Int32), .int (49 : Int32), .int (0 : Int32), .int (0 : Int32), .int (0 : Int32), .int (0 : Int32), .int (0 : Int32), .int (0 : Int32), .int (0 : Int32), .int (0 : Int32), .int (0 : Int32), .int (0 : Int32), .int (0 : Int32), .int (0 : Int32), .int (0 : Int32), .int (0 : Int32), .int (0 : Int32)] (.int 0)) => ?_)
  have E7 := Ext.wr E6 W7 gb
  have N7 := Fr.snoc X7 N6 gb
  refine w_dup (n := 35) X7.here hx (hb hby d17_34) rfl rfl ?_
  refine w_bipush (z := (6 : Int32)) (n := 37) X7.here hx (hb hby d17_35) rfl rfl ?_
  refine w_bipush (z := (54 : Int32)) (n := 39) X7.here hx (hb hby d17_37) rfl rfl ?_
  refine s_C (n := 40) X7 hx hZ e7 V7 6 rfl (Nat.le_of_ble_eq_true rfl) (by decide) (by decide) (hb hby d17_39) rfl (fun T8 h8 X8 e8 W8 (V8 : Arv Z h8 b1 k1 .char (21 : Int32) [.int (49 : Int32), .int (46 : Int32), .int (50 : Int32), .int (46 : Int32), .int (54 : Int32), .int (49 : Int32), .int (54 : Int32), .int (0 : Int32), .int (0 : Int32), .int (0 : Int32), .int (0 : Int32), .int (0 : Int32), .int (0 : Int32), .int (0 : Int32), .int (0 : Int32), .int (0 : Int32), .int (0 : Int32), .int (0 : Int32), .int (0 : Int32), .int (0 : Int32), .int (0 : Int32)] (.int 0)) => ?_)
  have E8 := Ext.wr E7 W8 gb
  have N8 := Fr.snoc X8 N7 gb
  refine w_dup (n := 41) X8.here hx (hb hby d17_40) rfl rfl ?_
  refine w_bipush (z := (7 : Int32)) (n := 43) X8.here hx (hb hby d17_41) rfl rfl ?_
  refine w_bipush (z := (46 : Int32)) (n := 45) X8.here hx (hb hby d17_43) rfl rfl ?_
  refine s_C (n := 46) X8 hx hZ e8 V8 7 rfl (Nat.le_of_ble_eq_true rfl) (by decide) (by decide) (hb hby d17_45) rfl (fun T9 h9 X9 e9 W9 (V9 : Arv Z h9 b1 k1 .char (21 : Int32) [.int (49 : Int32), .int (46 : Int32), .int (50 : Int32), .int (46 : Int32), .int (54 : Int32), .int (49 : Int32), .int (54 : Int32), .int (46 : Int32), .int (0 : Int32), .int (0 : Int32), .int (0 : Int32), .int (0 : Int32), .int (0 : Int32), .int (0 : Int32), .int (0 : Int32), .int (0 : Int32), .int (0 : Int32), .int (0 : Int32), .int (0 : Int32), .int (0 : Int32), .int (0 : Int32)] (.int 0)) => ?_)
  have E9 := Ext.wr E8 W9 gb
  have N9 := Fr.snoc X9 N8 gb
  refine w_dup (n := 47) X9.here hx (hb hby d17_46) rfl rfl ?_
  refine w_bipush (z := (8 : Int32)) (n := 49) X9.here hx (hb hby d17_47) rfl rfl ?_
  refine w_bipush (z := (49 : Int32)) (n := 51) X9.here hx (hb hby d17_49) rfl rfl ?_
  refine s_C (n := 52) X9 hx hZ e9 V9 8 rfl (Nat.le_of_ble_eq_true rfl) (by decide) (by decide) (hb hby d17_51) rfl (fun T10 h10 X10 e10 W10 (V10 : Arv Z h10 b1 k1 .char (21 : Int32) [.int (49 : Int32), .int (46 : Int32), .int (50 : Int32), .int (46 : Int32), .int (54 : Int32), .int (49 : Int32), .int (54 : Int32), .int (46 : Int32), .int (49 : Int32), .int (0 : Int32), .int (0 : Int32), .int (0 : Int32), .int (0 : Int32), .int (0 : Int32), .int (0 : Int32), .int (0 : Int32), .int (0 : Int32), .int (0 : Int32), .int (0 : Int32), .int (0 : Int32), .int (0 : Int32)] (.int 0)) => ?_)
  have E10 := Ext.wr E9 W10 gb
  have N10 := Fr.snoc X10 N9 gb
  refine w_dup (n := 53) X10.here hx (hb hby d17_52) rfl rfl ?_
  refine w_bipush (z := (9 : Int32)) (n := 55) X10.here hx (hb hby d17_53) rfl rfl ?_
  refine w_bipush (z := (46 : Int32)) (n := 57) X10.here hx (hb hby d17_55) rfl rfl ?_
  refine s_C (n := 58) X10 hx hZ e10 V10 9 rfl (Nat.le_of_ble_eq_true rfl) (by decide) (by decide) (hb hby d17_57) rfl (fun T11 h11 X11 e11 W11 (V11 : Arv Z h11 b1 k1 .char (21 : Int32) [.int (49 : Int32), .int (46 : Int32), .int (50 : Int32), .int (46 : Int32), .int (54 : Int32), .int (49 : Int32), .int (54 : Int32), .int (46 : Int32), .int (49 : Int32), .int (46 : Int32), .int (0 : Int32), .int (0 : Int32), .int (0 : Int32), .int (0 : Int32), .int (0 : Int32), .int (0 : Int32), .int (0 : Int32), .int (0 : Int32), .int (0 : Int32), .int (0 : Int32), .int (0 : Int32)] (.int 0)) => ?_)
  have E11 := Ext.wr E10 W11 gb
  have N11 := Fr.snoc X11 N10 gb
  refine w_dup (n := 59) X11.here hx (hb hby d17_58) rfl rfl ?_
  refine w_bipush (z := (10 : Int32)) (n := 61) X11.here hx (hb hby d17_59) rfl rfl ?_
  refine w_bipush (z := (49 : Int32)) (n := 63) X11.here hx (hb hby d17_61) rfl rfl ?_
  refine s_C (n := 64) X11 hx hZ e11 V11 10 rfl (Nat.le_of_ble_eq_true rfl) (by decide) (by decide) (hb hby d17_63) rfl (fun T12 h12 X12 e12 W12 (V12 : Arv Z h12 b1 k1 .char (21 : Int32) [.int (49 : Int32), .int (46 : Int32), .int (50 : Int32), .int (46 : Int32), .int (54 : Int32), .int (49 : Int32), .int (54 : Int32), .int (46 : Int32), .int (49 : Int32), .int (46 : Int32), .int (49 : Int32), .int (0 : Int32), .int (0 : Int32), .int (0 : Int32), .int (0 : Int32), .int (0 : Int32), .int (0 : Int32), .int (0 : Int32), .int (0 : Int32), .int (0 : Int32), .int (0 : Int32)] (.int 0)) => ?_)
  have E12 := Ext.wr E11 W12 gb
  have N12 := Fr.snoc X12 N11 gb
  refine w_dup (n := 65) X12.here hx (hb hby d17_64) rfl rfl ?_
  refine w_bipush (z := (11 : Int32)) (n := 67) X12.here hx (hb hby d17_65) rfl rfl ?_
  refine w_bipush (z := (48 : Int32)) (n := 69) X12.here hx (hb hby d17_67) rfl rfl ?_
  refine s_C (n := 70) X12 hx hZ e12 V12 11 rfl (Nat.le_of_ble_eq_true rfl) (by decide) (by decide) (hb hby d17_69) rfl (fun T13 h13 X13 e13 W13 (V13 : Arv Z h13 b1 k1 .char (21 : Int32) [.int (49 : Int32), .int (46 : Int32), .int (50 : Int32), .int (46 : Int32), .int (54 : Int32), .int (49 : Int32), .int (54 : Int32), .int (46 : Int32), .int (49 : Int32), .int (46 : Int32), .int (49 : Int32), .int (48 : Int32), .int (0 : Int32), .int (0 : Int32), .int (0 : Int32), .int (0 : Int32), .int (0 : Int32), .int (0 : Int32), .int (0 : Int32), .int (0 : Int32), .int (0 : Int32)] (.int 0)) => ?_)
  have E13 := Ext.wr E12 W13 gb
  have N13 := Fr.snoc X13 N12 gb
  refine w_dup (n := 71) X13.here hx (hb hby d17_70) rfl rfl ?_
  refine w_bipush (z := (12 : Int32)) (n := 73) X13.here hx (hb hby d17_71) rfl rfl ?_
  refine w_bipush (z := (49 : Int32)) (n := 75) X13.here hx (hb hby d17_73) rfl rfl ?_
  refine s_C (n := 76) X13 hx hZ e13 V13 12 rfl (Nat.le_of_ble_eq_true rfl) (by decide) (by decide) (hb hby d17_75) rfl (fun T14 h14 X14 e14 W14 (V14 : Arv Z h14 b1 k1 .char (21 : Int32) [.int (49 : Int32), .int (46 : Int32), .int (50 : Int32), .int (46 : Int32), .int (54 : Int32), .int (49 : Int32), .int (54 : Int32), .int (46 : Int32), .int (49 : Int32), .int (46 : Int32), .int (49 : Int32), .int (48 : Int32), .int (49 : Int32), .int (0 : Int32), .int (0 : Int32), .int (0 : Int32), .int (0 : Int32), .int (0 : Int32), .int (0 : Int32), .int (0 : Int32), .int (0 : Int32)] (.int 0)) => ?_)
  have E14 := Ext.wr E13 W14 gb
  have N14 := Fr.snoc X14 N13 gb
  refine w_dup (n := 77) X14.here hx (hb hby d17_76) rfl rfl ?_
  refine w_bipush (z := (13 : Int32)) (n := 79) X14.here hx (hb hby d17_77) rfl rfl ?_
  refine w_bipush (z := (46 : Int32)) (n := 81) X14.here hx (hb hby d17_79) rfl rfl ?_
  refine s_C (n := 82) X14 hx hZ e14 V14 13 rfl (Nat.le_of_ble_eq_true rfl) (by decide) (by decide) (hb hby d17_81) rfl (fun T15 h15 X15 e15 W15 (V15 : Arv Z h15 b1 k1 .char (21 : Int32) [.int (49 : Int32), .int (46 : Int32), .int (50 : Int32), .int (46 : Int32), .int (54 : Int32), .int (49 : Int32), .int (54 : Int32), .int (46 : Int32), .int (49 : Int32), .int (46 : Int32), .int (49 : Int32), .int (48 : Int32), .int (49 : Int32), .int (46 : Int32), .int (0 : Int32), .int (0 : Int32), .int (0 : Int32), .int (0 : Int32), .int (0 : Int32), .int (0 : Int32), .int (0 : Int32)] (.int 0)) => ?_)
  have E15 := Ext.wr E14 W15 gb
  have N15 := Fr.snoc X15 N14 gb
  refine w_dup (n := 83) X15.here hx (hb hby d17_82) rfl rfl ?_
  refine w_bipush (z := (14 : Int32)) (n := 85) X15.here hx (hb hby d17_83) rfl rfl ?_
  refine w_bipush (z := (52 : Int32)) (n := 87) X15.here hx (hb hby d17_85) rfl rfl ?_
  refine s_C (n := 88) X15 hx hZ e15 V15 14 rfl (Nat.le_of_ble_eq_true rfl) (by decide) (by decide) (hb hby d17_87) rfl (fun T16 h16 X16 e16 W16 (V16 : Arv Z h16 b1 k1 .char (21 : Int32) [.int (49 : Int32), .int (46 : Int32), .int (50 : Int32), .int (46 : Int32), .int (54 : Int32), .int (49 : Int32), .int (54 : Int32), .int (46 : Int32), .int (49 : Int32), .int (46 : Int32), .int (49 : Int32), .int (48 : Int32), .int (49 : Int32), .int (46 : Int32), .int (52 : Int32), .int (0 : Int32), .int (0 : Int32), .int (0 : Int32), .int (0 : Int32), .int (0 : Int32), .int (0 : Int32)] (.int 0)) => ?_)
  have E16 := Ext.wr E15 W16 gb
  have N16 := Fr.snoc X16 N15 gb
  refine w_dup (n := 89) X16.here hx (hb hby d17_88) rfl rfl ?_
  refine w_bipush (z := (15 : Int32)) (n := 91) X16.here hx (hb hby d17_89) rfl rfl ?_
  refine w_bipush (z := (46 : Int32)) (n := 93) X16.here hx (hb hby d17_91) rfl rfl ?_
  refine s_C (n := 94) X16 hx hZ e16 V16 15 rfl (Nat.le_of_ble_eq_true rfl) (by decide) (by decide) (hb hby d17_93) rfl (fun T17 h17 X17 e17 W17 (V17 : Arv Z h17 b1 k1 .char (21 : Int32) [.int (49 : Int32), .int (46 : Int32), .int (50 : Int32), .int (46 : Int32), .int (54 : Int32), .int (49 : Int32), .int (54 : Int32), .int (46 : Int32), .int (49 : Int32), .int (46 : Int32), .int (49 : Int32), .int (48 : Int32), .int (49 : Int32), .int (46 : Int32), .int (52 : Int32), .int (46 : Int32), .int (0 : Int32), .int (0 : Int32), .int (0 : Int32), .int (0 : Int32), .int (0 : Int32)] (.int 0)) => ?_)
  have E17 := Ext.wr E16 W17 gb
  have N17 := Fr.snoc X17 N16 gb
  refine w_dup (n := 95) X17.here hx (hb hby d17_94) rfl rfl ?_
  refine w_bipush (z := (16 : Int32)) (n := 97) X17.here hx (hb hby d17_95) rfl rfl ?_
  refine w_bipush (z := (49 : Int32)) (n := 99) X17.here hx (hb hby d17_97) rfl rfl ?_
  refine s_C (n := 100) X17 hx hZ e17 V17 16 rfl (Nat.le_of_ble_eq_true rfl) (by decide) (by decide) (hb hby d17_99) rfl (fun T18 h18 X18 e18 W18 (V18 : Arv Z h18 b1 k1 .char (21 : Int32) [.int (49 : Int32), .int (46 : Int32), .int (50 : Int32), .int (46 : Int32), .int (54 : Int32), .int (49 : Int32), .int (54 : Int32), .int (46 : Int32), .int (49 : Int32), .int (46 : Int32), .int (49 : Int32), .int (48 : Int32), .int (49 : Int32), .int (46 : Int32), .int (52 : Int32), .int (46 : Int32), .int (49 : Int32), .int (0 : Int32), .int (0 : Int32), .int (0 : Int32), .int (0 : Int32)] (.int 0)) => ?_)
  have E18 := Ext.wr E17 W18 gb
  have N18 := Fr.snoc X18 N17 gb
  refine w_dup (n := 101) X18.here hx (hb hby d17_100) rfl rfl ?_
  refine w_bipush (z := (17 : Int32)) (n := 103) X18.here hx (hb hby d17_101) rfl rfl ?_
  refine w_bipush (z := (46 : Int32)) (n := 105) X18.here hx (hb hby d17_103) rfl rfl ?_
  refine s_C (n := 106) X18 hx hZ e18 V18 17 rfl (Nat.le_of_ble_eq_true rfl) (by decide) (by decide) (hb hby d17_105) rfl (fun T19 h19 X19 e19 W19 (V19 : Arv Z h19 b1 k1 .char (21 : Int32) [.int (49 : Int32), .int (46 : Int32), .int (50 : Int32), .int (46 : Int32), .int (54 : Int32), .int (49 : Int32), .int (54 : Int32), .int (46 : Int32), .int (49 : Int32), .int (46 : Int32), .int (49 : Int32), .int (48 : Int32), .int (49 : Int32), .int (46 : Int32), .int (52 : Int32), .int (46 : Int32), .int (49 : Int32), .int (46 : Int32), .int (0 : Int32), .int (0 : Int32), .int (0 : Int32)] (.int 0)) => ?_)
  have E19 := Ext.wr E18 W19 gb
  have N19 := Fr.snoc X19 N18 gb
  refine w_dup (n := 107) X19.here hx (hb hby d17_106) rfl rfl ?_
  refine w_bipush (z := (18 : Int32)) (n := 109) X19.here hx (hb hby d17_107) rfl rfl ?_
  refine w_iloadN (n := 110) X19.here hx (hb hby d17_109) rfl rfl ?_
  refine s_C (n := 111) X19 hx hZ e19 V19 18 rfl (Nat.le_of_ble_eq_true rfl) (by decide) (by decide) (hb hby d17_110) rfl (fun T20 h20 X20 e20 W20 (V20 : Arv Z h20 b1 k1 .char (21 : Int32) [.int (49 : Int32), .int (46 : Int32), .int (50 : Int32), .int (46 : Int32), .int (54 : Int32), .int (49 : Int32), .int (54 : Int32), .int (46 : Int32), .int (49 : Int32), .int (46 : Int32), .int (49 : Int32), .int (48 : Int32), .int (49 : Int32), .int (46 : Int32), .int (52 : Int32), .int (46 : Int32), .int (49 : Int32), .int (46 : Int32), .int (nar .char d), .int (0 : Int32), .int (0 : Int32)] (.int 0)) => ?_)
  have E20 := Ext.wr E19 W20 gb
  have N20 := Fr.snoc X20 N19 gb
  refine w_dup (n := 112) X20.here hx (hb hby d17_111) rfl rfl ?_
  refine w_bipush (z := (19 : Int32)) (n := 114) X20.here hx (hb hby d17_112) rfl rfl ?_
  refine w_bipush (z := (46 : Int32)) (n := 116) X20.here hx (hb hby d17_114) rfl rfl ?_
  refine s_C (n := 117) X20 hx hZ e20 V20 19 rfl (Nat.le_of_ble_eq_true rfl) (by decide) (by decide) (hb hby d17_116) rfl (fun T21 h21 X21 e21 W21 (V21 : Arv Z h21 b1 k1 .char (21 : Int32) [.int (49 : Int32), .int (46 : Int32), .int (50 : Int32), .int (46 : Int32), .int (54 : Int32), .int (49 : Int32), .int (54 : Int32), .int (46 : Int32), .int (49 : Int32), .int (46 : Int32), .int (49 : Int32), .int (48 : Int32), .int (49 : Int32), .int (46 : Int32), .int (52 : Int32), .int (46 : Int32), .int (49 : Int32), .int (46 : Int32), .int (nar .char d), .int (46 : Int32), .int (0 : Int32)] (.int 0)) => ?_)
  have E21 := Ext.wr E20 W21 gb
  have N21 := Fr.snoc X21 N20 gb
  refine w_dup (n := 118) X21.here hx (hb hby d17_117) rfl rfl ?_
  refine w_bipush (z := (20 : Int32)) (n := 120) X21.here hx (hb hby d17_118) rfl rfl ?_
  refine w_bipush (z := (49 : Int32)) (n := 122) X21.here hx (hb hby d17_120) rfl rfl ?_
  refine s_C (n := 123) X21 hx hZ e21 V21 20 rfl (Nat.le_of_ble_eq_true rfl) (by decide) (by decide) (hb hby d17_122) rfl (fun T22 h22 X22 e22 W22 (V22 : Arv Z h22 b1 k1 .char (21 : Int32) [.int (49 : Int32), .int (46 : Int32), .int (50 : Int32), .int (46 : Int32), .int (54 : Int32), .int (49 : Int32), .int (54 : Int32), .int (46 : Int32), .int (49 : Int32), .int (46 : Int32), .int (49 : Int32), .int (48 : Int32), .int (49 : Int32), .int (46 : Int32), .int (52 : Int32), .int (46 : Int32), .int (49 : Int32), .int (46 : Int32), .int (nar .char d), .int (46 : Int32), .int (49 : Int32)] (.int 0)) => ?_)
  have E22 := Ext.wr E21 W22 gb
  have N22 := Fr.snoc X22 N21 gb
  exact fin_A X22 hx hlk e22 hret rfl rfl rfl (hb hby d17_123) (by decide) (by decide) ⟨_, _, rfl, gb, E22, V22, N22⟩
theorem ef_13 (m : MethodId) (d : Int32) : entryFrame m #[(.int d)] 1 = mkF m 0 #[.val (.int d)] [] := by first | (simp [entryFrame, mkF, argsToLocals, Value.category]; done) | rfl
def own_oid20 (d : Int32) : List Int32 := [49, 46, 50, 46, 54, 49, 54, 46, 49, 46, 49, 48, 49, 46, 52, 46, 49, 46, nar .char d, 46]
set_option maxRecDepth 65536 in
set_option maxHeartbeats 40000000 in
theorem rm_oid20 (l : Launch) (Z : State) (a0 : Array Value) (hw : ∀ d ∈ tables_1, d.before a0 Z = true) (ws : List Jvm.Cond) (d : Int32) (h0 : Heap) :
    Con l Z (⟨"com/example/legitka/legitka/CardKindForContentTypePinLaw", "oid20", "(C)[C"⟩ : MethodName) method_3_code 1 (some (.array .char)) ws own_rO2 #[.int d] h0 (fun v h L => ∃ b k, v = some (.ref b) ∧ h0.size ≤ b ∧ Ext h0 h ∧ Arv Z h b k .char (20 : Int32) ((own_oid20 d).map Value.int) (.int 0) ∧ Fr h0.size L) := by
  refine con_of (plainFor_of_name pn_11) ?_
  intro p e s m below meth c T0 X0 hx hZ hby hml hown hret hnm hlk e0
  refine Endz.eq (ef_13 m d) ?_
  refine w_bipush (z := (20 : Int32)) (n := 2) X0.here hx (hb hby d21_0) rfl rfl ?_
  refine n_P (n := 4) X0 hx hZ (hw _ (List.mem_of_getElem? (i := 44) rfl)) e0 (hb hby d21_2) rfl (by decide) 22 (by decide) (by decide) (by decide) (by decide) (fun T1 h1 k1 b1 g1 X1 e1 E1 V1 => ?_)
  have gb : h0.size ≤ b1 := Nat.le_of_eq g1.symm
  have N1 := Fr.nil h0.size
  have V101 := pad0 V1 20
  refine w_dup (n := 5) X1.here hx (hb hby d21_4) rfl rfl ?_
  refine w_iconst (z := (0 : Int32)) (n := 6) X1.here hx (hb hby d21_5) rfl rfl ?_
  refine w_bipush (z := (49 : Int32)) (n := 8) X1.here hx (hb hby d21_6) rfl rfl ?_
  refine s_C (n := 9) X1 hx hZ e1 V101 0 rfl (Nat.le_of_ble_eq_true rfl) (by decide) (by decide) (hb hby d21_8) rfl (fun T2 h2 X2 e2 W2 (V2 : Arv Z h2 b1 k1 .char (20 : Int32) [.int (49 : Int32), .int (0 : Int32), .int (0 : Int32), .int (0 : Int32), .int (0 : Int32), .int (0 : Int32), .int (0 : Int32), .int (0 : Int32), .int (0 : Int32), .int (0 : Int32), .int (0 : Int32), .int (0 : Int32), .int (0 : Int32), .int (0 : Int32), .int (0 : Int32), .int (0 : Int32), .int (0 : Int32), .int (0 : Int32), .int (0 : Int32), .int (0 : Int32)] (.int 0)) => ?_)
  have E2 := Ext.wr E1 W2 gb
  have N2 := Fr.snoc X2 N1 gb
  refine w_dup (n := 10) X2.here hx (hb hby d21_9) rfl rfl ?_
  refine w_iconst (z := (1 : Int32)) (n := 11) X2.here hx (hb hby d21_10) rfl rfl ?_
  refine w_bipush (z := (46 : Int32)) (n := 13) X2.here hx (hb hby d21_11) rfl rfl ?_
  refine s_C (n := 14) X2 hx hZ e2 V2 1 rfl (Nat.le_of_ble_eq_true rfl) (by decide) (by decide) (hb hby d21_13) rfl (fun T3 h3 X3 e3 W3 (V3 : Arv Z h3 b1 k1 .char (20 : Int32) [.int (49 : Int32), .int (46 : Int32), .int (0 : Int32), .int (0 : Int32), .int (0 : Int32), .int (0 : Int32), .int (0 : Int32), .int (0 : Int32), .int (0 : Int32), .int (0 : Int32), .int (0 : Int32), .int (0 : Int32), .int (0 : Int32), .int (0 : Int32), .int (0 : Int32), .int (0 : Int32), .int (0 : Int32), .int (0 : Int32), .int (0 : Int32), .int (0 : Int32)] (.int 0)) => ?_)
  have E3 := Ext.wr E2 W3 gb
  have N3 := Fr.snoc X3 N2 gb
  refine w_dup (n := 15) X3.here hx (hb hby d21_14) rfl rfl ?_
  refine w_iconst (z := (2 : Int32)) (n := 16) X3.here hx (hb hby d21_15) rfl rfl ?_
  refine w_bipush (z := (50 : Int32)) (n := 18) X3.here hx (hb hby d21_16) rfl rfl ?_
  refine s_C (n := 19) X3 hx hZ e3 V3 2 rfl (Nat.le_of_ble_eq_true rfl) (by decide) (by decide) (hb hby d21_18) rfl (fun T4 h4 X4 e4 W4 (V4 : Arv Z h4 b1 k1 .char (20 : Int32) [.int (49 : Int32), .int (46 : Int32), .int (50 : Int32), .int (0 : Int32), .int (0 : Int32), .int (0 : Int32), .int (0 : Int32), .int (0 : Int32), .int (0 : Int32), .int (0 : Int32), .int (0 : Int32), .int (0 : Int32), .int (0 : Int32), .int (0 : Int32), .int (0 : Int32), .int (0 : Int32), .int (0 : Int32), .int (0 : Int32), .int (0 : Int32), .int (0 : Int32)] (.int 0)) => ?_)
  have E4 := Ext.wr E3 W4 gb
  have N4 := Fr.snoc X4 N3 gb
  refine w_dup (n := 20) X4.here hx (hb hby d21_19) rfl rfl ?_
  refine w_iconst (z := (3 : Int32)) (n := 21) X4.here hx (hb hby d21_20) rfl rfl ?_
  refine w_bipush (z := (46 : Int32)) (n := 23) X4.here hx (hb hby d21_21) rfl rfl ?_
  refine s_C (n := 24) X4 hx hZ e4 V4 3 rfl (Nat.le_of_ble_eq_true rfl) (by decide) (by decide) (hb hby d21_23) rfl (fun T5 h5 X5 e5 W5 (V5 : Arv Z h5 b1 k1 .char (20 : Int32) [.int (49 : Int32), .int (46 : Int32), .int (50 : Int32), .int (46 : Int32), .int (0 : Int32), .int (0 : Int32), .int (0 : Int32), .int (0 : Int32), .int (0 : Int32), .int (0 : Int32), .int (0 : Int32), .int (0 : Int32), .int (0 : Int32), .int (0 : Int32), .int (0 : Int32), .int (0 : Int32), .int (0 : Int32), .int (0 : Int32), .int (0 : Int32), .int (0 : Int32)] (.int 0)) => ?_)
  have E5 := Ext.wr E4 W5 gb
  have N5 := Fr.snoc X5 N4 gb
  refine w_dup (n := 25) X5.here hx (hb hby d21_24) rfl rfl ?_
  refine w_iconst (z := (4 : Int32)) (n := 26) X5.here hx (hb hby d21_25) rfl rfl ?_
  refine w_bipush (z := (54 : Int32)) (n := 28) X5.here hx (hb hby d21_26) rfl rfl ?_
  refine s_C (n := 29) X5 hx hZ e5 V5 4 rfl (Nat.le_of_ble_eq_true rfl) (by decide) (by decide) (hb hby d21_28) rfl (fun T6 h6 X6 e6 W6 (V6 : Arv Z h6 b1 k1 .char (20 : Int32) [.int (49 : Int32), .int (46 : Int32), .int (50 : Int32), .int (46 : Int32), .int (54 : Int32), .int (0 : Int32), .int (0 : Int32), .int (0 : Int32), .int (0 : Int32), .int (0 : Int32), .int (0 : Int32), .int (0 : Int32), .int (0 : Int32), .int (0 : Int32), .int (0 : Int32), .int (0 : Int32), .int (0 : Int32), .int (0 : Int32), .int (0 : Int32), .int (0 : Int32)] (.int 0)) => ?_)
  have E6 := Ext.wr E5 W6 gb
  have N6 := Fr.snoc X6 N5 gb
  refine w_dup (n := 30) X6.here hx (hb hby d21_29) rfl rfl ?_
  refine w_iconst (z := (5 : Int32)) (n := 31) X6.here hx (hb hby d21_30) rfl rfl ?_
  refine w_bipush (z := (49 : Int32)) (n := 33) X6.here hx (hb hby d21_31) rfl rfl ?_
  refine s_C (n := 34) X6 hx hZ e6 V6 5 rfl (Nat.le_of_ble_eq_true rfl) (by decide) (by decide) (hb hby d21_33) rfl (fun T7 h7 X7 e7 W7 (V7 : Arv Z h7 b1 k1 .char (20 : Int32) [.int (49 : Int32), .int (46 : Int32), .int (50 : Int32), .int (46 : Int32), .int (54 : Int32), .int (49 : Int32), .int (0 : Int32), .int (0 : Int32), .int (0 : Int32), .int (0 : Int32), .int (0 : Int32), .int (0 : Int32), .int (0 : Int32), .int (0 : Int32), .int (0 : Int32), .int (0 : Int32), .int (0 : Int32), .int (0 : Int32), .int (0 : Int32), .int (0 : Int32)] (.int 0)) => ?_)
  have E7 := Ext.wr E6 W7 gb
  have N7 := Fr.snoc X7 N6 gb
  refine w_dup (n := 35) X7.here hx (hb hby d21_34) rfl rfl ?_
  refine w_bipush (z := (6 : Int32)) (n := 37) X7.here hx (hb hby d21_35) rfl rfl ?_
  refine w_bipush (z := (54 : Int32)) (n := 39) X7.here hx (hb hby d21_37) rfl rfl ?_
  refine s_C (n := 40) X7 hx hZ e7 V7 6 rfl (Nat.le_of_ble_eq_true rfl) (by decide) (by decide) (hb hby d21_39) rfl (fun T8 h8 X8 e8 W8 (V8 : Arv Z h8 b1 k1 .char (20 : Int32) [.int (49 : Int32), .int (46 : Int32), .int (50 : Int32), .int (46 : Int32), .int (54 : Int32), .int (49 : Int32), .int (54 : Int32), .int (0 : Int32), .int (0 : Int32), .int (0 : Int32), .int (0 : Int32), .int (0 : Int32), .int (0 : Int32), .int (0 : Int32), .int (0 : Int32), .int (0 : Int32), .int (0 : Int32), .int (0 : Int32), .int (0 : Int32), .int (0 : Int32)] (.int 0)) => ?_)
  have E8 := Ext.wr E7 W8 gb
  have N8 := Fr.snoc X8 N7 gb
  refine w_dup (n := 41) X8.here hx (hb hby d21_40) rfl rfl ?_
  refine w_bipush (z := (7 : Int32)) (n := 43) X8.here hx (hb hby d21_41) rfl rfl ?_
  refine w_bipush (z := (46 : Int32)) (n := 45) X8.here hx (hb hby d21_43) rfl rfl ?_
  refine s_C (n := 46) X8 hx hZ e8 V8 7 rfl (Nat.le_of_ble_eq_true rfl) (by decide) (by decide) (hb hby d21_45) rfl (fun T9 h9 X9 e9 W9 (V9 : Arv Z h9 b1 k1 .char (20 : Int32) [.int (49 : Int32), .int (46 : Int32), .int (50 : Int32), .int (46 : Int32), .int (54 : Int32), .int (49 : Int32), .int (54 : Int32), .int (46 : Int32), .int (0 : Int32), .int (0 : Int32), .int (0 : Int32), .int (0 : Int32), .int (0 : Int32), .int (0 : Int32), .int (0 : Int32), .int (0 : Int32), .int (0 : Int32), .int (0 : Int32), .int (0 : Int32), .int (0 : Int32)] (.int 0)) => ?_)
  have E9 := Ext.wr E8 W9 gb
  have N9 := Fr.snoc X9 N8 gb
  refine w_dup (n := 47) X9.here hx (hb hby d21_46) rfl rfl ?_
  refine w_bipush (z := (8 : Int32)) (n := 49) X9.here hx (hb hby d21_47) rfl rfl ?_
  refine w_bipush (z := (49 : Int32)) (n := 51) X9.here hx (hb hby d21_49) rfl rfl ?_
  refine s_C (n := 52) X9 hx hZ e9 V9 8 rfl (Nat.le_of_ble_eq_true rfl) (by decide) (by decide) (hb hby d21_51) rfl (fun T10 h10 X10 e10 W10 (V10 : Arv Z h10 b1 k1 .char (20 : Int32) [.int (49 : Int32), .int (46 : Int32), .int (50 : Int32), .int (46 : Int32), .int (54 : Int32), .int (49 : Int32), .int (54 : Int32), .int (46 : Int32), .int (49 : Int32), .int (0 : Int32), .int (0 : Int32), .int (0 : Int32), .int (0 : Int32), .int (0 : Int32), .int (0 : Int32), .int (0 : Int32), .int (0 : Int32), .int (0 : Int32), .int (0 : Int32), .int (0 : Int32)] (.int 0)) => ?_)
  have E10 := Ext.wr E9 W10 gb
  have N10 := Fr.snoc X10 N9 gb
  refine w_dup (n := 53) X10.here hx (hb hby d21_52) rfl rfl ?_
  refine w_bipush (z := (9 : Int32)) (n := 55) X10.here hx (hb hby d21_53) rfl rfl ?_
  refine w_bipush (z := (46 : Int32)) (n := 57) X10.here hx (hb hby d21_55) rfl rfl ?_
  refine s_C (n := 58) X10 hx hZ e10 V10 9 rfl (Nat.le_of_ble_eq_true rfl) (by decide) (by decide) (hb hby d21_57) rfl (fun T11 h11 X11 e11 W11 (V11 : Arv Z h11 b1 k1 .char (20 : Int32) [.int (49 : Int32), .int (46 : Int32), .int (50 : Int32), .int (46 : Int32), .int (54 : Int32), .int (49 : Int32), .int (54 : Int32), .int (46 : Int32), .int (49 : Int32), .int (46 : Int32), .int (0 : Int32), .int (0 : Int32), .int (0 : Int32), .int (0 : Int32), .int (0 : Int32), .int (0 : Int32), .int (0 : Int32), .int (0 : Int32), .int (0 : Int32), .int (0 : Int32)] (.int 0)) => ?_)
  have E11 := Ext.wr E10 W11 gb
  have N11 := Fr.snoc X11 N10 gb
  refine w_dup (n := 59) X11.here hx (hb hby d21_58) rfl rfl ?_
  refine w_bipush (z := (10 : Int32)) (n := 61) X11.here hx (hb hby d21_59) rfl rfl ?_
  refine w_bipush (z := (49 : Int32)) (n := 63) X11.here hx (hb hby d21_61) rfl rfl ?_
  refine s_C (n := 64) X11 hx hZ e11 V11 10 rfl (Nat.le_of_ble_eq_true rfl) (by decide) (by decide) (hb hby d21_63) rfl (fun T12 h12 X12 e12 W12 (V12 : Arv Z h12 b1 k1 .char (20 : Int32) [.int (49 : Int32), .int (46 : Int32), .int (50 : Int32), .int (46 : Int32), .int (54 : Int32), .int (49 : Int32), .int (54 : Int32), .int (46 : Int32), .int (49 : Int32), .int (46 : Int32), .int (49 : Int32), .int (0 : Int32), .int (0 : Int32), .int (0 : Int32), .int (0 : Int32), .int (0 : Int32), .int (0 : Int32), .int (0 : Int32), .int (0 : Int32), .int (0 : Int32)] (.int 0)) => ?_)
  have E12 := Ext.wr E11 W12 gb
  have N12 := Fr.snoc X12 N11 gb
  refine w_dup (n := 65) X12.here hx (hb hby d21_64) rfl rfl ?_
  refine w_bipush (z := (11 : Int32)) (n := 67) X12.here hx (hb hby d21_65) rfl rfl ?_
  refine w_bipush (z := (48 : Int32)) (n := 69) X12.here hx (hb hby d21_67) rfl rfl ?_
  refine s_C (n := 70) X12 hx hZ e12 V12 11 rfl (Nat.le_of_ble_eq_true rfl) (by decide) (by decide) (hb hby d21_69) rfl (fun T13 h13 X13 e13 W13 (V13 : Arv Z h13 b1 k1 .char (20 : Int32) [.int (49 : Int32), .int (46 : Int32), .int (50 : Int32), .int (46 : Int32), .int (54 : Int32), .int (49 : Int32), .int (54 : Int32), .int (46 : Int32), .int (49 : Int32), .int (46 : Int32), .int (49 : Int32), .int (48 : Int32), .int (0 : Int32), .int (0 : Int32), .int (0 : Int32), .int (0 : Int32), .int (0 : Int32), .int (0 : Int32), .int (0 : Int32), .int (0 : Int32)] (.int 0)) => ?_)
  have E13 := Ext.wr E12 W13 gb
  have N13 := Fr.snoc X13 N12 gb
  refine w_dup (n := 71) X13.here hx (hb hby d21_70) rfl rfl ?_
  refine w_bipush (z := (12 : Int32)) (n := 73) X13.here hx (hb hby d21_71) rfl rfl ?_
  refine w_bipush (z := (49 : Int32)) (n := 75) X13.here hx (hb hby d21_73) rfl rfl ?_
  refine s_C (n := 76) X13 hx hZ e13 V13 12 rfl (Nat.le_of_ble_eq_true rfl) (by decide) (by decide) (hb hby d21_75) rfl (fun T14 h14 X14 e14 W14 (V14 : Arv Z h14 b1 k1 .char (20 : Int32) [.int (49 : Int32), .int (46 : Int32), .int (50 : Int32), .int (46 : Int32), .int (54 : Int32), .int (49 : Int32), .int (54 : Int32), .int (46 : Int32), .int (49 : Int32), .int (46 : Int32), .int (49 : Int32), .int (48 : Int32), .int (49 : Int32), .int (0 : Int32), .int (0 : Int32), .int (0 : Int32), .int (0 : Int32), .int (0 : Int32), .int (0 : Int32), .int (0 : Int32)] (.int 0)) => ?_)
  have E14 := Ext.wr E13 W14 gb
  have N14 := Fr.snoc X14 N13 gb
  refine w_dup (n := 77) X14.here hx (hb hby d21_76) rfl rfl ?_
  refine w_bipush (z := (13 : Int32)) (n := 79) X14.here hx (hb hby d21_77) rfl rfl ?_
  refine w_bipush (z := (46 : Int32)) (n := 81) X14.here hx (hb hby d21_79) rfl rfl ?_
  refine s_C (n := 82) X14 hx hZ e14 V14 13 rfl (Nat.le_of_ble_eq_true rfl) (by decide) (by decide) (hb hby d21_81) rfl (fun T15 h15 X15 e15 W15 (V15 : Arv Z h15 b1 k1 .char (20 : Int32) [.int (49 : Int32), .int (46 : Int32), .int (50 : Int32), .int (46 : Int32), .int (54 : Int32), .int (49 : Int32), .int (54 : Int32), .int (46 : Int32), .int (49 : Int32), .int (46 : Int32), .int (49 : Int32), .int (48 : Int32), .int (49 : Int32), .int (46 : Int32), .int (0 : Int32), .int (0 : Int32), .int (0 : Int32), .int (0 : Int32), .int (0 : Int32), .int (0 : Int32)] (.int 0)) => ?_)
  have E15 := Ext.wr E14 W15 gb
  have N15 := Fr.snoc X15 N14 gb
  refine w_dup (n := 83) X15.here hx (hb hby d21_82) rfl rfl ?_
  refine w_bipush (z := (14 : Int32)) (n := 85) X15.here hx (hb hby d21_83) rfl rfl ?_
  refine w_bipush (z := (52 : Int32)) (n := 87) X15.here hx (hb hby d21_85) rfl rfl ?_
  refine s_C (n := 88) X15 hx hZ e15 V15 14 rfl (Nat.le_of_ble_eq_true rfl) (by decide) (by decide) (hb hby d21_87) rfl (fun T16 h16 X16 e16 W16 (V16 : Arv Z h16 b1 k1 .char (20 : Int32) [.int (49 : Int32), .int (46 : Int32), .int (50 : Int32), .int (46 : Int32), .int (54 : Int32), .int (49 : Int32), .int (54 : Int32), .int (46 : Int32), .int (49 : Int32), .int (46 : Int32), .int (49 : Int32), .int (48 : Int32), .int (49 : Int32), .int (46 : Int32), .int (52 : Int32), .int (0 : Int32), .int (0 : Int32), .int (0 : Int32), .int (0 : Int32), .int (0 : Int32)] (.int 0)) => ?_)
  have E16 := Ext.wr E15 W16 gb
  have N16 := Fr.snoc X16 N15 gb
  refine w_dup (n := 89) X16.here hx (hb hby d21_88) rfl rfl ?_
  refine w_bipush (z := (15 : Int32)) (n := 91) X16.here hx (hb hby d21_89) rfl rfl ?_
  refine w_bipush (z := (46 : Int32)) (n := 93) X16.here hx (hb hby d21_91) rfl rfl ?_
  refine s_C (n := 94) X16 hx hZ e16 V16 15 rfl (Nat.le_of_ble_eq_true rfl) (by decide) (by decide) (hb hby d21_93) rfl (fun T17 h17 X17 e17 W17 (V17 : Arv Z h17 b1 k1 .char (20 : Int32) [.int (49 : Int32), .int (46 : Int32), .int (50 : Int32), .int (46 : Int32), .int (54 : Int32), .int (49 : Int32), .int (54 : Int32), .int (46 : Int32), .int (49 : Int32), .int (46 : Int32), .int (49 : Int32), .int (48 : Int32), .int (49 : Int32), .int (46 : Int32), .int (52 : Int32), .int (46 : Int32), .int (0 : Int32), .int (0 : Int32), .int (0 : Int32), .int (0 : Int32)] (.int 0)) => ?_)
  have E17 := Ext.wr E16 W17 gb
  have N17 := Fr.snoc X17 N16 gb
  refine w_dup (n := 95) X17.here hx (hb hby d21_94) rfl rfl ?_
  refine w_bipush (z := (16 : Int32)) (n := 97) X17.here hx (hb hby d21_95) rfl rfl ?_
  refine w_bipush (z := (49 : Int32)) (n := 99) X17.here hx (hb hby d21_97) rfl rfl ?_
  refine s_C (n := 100) X17 hx hZ e17 V17 16 rfl (Nat.le_of_ble_eq_true rfl) (by decide) (by decide) (hb hby d21_99) rfl (fun T18 h18 X18 e18 W18 (V18 : Arv Z h18 b1 k1 .char (20 : Int32) [.int (49 : Int32), .int (46 : Int32), .int (50 : Int32), .int (46 : Int32), .int (54 : Int32), .int (49 : Int32), .int (54 : Int32), .int (46 : Int32), .int (49 : Int32), .int (46 : Int32), .int (49 : Int32), .int (48 : Int32), .int (49 : Int32), .int (46 : Int32), .int (52 : Int32), .int (46 : Int32), .int (49 : Int32), .int (0 : Int32), .int (0 : Int32), .int (0 : Int32)] (.int 0)) => ?_)
  have E18 := Ext.wr E17 W18 gb
  have N18 := Fr.snoc X18 N17 gb
  refine w_dup (n := 101) X18.here hx (hb hby d21_100) rfl rfl ?_
  refine w_bipush (z := (17 : Int32)) (n := 103) X18.here hx (hb hby d21_101) rfl rfl ?_
  refine w_bipush (z := (46 : Int32)) (n := 105) X18.here hx (hb hby d21_103) rfl rfl ?_
  refine s_C (n := 106) X18 hx hZ e18 V18 17 rfl (Nat.le_of_ble_eq_true rfl) (by decide) (by decide) (hb hby d21_105) rfl (fun T19 h19 X19 e19 W19 (V19 : Arv Z h19 b1 k1 .char (20 : Int32) [.int (49 : Int32), .int (46 : Int32), .int (50 : Int32), .int (46 : Int32), .int (54 : Int32), .int (49 : Int32), .int (54 : Int32), .int (46 : Int32), .int (49 : Int32), .int (46 : Int32), .int (49 : Int32), .int (48 : Int32), .int (49 : Int32), .int (46 : Int32), .int (52 : Int32), .int (46 : Int32), .int (49 : Int32), .int (46 : Int32), .int (0 : Int32), .int (0 : Int32)] (.int 0)) => ?_)
  have E19 := Ext.wr E18 W19 gb
  have N19 := Fr.snoc X19 N18 gb
  refine w_dup (n := 107) X19.here hx (hb hby d21_106) rfl rfl ?_
  refine w_bipush (z := (18 : Int32)) (n := 109) X19.here hx (hb hby d21_107) rfl rfl ?_
  refine w_iloadN (n := 110) X19.here hx (hb hby d21_109) rfl rfl ?_
  refine s_C (n := 111) X19 hx hZ e19 V19 18 rfl (Nat.le_of_ble_eq_true rfl) (by decide) (by decide) (hb hby d21_110) rfl (fun T20 h20 X20 e20 W20 (V20 : Arv Z h20 b1 k1 .char (20 : Int32) [.int (49 : Int32), .int (46 : Int32), .int (50 : Int32), .int (46 : Int32), .int (54 : Int32), .int (49 : Int32), .int (54 : Int32), .int (46 : Int32), .int (49 : Int32), .int (46 : Int32), .int (49 : Int32), .int (48 : Int32), .int (49 : Int32), .int (46 : Int32), .int (52 : Int32), .int (46 : Int32), .int (49 : Int32), .int (46 : Int32), .int (nar .char d), .int (0 : Int32)] (.int 0)) => ?_)
  have E20 := Ext.wr E19 W20 gb
  have N20 := Fr.snoc X20 N19 gb
  refine w_dup (n := 112) X20.here hx (hb hby d21_111) rfl rfl ?_
  refine w_bipush (z := (19 : Int32)) (n := 114) X20.here hx (hb hby d21_112) rfl rfl ?_
  refine w_bipush (z := (46 : Int32)) (n := 116) X20.here hx (hb hby d21_114) rfl rfl ?_
  refine s_C (n := 117) X20 hx hZ e20 V20 19 rfl (Nat.le_of_ble_eq_true rfl) (by decide) (by decide) (hb hby d21_116) rfl (fun T21 h21 X21 e21 W21 (V21 : Arv Z h21 b1 k1 .char (20 : Int32) [.int (49 : Int32), .int (46 : Int32), .int (50 : Int32), .int (46 : Int32), .int (54 : Int32), .int (49 : Int32), .int (54 : Int32), .int (46 : Int32), .int (49 : Int32), .int (46 : Int32), .int (49 : Int32), .int (48 : Int32), .int (49 : Int32), .int (46 : Int32), .int (52 : Int32), .int (46 : Int32), .int (49 : Int32), .int (46 : Int32), .int (nar .char d), .int (46 : Int32)] (.int 0)) => ?_)
  have E21 := Ext.wr E20 W21 gb
  have N21 := Fr.snoc X21 N20 gb
  exact fin_A X21 hx hlk e21 hret rfl rfl rfl (hb hby d21_117) (by decide) (by decide) ⟨_, _, rfl, gb, E21, V21, N21⟩
theorem ef_14 (m : MethodId) (d : Int32) (x : Int32) : entryFrame m #[(.int d), (.int x)] 2 = mkF m 0 #[.val (.int d), .val (.int x)] [] := by first | (simp [entryFrame, mkF, argsToLocals, Value.category]; done) | rfl
def own_oid22 (d x : Int32) : List Int32 := [49, 46, 50, 46, 54, 49, 54, 46, 49, 46, 49, 48, 49, 46, 52, 46, 49, 46, nar .char d, 46, 49, nar .char x]
set_option maxRecDepth 65536 in
set_option maxHeartbeats 40000000 in
theorem rm_oid22 (l : Launch) (Z : State) (a0 : Array Value) (hw : ∀ d ∈ tables_1, d.before a0 Z = true) (ws : List Jvm.Cond) (d x : Int32) (h0 : Heap) :
    Con l Z (⟨"com/example/legitka/legitka/CardKindForContentTypePinLaw", "oid22", "(CC)[C"⟩ : MethodName) method_4_code 2 (some (.array .char)) ws own_rO2 #[.int d, .int x] h0 (fun v h L => ∃ b k, v = some (.ref b) ∧ h0.size ≤ b ∧ Ext h0 h ∧ Arv Z h b k .char (22 : Int32) ((own_oid22 d x).map Value.int) (.int 0) ∧ Fr h0.size L) := by
  refine con_of (plainFor_of_name pn_11) ?_
  intro p e s m below meth c T0 X0 hx hZ hby hml hown hret hnm hlk e0
  refine Endz.eq (ef_14 m d x) ?_
  refine w_bipush (z := (22 : Int32)) (n := 2) X0.here hx (hb hby d22_0) rfl rfl ?_
  refine n_P (n := 4) X0 hx hZ (hw _ (List.mem_of_getElem? (i := 44) rfl)) e0 (hb hby d22_2) rfl (by decide) 22 (by decide) (by decide) (by decide) (by decide) (fun T1 h1 k1 b1 g1 X1 e1 E1 V1 => ?_)
  have gb : h0.size ≤ b1 := Nat.le_of_eq g1.symm
  have N1 := Fr.nil h0.size
  have V101 := pad0 V1 22
  refine w_dup (n := 5) X1.here hx (hb hby d22_4) rfl rfl ?_
  refine w_iconst (z := (0 : Int32)) (n := 6) X1.here hx (hb hby d22_5) rfl rfl ?_
  refine w_bipush (z := (49 : Int32)) (n := 8) X1.here hx (hb hby d22_6) rfl rfl ?_
  refine s_C (n := 9) X1 hx hZ e1 V101 0 rfl (Nat.le_of_ble_eq_true rfl) (by decide) (by decide) (hb hby d22_8) rfl (fun T2 h2 X2 e2 W2 (V2 : Arv Z h2 b1 k1 .char (22 : Int32) [.int (49 : Int32), .int (0 : Int32), .int (0 : Int32), .int (0 : Int32), .int (0 : Int32), .int (0 : Int32), .int (0 : Int32), .int (0 : Int32), .int (0 : Int32), .int (0 : Int32), .int (0 : Int32), .int (0 : Int32), .int (0 : Int32), .int (0 : Int32), .int (0 : Int32), .int (0 : Int32), .int (0 : Int32), .int (0 : Int32), .int (0 : Int32), .int (0 : Int32), .int (0 : Int32), .int (0 : Int32)] (.int 0)) => ?_)
  have E2 := Ext.wr E1 W2 gb
  have N2 := Fr.snoc X2 N1 gb
  refine w_dup (n := 10) X2.here hx (hb hby d22_9) rfl rfl ?_
  refine w_iconst (z := (1 : Int32)) (n := 11) X2.here hx (hb hby d22_10) rfl rfl ?_
  refine w_bipush (z := (46 : Int32)) (n := 13) X2.here hx (hb hby d22_11) rfl rfl ?_
  refine s_C (n := 14) X2 hx hZ e2 V2 1 rfl (Nat.le_of_ble_eq_true rfl) (by decide) (by decide) (hb hby d22_13) rfl (fun T3 h3 X3 e3 W3 (V3 : Arv Z h3 b1 k1 .char (22 : Int32) [.int (49 : Int32), .int (46 : Int32), .int (0 : Int32), .int (0 : Int32), .int (0 : Int32), .int (0 : Int32), .int (0 : Int32), .int (0 : Int32), .int (0 : Int32), .int (0 : Int32), .int (0 : Int32), .int (0 : Int32), .int (0 : Int32), .int (0 : Int32), .int (0 : Int32), .int (0 : Int32), .int (0 : Int32), .int (0 : Int32), .int (0 : Int32), .int (0 : Int32), .int (0 : Int32), .int (0 : Int32)] (.int 0)) => ?_)
  have E3 := Ext.wr E2 W3 gb
  have N3 := Fr.snoc X3 N2 gb
  refine w_dup (n := 15) X3.here hx (hb hby d22_14) rfl rfl ?_
  refine w_iconst (z := (2 : Int32)) (n := 16) X3.here hx (hb hby d22_15) rfl rfl ?_
  refine w_bipush (z := (50 : Int32)) (n := 18) X3.here hx (hb hby d22_16) rfl rfl ?_
  refine s_C (n := 19) X3 hx hZ e3 V3 2 rfl (Nat.le_of_ble_eq_true rfl) (by decide) (by decide) (hb hby d22_18) rfl (fun T4 h4 X4 e4 W4 (V4 : Arv Z h4 b1 k1 .char (22 : Int32) [.int (49 : Int32), .int (46 : Int32), .int (50 : Int32), .int (0 : Int32), .int (0 : Int32), .int (0 : Int32), .int (0 : Int32), .int (0 : Int32), .int (0 : Int32), .int (0 : Int32), .int (0 : Int32), .int (0 : Int32), .int (0 : Int32), .int (0 : Int32), .int (0 : Int32), .int (0 : Int32), .int (0 : Int32), .int (0 : Int32), .int (0 : Int32), .int (0 : Int32), .int (0 : Int32), .int (0 : Int32)] (.int 0)) => ?_)
  have E4 := Ext.wr E3 W4 gb
  have N4 := Fr.snoc X4 N3 gb
  refine w_dup (n := 20) X4.here hx (hb hby d22_19) rfl rfl ?_
  refine w_iconst (z := (3 : Int32)) (n := 21) X4.here hx (hb hby d22_20) rfl rfl ?_
  refine w_bipush (z := (46 : Int32)) (n := 23) X4.here hx (hb hby d22_21) rfl rfl ?_
  refine s_C (n := 24) X4 hx hZ e4 V4 3 rfl (Nat.le_of_ble_eq_true rfl) (by decide) (by decide) (hb hby d22_23) rfl (fun T5 h5 X5 e5 W5 (V5 : Arv Z h5 b1 k1 .char (22 : Int32) [.int (49 : Int32), .int (46 : Int32), .int (50 : Int32), .int (46 : Int32), .int (0 : Int32), .int (0 : Int32), .int (0 : Int32), .int (0 : Int32), .int (0 : Int32), .int (0 : Int32), .int (0 : Int32), .int (0 : Int32), .int (0 : Int32), .int (0 : Int32), .int (0 : Int32), .int (0 : Int32), .int (0 : Int32), .int (0 : Int32), .int (0 : Int32), .int (0 : Int32), .int (0 : Int32), .int (0 : Int32)] (.int 0)) => ?_)
  have E5 := Ext.wr E4 W5 gb
  have N5 := Fr.snoc X5 N4 gb
  refine w_dup (n := 25) X5.here hx (hb hby d22_24) rfl rfl ?_
  refine w_iconst (z := (4 : Int32)) (n := 26) X5.here hx (hb hby d22_25) rfl rfl ?_
  refine w_bipush (z := (54 : Int32)) (n := 28) X5.here hx (hb hby d22_26) rfl rfl ?_
  refine s_C (n := 29) X5 hx hZ e5 V5 4 rfl (Nat.le_of_ble_eq_true rfl) (by decide) (by decide) (hb hby d22_28) rfl (fun T6 h6 X6 e6 W6 (V6 : Arv Z h6 b1 k1 .char (22 : Int32) [.int (49 : Int32), .int (46 : Int32), .int (50 : Int32), .int (46 : Int32), .int (54 : Int32), .int (0 : Int32), .int (0 : Int32), .int (0 : Int32), .int (0 : Int32), .int (0 : Int32), .int (0 : Int32), .int (0 : Int32), .int (0 : Int32), .int (0 : Int32), .int (0 : Int32), .int (0 : Int32), .int (0 : Int32), .int (0 : Int32), .int (0 : Int32), .int (0 : Int32), .int (0 : Int32), .int (0 : Int32)] (.int 0)) => ?_)
  have E6 := Ext.wr E5 W6 gb
  have N6 := Fr.snoc X6 N5 gb
  refine w_dup (n := 30) X6.here hx (hb hby d22_29) rfl rfl ?_
  refine w_iconst (z := (5 : Int32)) (n := 31) X6.here hx (hb hby d22_30) rfl rfl ?_
  refine w_bipush (z := (49 : Int32)) (n := 33) X6.here hx (hb hby d22_31) rfl rfl ?_
  refine s_C (n := 34) X6 hx hZ e6 V6 5 rfl (Nat.le_of_ble_eq_true rfl) (by decide) (by decide) (hb hby d22_33) rfl (fun T7 h7 X7 e7 W7 (V7 : Arv Z h7 b1 k1 .char (22 : Int32) [.int (49 : Int32), .int (46 : Int32), .int (50 : Int32), .int (46 : Int32), .int (54 : Int32), .int (49 : Int32), .int (0 : Int32), .int (0 : Int32), .int (0 : Int32), .int (0 : Int32), .int (0 : Int32), .int (0 : Int32), .int (0 : Int32), .int (0 : Int32), .int (0 : Int32), .int (0 : Int32), .int (0 : Int32), .int (0 : Int32), .int (0 : Int32), .int (0 : Int32), .int (0 : Int32), .int (0 : Int32)] (.int 0)) => ?_)
  have E7 := Ext.wr E6 W7 gb
  have N7 := Fr.snoc X7 N6 gb
  refine w_dup (n := 35) X7.here hx (hb hby d22_34) rfl rfl ?_
  refine w_bipush (z := (6 : Int32)) (n := 37) X7.here hx (hb hby d22_35) rfl rfl ?_
  refine w_bipush (z := (54 : Int32)) (n := 39) X7.here hx (hb hby d22_37) rfl rfl ?_
  refine s_C (n := 40) X7 hx hZ e7 V7 6 rfl (Nat.le_of_ble_eq_true rfl) (by decide) (by decide) (hb hby d22_39) rfl (fun T8 h8 X8 e8 W8 (V8 : Arv Z h8 b1 k1 .char (22 : Int32) [.int (49 : Int32), .int (46 : Int32), .int (50 : Int32), .int (46 : Int32), .int (54 : Int32), .int (49 : Int32), .int (54 : Int32), .int (0 : Int32), .int (0 : Int32), .int (0 : Int32), .int (0 : Int32), .int (0 : Int32), .int (0 : Int32), .int (0 : Int32), .int (0 : Int32), .int (0 : Int32), .int (0 : Int32), .int (0 : Int32), .int (0 : Int32), .int (0 : Int32), .int (0 : Int32), .int (0 : Int32)] (.int 0)) => ?_)
  have E8 := Ext.wr E7 W8 gb
  have N8 := Fr.snoc X8 N7 gb
  refine w_dup (n := 41) X8.here hx (hb hby d22_40) rfl rfl ?_
  refine w_bipush (z := (7 : Int32)) (n := 43) X8.here hx (hb hby d22_41) rfl rfl ?_
  refine w_bipush (z := (46 : Int32)) (n := 45) X8.here hx (hb hby d22_43) rfl rfl ?_
  refine s_C (n := 46) X8 hx hZ e8 V8 7 rfl (Nat.le_of_ble_eq_true rfl) (by decide) (by decide) (hb hby d22_45) rfl (fun T9 h9 X9 e9 W9 (V9 : Arv Z h9 b1 k1 .char (22 : Int32) [.int (49 : Int32), .int (46 : Int32), .int (50 : Int32), .int (46 : Int32), .int (54 : Int32), .int (49 : Int32), .int (54 : Int32), .int (46 : Int32), .int (0 : Int32), .int (0 : Int32), .int (0 : Int32), .int (0 : Int32), .int (0 : Int32), .int (0 : Int32), .int (0 : Int32), .int (0 : Int32), .int (0 : Int32), .int (0 : Int32), .int (0 : Int32), .int (0 : Int32), .int (0 : Int32), .int (0 : Int32)] (.int 0)) => ?_)
  have E9 := Ext.wr E8 W9 gb
  have N9 := Fr.snoc X9 N8 gb
  refine w_dup (n := 47) X9.here hx (hb hby d22_46) rfl rfl ?_
  refine w_bipush (z := (8 : Int32)) (n := 49) X9.here hx (hb hby d22_47) rfl rfl ?_
  refine w_bipush (z := (49 : Int32)) (n := 51) X9.here hx (hb hby d22_49) rfl rfl ?_
  refine s_C (n := 52) X9 hx hZ e9 V9 8 rfl (Nat.le_of_ble_eq_true rfl) (by decide) (by decide) (hb hby d22_51) rfl (fun T10 h10 X10 e10 W10 (V10 : Arv Z h10 b1 k1 .char (22 : Int32) [.int (49 : Int32), .int (46 : Int32), .int (50 : Int32), .int (46 : Int32), .int (54 : Int32), .int (49 : Int32), .int (54 : Int32), .int (46 : Int32), .int (49 : Int32), .int (0 : Int32), .int (0 : Int32), .int (0 : Int32), .int (0 : Int32), .int (0 : Int32), .int (0 : Int32), .int (0 : Int32), .int (0 : Int32), .int (0 : Int32), .int (0 : Int32), .int (0 : Int32), .int (0 : Int32), .int (0 : Int32)] (.int 0)) => ?_)
  have E10 := Ext.wr E9 W10 gb
  have N10 := Fr.snoc X10 N9 gb
  refine w_dup (n := 53) X10.here hx (hb hby d22_52) rfl rfl ?_
  refine w_bipush (z := (9 : Int32)) (n := 55) X10.here hx (hb hby d22_53) rfl rfl ?_
  refine w_bipush (z := (46 : Int32)) (n := 57) X10.here hx (hb hby d22_55) rfl rfl ?_
  refine s_C (n := 58) X10 hx hZ e10 V10 9 rfl (Nat.le_of_ble_eq_true rfl) (by decide) (by decide) (hb hby d22_57) rfl (fun T11 h11 X11 e11 W11 (V11 : Arv Z h11 b1 k1 .char (22 : Int32) [.int (49 : Int32), .int (46 : Int32), .int (50 : Int32), .int (46 : Int32), .int (54 : Int32), .int (49 : Int32), .int (54 : Int32), .int (46 : Int32), .int (49 : Int32), .int (46 : Int32), .int (0 : Int32), .int (0 : Int32), .int (0 : Int32), .int (0 : Int32), .int (0 : Int32), .int (0 : Int32), .int (0 : Int32), .int (0 : Int32), .int (0 : Int32), .int (0 : Int32), .int (0 : Int32), .int (0 : Int32)] (.int 0)) => ?_)
  have E11 := Ext.wr E10 W11 gb
  have N11 := Fr.snoc X11 N10 gb
  refine w_dup (n := 59) X11.here hx (hb hby d22_58) rfl rfl ?_
  refine w_bipush (z := (10 : Int32)) (n := 61) X11.here hx (hb hby d22_59) rfl rfl ?_
  refine w_bipush (z := (49 : Int32)) (n := 63) X11.here hx (hb hby d22_61) rfl rfl ?_
  refine s_C (n := 64) X11 hx hZ e11 V11 10 rfl (Nat.le_of_ble_eq_true rfl) (by decide) (by decide) (hb hby d22_63) rfl (fun T12 h12 X12 e12 W12 (V12 : Arv Z h12 b1 k1 .char (22 : Int32) [.int (49 : Int32), .int (46 : Int32), .int (50 : Int32), .int (46 : Int32), .int (54 : Int32), .int (49 : Int32), .int (54 : Int32), .int (46 : Int32), .int (49 : Int32), .int (46 : Int32), .int (49 : Int32), .int (0 : Int32), .int (0 : Int32), .int (0 : Int32), .int (0 : Int32), .int (0 : Int32), .int (0 : Int32), .int (0 : Int32), .int (0 : Int32), .int (0 : Int32), .int (0 : Int32), .int (0 : Int32)] (.int 0)) => ?_)
  have E12 := Ext.wr E11 W12 gb
  have N12 := Fr.snoc X12 N11 gb
  refine w_dup (n := 65) X12.here hx (hb hby d22_64) rfl rfl ?_
  refine w_bipush (z := (11 : Int32)) (n := 67) X12.here hx (hb hby d22_65) rfl rfl ?_
  refine w_bipush (z := (48 : Int32)) (n := 69) X12.here hx (hb hby d22_67) rfl rfl ?_
  refine s_C (n := 70) X12 hx hZ e12 V12 11 rfl (Nat.le_of_ble_eq_true rfl) (by decide) (by decide) (hb hby d22_69) rfl (fun T13 h13 X13 e13 W13 (V13 : Arv Z h13 b1 k1 .char (22 : Int32) [.int (49 : Int32), .int (46 : Int32), .int (50 : Int32), .int (46 : Int32), .int (54 : Int32), .int (49 : Int32), .int (54 : Int32), .int (46 : Int32), .int (49 : Int32), .int (46 : Int32), .int (49 : Int32), .int (48 : Int32), .int (0 : Int32), .int (0 : Int32), .int (0 : Int32), .int (0 : Int32), .int (0 : Int32), .int (0 : Int32), .int (0 : Int32), .int (0 : Int32), .int (0 : Int32), .int (0 : Int32)] (.int 0)) => ?_)
  have E13 := Ext.wr E12 W13 gb
  have N13 := Fr.snoc X13 N12 gb
  refine w_dup (n := 71) X13.here hx (hb hby d22_70) rfl rfl ?_
  refine w_bipush (z := (12 : Int32)) (n := 73) X13.here hx (hb hby d22_71) rfl rfl ?_
  refine w_bipush (z := (49 : Int32)) (n := 75) X13.here hx (hb hby d22_73) rfl rfl ?_
  refine s_C (n := 76) X13 hx hZ e13 V13 12 rfl (Nat.le_of_ble_eq_true rfl) (by decide) (by decide) (hb hby d22_75) rfl (fun T14 h14 X14 e14 W14 (V14 : Arv Z h14 b1 k1 .char (22 : Int32) [.int (49 : Int32), .int (46 : Int32), .int (50 : Int32), .int (46 : Int32), .int (54 : Int32), .int (49 : Int32), .int (54 : Int32), .int (46 : Int32), .int (49 : Int32), .int (46 : Int32), .int (49 : Int32), .int (48 : Int32), .int (49 : Int32), .int (0 : Int32), .int (0 : Int32), .int (0 : Int32), .int (0 : Int32), .int (0 : Int32), .int (0 : Int32), .int (0 : Int32), .int (0 : Int32), .int (0 : Int32)] (.int 0)) => ?_)
  have E14 := Ext.wr E13 W14 gb
  have N14 := Fr.snoc X14 N13 gb
  refine w_dup (n := 77) X14.here hx (hb hby d22_76) rfl rfl ?_
  refine w_bipush (z := (13 : Int32)) (n := 79) X14.here hx (hb hby d22_77) rfl rfl ?_
  refine w_bipush (z := (46 : Int32)) (n := 81) X14.here hx (hb hby d22_79) rfl rfl ?_
  refine s_C (n := 82) X14 hx hZ e14 V14 13 rfl (Nat.le_of_ble_eq_true rfl) (by decide) (by decide) (hb hby d22_81) rfl (fun T15 h15 X15 e15 W15 (V15 : Arv Z h15 b1 k1 .char (22 : Int32) [.int (49 : Int32), .int (46 : Int32), .int (50 : Int32), .int (46 : Int32), .int (54 : Int32), .int (49 : Int32), .int (54 : Int32), .int (46 : Int32), .int (49 : Int32), .int (46 : Int32), .int (49 : Int32), .int (48 : Int32), .int (49 : Int32), .int (46 : Int32), .int (0 : Int32), .int (0 : Int32), .int (0 : Int32), .int (0 : Int32), .int (0 : Int32), .int (0 : Int32), .int (0 : Int32), .int (0 : Int32)] (.int 0)) => ?_)
  have E15 := Ext.wr E14 W15 gb
  have N15 := Fr.snoc X15 N14 gb
  refine w_dup (n := 83) X15.here hx (hb hby d22_82) rfl rfl ?_
  refine w_bipush (z := (14 : Int32)) (n := 85) X15.here hx (hb hby d22_83) rfl rfl ?_
  refine w_bipush (z := (52 : Int32)) (n := 87) X15.here hx (hb hby d22_85) rfl rfl ?_
  refine s_C (n := 88) X15 hx hZ e15 V15 14 rfl (Nat.le_of_ble_eq_true rfl) (by decide) (by decide) (hb hby d22_87) rfl (fun T16 h16 X16 e16 W16 (V16 : Arv Z h16 b1 k1 .char (22 : Int32) [.int (49 : Int32), .int (46 : Int32), .int (50 : Int32), .int (46 : Int32), .int (54 : Int32), .int (49 : Int32), .int (54 : Int32), .int (46 : Int32), .int (49 : Int32), .int (46 : Int32), .int (49 : Int32), .int (48 : Int32), .int (49 : Int32), .int (46 : Int32), .int (52 : Int32), .int (0 : Int32), .int (0 : Int32), .int (0 : Int32), .int (0 : Int32), .int (0 : Int32), .int (0 : Int32), .int (0 : Int32)] (.int 0)) => ?_)
  have E16 := Ext.wr E15 W16 gb
  have N16 := Fr.snoc X16 N15 gb
  refine w_dup (n := 89) X16.here hx (hb hby d22_88) rfl rfl ?_
  refine w_bipush (z := (15 : Int32)) (n := 91) X16.here hx (hb hby d22_89) rfl rfl ?_
  refine w_bipush (z := (46 : Int32)) (n := 93) X16.here hx (hb hby d22_91) rfl rfl ?_
  refine s_C (n := 94) X16 hx hZ e16 V16 15 rfl (Nat.le_of_ble_eq_true rfl) (by decide) (by decide) (hb hby d22_93) rfl (fun T17 h17 X17 e17 W17 (V17 : Arv Z h17 b1 k1 .char (22 : Int32) [.int (49 : Int32), .int (46 : Int32), .int (50 : Int32), .int (46 : Int32), .int (54 : Int32), .int (49 : Int32), .int (54 : Int32), .int (46 : Int32), .int (49 : Int32), .int (46 : Int32), .int (49 : Int32), .int (48 : Int32), .int (49 : Int32), .int (46 : Int32), .int (52 : Int32), .int (46 : Int32), .int (0 : Int32), .int (0 : Int32), .int (0 : Int32), .int (0 : Int32), .int (0 : Int32), .int (0 : Int32)] (.int 0)) => ?_)
  have E17 := Ext.wr E16 W17 gb
  have N17 := Fr.snoc X17 N16 gb
  refine w_dup (n := 95) X17.here hx (hb hby d22_94) rfl rfl ?_
  refine w_bipush (z := (16 : Int32)) (n := 97) X17.here hx (hb hby d22_95) rfl rfl ?_
  refine w_bipush (z := (49 : Int32)) (n := 99) X17.here hx (hb hby d22_97) rfl rfl ?_
  refine s_C (n := 100) X17 hx hZ e17 V17 16 rfl (Nat.le_of_ble_eq_true rfl) (by decide) (by decide) (hb hby d22_99) rfl (fun T18 h18 X18 e18 W18 (V18 : Arv Z h18 b1 k1 .char (22 : Int32) [.int (49 : Int32), .int (46 : Int32), .int (50 : Int32), .int (46 : Int32), .int (54 : Int32), .int (49 : Int32), .int (54 : Int32), .int (46 : Int32), .int (49 : Int32), .int (46 : Int32), .int (49 : Int32), .int (48 : Int32), .int (49 : Int32), .int (46 : Int32), .int (52 : Int32), .int (46 : Int32), .int (49 : Int32), .int (0 : Int32), .int (0 : Int32), .int (0 : Int32), .int (0 : Int32), .int (0 : Int32)] (.int 0)) => ?_)
  have E18 := Ext.wr E17 W18 gb
  have N18 := Fr.snoc X18 N17 gb
  refine w_dup (n := 101) X18.here hx (hb hby d22_100) rfl rfl ?_
  refine w_bipush (z := (17 : Int32)) (n := 103) X18.here hx (hb hby d22_101) rfl rfl ?_
  refine w_bipush (z := (46 : Int32)) (n := 105) X18.here hx (hb hby d22_103) rfl rfl ?_
  refine s_C (n := 106) X18 hx hZ e18 V18 17 rfl (Nat.le_of_ble_eq_true rfl) (by decide) (by decide) (hb hby d22_105) rfl (fun T19 h19 X19 e19 W19 (V19 : Arv Z h19 b1 k1 .char (22 : Int32) [.int (49 : Int32), .int (46 : Int32), .int (50 : Int32), .int (46 : Int32), .int (54 : Int32), .int (49 : Int32), .int (54 : Int32), .int (46 : Int32), .int (49 : Int32), .int (46 : Int32), .int (49 : Int32), .int (48 : Int32), .int (49 : Int32), .int (46 : Int32), .int (52 : Int32), .int (46 : Int32), .int (49 : Int32), .int (46 : Int32), .int (0 : Int32), .int (0 : Int32), .int (0 : Int32), .int (0 : Int32)] (.int 0)) => ?_)
  have E19 := Ext.wr E18 W19 gb
  have N19 := Fr.snoc X19 N18 gb
  refine w_dup (n := 107) X19.here hx (hb hby d22_106) rfl rfl ?_
  refine w_bipush (z := (18 : Int32)) (n := 109) X19.here hx (hb hby d22_107) rfl rfl ?_
  refine w_iloadN (n := 110) X19.here hx (hb hby d22_109) rfl rfl ?_
  refine s_C (n := 111) X19 hx hZ e19 V19 18 rfl (Nat.le_of_ble_eq_true rfl) (by decide) (by decide) (hb hby d22_110) rfl (fun T20 h20 X20 e20 W20 (V20 : Arv Z h20 b1 k1 .char (22 : Int32) [.int (49 : Int32), .int (46 : Int32), .int (50 : Int32), .int (46 : Int32), .int (54 : Int32), .int (49 : Int32), .int (54 : Int32), .int (46 : Int32), .int (49 : Int32), .int (46 : Int32), .int (49 : Int32), .int (48 : Int32), .int (49 : Int32), .int (46 : Int32), .int (52 : Int32), .int (46 : Int32), .int (49 : Int32), .int (46 : Int32), .int (nar .char d), .int (0 : Int32), .int (0 : Int32), .int (0 : Int32)] (.int 0)) => ?_)
  have E20 := Ext.wr E19 W20 gb
  have N20 := Fr.snoc X20 N19 gb
  refine w_dup (n := 112) X20.here hx (hb hby d22_111) rfl rfl ?_
  refine w_bipush (z := (19 : Int32)) (n := 114) X20.here hx (hb hby d22_112) rfl rfl ?_
  refine w_bipush (z := (46 : Int32)) (n := 116) X20.here hx (hb hby d22_114) rfl rfl ?_
  refine s_C (n := 117) X20 hx hZ e20 V20 19 rfl (Nat.le_of_ble_eq_true rfl) (by decide) (by decide) (hb hby d22_116) rfl (fun T21 h21 X21 e21 W21 (V21 : Arv Z h21 b1 k1 .char (22 : Int32) [.int (49 : Int32), .int (46 : Int32), .int (50 : Int32), .int (46 : Int32), .int (54 : Int32), .int (49 : Int32), .int (54 : Int32), .int (46 : Int32), .int (49 : Int32), .int (46 : Int32), .int (49 : Int32), .int (48 : Int32), .int (49 : Int32), .int (46 : Int32), .int (52 : Int32), .int (46 : Int32), .int (49 : Int32), .int (46 : Int32), .int (nar .char d), .int (46 : Int32), .int (0 : Int32), .int (0 : Int32)] (.int 0)) => ?_)
  have E21 := Ext.wr E20 W21 gb
  have N21 := Fr.snoc X21 N20 gb
  refine w_dup (n := 118) X21.here hx (hb hby d22_117) rfl rfl ?_
  refine w_bipush (z := (20 : Int32)) (n := 120) X21.here hx (hb hby d22_118) rfl rfl ?_
  refine w_bipush (z := (49 : Int32)) (n := 122) X21.here hx (hb hby d22_120) rfl rfl ?_
  refine s_C (n := 123) X21 hx hZ e21 V21 20 rfl (Nat.le_of_ble_eq_true rfl) (by decide) (by decide) (hb hby d22_122) rfl (fun T22 h22 X22 e22 W22 (V22 : Arv Z h22 b1 k1 .char (22 : Int32) [.int (49 : Int32), .int (46 : Int32), .int (50 : Int32), .int (46 : Int32), .int (54 : Int32), .int (49 : Int32), .int (54 : Int32), .int (46 : Int32), .int (49 : Int32), .int (46 : Int32), .int (49 : Int32), .int (48 : Int32), .int (49 : Int32), .int (46 : Int32), .int (52 : Int32), .int (46 : Int32), .int (49 : Int32), .int (46 : Int32), .int (nar .char d), .int (46 : Int32), .int (49 : Int32), .int (0 : Int32)] (.int 0)) => ?_)
  have E22 := Ext.wr E21 W22 gb
  have N22 := Fr.snoc X22 N21 gb
  refine w_dup (n := 124) X22.here hx (hb hby d22_123) rfl rfl ?_
  refine w_bipush (z := (21 : Int32)) (n := 126) X22.here hx (hb hby d22_124) rfl rfl ?_
  refine w_iloadN (n := 127) X22.here hx (hb hby d22_126) rfl rfl ?_
  refine s_C (n := 128) X22 hx hZ e22 V22 21 rfl (Nat.le_of_ble_eq_true rfl) (by decide) (by decide) (hb hby d22_127) rfl (fun T23 h23 X23 e23 W23 (V23 : Arv Z h23 b1 k1 .char (22 : Int32) [.int (49 : Int32), .int (46 : Int32), .int (50 : Int32), .int (46 : Int32), .int (54 : Int32), .int (49 : Int32), .int (54 : Int32), .int (46 : Int32), .int (49 : Int32), .int (46 : Int32), .int (49 : Int32), .int (48 : Int32), .int (49 : Int32), .int (46 : Int32), .int (52 : Int32), .int (46 : Int32), .int (49 : Int32), .int (46 : Int32), .int (nar .char d), .int (46 : Int32), .int (49 : Int32), .int (nar .char x)] (.int 0)) => ?_)
  have E23 := Ext.wr E22 W23 gb
  have N23 := Fr.snoc X23 N22 gb
  exact fin_A X23 hx hlk e23 hret rfl rfl rfl (hb hby d22_128) (by decide) (by decide) ⟨_, _, rfl, gb, E23, V23, N23⟩
theorem ef_15 (m : MethodId) (a : Addr) : entryFrame m #[(.ref a)] 1 = mkF m 0 #[.val (.ref a)] [] := by first | (simp [entryFrame, mkF, argsToLocals, Value.category]; done) | rfl
theorem pn_12 : plainName "java/util/Objects" = true := by first | (simp [plainName, overriddenIn]; done) | decide +kernel
set_option maxRecDepth 65536 in
set_option maxHeartbeats 40000000 in
theorem rm_rn (l : Launch) (Z : State) (a0 : Array Value) (hw : ∀ d ∈ tables_1, d.before a0 Z = true) (ws : List Jvm.Cond) (a : Addr) (h0 : Heap) :
    Con l Z (⟨"java/util/Objects", "requireNonNull", "(Ljava/lang/Object;)Ljava/lang/Object;"⟩ : MethodName) jdk_31_method_10_code 1 (some (.object "java/lang/Object")) ws own_r0 #[.ref a] h0 (fun v h L => v = some (.ref a) ∧ L = [] ∧ h = h0) := by
  refine con_of (plainFor_of_name pn_12) ?_
  intro p e s m below meth c T0 X0 hx hZ hby hml hown hret hnm hlk e0
  refine Endz.eq (ef_15 m a) ?_
  refine w_aloadN (n := 1) X0.here hx (hb hby d19_0) rfl rfl rfl ?_
  refine w_ifnonnull (n1 := 12) (n2 := 4) X0.here hx rfl (hb hby d19_1) (by decide) (by decide) rfl (fun hc1 => ?_) (fun hc1 => nomatch hc1)
  refine w_aloadN (n := 13) X0.here hx (hb hby d19_12) rfl rfl rfl ?_
  exact fin_A X0 hx hlk e0 hret rfl rfl rfl (hb hby d19_13) (by decide) (by decide) ⟨rfl, rfl, rfl⟩
theorem ef_16 (m : MethodId) (th : Addr) (a : Addr) : entryFrame m #[(.ref th), (.ref a)] 2 = mkF m 0 #[.val (.ref th), .val (.ref a)] [] := by first | (simp [entryFrame, mkF, argsToLocals, Value.category]; done) | rfl
theorem pn_13 : plainName "java/util/Optional" = true := by first | (simp [plainName, overriddenIn]; done) | decide +kernel
set_option maxRecDepth 65536 in
set_option maxHeartbeats 40000000 in
theorem rm_oi (l : Launch) (Z : State) (a0 : Array Value) (hw : ∀ d ∈ tables_1, d.before a0 Z = true) (ws : List Jvm.Cond) (th a : Addr) (h0 : Heap) (A : Exa Z h0 th "java/util/Optional") (o : Value) (FV : Fld Z h0 th "java/util/Optional" "value" "Ljava/lang/Object;" o) :
    Con l Z (⟨"java/util/Optional", "<init>", "(Ljava/lang/Object;)V"⟩ : MethodName) jdk_32_method_2_code 2 none ws own_rI2 #[.ref th, .ref a] h0 (fun v h L => v = none ∧ Exa Z h th "java/util/Optional" ∧ Fld Z h th "java/util/Optional" "value" "Ljava/lang/Object;" (.ref a) ∧ Keep h0 h [th] ∧ ∀ n0, n0 ≤ th → Fr n0 L) := by
  refine con_of (plainFor_of_name pn_13) ?_
  intro p e s m below meth c T0 X0 hx hZ hby hml hown hret hnm hlk e0
  refine Endz.eq (ef_16 m th a) ?_
  refine w_aloadN (n := 1) X0.here hx (hb hby d20_0) rfl rfl rfl ?_
  refine c_O (n := 4) X0 hx hZ hown (hw _ (List.mem_of_getElem? (i := 111) rfl)) (hw _ (List.mem_of_getElem? (i := 53) rfl)) (hw _ (List.mem_of_getElem? (i := 54) rfl)) e0 (by rw [hml]; rfl) (hb hby d20_1) rfl 0 (by decide) (Nat.le_of_ble_eq_true rfl) (by decide) (fun T1 X1 e1 => ?_)
  refine w_aloadN (n := 5) X1.here hx (hb hby d20_4) rfl rfl rfl ?_
  refine w_aloadN (n := 6) X1.here hx (hb hby d20_5) rfl rfl rfl ?_
  refine p_F (n := 9) (ty := (.object "java/lang/Object")) X1 hx hZ hown (hw _ (List.mem_of_getElem? (i := 40) rfl)) e1 FV A (Or.inr ⟨(hw _ (List.mem_of_getElem? (i := 41) rfl)), rfl, hnm⟩) (hw _ (List.mem_of_getElem? (i := 102) rfl)) (by decide +kernel) rfl rfl (hb hby d20_6) rfl (fun T2 h2 X2 e2 W2 => ?_)
  exact fin_V X2 hx hlk e2 hret (hb hby d20_9) (by decide) (by decide) ⟨rfl, A.wr W2, FV.same W2, (Keep.refl h0 [th]).wr W2 (Or.inl (List.mem_singleton.mpr rfl)), fun n0 q => Fr.snoc X2 (Fr.nil n0) q⟩
theorem ef_17 (m : MethodId) (a : Addr) : entryFrame m #[(.ref a)] 1 = mkF m 0 #[.val (.ref a)] [] := by first | (simp [entryFrame, mkF, argsToLocals, Value.category]; done) | rfl
theorem pd_14 : parseMethodDescriptor "(Ljava/lang/Object;)Ljava/lang/Object;" = some ⟨[(.object "java/lang/Object")], some (.object "java/lang/Object")⟩ := by decide +kernel
theorem pd_15 : parseMethodDescriptor "(Ljava/lang/Object;)V" = some ⟨[(.object "java/lang/Object")], none⟩ := by decide +kernel
set_option maxRecDepth 65536 in
set_option maxHeartbeats 40000000 in
theorem rm_of (l : Launch) (Z : State) (a0 : Array Value) (hw : ∀ d ∈ tables_1, d.before a0 Z = true) (ws : List Jvm.Cond) (a : Addr) (h0 : Heap) :
    Con l Z (⟨"java/util/Optional", "of", "(Ljava/lang/Object;)Ljava/util/Optional;"⟩ : MethodName) jdk_32_method_3_code 1 (some (.object "java/util/Optional")) ws own_rOf #[.ref a] h0 (fun v h L => ∃ ob, v = some (.ref ob) ∧ Exa Z h ob "java/util/Optional" ∧ Fld Z h ob "java/util/Optional" "value" "Ljava/lang/Object;" (.ref a) ∧ Ext h0 h ∧ Fr h0.size L) := by
  refine con_of (plainFor_of_name pn_13) ?_
  intro p e s m below meth c T0 X0 hx hZ hby hml hown hret hnm hlk e0
  refine Endz.eq (ef_17 m a) ?_
  refine n_O (n := 3) X0 hx hZ hown (hw _ (List.mem_of_getElem? (i := 101) rfl)) (hw _ (List.mem_of_getElem? (i := 102) rfl)) (hw _ (List.mem_of_getElem? (i := 32) rfl)) e0 (hb hby d18_0) rfl (by decide) (by decide) (fun T1 h1 b1 g1 X1 e1 E1 A1 D1 U1 => ?_)
  refine w_dup (n := 4) X1.here hx (hb hby d18_3) rfl rfl ?_
  refine w_aloadN (n := 5) X1.here hx (hb hby d18_4) rfl rfl rfl ?_
  have FV := D1 (O := "java/util/Optional") (nm := "value") (d := "Ljava/lang/Object;") (ty := .object "java/lang/Object") (Or.inr (hw _ (List.mem_of_getElem? (i := 41) rfl))) (by decide +kernel)
  refine c_S (n := 8) (argsL := [(.ref a)]) (rest := [(.ref b1), (.ref b1)]) X1 hx hZ hown (rm_rn l Z a0 hw [] a h1) e1 (hw _ (List.mem_of_getElem? (i := 103) rfl)) (hw _ (List.mem_of_getElem? (i := 104) rfl)) (hw _ (List.mem_of_getElem? (i := 105) rfl)) (hw _ (List.mem_of_getElem? (i := 106) rfl)) (by decide) 2 (by decide) (by decide) (by decide) (by decide) (by rw [hml]; rfl) pd_14 rfl rfl (Nat.le_of_ble_eq_true rfl) (hb hby d18_5) rfl (fun v2 T2 L2 X2 hQ2 => ?_)
  obtain ⟨rfl, rfl, e9⟩ := hQ2
  show Endz _ _ _ _ T2 (mkF m 8 #[.val (.ref a)] [(.ref a), (.ref b1), (.ref b1)])
  refine c_N (n := 11) (b := b1) (argsL := [(.ref a)]) (rest := [(.ref b1)]) X2 hx hZ rfl hown (rm_oi l Z a0 hw [] b1 a h1 A1 _ FV) e9 (hw _ (List.mem_of_getElem? (i := 107) rfl)) (hw _ (List.mem_of_getElem? (i := 108) rfl)) (hw _ (List.mem_of_getElem? (i := 32) rfl)) (hw _ (List.mem_of_getElem? (i := 110) rfl)) (by decide) 1 (by decide) (by decide) (by decide) (by decide) (by rw [hml]; rfl) pd_15 rfl rfl (Nat.le_of_ble_eq_true rfl) (hb hby d18_8) rfl (fun v3 T3 L3 X3 hQ3 => ?_)
  obtain ⟨rfl, A9, F9, K9, N9⟩ := hQ3
  show Endz _ _ _ _ T3 (mkF m 11 #[.val (.ref a)] [(.ref b1)])
  have gb : h0.size ≤ b1 := Nat.le_of_eq g1.symm
  exact fin_A X3 hx hlk rfl hret rfl rfl rfl (hb hby d18_11) (by decide) (by decide) ⟨_, rfl, A9, F9, Ext.keep1 E1 K9 gb, ((Fr.nil _).app (Fr.nil _)).app (N9 _ gb)⟩
theorem ef_em (m : MethodId) : entryFrame m #[] 1 = mkF m 0 #[.unset] [] := rfl
set_option maxRecDepth 65536 in
set_option maxHeartbeats 40000000 in
theorem rm_em (l : Launch) (Z : State) (a0 : Array Value) (hw : ∀ d ∈ tables_1, d.before a0 Z = true) (ws : List Jvm.Cond) (h0 : Heap) (eo : Addr) (SE : Sta Z h0 "java/util/Optional" "EMPTY" "Ljava/util/Optional;" (.ref eo)) :
    Con l Z (⟨"java/util/Optional", "empty", "()Ljava/util/Optional;"⟩ : MethodName) jdk_32_method_1_code 1 (some (.object "java/util/Optional")) ws own_r0 #[] h0 (fun v h L => v = some (.ref eo) ∧ L = [] ∧ h = h0) := by
  refine con_of (plainFor_of_name pn_13) ?_
  intro p e s m below meth c T0 X0 hx hZ hby hml hown hret hnm hlk e0
  refine Endz.eq (ef_em m) ?_
  refine g_S (n := 3) X0 hx hZ hown (hw _ (List.mem_of_getElem? (i := 34) rfl)) e0 SE (hb hby d4_0) rfl (fun T1 X1 e1 => ?_)
  refine w_astoreN (Ls' := #[.val (.ref eo)]) (n := 4) X1.here hx (hb hby d4_3) rfl rfl rfl ?_
  refine w_aloadN (n := 5) X1.here hx (hb hby d4_4) rfl rfl rfl ?_
  exact fin_A X1 hx hlk e1 hret rfl rfl rfl (hb hby d4_5) (by decide) (by decide) ⟨rfl, rfl, rfl⟩
theorem ef_oe (m : MethodId) (a : Addr) : entryFrame m #[.ref a, .null] 2 = mkF m 0 #[.val (.ref a), .val .null] [] := by first | (simp [entryFrame, mkF, argsToLocals, Value.category]; done) | rfl
set_option maxRecDepth 65536 in
set_option maxHeartbeats 40000000 in
theorem rm_oe (l : Launch) (Z : State) (a0 : Array Value) (hw : ∀ d ∈ tables_1, d.before a0 Z = true) (ws : List Jvm.Cond) (a : Addr) (x : Value) (hxr : x.isRef = true) (h0 : Heap) (FV : Fld Z h0 a "java/util/Optional" "value" "Ljava/lang/Object;" x) :
    Con l Z (⟨"java/util/Optional", "orElse", "(Ljava/lang/Object;)Ljava/lang/Object;"⟩ : MethodName) jdk_32_method_15_code 2 (some (.object "java/lang/Object")) ws own_r0 #[.ref a, .null] h0 (fun v h L => v = some x ∧ L = [] ∧ h = h0) := by
  refine con_of (plainFor_of_name pn_13) ?_
  intro p e s m below meth c T0 X0 hx hZ hby hml hown hret hnm hlk e0
  refine Endz.eq (ef_oe m a) ?_
  refine w_aloadN (n := 1) X0.here hx (hb hby d5_0) rfl rfl rfl ?_
  refine g_F (n := 4) X0 hx hZ hown (hw _ (List.mem_of_getElem? (i := 40) rfl)) e0 FV (hb hby d5_1) rfl (fun T1 X1 e1 => ?_)
  refine w_ifnull (n1 := 14) (n2 := 7) X1.here hx hxr (hb hby d5_4) (by decide) (by decide) rfl (fun hc4 => ?_) (fun hc4 => ?_)
  · refine w_aloadN (n := 15) X1.here hx (hb hby d5_14) rfl rfl rfl ?_
    exact fin_A X1 hx hlk e1 hret rfl rfl rfl (hb hby d5_15) (by decide) (by decide) ⟨by rw [hc4], rfl, rfl⟩
  · refine w_aloadN (n := 8) X1.here hx (hb hby d5_7) rfl rfl rfl ?_
    refine g_F (n := 11) X1 hx hZ hown (hw _ (List.mem_of_getElem? (i := 40) rfl)) e1 FV (hb hby d5_8) rfl (fun T2 X2 e2 => ?_)
    refine w_goto (n := 15) X2.here hx (hb hby d5_11) (by decide) (by decide) ?_
    exact fin_A X2 hx hlk e2 hret (by rcases ref_cases hxr with rfl | ⟨_, rfl⟩ <;> rfl) rfl hxr (hb hby d5_15) (by decide) (by decide) ⟨rfl, rfl, rfl⟩
theorem pn_16 : plainName "com/example/legitka/legitka/CardKind" = true := by first | (simp [plainName, overriddenIn]; done) | decide +kernel
theorem ef_v (m : MethodId) : entryFrame m #[] 0 = mkF m 0 #[] [] := rfl
set_option maxRecDepth 65536 in
set_option maxHeartbeats 40000000 in
theorem rmv (l : Launch) (Z : State) (a0 : Array Value) (hw : ∀ d ∈ tables_1, d.before a0 Z = true) (ws : List Jvm.Cond) (vA w1 w2 : Addr) (kA : ClassId) (h0 : Heap) (SV : Sta Z h0 "com/example/legitka/legitka/CardKind" "$VALUES" "[Lcom/example/legitka/legitka/CardKind;" (.ref vA)) (AV : Exa Z h0 vA "[Lcom/example/legitka/legitka/CardKind;") (VV : Arv Z h0 vA kA (.object "com/example/legitka/legitka/CardKind") 2 [.ref w1, .ref w2] .null) :
    Con l Z (⟨"com/example/legitka/legitka/CardKind", "values", "()[Lcom/example/legitka/legitka/CardKind;"⟩ : MethodName) prog_5_method_1_code 0 (some (.array (.object "com/example/legitka/legitka/CardKind"))) ws own_rv #[] h0 (fun v h L => ∃ b, v = some (.ref b) ∧ L = [] ∧ Ext h0 h ∧ Arv Z h b kA (.object "com/example/legitka/legitka/CardKind") 2 [.ref w1, .ref w2] .null) := by
  refine con_of (plainFor_of_name pn_16) ?_
  intro p e s m below meth c T0 X0 hx hZ hby hml hown hret hnm hlk e0
  refine Endz.eq (ef_v m) ?_
  refine g_S (n := 3) X0 hx hZ hown (hw _ (List.mem_of_getElem? (i := 8) rfl)) e0 SV (hb hby d2_0) rfl (fun T1 X1 e1 => ?_)
  refine c_C (n := 6) X1 hx hZ hown (hw _ (List.mem_of_getElem? (i := 10) rfl)) (hw _ (List.mem_of_getElem? (i := 11) rfl)) (hw _ (List.mem_of_getElem? (i := 15) rfl)) (hw _ (List.mem_of_getElem? (i := 13) rfl)) (hw _ (List.mem_of_getElem? (i := 14) rfl)) (hw _ (List.mem_of_getElem? (i := 16) rfl)) e1 VV AV (by rw [hml]; rfl) (hb hby d2_3) rfl 0 2 (by decide) (by decide) (by decide) (by decide) (by decide) (by decide) (fun T2 h2 b gb X2 e2 E2 V2 A2 => ?_)
  refine k_C (n := 9) X2 hx hZ hown (hw _ (List.mem_of_getElem? (i := 20) rfl)) e2 (Ins.self A2) (hb hby d2_6) rfl (fun T3 X3 e3 => ?_)
  exact fin_A X3 hx hlk e3 hret rfl rfl rfl (hb hby d2_9) (by decide) (by decide) ⟨b, rfl, rfl, E2, V2⟩
theorem pd_17 : parseMethodDescriptor "()[Lcom/example/legitka/legitka/CardKind;" = some ⟨[], some (.array (.object "com/example/legitka/legitka/CardKind"))⟩ := by decide +kernel
theorem pd_18 : parseMethodDescriptor "(Ljava/lang/Object;)Z" = some ⟨[(.object "java/lang/Object")], some .boolean⟩ := by decide +kernel
theorem pd_19 : parseMethodDescriptor "(Ljava/lang/Object;)Ljava/util/Optional;" = some ⟨[(.object "java/lang/Object")], some (.object "java/util/Optional")⟩ := by decide +kernel
theorem pd_20 : parseMethodDescriptor "()Ljava/util/Optional;" = some ⟨[], some (.object "java/util/Optional")⟩ := by decide +kernel
theorem ef_fn (m : MethodId) : entryFrame m #[.null] 5 = mkF m 0 #[.val .null, .unset, .unset, .unset, .unset] [] := rfl
theorem ef_18 (m : MethodId) (sa : Addr) : entryFrame m #[(.ref sa)] 5 = mkF m 0 #[.val (.ref sa), .unset, .unset, .unset, .unset] [] := by first | (simp [entryFrame, mkF, argsToLocals, Value.category]; done) | rfl
set_option maxRecDepth 65536 in
set_option maxHeartbeats 40000000 in
theorem rm_fn (l : Launch) (Z : State) (a0 : Array Value) (hw : ∀ d ∈ tables_1, d.before a0 Z = true) (ws : List Jvm.Cond) (vA w1 w2 : Addr) (kA : ClassId) (h0 : Heap) (SV : Sta Z h0 "com/example/legitka/legitka/CardKind" "$VALUES" "[Lcom/example/legitka/legitka/CardKind;" (.ref vA)) (AV : Exa Z h0 vA "[Lcom/example/legitka/legitka/CardKind;") (VV : Arv Z h0 vA kA (.object "com/example/legitka/legitka/CardKind") 2 [.ref w1, .ref w2] .null) (A1 : Exa Z h0 w1 "com/example/legitka/legitka/CardKind") (A2 : Exa Z h0 w2 "com/example/legitka/legitka/CardKind") (t1 t2 : Addr) (o1 o2 : List Int32) (F1 : Fld Z h0 w1 "com/example/legitka/legitka/CardKind" "contentType" "Ljava/lang/String;" (.ref t1)) (F2 : Fld Z h0 w2 "com/example/legitka/legitka/CardKind" "contentType" "Ljava/lang/String;" (.ref t2)) (G1 : Strz Z h0 t1 o1) (G2 : Strz Z h0 t2 o2) (eo : Addr) (SE : Sta Z h0 "java/util/Optional" "EMPTY" "Ljava/util/Optional;" (.ref eo)) (AE : Exa Z h0 eo "java/util/Optional") (FE : Fld Z h0 eo "java/util/Optional" "value" "Ljava/lang/Object;" .null) (cs : Int32) (hcs : cs ≠ 0) (SC : Sta Z h0 "java/lang/String" "COMPACT_STRINGS" "Z" (.int cs))  :
    Con l Z (⟨"com/example/legitka/legitka/CardKind", "forContentType", "(Ljava/lang/String;)Ljava/util/Optional;"⟩ : MethodName) prog_5_method_10_code 5 (some (.object "java/util/Optional")) ws own_rFC #[.null] h0 (fun v h L => ∃ ob, v = some (.ref ob) ∧ Exa Z h ob "java/util/Optional" ∧ Fld Z h ob "java/util/Optional" "value" "Ljava/lang/Object;" .null ∧ Ext h0 h ∧ Fr h0.size L) := by
  refine con_of (plainFor_of_name pn_16) ?_
  intro p e s m below meth c T0 X0 hx hZ hby hml hown hret hnm hlk e0
  refine Endz.eq (ef_fn m) ?_
  refine c_S (n := 3) (argsL := []) (rest := []) X0 hx hZ hown (rmv l Z a0 hw [] vA w1 w2 kA h0 SV AV VV) e0 (hw _ (List.mem_of_getElem? (i := 5) rfl)) (hw _ (List.mem_of_getElem? (i := 6) rfl)) (hw _ (List.mem_of_getElem? (i := 3) rfl)) (hw _ (List.mem_of_getElem? (i := 7) rfl)) (by decide) 0 (by decide) (by decide) (by decide) (by decide) (by rw [hml]; rfl) pd_17 rfl rfl (Nat.le_of_ble_eq_true rfl) (hb hby d1_0) rfl (fun v1 T1 L1 X1 hQ1 => ?_)
  obtain ⟨b, rfl, rfl, E1, V1⟩ := hQ1
  show Endz _ _ _ _ T1 (mkF m 3 #[.val .null, .unset, .unset, .unset, .unset] [(.ref b)])
  refine w_astoreN (Ls' := #[.val .null, .val (.ref b), .unset, .unset, .unset]) (n := 4) X1.here hx (hb hby d1_3) rfl rfl rfl ?_
  refine w_aloadN (n := 5) X1.here hx (hb hby d1_4) rfl rfl rfl ?_
  refine a_L (n := 6) X1 hx hZ rfl V1 (hb hby d1_5) rfl ?_
  refine w_istoreN (Ls' := #[.val .null, .val (.ref b), .val (.int (2 : Int32)), .unset, .unset]) (n := 7) X1.here hx (hb hby d1_6) rfl rfl ?_
  refine w_iconst (z := (0 : Int32)) (n := 8) X1.here hx (hb hby d1_7) rfl rfl ?_
  refine w_istoreN (Ls' := #[.val .null, .val (.ref b), .val (.int (2 : Int32)), .val (.int (0 : Int32)), .unset]) (n := 9) X1.here hx (hb hby d1_8) rfl rfl ?_
  refine w_iloadN (n := 10) X1.here hx (hb hby d1_9) rfl rfl ?_
  refine w_iloadN (n := 11) X1.here hx (hb hby d1_10) rfl rfl ?_
  refine w_icmpge (n1 := 43) (n2 := 14) X1.here hx (hb hby d1_11) (by decide) (by decide) rfl (fun hc11 => absurd (by decide : (0 : Int32) < 2) hc11) (fun hc11 => ?_)
  refine w_aloadN (n := 15) X1.here hx (hb hby d1_14) rfl rfl rfl ?_
  refine w_iloadN (n := 16) X1.here hx (hb hby d1_15) rfl rfl ?_
  refine l_A (n := 17) X1 hx hZ rfl V1 rfl (by decide) (by decide) rfl (hb hby d1_16) rfl ?_
  refine w_astore (Ls' := #[.val .null, .val (.ref b), .val (.int (2 : Int32)), .val (.int (0 : Int32)), .val (.ref w1)]) (n := 19) X1.here hx (hb hby d1_17) rfl rfl rfl ?_
  refine w_aload (n := 21) X1.here hx (hb hby d1_19) rfl rfl rfl ?_
  refine g_F (n := 24) X1 hx hZ hown (hw _ (List.mem_of_getElem? (i := 22) rfl)) rfl (F1.ext E1) (hb hby d1_21) rfl (fun T2 X2 e2 => ?_)
  refine w_aloadN (n := 25) X2.here hx (hb hby d1_24) rfl rfl rfl ?_
  refine c_V (n := 28) (b := t1) (argsL := [.null]) (rest := []) X2 hx hZ hown (rm_en l Z a0 hw [] t1 _) e2 (own_get (G1.ext E1)).1 (hw _ (List.mem_of_getElem? (i := 24) rfl)) (hw _ (List.mem_of_getElem? (i := 25) rfl)) (notFace_of_selects (args := #[]) (mvT hZ (hw _ (List.mem_of_getElem? (i := 27) rfl)))) (hw _ (List.mem_of_getElem? (i := 27) rfl)) (hw _ (List.mem_of_getElem? (i := 26) rfl)) (hw _ (List.mem_of_getElem? (i := 28) rfl)) (hw _ (List.mem_of_getElem? (i := 29) rfl)) (by decide) 0 (by decide) (by decide) (by decide) (by decide) (by rw [hml]; rfl) pd_18 rfl rfl (Nat.le_of_ble_eq_true rfl) (hb hby d1_25) rfl (fun v3 T3 L3 X3 hQ3 => ?_)
  obtain ⟨rfl, rfl, f3⟩ := hQ3
  show Endz _ _ _ _ T3 (mkF m 28 #[.val .null, .val (.ref b), .val (.int (2 : Int32)), .val (.int (0 : Int32)), .val (.ref w1)] [(.int (0 : Int32))])
  refine w_ifeq (n1 := 37) (n2 := 31) X3.here hx (hb hby d1_28) (by decide) (by decide) rfl (fun hc28 => ?_) (fun hc28 => absurd rfl hc28)
  refine w_iinc (Ls' := #[.val .null, .val (.ref b), .val (.int (2 : Int32)), .val (.int (1 : Int32)), .val (.ref w1)]) (n := 40) X3.here hx (hb hby d1_37) rfl rfl rfl ?_
  refine w_goto (n := 9) X3.here hx (hb hby d1_40) (by decide) (by decide) ?_
  refine w_iloadN (n := 10) X3.here hx (hb hby d1_9) rfl rfl ?_
  refine w_iloadN (n := 11) X3.here hx (hb hby d1_10) rfl rfl ?_
  refine w_icmpge (n1 := 43) (n2 := 14) X3.here hx (hb hby d1_11) (by decide) (by decide) rfl (fun hc11 => absurd (by decide : (1 : Int32) < 2) hc11) (fun hc11 => ?_)
  refine w_aloadN (n := 15) X3.here hx (hb hby d1_14) rfl rfl rfl ?_
  refine w_iloadN (n := 16) X3.here hx (hb hby d1_15) rfl rfl ?_
  refine l_A (n := 17) X3 hx hZ f3 V1 rfl (by decide) (by decide) rfl (hb hby d1_16) rfl ?_
  refine w_astore (Ls' := #[.val .null, .val (.ref b), .val (.int (2 : Int32)), .val (.int (1 : Int32)), .val (.ref w2)]) (n := 19) X3.here hx (hb hby d1_17) rfl rfl rfl ?_
  refine w_aload (n := 21) X3.here hx (hb hby d1_19) rfl rfl rfl ?_
  refine g_F (n := 24) X3 hx hZ hown (hw _ (List.mem_of_getElem? (i := 22) rfl)) f3 (F2.ext E1) (hb hby d1_21) rfl (fun T4 X4 e4 => ?_)
  refine w_aloadN (n := 25) X4.here hx (hb hby d1_24) rfl rfl rfl ?_
  refine c_V (n := 28) (b := t2) (argsL := [.null]) (rest := []) X4 hx hZ hown (rm_en l Z a0 hw [] t2 _) e4 (own_get (G2.ext E1)).1 (hw _ (List.mem_of_getElem? (i := 24) rfl)) (hw _ (List.mem_of_getElem? (i := 25) rfl)) (notFace_of_selects (args := #[]) (mvT hZ (hw _ (List.mem_of_getElem? (i := 27) rfl)))) (hw _ (List.mem_of_getElem? (i := 27) rfl)) (hw _ (List.mem_of_getElem? (i := 26) rfl)) (hw _ (List.mem_of_getElem? (i := 28) rfl)) (hw _ (List.mem_of_getElem? (i := 29) rfl)) (by decide) 0 (by decide) (by decide) (by decide) (by decide) (by rw [hml]; rfl) pd_18 rfl rfl (Nat.le_of_ble_eq_true rfl) (hb hby d1_25) rfl (fun v5 T5 L5 X5 hQ5 => ?_)
  obtain ⟨rfl, rfl, f5⟩ := hQ5
  show Endz _ _ _ _ T5 (mkF m 28 #[.val .null, .val (.ref b), .val (.int (2 : Int32)), .val (.int (1 : Int32)), .val (.ref w2)] [(.int (0 : Int32))])
  refine w_ifeq (n1 := 37) (n2 := 31) X5.here hx (hb hby d1_28) (by decide) (by decide) rfl (fun hc28 => ?_) (fun hc28 => absurd rfl hc28)
  refine w_iinc (Ls' := #[.val .null, .val (.ref b), .val (.int (2 : Int32)), .val (.int (2 : Int32)), .val (.ref w2)]) (n := 40) X5.here hx (hb hby d1_37) rfl rfl rfl ?_
  refine w_goto (n := 9) X5.here hx (hb hby d1_40) (by decide) (by decide) ?_
  refine w_iloadN (n := 10) X5.here hx (hb hby d1_9) rfl rfl ?_
  refine w_iloadN (n := 11) X5.here hx (hb hby d1_10) rfl rfl ?_
  refine w_icmpge (n1 := 43) (n2 := 14) X5.here hx (hb hby d1_11) (by decide) (by decide) rfl (fun hc11 => ?_) (fun hc11 => absurd (by decide : ¬ (2 : Int32) < 2) hc11)
  refine c_S (n := 46) (argsL := []) (rest := []) X5 hx hZ hown (rm_em l Z a0 hw [] _ eo (SE.ext E1)) f5 (hw _ (List.mem_of_getElem? (i := 30) rfl)) (hw _ (List.mem_of_getElem? (i := 31) rfl)) (hw _ (List.mem_of_getElem? (i := 32) rfl)) (hw _ (List.mem_of_getElem? (i := 33) rfl)) (by decide) 0 (by decide) (by decide) (by decide) (by decide) (by rw [hml]; rfl) pd_20 rfl rfl (Nat.le_of_ble_eq_true rfl) (hb hby d1_43) rfl (fun v6 T6 L6 X6 hQ6 => ?_)
  obtain ⟨rfl, rfl, e9⟩ := hQ6
  show Endz _ _ _ _ T6 (mkF m 46 #[.val .null, .val (.ref b), .val (.int (2 : Int32)), .val (.int (2 : Int32)), .val (.ref w2)] [(.ref eo)])
  exact fin_A X6 hx hlk e9 hret rfl rfl rfl (hb hby d1_46) (by decide) (by decide) ⟨eo, rfl, AE.ext E1, FE.ext E1, E1, Fr.nil _⟩
def own_exp (us o1 o2 : List Int32) (w1 w2 : Addr) : Value := if o1 = us then .ref w1 else if o2 = us then .ref w2 else .null
set_option maxRecDepth 65536 in
set_option maxHeartbeats 40000000 in
theorem rm_fc (l : Launch) (Z : State) (a0 : Array Value) (hw : ∀ d ∈ tables_1, d.before a0 Z = true) (ws : List Jvm.Cond) (vA w1 w2 : Addr) (kA : ClassId) (h0 : Heap) (SV : Sta Z h0 "com/example/legitka/legitka/CardKind" "$VALUES" "[Lcom/example/legitka/legitka/CardKind;" (.ref vA)) (AV : Exa Z h0 vA "[Lcom/example/legitka/legitka/CardKind;") (VV : Arv Z h0 vA kA (.object "com/example/legitka/legitka/CardKind") 2 [.ref w1, .ref w2] .null) (A1 : Exa Z h0 w1 "com/example/legitka/legitka/CardKind") (A2 : Exa Z h0 w2 "com/example/legitka/legitka/CardKind") (t1 t2 : Addr) (o1 o2 : List Int32) (F1 : Fld Z h0 w1 "com/example/legitka/legitka/CardKind" "contentType" "Ljava/lang/String;" (.ref t1)) (F2 : Fld Z h0 w2 "com/example/legitka/legitka/CardKind" "contentType" "Ljava/lang/String;" (.ref t2)) (G1 : Strz Z h0 t1 o1) (G2 : Strz Z h0 t2 o2) (eo : Addr) (SE : Sta Z h0 "java/util/Optional" "EMPTY" "Ljava/util/Optional;" (.ref eo)) (AE : Exa Z h0 eo "java/util/Optional") (FE : Fld Z h0 eo "java/util/Optional" "value" "Ljava/lang/Object;" .null) (cs : Int32) (hcs : cs ≠ 0) (SC : Sta Z h0 "java/lang/String" "COMPACT_STRINGS" "Z" (.int cs)) (sa : Addr) (us : List Int32) (SS : Strz Z h0 sa us) :
    Con l Z (⟨"com/example/legitka/legitka/CardKind", "forContentType", "(Ljava/lang/String;)Ljava/util/Optional;"⟩ : MethodName) prog_5_method_10_code 5 (some (.object "java/util/Optional")) ws own_rFC #[.ref sa] h0 (fun v h L => ∃ ob, v = some (.ref ob) ∧ Exa Z h ob "java/util/Optional" ∧ Fld Z h ob "java/util/Optional" "value" "Ljava/lang/Object;" (own_exp us o1 o2 w1 w2) ∧ Ext h0 h ∧ Fr h0.size L) := by
  refine con_of (plainFor_of_name pn_16) ?_
  intro p e s m below meth c T0 X0 hx hZ hby hml hown hret hnm hlk e0
  refine Endz.eq (ef_18 m sa) ?_
  refine c_S (n := 3) (argsL := []) (rest := []) X0 hx hZ hown (rmv l Z a0 hw [] vA w1 w2 kA h0 SV AV VV) e0 (hw _ (List.mem_of_getElem? (i := 5) rfl)) (hw _ (List.mem_of_getElem? (i := 6) rfl)) (hw _ (List.mem_of_getElem? (i := 3) rfl)) (hw _ (List.mem_of_getElem? (i := 7) rfl)) (by decide) 0 (by decide) (by decide) (by decide) (by decide) (by rw [hml]; rfl) pd_17 rfl rfl (Nat.le_of_ble_eq_true rfl) (hb hby d1_0) rfl (fun v1 T1 L1 X1 hQ1 => ?_)
  obtain ⟨b, rfl, rfl, E1, V1⟩ := hQ1
  show Endz _ _ _ _ T1 (mkF m 3 #[.val (.ref sa), .unset, .unset, .unset, .unset] [(.ref b)])
  refine w_astoreN (Ls' := #[.val (.ref sa), .val (.ref b), .unset, .unset, .unset]) (n := 4) X1.here hx (hb hby d1_3) rfl rfl rfl ?_
  refine w_aloadN (n := 5) X1.here hx (hb hby d1_4) rfl rfl rfl ?_
  refine a_L (n := 6) X1 hx hZ rfl V1 (hb hby d1_5) rfl ?_
  refine w_istoreN (Ls' := #[.val (.ref sa), .val (.ref b), .val (.int (2 : Int32)), .unset, .unset]) (n := 7) X1.here hx (hb hby d1_6) rfl rfl ?_
  refine w_iconst (z := (0 : Int32)) (n := 8) X1.here hx (hb hby d1_7) rfl rfl ?_
  refine w_istoreN (Ls' := #[.val (.ref sa), .val (.ref b), .val (.int (2 : Int32)), .val (.int (0 : Int32)), .unset]) (n := 9) X1.here hx (hb hby d1_8) rfl rfl ?_
  refine w_iloadN (n := 10) X1.here hx (hb hby d1_9) rfl rfl ?_
  refine w_iloadN (n := 11) X1.here hx (hb hby d1_10) rfl rfl ?_
  refine w_icmpge (n1 := 43) (n2 := 14) X1.here hx (hb hby d1_11) (by decide) (by decide) rfl (fun hc11 => absurd (by decide : (0 : Int32) < 2) hc11) (fun hc11 => ?_)
  refine w_aloadN (n := 15) X1.here hx (hb hby d1_14) rfl rfl rfl ?_
  refine w_iloadN (n := 16) X1.here hx (hb hby d1_15) rfl rfl ?_
  refine l_A (n := 17) X1 hx hZ rfl V1 rfl (by decide) (by decide) rfl (hb hby d1_16) rfl ?_
  refine w_astore (Ls' := #[.val (.ref sa), .val (.ref b), .val (.int (2 : Int32)), .val (.int (0 : Int32)), .val (.ref w1)]) (n := 19) X1.here hx (hb hby d1_17) rfl rfl rfl ?_
  refine w_aload (n := 21) X1.here hx (hb hby d1_19) rfl rfl rfl ?_
  refine g_F (n := 24) X1 hx hZ hown (hw _ (List.mem_of_getElem? (i := 22) rfl)) rfl (F1.ext E1) (hb hby d1_21) rfl (fun T2 X2 e2 => ?_)
  refine w_aloadN (n := 25) X2.here hx (hb hby d1_24) rfl rfl rfl ?_
  refine c_V (n := 28) (b := t1) (argsL := [(.ref sa)]) (rest := []) X2 hx hZ hown (rm_eq l Z a0 hw [] t1 sa o1 us _ cs hcs (SC.ext E1) (G1.ext E1) (SS.ext E1)) e2 (own_get (G1.ext E1)).1 (hw _ (List.mem_of_getElem? (i := 24) rfl)) (hw _ (List.mem_of_getElem? (i := 25) rfl)) (notFace_of_selects (args := #[]) (mvT hZ (hw _ (List.mem_of_getElem? (i := 27) rfl)))) (hw _ (List.mem_of_getElem? (i := 27) rfl)) (hw _ (List.mem_of_getElem? (i := 26) rfl)) (hw _ (List.mem_of_getElem? (i := 28) rfl)) (hw _ (List.mem_of_getElem? (i := 29) rfl)) (by decide) 0 (by decide) (by decide) (by decide) (by decide) (by rw [hml]; rfl) pd_18 rfl rfl (Nat.le_of_ble_eq_true rfl) (hb hby d1_25) rfl (fun v3 T3 L3 X3 hQ3 => ?_)
  obtain ⟨rfl, rfl, f3⟩ := hQ3
  show Endz _ _ _ _ T3 (mkF m 28 #[.val (.ref sa), .val (.ref b), .val (.int (2 : Int32)), .val (.int (0 : Int32)), .val (.ref w1)] [(.int (if o1 = us then 1 else 0))])
  refine w_ifeq (n1 := 37) (n2 := 31) X3.here hx (hb hby d1_28) (by decide) (by decide) rfl (fun hc28 => ?_) (fun hc28 => ?_)
  · have q0 : ¬ o1 = us := fun q => absurd (hc28.symm.trans (if_pos q)) (by decide)
    refine w_iinc (Ls' := #[.val (.ref sa), .val (.ref b), .val (.int (2 : Int32)), .val (.int (1 : Int32)), .val (.ref w1)]) (n := 40) X3.here hx (hb hby d1_37) rfl rfl rfl ?_
    refine w_goto (n := 9) X3.here hx (hb hby d1_40) (by decide) (by decide) ?_
    refine w_iloadN (n := 10) X3.here hx (hb hby d1_9) rfl rfl ?_
    refine w_iloadN (n := 11) X3.here hx (hb hby d1_10) rfl rfl ?_
    refine w_icmpge (n1 := 43) (n2 := 14) X3.here hx (hb hby d1_11) (by decide) (by decide) rfl (fun hc11 => absurd (by decide : (1 : Int32) < 2) hc11) (fun hc11 => ?_)
    refine w_aloadN (n := 15) X3.here hx (hb hby d1_14) rfl rfl rfl ?_
    refine w_iloadN (n := 16) X3.here hx (hb hby d1_15) rfl rfl ?_
    refine l_A (n := 17) X3 hx hZ f3 V1 rfl (by decide) (by decide) rfl (hb hby d1_16) rfl ?_
    refine w_astore (Ls' := #[.val (.ref sa), .val (.ref b), .val (.int (2 : Int32)), .val (.int (1 : Int32)), .val (.ref w2)]) (n := 19) X3.here hx (hb hby d1_17) rfl rfl rfl ?_
    refine w_aload (n := 21) X3.here hx (hb hby d1_19) rfl rfl rfl ?_
    refine g_F (n := 24) X3 hx hZ hown (hw _ (List.mem_of_getElem? (i := 22) rfl)) f3 (F2.ext E1) (hb hby d1_21) rfl (fun T4 X4 e4 => ?_)
    refine w_aloadN (n := 25) X4.here hx (hb hby d1_24) rfl rfl rfl ?_
    refine c_V (n := 28) (b := t2) (argsL := [(.ref sa)]) (rest := []) X4 hx hZ hown (rm_eq l Z a0 hw [] t2 sa o2 us _ cs hcs (SC.ext E1) (G2.ext E1) (SS.ext E1)) e4 (own_get (G2.ext E1)).1 (hw _ (List.mem_of_getElem? (i := 24) rfl)) (hw _ (List.mem_of_getElem? (i := 25) rfl)) (notFace_of_selects (args := #[]) (mvT hZ (hw _ (List.mem_of_getElem? (i := 27) rfl)))) (hw _ (List.mem_of_getElem? (i := 27) rfl)) (hw _ (List.mem_of_getElem? (i := 26) rfl)) (hw _ (List.mem_of_getElem? (i := 28) rfl)) (hw _ (List.mem_of_getElem? (i := 29) rfl)) (by decide) 0 (by decide) (by decide) (by decide) (by decide) (by rw [hml]; rfl) pd_18 rfl rfl (Nat.le_of_ble_eq_true rfl) (hb hby d1_25) rfl (fun v5 T5 L5 X5 hQ5 => ?_)
    obtain ⟨rfl, rfl, f5⟩ := hQ5
    show Endz _ _ _ _ T5 (mkF m 28 #[.val (.ref sa), .val (.ref b), .val (.int (2 : Int32)), .val (.int (1 : Int32)), .val (.ref w2)] [(.int (if o2 = us then 1 else 0))])
    refine w_ifeq (n1 := 37) (n2 := 31) X5.here hx (hb hby d1_28) (by decide) (by decide) rfl (fun hc28 => ?_) (fun hc28 => ?_)
    · have q1 : ¬ o2 = us := fun q => absurd (hc28.symm.trans (if_pos q)) (by decide)
      refine w_iinc (Ls' := #[.val (.ref sa), .val (.ref b), .val (.int (2 : Int32)), .val (.int (2 : Int32)), .val (.ref w2)]) (n := 40) X5.here hx (hb hby d1_37) rfl rfl rfl ?_
      refine w_goto (n := 9) X5.here hx (hb hby d1_40) (by decide) (by decide) ?_
      refine w_iloadN (n := 10) X5.here hx (hb hby d1_9) rfl rfl ?_
      refine w_iloadN (n := 11) X5.here hx (hb hby d1_10) rfl rfl ?_
      refine w_icmpge (n1 := 43) (n2 := 14) X5.here hx (hb hby d1_11) (by decide) (by decide) rfl (fun hc11 => ?_) (fun hc11 => absurd (by decide : ¬ (2 : Int32) < 2) hc11)
      refine c_S (n := 46) (argsL := []) (rest := []) X5 hx hZ hown (rm_em l Z a0 hw [] _ eo (SE.ext E1)) f5 (hw _ (List.mem_of_getElem? (i := 30) rfl)) (hw _ (List.mem_of_getElem? (i := 31) rfl)) (hw _ (List.mem_of_getElem? (i := 32) rfl)) (hw _ (List.mem_of_getElem? (i := 33) rfl)) (by decide) 0 (by decide) (by decide) (by decide) (by decide) (by rw [hml]; rfl) pd_20 rfl rfl (Nat.le_of_ble_eq_true rfl) (hb hby d1_43) rfl (fun v6 T6 L6 X6 hQ6 => ?_)
      obtain ⟨rfl, rfl, e9⟩ := hQ6
      show Endz _ _ _ _ T6 (mkF m 46 #[.val (.ref sa), .val (.ref b), .val (.int (2 : Int32)), .val (.int (2 : Int32)), .val (.ref w2)] [(.ref eo)])
      exact fin_A X6 hx hlk e9 hret rfl rfl rfl (hb hby d1_46) (by decide) (by decide) ⟨eo, rfl, AE.ext E1, (by rw [own_exp, if_neg q0, if_neg q1]; exact FE.ext E1), E1, Fr.nil _⟩
    · have q1 : o2 = us := Classical.byContradiction fun q => hc28 (if_neg q)
      refine w_aload (n := 33) X5.here hx (hb hby d1_31) rfl rfl rfl ?_
      refine c_S (n := 36) (argsL := [(.ref w2)]) (rest := []) X5 hx hZ hown (rm_of l Z a0 hw [] w2 _) f5 (hw _ (List.mem_of_getElem? (i := 98) rfl)) (hw _ (List.mem_of_getElem? (i := 99) rfl)) (hw _ (List.mem_of_getElem? (i := 32) rfl)) (hw _ (List.mem_of_getElem? (i := 100) rfl)) (by decide) 0 (by decide) (by decide) (by decide) (by decide) (by rw [hml]; rfl) pd_19 rfl rfl (Nat.le_of_ble_eq_true rfl) (hb hby d1_33) rfl (fun v7 T7 L7 X7 hQ7 => ?_)
      obtain ⟨ob, rfl, AO, FO, EO, NO⟩ := hQ7
      show Endz _ _ _ _ T7 (mkF m 36 #[.val (.ref sa), .val (.ref b), .val (.int (2 : Int32)), .val (.int (1 : Int32)), .val (.ref w2)] [(.ref ob)])
      have hex : own_exp us o1 o2 w1 w2 = .ref w2 := by rw [own_exp, if_neg q0, if_pos q1]
      refine fin_A X7 hx hlk rfl hret rfl rfl rfl (hb hby d1_36) (by decide) (by decide) ⟨ob, rfl, AO, hex ▸ FO, Ext.tr E1 EO, fun y hy => ?_⟩
      simp only [List.nil_append, List.append_nil] at hy
      exact Nat.le_trans E1.1 (NO y hy)
  · have q0 : o1 = us := Classical.byContradiction fun q => hc28 (if_neg q)
    refine w_aload (n := 33) X3.here hx (hb hby d1_31) rfl rfl rfl ?_
    refine c_S (n := 36) (argsL := [(.ref w1)]) (rest := []) X3 hx hZ hown (rm_of l Z a0 hw [] w1 _) f3 (hw _ (List.mem_of_getElem? (i := 98) rfl)) (hw _ (List.mem_of_getElem? (i := 99) rfl)) (hw _ (List.mem_of_getElem? (i := 32) rfl)) (hw _ (List.mem_of_getElem? (i := 100) rfl)) (by decide) 0 (by decide) (by decide) (by decide) (by decide) (by rw [hml]; rfl) pd_19 rfl rfl (Nat.le_of_ble_eq_true rfl) (hb hby d1_33) rfl (fun v8 T8 L8 X8 hQ8 => ?_)
    obtain ⟨ob, rfl, AO, FO, EO, NO⟩ := hQ8
    show Endz _ _ _ _ T8 (mkF m 36 #[.val (.ref sa), .val (.ref b), .val (.int (2 : Int32)), .val (.int (0 : Int32)), .val (.ref w1)] [(.ref ob)])
    have hex : own_exp us o1 o2 w1 w2 = .ref w1 := by rw [own_exp, if_pos q0]
    refine fin_A X8 hx hlk rfl hret rfl rfl rfl (hb hby d1_36) (by decide) (by decide) ⟨ob, rfl, AO, hex ▸ FO, Ext.tr E1 EO, fun y hy => ?_⟩
    simp only [List.nil_append, List.append_nil] at hy
    exact Nat.le_trans E1.1 (NO y hy)
def own_o1 : List Int32 := [49, 46, 50, 46, 54, 49, 54, 46, 49, 46, 49, 48, 49, 46, 52, 46, 49, 46, 49, 46, 49]
def own_o2 : List Int32 := [49, 46, 50, 46, 54, 49, 54, 46, 49, 46, 49, 48, 49, 46, 52, 46, 49, 46, 50, 46, 49]
theorem own_t1 : (∀ c ∈ "1.2.616.1.101.4.1.1.1".toList, c.toNat < 256) ∧ "1.2.616.1.101.4.1.1.1".toList.map (fun c => Value.int (Jvm.Lit.byteI c.toNat.toUInt16)) = own_o1.map Value.int := ⟨by decide, by rfl⟩
theorem own_t2 : (∀ c ∈ "1.2.616.1.101.4.1.2.1".toList, c.toNat < 256) ∧ "1.2.616.1.101.4.1.2.1".toList.map (fun c => Value.int (Jvm.Lit.byteI c.toNat.toUInt16)) = own_o2.map Value.int := ⟨by decide, by rfl⟩
theorem own_wS {Z : State} {a0 : Array Value} (hw : ∀ d ∈ tables_1, d.before a0 Z = true) : ∀ a ∈ Bundle.stringAtoms, a.before a0 Z = true := fun d hd => by
  simp only [Bundle.stringAtoms, Bundle.sN, List.mem_cons, List.not_mem_nil, or_false] at hd
  rcases hd with rfl | rfl | rfl | rfl | rfl | rfl | rfl
  · exact (hw _ (List.mem_of_getElem? (i := 28) rfl))
  · exact (hw _ (List.mem_of_getElem? (i := 43) rfl))
  · exact (hw _ (List.mem_of_getElem? (i := 60) rfl))
  · exact (hw _ (List.mem_of_getElem? (i := 70) rfl))
  · exact (hw _ (List.mem_of_getElem? (i := 68) rfl))
  · exact (hw _ (List.mem_of_getElem? (i := 72) rfl))
  · exact (hw _ (List.mem_of_getElem? (i := 73) rfl))
theorem own_okd {d : Int32} (h : d = 49 ∨ d = 50) : own_ok (own_oid21 d) ∧ own_ok (own_oid20 d) := by
  rcases h with rfl | rfl <;> refine ⟨?_, ?_⟩ <;> unfold own_ok <;> decide
theorem own_okx {d : Int32} (h : d = 49 ∨ d = 50) (x : Int32) (hx : ¬ 255 < nar .char x) : own_ok (own_oid22 d x) := by
  have e : own_oid22 d x = (own_oid22 d 0).set 21 (nar .char x) := rfl
  rw [e]
  refine own_ok_set ?_ hx
  rcases h with rfl | rfl <;> unfold own_ok <;> decide
theorem own_narc (x : Int32) : nar .char (x &&& 255) = x &&& 255 := i2c_mask x
theorem pd_21 : parseMethodDescriptor "([C)V" = some ⟨[(.array .char)], none⟩ := by decide +kernel
theorem pd_22 : parseMethodDescriptor "(C)Ljava/lang/String;" = some ⟨[.char], some (.object "java/lang/String")⟩ := by decide +kernel
theorem pd_23 : parseMethodDescriptor "(C)[C" = some ⟨[.char], some (.array .char)⟩ := by decide +kernel
theorem pd_24 : parseMethodDescriptor "(CC)[C" = some ⟨[.char, .char], some (.array .char)⟩ := by decide +kernel
theorem pd_25 : parseMethodDescriptor "(Ljava/lang/String;)Ljava/util/Optional;" = some ⟨[(.object "java/lang/String")], some (.object "java/util/Optional")⟩ := by decide +kernel
theorem ef_19 (m : MethodId) (i0 : Int32) (i1 : Int32) (i2 : Int32) (i3 : Int32) (i4 : Int32) : entryFrame m #[(.int i0), (.int i1), (.int i2), (.int i3), (.int i4)] maxLocals = mkF m 0 #[.val (.int i0), .val (.int i1), .val (.int i2), .val (.int i3), .val (.int i4), .unset, .unset, .unset, .unset, .unset, .unset, .unset, .unset] [] := by first | (simp [entryFrame, mkF, argsToLocals, Value.category, maxLocals]; done) | rfl
set_option maxRecDepth 65536 in
set_option maxHeartbeats 40000000 in
theorem rm0 (l : Launch) (Z : State) (a0 : Array Value) (hw : ∀ d ∈ tables_1, d.before a0 Z = true) (ws : List Jvm.Cond) (hEL : EW Z a0 own_EL) (vmB : Vm) (i0 i1 i2 i3 i4 : Int32) (vA w1 w2 : Addr) (kA : ClassId) (h0 : Heap) (SV : Sta Z h0 "com/example/legitka/legitka/CardKind" "$VALUES" "[Lcom/example/legitka/legitka/CardKind;" (.ref vA)) (AV : Exa Z h0 vA "[Lcom/example/legitka/legitka/CardKind;") (VV : Arv Z h0 vA kA (.object "com/example/legitka/legitka/CardKind") 2 [.ref w1, .ref w2] .null) (A1 : Exa Z h0 w1 "com/example/legitka/legitka/CardKind") (A2 : Exa Z h0 w2 "com/example/legitka/legitka/CardKind") (t1 t2 : Addr) (F1 : Fld Z h0 w1 "com/example/legitka/legitka/CardKind" "contentType" "Ljava/lang/String;" (.ref t1)) (F2 : Fld Z h0 w2 "com/example/legitka/legitka/CardKind" "contentType" "Ljava/lang/String;" (.ref t2)) (G1 : Strz Z h0 t1 own_o1) (G2 : Strz Z h0 t2 own_o2) (eo : Addr) (SE : Sta Z h0 "java/util/Optional" "EMPTY" "Ljava/util/Optional;" (.ref eo)) (AE : Exa Z h0 eo "java/util/Optional") (FE : Fld Z h0 eo "java/util/Optional" "value" "Ljava/lang/Object;" .null) (cs : Int32) (hcs : cs ≠ 0) (SC : Sta Z h0 "java/lang/String" "COMPACT_STRINGS" "Z" (.int cs)) (S1 : Sta Z h0 "com/example/legitka/legitka/CardKind" "STUDENT" "Lcom/example/legitka/legitka/CardKind;" (.ref w1)) (S2 : Sta Z h0 "com/example/legitka/legitka/CardKind" "DOCTORAL" "Lcom/example/legitka/legitka/CardKind;" (.ref w2)) :
    ConW l Z own_EL vmB x code maxLocals ret ws room_1 #[.int i0, .int i1, .int i2, .int i3, .int i4] h0 (fun v _ _ L => v = some (.int 1) ∧ Fr h0.size L) := by
  refine conW_of (plainFor_of_name pn_11) ?_
  intro p e s vm0 m below meth c T0 X0 hx hZ hby hml hown hret hnm hlk e0 hS H
  refine Endz.eq (ef_19 m i0 i1 i2 i3 i4) ?_
  have wS := own_wS hw
  have tail : ∀ (q5 q6 q7 q8 q9 : Int32) (vm1 : Vm) (k1 : Nat) (T : State) (h : Heap) (L : List Loc) (sa : Addr) (us : List Int32) (o11 : Slot), Stand p l e room_1 (s.setVm vm1) m #[.int i0, .int i1, .int i2, .int i3, .int i4] below meth c T L 6 100 → T.heap = h → s.Since vm1 k1 → k1 ≤ h.size → Z.Warmed39 (s.setVm vm1).vm → (s.setVm vm1).vm.findClass "com/example/legitka/legitka/CardKindForContentTypePinLaw" = some m.cls → CHr Z own_EL vmB h0 vm1 h → Ext h0 h → Fr h0.size L → Strz Z h sa us → own_sA o11 → Endz p.tables e below (FinW s room_1 (fun v _ _ L => v = some (.int 1) ∧ Fr h0.size L)) T (mkF m 247 #[.val (.int i0), .val (.int i1), .val (.int i2), .val (.int i3), .val (.int i4), .val (.int q5), .val (.int q6), .val (.int q7), .val (.int q8), .val (.int q9), .val (.ref sa), o11, .unset] []) := by
    intro q5 q6 q7 q8 q9 vm1 k1 T h L sa us o11 X eT hS hk hZ hown C E N SS ho
    refine w_aload (n := 249) X.here hx (hb hby at_247) rfl rfl rfl ?_
    refine w_ifnonnull (n1 := 258) (n2 := 252) X.here hx rfl (hb hby at_249) (by decide) (by decide) rfl (fun hc249 => ?_) (fun hc249 => nomatch hc249)
    refine w_aload (n := 260) X.here hx (hb hby at_258) rfl rfl rfl ?_
    refine k_S (n := 262) X hx hZ hown (hw _ (List.mem_of_getElem? (i := 71) rfl)) wS eT hS hk hEL (List.Mem.head _) C own_o1 21 own_t1 (by decide) (by decide) (hb hby at_260) rfl 84 (by decide) (by decide) (by decide) (by decide) (fun T1 h1 k1 la1 X1 e1 EL1 hS hk hZ hown ST1 C1 LT1 nb1 => ?_)
    have EA := Ext.tr E EL1
    refine c_V (n := 265) (b := sa) (argsL := [(.ref la1)]) (rest := []) X1 hx hZ hown (rm_eq l Z a0 hw [] sa la1 us own_o1 _ cs hcs (SC.ext EA) (SS.ext EL1) ST1) e1 (own_get (SS.ext EL1)).1 (hw _ (List.mem_of_getElem? (i := 74) rfl)) (hw _ (List.mem_of_getElem? (i := 25) rfl)) (notFace_of_selects (args := #[]) (mvT hZ (hw _ (List.mem_of_getElem? (i := 27) rfl)))) (hw _ (List.mem_of_getElem? (i := 27) rfl)) (hw _ (List.mem_of_getElem? (i := 26) rfl)) (hw _ (List.mem_of_getElem? (i := 28) rfl)) (hw _ (List.mem_of_getElem? (i := 29) rfl)) (by decide) 0 (by decide) (by decide) (by decide) (by decide) (by rw [hml]; rfl) pd_18 rfl rfl (Nat.le_of_ble_eq_true rfl) (hb hby at_262) rfl (fun v2 T2 L2 X2 hQ2 => ?_)
    obtain ⟨rfl, rfl, ea⟩ := hQ2
    show Endz _ _ _ _ T2 (mkF m 265 #[.val (.int i0), .val (.int i1), .val (.int i2), .val (.int i3), .val (.int i4), .val (.int q5), .val (.int q6), .val (.int q7), .val (.int q8), .val (.int q9), .val (.ref sa), o11, .unset] [(.int (if us = own_o1 then 1 else 0))])
    refine w_ifeq (n1 := 276) (n2 := 268) X2.here hx (hb hby at_265) (by decide) (by decide) rfl (fun hc265 => ?_) (fun hc265 => ?_)
    · have n1 : ¬ us = own_o1 := fun q => absurd (hc265.symm.trans (if_pos q)) (by decide)
      refine w_aload (n := 278) X2.here hx (hb hby at_276) rfl rfl rfl ?_
      refine k_S (n := 280) X2 hx hZ hown (hw _ (List.mem_of_getElem? (i := 80) rfl)) wS ea hS hk hEL (List.Mem.tail _ (List.Mem.head _)) C1 own_o2 21 own_t2 (by decide) (by decide) (hb hby at_278) rfl 84 (by decide) (by decide) (by decide) (by decide) (fun T3 h3 k3 la3 X3 e3 EL3 hS hk hZ hown ST3 C3 LT3 nb3 => ?_)
      have EB := Ext.tr EA EL3
      have ES := Ext.tr EL1 EL3
      refine c_V (n := 283) (b := sa) (argsL := [(.ref la3)]) (rest := []) X3 hx hZ hown (rm_eq l Z a0 hw [] sa la3 us own_o2 _ cs hcs (SC.ext EB) (SS.ext ES) ST3) e3 (own_get (SS.ext ES)).1 (hw _ (List.mem_of_getElem? (i := 74) rfl)) (hw _ (List.mem_of_getElem? (i := 25) rfl)) (notFace_of_selects (args := #[]) (mvT hZ (hw _ (List.mem_of_getElem? (i := 27) rfl)))) (hw _ (List.mem_of_getElem? (i := 27) rfl)) (hw _ (List.mem_of_getElem? (i := 26) rfl)) (hw _ (List.mem_of_getElem? (i := 28) rfl)) (hw _ (List.mem_of_getElem? (i := 29) rfl)) (by decide) 0 (by decide) (by decide) (by decide) (by decide) (by rw [hml]; rfl) pd_18 rfl rfl (Nat.le_of_ble_eq_true rfl) (hb hby at_280) rfl (fun v4 T4 L4 X4 hQ4 => ?_)
      obtain ⟨rfl, rfl, eb⟩ := hQ4
      show Endz _ _ _ _ T4 (mkF m 283 #[.val (.int i0), .val (.int i1), .val (.int i2), .val (.int i3), .val (.int i4), .val (.int q5), .val (.int q6), .val (.int q7), .val (.int q8), .val (.int q9), .val (.ref sa), o11, .unset] [(.int (if us = own_o2 then 1 else 0))])
      refine w_ifeq (n1 := 294) (n2 := 286) X4.here hx (hb hby at_283) (by decide) (by decide) rfl (fun hc283 => ?_) (fun hc283 => ?_)
      · have n2 : ¬ us = own_o2 := fun q => absurd (hc283.symm.trans (if_pos q)) (by decide)
        have hex : own_exp us own_o1 own_o2 w1 w2 = .null := by rw [own_exp, if_neg (fun q => n1 q.symm), if_neg (fun q => n2 q.symm)]
        refine w_aconstNull (n := 295) X4.here hx (hb hby at_294) rfl ?_
        refine w_astore (Ls' := #[.val (.int i0), .val (.int i1), .val (.int i2), .val (.int i3), .val (.int i4), .val (.int q5), .val (.int q6), .val (.int q7), .val (.int q8), .val (.int q9), .val (.ref sa), .val .null, .unset]) (n := 297) X4.here hx (hb hby at_295) rfl rfl (by rcases ho with rfl | ⟨_, rfl⟩ <;> rfl) ?_
        refine w_aload (n := 299) X4.here hx (hb hby at_297) rfl rfl rfl ?_
        refine c_S (n := 302) (argsL := [(.ref sa)]) (rest := []) X4 hx hZ hown (rm_fc l Z a0 hw [] vA w1 w2 kA _ (SV.ext EB) (AV.ext EB) (VV.ext EB) (A1.ext EB) (A2.ext EB) t1 t2 own_o1 own_o2 (F1.ext EB) (F2.ext EB) (G1.ext EB) (G2.ext EB) eo (SE.ext EB) (AE.ext EB) (FE.ext EB) cs hcs (SC.ext EB) sa us (SS.ext ES)) eb (hw _ (List.mem_of_getElem? (i := 1) rfl)) (hw _ (List.mem_of_getElem? (i := 2) rfl)) (hw _ (List.mem_of_getElem? (i := 3) rfl)) (hw _ (List.mem_of_getElem? (i := 4) rfl)) (by decide) 0 (by decide) (by decide) (by decide) (by decide) (by rw [hml]; rfl) pd_25 rfl rfl (Nat.le_of_ble_eq_true rfl) (hb hby at_299) rfl (fun v5 T5 L5 X5 hQ5 => ?_)
        obtain ⟨ob, rfl, AO, FO, EO, NO⟩ := hQ5
        show Endz _ _ _ _ T5 (mkF m 302 #[.val (.int i0), .val (.int i1), .val (.int i2), .val (.int i3), .val (.int i4), .val (.int q5), .val (.int q6), .val (.int q7), .val (.int q8), .val (.int q9), .val (.ref sa), .val .null, .unset] [(.ref ob)])
        rw [hex] at FO
        refine w_aconstNull (n := 303) X5.here hx (hb hby at_302) rfl ?_
        refine c_V (n := 306) (b := ob) (argsL := [.null]) (rest := []) X5 hx hZ hown (rm_oe l Z a0 hw [] ob .null rfl _ FO) rfl AO (hw _ (List.mem_of_getElem? (i := 35) rfl)) (hw _ (List.mem_of_getElem? (i := 36) rfl)) (notFace_of_selects (args := #[]) (mvT hZ (hw _ (List.mem_of_getElem? (i := 38) rfl)))) (hw _ (List.mem_of_getElem? (i := 38) rfl)) (hw _ (List.mem_of_getElem? (i := 37) rfl)) (hw _ (List.mem_of_getElem? (i := 32) rfl)) (hw _ (List.mem_of_getElem? (i := 39) rfl)) (by decide) 0 (by decide) (by decide) (by decide) (by decide) (by rw [hml]; rfl) pd_14 rfl rfl (Nat.le_of_ble_eq_true rfl) (hb hby at_303) rfl (fun v6 T6 L6 X6 hQ6 => ?_)
        obtain ⟨rfl, rfl, eOE⟩ := hQ6
        show Endz _ _ _ _ T6 (mkF m 306 #[.val (.int i0), .val (.int i1), .val (.int i2), .val (.int i3), .val (.int i4), .val (.int q5), .val (.int q6), .val (.int q7), .val (.int q8), .val (.int q9), .val (.ref sa), .val .null, .unset] [.null])
        refine k_CN (n := 309) X6 hx (hb hby at_306) rfl ?_
        refine w_astore (Ls' := #[.val (.int i0), .val (.int i1), .val (.int i2), .val (.int i3), .val (.int i4), .val (.int q5), .val (.int q6), .val (.int q7), .val (.int q8), .val (.int q9), .val (.ref sa), .val .null, .val .null]) (n := 311) X6.here hx (hb hby at_309) rfl rfl rfl ?_
        refine w_aload (n := 313) X6.here hx (hb hby at_311) rfl rfl rfl ?_
        refine w_aload (n := 315) X6.here hx (hb hby at_313) rfl rfl rfl ?_
        refine w_acmpne (n1 := 322) (n2 := 318) X6.here hx rfl rfl (hb hby at_315) (by decide) (by decide) rfl (fun hc315 => absurd rfl hc315) (fun hc315 => ?_)
        refine w_iconst (z := (1 : Int32)) (n := 319) X6.here hx (hb hby at_318) rfl rfl ?_
        refine w_goto (n := 323) X6.here hx (hb hby at_319) (by decide) (by decide) ?_
        refine finW_Z X6 hx hlk eOE hS (Nat.le_trans hk EO.1) hret (Or.inl rfl) (hb hby at_323) (by decide) (by decide) ⟨rfl, fun y hy => ?_⟩
        simp only [List.nil_append, List.append_nil, List.mem_append] at hy
        rcases hy with hy | hy
        · exact N y hy
        · exact Nat.le_trans EB.1 (NO y hy)
      · have n2 : us = own_o2 := Classical.byContradiction fun q => hc283 (if_neg q)
        have hex : own_exp us own_o1 own_o2 w1 w2 = .ref w2 := by rw [own_exp, if_neg (fun q => n1 q.symm), if_pos n2.symm]
        refine g_S (n := 289) X4 hx hZ hown (hw _ (List.mem_of_getElem? (i := 97) rfl)) eb (S2.ext EB) (hb hby at_286) rfl (fun T7 X7 e7 => ?_)
        refine w_astore (Ls' := #[.val (.int i0), .val (.int i1), .val (.int i2), .val (.int i3), .val (.int i4), .val (.int q5), .val (.int q6), .val (.int q7), .val (.int q8), .val (.int q9), .val (.ref sa), .val (.ref w2), .unset]) (n := 291) X7.here hx (hb hby at_289) rfl rfl (by rcases ho with rfl | ⟨_, rfl⟩ <;> rfl) ?_
        refine w_goto (n := 297) X7.here hx (hb hby at_291) (by decide) (by decide) ?_
        refine w_aload (n := 299) X7.here hx (hb hby at_297) rfl rfl rfl ?_
        refine c_S (n := 302) (argsL := [(.ref sa)]) (rest := []) X7 hx hZ hown (rm_fc l Z a0 hw [] vA w1 w2 kA _ (SV.ext EB) (AV.ext EB) (VV.ext EB) (A1.ext EB) (A2.ext EB) t1 t2 own_o1 own_o2 (F1.ext EB) (F2.ext EB) (G1.ext EB) (G2.ext EB) eo (SE.ext EB) (AE.ext EB) (FE.ext EB) cs hcs (SC.ext EB) sa us (SS.ext ES)) e7 (hw _ (List.mem_of_getElem? (i := 1) rfl)) (hw _ (List.mem_of_getElem? (i := 2) rfl)) (hw _ (List.mem_of_getElem? (i := 3) rfl)) (hw _ (List.mem_of_getElem? (i := 4) rfl)) (by decide) 0 (by decide) (by decide) (by decide) (by decide) (by rw [hml]; rfl) pd_25 rfl rfl (Nat.le_of_ble_eq_true rfl) (hb hby at_299) rfl (fun v8 T8 L8 X8 hQ8 => ?_)
        obtain ⟨ob, rfl, AO, FO, EO, NO⟩ := hQ8
        show Endz _ _ _ _ T8 (mkF m 302 #[.val (.int i0), .val (.int i1), .val (.int i2), .val (.int i3), .val (.int i4), .val (.int q5), .val (.int q6), .val (.int q7), .val (.int q8), .val (.int q9), .val (.ref sa), .val (.ref w2), .unset] [(.ref ob)])
        rw [hex] at FO
        refine w_aconstNull (n := 303) X8.here hx (hb hby at_302) rfl ?_
        refine c_V (n := 306) (b := ob) (argsL := [.null]) (rest := []) X8 hx hZ hown (rm_oe l Z a0 hw [] ob (.ref w2) rfl _ FO) rfl AO (hw _ (List.mem_of_getElem? (i := 35) rfl)) (hw _ (List.mem_of_getElem? (i := 36) rfl)) (notFace_of_selects (args := #[]) (mvT hZ (hw _ (List.mem_of_getElem? (i := 38) rfl)))) (hw _ (List.mem_of_getElem? (i := 38) rfl)) (hw _ (List.mem_of_getElem? (i := 37) rfl)) (hw _ (List.mem_of_getElem? (i := 32) rfl)) (hw _ (List.mem_of_getElem? (i := 39) rfl)) (by decide) 0 (by decide) (by decide) (by decide) (by decide) (by rw [hml]; rfl) pd_14 rfl rfl (Nat.le_of_ble_eq_true rfl) (hb hby at_303) rfl (fun v9 T9 L9 X9 hQ9 => ?_)
        obtain ⟨rfl, rfl, eOE⟩ := hQ9
        show Endz _ _ _ _ T9 (mkF m 306 #[.val (.int i0), .val (.int i1), .val (.int i2), .val (.int i3), .val (.int i4), .val (.int q5), .val (.int q6), .val (.int q7), .val (.int q8), .val (.int q9), .val (.ref sa), .val (.ref w2), .unset] [(.ref w2)])
        refine k_C (n := 309) X9 hx hZ hown (hw _ (List.mem_of_getElem? (i := 112) rfl)) eOE (Ins.self ((A2.ext EB).ext EO)) (hb hby at_306) rfl (fun T10 X10 e10 => ?_)
        refine w_astore (Ls' := #[.val (.int i0), .val (.int i1), .val (.int i2), .val (.int i3), .val (.int i4), .val (.int q5), .val (.int q6), .val (.int q7), .val (.int q8), .val (.int q9), .val (.ref sa), .val (.ref w2), .val (.ref w2)]) (n := 311) X10.here hx (hb hby at_309) rfl rfl rfl ?_
        refine w_aload (n := 313) X10.here hx (hb hby at_311) rfl rfl rfl ?_
        refine w_aload (n := 315) X10.here hx (hb hby at_313) rfl rfl rfl ?_
        refine w_acmpne (n1 := 322) (n2 := 318) X10.here hx rfl rfl (hb hby at_315) (by decide) (by decide) rfl (fun hc315 => absurd rfl hc315) (fun hc315 => ?_)
        refine w_iconst (z := (1 : Int32)) (n := 319) X10.here hx (hb hby at_318) rfl rfl ?_
        refine w_goto (n := 323) X10.here hx (hb hby at_319) (by decide) (by decide) ?_
        refine finW_Z X10 hx hlk e10 hS (Nat.le_trans hk EO.1) hret (Or.inl rfl) (hb hby at_323) (by decide) (by decide) ⟨rfl, fun y hy => ?_⟩
        simp only [List.nil_append, List.append_nil, List.mem_append] at hy
        rcases hy with hy | hy
        · exact N y hy
        · exact Nat.le_trans EB.1 (NO y hy)
    · have n1 : us = own_o1 := Classical.byContradiction fun q => hc265 (if_neg q)
      have hex : own_exp us own_o1 own_o2 w1 w2 = .ref w1 := by rw [own_exp, if_pos n1.symm]
      refine g_S (n := 271) X2 hx hZ hown (hw _ (List.mem_of_getElem? (i := 115) rfl)) ea (S1.ext EA) (hb hby at_268) rfl (fun T11 X11 e11 => ?_)
      refine w_astore (Ls' := #[.val (.int i0), .val (.int i1), .val (.int i2), .val (.int i3), .val (.int i4), .val (.int q5), .val (.int q6), .val (.int q7), .val (.int q8), .val (.int q9), .val (.ref sa), .val (.ref w1), .unset]) (n := 273) X11.here hx (hb hby at_271) rfl rfl (by rcases ho with rfl | ⟨_, rfl⟩ <;> rfl) ?_
      refine w_goto (n := 297) X11.here hx (hb hby at_273) (by decide) (by decide) ?_
      refine w_aload (n := 299) X11.here hx (hb hby at_297) rfl rfl rfl ?_
      refine c_S (n := 302) (argsL := [(.ref sa)]) (rest := []) X11 hx hZ hown (rm_fc l Z a0 hw [] vA w1 w2 kA _ (SV.ext EA) (AV.ext EA) (VV.ext EA) (A1.ext EA) (A2.ext EA) t1 t2 own_o1 own_o2 (F1.ext EA) (F2.ext EA) (G1.ext EA) (G2.ext EA) eo (SE.ext EA) (AE.ext EA) (FE.ext EA) cs hcs (SC.ext EA) sa us (SS.ext EL1)) e11 (hw _ (List.mem_of_getElem? (i := 1) rfl)) (hw _ (List.mem_of_getElem? (i := 2) rfl)) (hw _ (List.mem_of_getElem? (i := 3) rfl)) (hw _ (List.mem_of_getElem? (i := 4) rfl)) (by decide) 0 (by decide) (by decide) (by decide) (by decide) (by rw [hml]; rfl) pd_25 rfl rfl (Nat.le_of_ble_eq_true rfl) (hb hby at_299) rfl (fun v12 T12 L12 X12 hQ12 => ?_)
      obtain ⟨ob, rfl, AO, FO, EO, NO⟩ := hQ12
      show Endz _ _ _ _ T12 (mkF m 302 #[.val (.int i0), .val (.int i1), .val (.int i2), .val (.int i3), .val (.int i4), .val (.int q5), .val (.int q6), .val (.int q7), .val (.int q8), .val (.int q9), .val (.ref sa), .val (.ref w1), .unset] [(.ref ob)])
      rw [hex] at FO
      refine w_aconstNull (n := 303) X12.here hx (hb hby at_302) rfl ?_
      refine c_V (n := 306) (b := ob) (argsL := [.null]) (rest := []) X12 hx hZ hown (rm_oe l Z a0 hw [] ob (.ref w1) rfl _ FO) rfl AO (hw _ (List.mem_of_getElem? (i := 35) rfl)) (hw _ (List.mem_of_getElem? (i := 36) rfl)) (notFace_of_selects (args := #[]) (mvT hZ (hw _ (List.mem_of_getElem? (i := 38) rfl)))) (hw _ (List.mem_of_getElem? (i := 38) rfl)) (hw _ (List.mem_of_getElem? (i := 37) rfl)) (hw _ (List.mem_of_getElem? (i := 32) rfl)) (hw _ (List.mem_of_getElem? (i := 39) rfl)) (by decide) 0 (by decide) (by decide) (by decide) (by decide) (by rw [hml]; rfl) pd_14 rfl rfl (Nat.le_of_ble_eq_true rfl) (hb hby at_303) rfl (fun v13 T13 L13 X13 hQ13 => ?_)
      obtain ⟨rfl, rfl, eOE⟩ := hQ13
      show Endz _ _ _ _ T13 (mkF m 306 #[.val (.int i0), .val (.int i1), .val (.int i2), .val (.int i3), .val (.int i4), .val (.int q5), .val (.int q6), .val (.int q7), .val (.int q8), .val (.int q9), .val (.ref sa), .val (.ref w1), .unset] [(.ref w1)])
      refine k_C (n := 309) X13 hx hZ hown (hw _ (List.mem_of_getElem? (i := 112) rfl)) eOE (Ins.self ((A1.ext EA).ext EO)) (hb hby at_306) rfl (fun T14 X14 e14 => ?_)
      refine w_astore (Ls' := #[.val (.int i0), .val (.int i1), .val (.int i2), .val (.int i3), .val (.int i4), .val (.int q5), .val (.int q6), .val (.int q7), .val (.int q8), .val (.int q9), .val (.ref sa), .val (.ref w1), .val (.ref w1)]) (n := 311) X14.here hx (hb hby at_309) rfl rfl rfl ?_
      refine w_aload (n := 313) X14.here hx (hb hby at_311) rfl rfl rfl ?_
      refine w_aload (n := 315) X14.here hx (hb hby at_313) rfl rfl rfl ?_
      refine w_acmpne (n1 := 322) (n2 := 318) X14.here hx rfl rfl (hb hby at_315) (by decide) (by decide) rfl (fun hc315 => absurd rfl hc315) (fun hc315 => ?_)
      refine w_iconst (z := (1 : Int32)) (n := 319) X14.here hx (hb hby at_318) rfl rfl ?_
      refine w_goto (n := 323) X14.here hx (hb hby at_319) (by decide) (by decide) ?_
      refine finW_Z X14 hx hlk e14 hS (Nat.le_trans hk EO.1) hret (Or.inl rfl) (hb hby at_323) (by decide) (by decide) ⟨rfl, fun y hy => ?_⟩
      simp only [List.nil_append, List.append_nil, List.mem_append] at hy
      rcases hy with hy | hy
      · exact N y hy
      · exact Nat.le_trans EA.1 (NO y hy)
  have main : ∀ (q5 q6 : Int32), (q6 = 49 ∨ q6 = 50) → Endz p.tables e below (FinW s room_1 (fun v _ _ L => v = some (.int 1) ∧ Fr h0.size L)) T0 (mkF m 52 #[.val (.int i0), .val (.int i1), .val (.int i2), .val (.int i3), .val (.int i4), .val (.int q5), .val (.int q6), .val (.int (i2 &&& (255 : Int32))), .val (.int (i3 &&& (255 : Int32))), .val (.int (i4 &&& (255 : Int32))), .unset, .unset, .unset] []) := by
    intro q5 q6 hq6
    have hk : h0.size ≤ h0.size := Nat.le_refl _
    have SH := H
    refine w_iload (n := 54) X0.here hx (hb hby at_52) rfl rfl ?_
    refine w_ifne (n1 := 63) (n2 := 57) X0.here hx (hb hby at_54) (by decide) (by decide) rfl (fun hc54 => ?_) (fun hc54 => ?_)
    · refine w_iload (n := 65) X0.here hx (hb hby at_63) rfl rfl ?_
      refine w_iconst (z := (1 : Int32)) (n := 66) X0.here hx (hb hby at_65) rfl rfl ?_
      refine w_icmpne (n1 := 84) (n2 := 69) X0.here hx (hb hby at_66) (by decide) (by decide) rfl (fun hc66 => ?_) (fun hc66 => ?_)
      · refine w_iload (n := 86) X0.here hx (hb hby at_84) rfl rfl ?_
        refine w_iconst (z := (2 : Int32)) (n := 87) X0.here hx (hb hby at_86) rfl rfl ?_
        refine w_icmpne (n1 := 100) (n2 := 90) X0.here hx (hb hby at_87) (by decide) (by decide) rfl (fun hc87 => ?_) (fun hc87 => ?_)
        · refine w_iload (n := 102) X0.here hx (hb hby at_100) rfl rfl ?_
          refine w_iconst (z := (3 : Int32)) (n := 103) X0.here hx (hb hby at_102) rfl rfl ?_
          refine w_icmpne (n1 := 136) (n2 := 106) X0.here hx (hb hby at_103) (by decide) (by decide) rfl (fun hc103 => ?_) (fun hc103 => ?_)
          · refine w_iload (n := 138) X0.here hx (hb hby at_136) rfl rfl ?_
            refine w_iconst (z := (4 : Int32)) (n := 139) X0.here hx (hb hby at_138) rfl rfl ?_
            refine w_icmpne (n1 := 205) (n2 := 142) X0.here hx (hb hby at_139) (by decide) (by decide) rfl (fun hc139 => ?_) (fun hc139 => ?_)
            · refine w_iloadN (n := 206) X0.here hx (hb hby at_205) rfl rfl ?_
              refine w_bipush (z := (9 : Int32)) (n := 208) X0.here hx (hb hby at_206) rfl rfl ?_
              refine w_iushr (n := 209) X0.here hx (hb hby at_208) rfl ?_
              refine w_iconst (z := (1 : Int32)) (n := 210) X0.here hx (hb hby at_209) rfl rfl ?_
              refine w_iand (n := 211) X0.here hx (hb hby at_210) rfl ?_
              refine w_ifeq (n1 := 233) (n2 := 214) X0.here hx (hb hby at_211) (by decide) (by decide) rfl (fun hc211 => ?_) (fun hc211 => ?_)
              · refine n_O (n := 236) X0 hx hZ hown (hw _ (List.mem_of_getElem? (i := 42) rfl)) (hw _ (List.mem_of_getElem? (i := 43) rfl)) (hw _ (List.mem_of_getElem? (i := 28) rfl)) e0 (hb hby at_233) rfl (by decide) (by decide) (fun T1 h1 b1 g1 X1 e1 E1 A1 D1 U1 => ?_)
                have FC1 := D1 (O := "java/lang/String") (nm := "coder") (d := "B") (ty := .byte) (Or.inr (hw _ (List.mem_of_getElem? (i := 68) rfl))) (by decide +kernel)
                have FV1 := D1 (O := "java/lang/String") (nm := "value") (d := "[B") (ty := .array .byte) (Or.inr (hw _ (List.mem_of_getElem? (i := 70) rfl))) (by decide +kernel)
                refine w_dup (n := 237) X1.here hx (hb hby at_236) rfl rfl ?_
                refine w_iload (n := 239) X1.here hx (hb hby at_237) rfl rfl ?_
                refine c_S (n := 242) (argsL := [(.int q6)]) (rest := [(.ref b1), (.ref b1)]) X1 hx hZ hown (rm_oid20 l Z a0 hw [] q6 h1) e1 (hw _ (List.mem_of_getElem? (i := 116) rfl)) (hw _ (List.mem_of_getElem? (i := 117) rfl)) (hw _ (List.mem_of_getElem? (i := 95) rfl)) (hw _ (List.mem_of_getElem? (i := 118) rfl)) (by decide) 2 (by decide) (by decide) (by decide) (by decide) (by rw [hml]; rfl) pd_23 rfl rfl (Nat.le_of_ble_eq_true rfl) (hb hby at_239) rfl (fun v2 T2 L2 X2 hQ2 => ?_)
                obtain ⟨b, kb, rfl, ga, EQ, VQ, NQ⟩ := hQ2
                show Endz _ _ _ _ T2 (mkF m 242 #[.val (.int i0), .val (.int i1), .val (.int i2), .val (.int i3), .val (.int i4), .val (.int q5), .val (.int q6), .val (.int (i2 &&& (255 : Int32))), .val (.int (i3 &&& (255 : Int32))), .val (.int (i4 &&& (255 : Int32))), .unset, .unset, .unset] [(.ref b), (.ref b1), (.ref b1)])
                have gb : h0.size ≤ b1 := Nat.le_of_eq g1.symm
                have EE := Ext.tr E1 EQ
                refine c_N (n := 245) (b := b1) (argsL := [(.ref b)]) (rest := [(.ref b1)]) X2 hx hZ rfl hown (rm_i1 l Z a0 hw [] b1 b kb (own_oid20 q6) _ cs hcs (SC.ext EE) (by intro q; cases q) (by exact Nat.le_of_ble_eq_true rfl) (own_okd hq6).2 VQ (A1.ext EQ) _ _ (FC1.ext EQ) (FV1.ext EQ)) rfl (hw _ (List.mem_of_getElem? (i := 45) rfl)) (hw _ (List.mem_of_getElem? (i := 46) rfl)) (hw _ (List.mem_of_getElem? (i := 28) rfl)) (hw _ (List.mem_of_getElem? (i := 47) rfl)) (by decide) 1 (by decide) (by decide) (by decide) (by decide) (by rw [hml]; rfl) pd_21 rfl rfl (Nat.le_of_ble_eq_true rfl) (hb hby at_242) rfl (fun v3 T3 L3 X3 hQ3 => ?_)
                obtain ⟨rfl, SS, K9, N9⟩ := hQ3
                show Endz _ _ _ _ T3 (mkF m 245 #[.val (.int i0), .val (.int i1), .val (.int i2), .val (.int i3), .val (.int i4), .val (.int q5), .val (.int q6), .val (.int (i2 &&& (255 : Int32))), .val (.int (i3 &&& (255 : Int32))), .val (.int (i4 &&& (255 : Int32))), .unset, .unset, .unset] [(.ref b1)])
                refine w_astore (Ls' := #[.val (.int i0), .val (.int i1), .val (.int i2), .val (.int i3), .val (.int i4), .val (.int q5), .val (.int q6), .val (.int (i2 &&& (255 : Int32))), .val (.int (i3 &&& (255 : Int32))), .val (.int (i4 &&& (255 : Int32))), .val (.ref b1), .unset, .unset]) (n := 247) X3.here hx (hb hby at_245) rfl rfl rfl ?_
                exact tail q5 q6 (i2 &&& (255 : Int32)) (i3 &&& (255 : Int32)) (i4 &&& (255 : Int32)) _ _ _ _ _ b1 _ .unset (X3.mono (by decide) (by decide)) rfl hS (Ext.keep1 EE K9 gb).1 hZ hown (H.trans (CHr.ext (Ext.keep1 EE K9 gb) H.1)) (Ext.keep1 EE K9 gb) (((Fr.nil _).app (fun y hy => Nat.le_trans E1.1 (NQ y hy))).app (N9 _ gb EE.1)) SS (Or.inl rfl)
              · refine n_O (n := 217) X0 hx hZ hown (hw _ (List.mem_of_getElem? (i := 42) rfl)) (hw _ (List.mem_of_getElem? (i := 43) rfl)) (hw _ (List.mem_of_getElem? (i := 28) rfl)) e0 (hb hby at_214) rfl (by decide) (by decide) (fun T4 h4 b4 g4 X4 e4 E4 A4 D4 U4 => ?_)
                have FC4 := D4 (O := "java/lang/String") (nm := "coder") (d := "B") (ty := .byte) (Or.inr (hw _ (List.mem_of_getElem? (i := 68) rfl))) (by decide +kernel)
                have FV4 := D4 (O := "java/lang/String") (nm := "value") (d := "[B") (ty := .array .byte) (Or.inr (hw _ (List.mem_of_getElem? (i := 70) rfl))) (by decide +kernel)
                refine w_dup (n := 218) X4.here hx (hb hby at_217) rfl rfl ?_
                refine w_iload (n := 220) X4.here hx (hb hby at_218) rfl rfl ?_
                refine w_iload (n := 222) X4.here hx (hb hby at_220) rfl rfl ?_
                refine c_S (n := 225) (argsL := [(.int q6), (.int (i4 &&& (255 : Int32)))]) (rest := [(.ref b4), (.ref b4)]) X4 hx hZ hown (rm_oid22 l Z a0 hw [] q6 (i4 &&& 255) h4) e4 (hw _ (List.mem_of_getElem? (i := 119) rfl)) (hw _ (List.mem_of_getElem? (i := 120) rfl)) (hw _ (List.mem_of_getElem? (i := 95) rfl)) (hw _ (List.mem_of_getElem? (i := 121) rfl)) (by decide) 2 (by decide) (by decide) (by decide) (by decide) (by rw [hml]; rfl) pd_24 rfl rfl (Nat.le_of_ble_eq_true rfl) (hb hby at_222) rfl (fun v5 T5 L5 X5 hQ5 => ?_)
                obtain ⟨b, kb, rfl, ga, EQ, VQ, NQ⟩ := hQ5
                show Endz _ _ _ _ T5 (mkF m 225 #[.val (.int i0), .val (.int i1), .val (.int i2), .val (.int i3), .val (.int i4), .val (.int q5), .val (.int q6), .val (.int (i2 &&& (255 : Int32))), .val (.int (i3 &&& (255 : Int32))), .val (.int (i4 &&& (255 : Int32))), .unset, .unset, .unset] [(.ref b), (.ref b4), (.ref b4)])
                have gb : h0.size ≤ b4 := Nat.le_of_eq g4.symm
                have EE := Ext.tr E4 EQ
                refine c_N (n := 228) (b := b4) (argsL := [(.ref b)]) (rest := [(.ref b4)]) X5 hx hZ rfl hown (rm_i1 l Z a0 hw [] b4 b kb (own_oid22 q6 (i4 &&& 255)) _ cs hcs (SC.ext EE) (by intro q; cases q) (by exact Nat.le_of_ble_eq_true rfl) (own_okx hq6 _ (by rw [own_narc]; exact own_m255 i4)) VQ (A4.ext EQ) _ _ (FC4.ext EQ) (FV4.ext EQ)) rfl (hw _ (List.mem_of_getElem? (i := 45) rfl)) (hw _ (List.mem_of_getElem? (i := 46) rfl)) (hw _ (List.mem_of_getElem? (i := 28) rfl)) (hw _ (List.mem_of_getElem? (i := 47) rfl)) (by decide) 1 (by decide) (by decide) (by decide) (by decide) (by rw [hml]; rfl) pd_21 rfl rfl (Nat.le_of_ble_eq_true rfl) (hb hby at_225) rfl (fun v6 T6 L6 X6 hQ6 => ?_)
                obtain ⟨rfl, SS, K9, N9⟩ := hQ6
                show Endz _ _ _ _ T6 (mkF m 228 #[.val (.int i0), .val (.int i1), .val (.int i2), .val (.int i3), .val (.int i4), .val (.int q5), .val (.int q6), .val (.int (i2 &&& (255 : Int32))), .val (.int (i3 &&& (255 : Int32))), .val (.int (i4 &&& (255 : Int32))), .unset, .unset, .unset] [(.ref b4)])
                refine w_astore (Ls' := #[.val (.int i0), .val (.int i1), .val (.int i2), .val (.int i3), .val (.int i4), .val (.int q5), .val (.int q6), .val (.int (i2 &&& (255 : Int32))), .val (.int (i3 &&& (255 : Int32))), .val (.int (i4 &&& (255 : Int32))), .val (.ref b4), .unset, .unset]) (n := 230) X6.here hx (hb hby at_228) rfl rfl rfl ?_
                refine w_goto (n := 247) X6.here hx (hb hby at_230) (by decide) (by decide) ?_
                exact tail q5 q6 (i2 &&& (255 : Int32)) (i3 &&& (255 : Int32)) (i4 &&& (255 : Int32)) _ _ _ _ _ b4 _ .unset (X6.mono (by decide) (by decide)) rfl hS (Ext.keep1 EE K9 gb).1 hZ hown (H.trans (CHr.ext (Ext.keep1 EE K9 gb) H.1)) (Ext.keep1 EE K9 gb) (((Fr.nil _).app (fun y hy => Nat.le_trans E4.1 (NQ y hy))).app (N9 _ gb EE.1)) SS (Or.inl rfl)
            · refine w_iload (n := 144) X0.here hx (hb hby at_142) rfl rfl ?_
              refine c_S (n := 147) (argsL := [(.int q6)]) (rest := []) X0 hx hZ hown (rm_oid21 l Z a0 hw [] q6 h0) e0 (hw _ (List.mem_of_getElem? (i := 93) rfl)) (hw _ (List.mem_of_getElem? (i := 94) rfl)) (hw _ (List.mem_of_getElem? (i := 95) rfl)) (hw _ (List.mem_of_getElem? (i := 96) rfl)) (by decide) 0 (by decide) (by decide) (by decide) (by decide) (by rw [hml]; rfl) pd_23 rfl rfl (Nat.le_of_ble_eq_true rfl) (hb hby at_144) rfl (fun v7 T7 L7 X7 hQ7 => ?_)
              obtain ⟨b, kb, rfl, gb, E1, V1, N1⟩ := hQ7
              show Endz _ _ _ _ T7 (mkF m 147 #[.val (.int i0), .val (.int i1), .val (.int i2), .val (.int i3), .val (.int i4), .val (.int q5), .val (.int q6), .val (.int (i2 &&& (255 : Int32))), .val (.int (i3 &&& (255 : Int32))), .val (.int (i4 &&& (255 : Int32))), .unset, .unset, .unset] [(.ref b)])
              refine w_astore (Ls' := #[.val (.int i0), .val (.int i1), .val (.int i2), .val (.int i3), .val (.int i4), .val (.int q5), .val (.int q6), .val (.int (i2 &&& (255 : Int32))), .val (.int (i3 &&& (255 : Int32))), .val (.int (i4 &&& (255 : Int32))), .unset, .val (.ref b), .unset]) (n := 149) X7.here hx (hb hby at_147) rfl rfl rfl ?_
              have t191 : ∀ (T : State) (h : Heap) (L : List Loc) (ds : List Int32), Stand p l e room_1 (s.setVm vm0) m #[.int i0, .int i1, .int i2, .int i3, .int i4] below meth c T L 1 22 → T.heap = h → Ext h0 h → Fr h0.size L → Arv Z h b kb .char 21 (ds.map Value.int) (.int 0) → ds.length = 21 → own_ok ds → Endz p.tables e below (FinW s room_1 (fun v _ _ L => v = some (.int 1) ∧ Fr h0.size L)) T (mkF m 191 #[.val (.int i0), .val (.int i1), .val (.int i2), .val (.int i3), .val (.int i4), .val (.int q5), .val (.int q6), .val (.int (i2 &&& (255 : Int32))), .val (.int (i3 &&& (255 : Int32))), .val (.int (i4 &&& (255 : Int32))), .unset, .val (.ref b), .unset] []) := by
                intro T h L ds X eT E N V hl ok
                refine n_O (n := 194) X hx hZ hown (hw _ (List.mem_of_getElem? (i := 42) rfl)) (hw _ (List.mem_of_getElem? (i := 43) rfl)) (hw _ (List.mem_of_getElem? (i := 28) rfl)) eT (hb hby at_191) rfl (by decide) (by decide) (fun T8 h8 b8 g8 X8 e8 E8 A8 D8 U8 => ?_)
                have FC8 := D8 (O := "java/lang/String") (nm := "coder") (d := "B") (ty := .byte) (Or.inr (hw _ (List.mem_of_getElem? (i := 68) rfl))) (by decide +kernel)
                have FV8 := D8 (O := "java/lang/String") (nm := "value") (d := "[B") (ty := .array .byte) (Or.inr (hw _ (List.mem_of_getElem? (i := 70) rfl))) (by decide +kernel)
                refine w_dup (n := 195) X8.here hx (hb hby at_194) rfl rfl ?_
                refine w_aload (n := 197) X8.here hx (hb hby at_195) rfl rfl rfl ?_
                have gn : h0.size ≤ b8 := Nat.le_trans E.1 (Nat.le_of_eq g8.symm)
                have EE := Ext.tr E E8
                have VV' := V.ext E8
                rw [show (21 : Int32) = Int32.ofNat ds.length by rw [hl]; rfl] at VV'
                refine c_N (n := 200) (b := b8) (argsL := [(.ref b)]) (rest := [(.ref b8)]) X8 hx hZ rfl hown (rm_i1 l Z a0 hw [] b8 b kb ds _ cs hcs (SC.ext EE) (by intro q; rw [q] at hl; cases hl) (by omega) ok VV' A8 _ _ FC8 FV8) e8 (hw _ (List.mem_of_getElem? (i := 45) rfl)) (hw _ (List.mem_of_getElem? (i := 46) rfl)) (hw _ (List.mem_of_getElem? (i := 28) rfl)) (hw _ (List.mem_of_getElem? (i := 47) rfl)) (by decide) 1 (by decide) (by decide) (by decide) (by decide) (by rw [hml]; rfl) pd_21 rfl rfl (Nat.le_of_ble_eq_true rfl) (hb hby at_197) rfl (fun v9 T9 L9 X9 hQ9 => ?_)
                obtain ⟨rfl, SS, K9, N9⟩ := hQ9
                show Endz _ _ _ _ T9 (mkF m 200 #[.val (.int i0), .val (.int i1), .val (.int i2), .val (.int i3), .val (.int i4), .val (.int q5), .val (.int q6), .val (.int (i2 &&& (255 : Int32))), .val (.int (i3 &&& (255 : Int32))), .val (.int (i4 &&& (255 : Int32))), .unset, .val (.ref b), .unset] [(.ref b8)])
                refine w_astore (Ls' := #[.val (.int i0), .val (.int i1), .val (.int i2), .val (.int i3), .val (.int i4), .val (.int q5), .val (.int q6), .val (.int (i2 &&& (255 : Int32))), .val (.int (i3 &&& (255 : Int32))), .val (.int (i4 &&& (255 : Int32))), .val (.ref b8), .val (.ref b), .unset]) (n := 202) X9.here hx (hb hby at_200) rfl rfl rfl ?_
                refine w_goto (n := 247) X9.here hx (hb hby at_202) (by decide) (by decide) ?_
                exact tail q5 q6 (i2 &&& (255 : Int32)) (i3 &&& (255 : Int32)) (i4 &&& (255 : Int32)) _ _ _ _ _ b8 _ (.val (.ref b)) (X9.mono (by decide) (by decide)) rfl hS (Ext.keep1 EE K9 gn).1 hZ hown (H.trans (CHr.ext (Ext.keep1 EE K9 gn) H.1)) (Ext.keep1 EE K9 gn) (N.app (N9 _ gn EE.1)) SS (Or.inr ⟨_, rfl⟩)
              have t170 : ∀ (T : State) (h : Heap) (L : List Loc) (ds : List Int32), Stand p l e room_1 (s.setVm vm0) m #[.int i0, .int i1, .int i2, .int i3, .int i4] below meth c T L 1 22 → T.heap = h → Ext h0 h → Fr h0.size L → Arv Z h b kb .char 21 (ds.map Value.int) (.int 0) → ds.length = 21 → own_ok ds → Endz p.tables e below (FinW s room_1 (fun v _ _ L => v = some (.int 1) ∧ Fr h0.size L)) T (mkF m 170 #[.val (.int i0), .val (.int i1), .val (.int i2), .val (.int i3), .val (.int i4), .val (.int q5), .val (.int q6), .val (.int (i2 &&& (255 : Int32))), .val (.int (i3 &&& (255 : Int32))), .val (.int (i4 &&& (255 : Int32))), .unset, .val (.ref b), .unset] []) := by
                intro T h L ds X eT E N V hl ok
                refine w_iloadN (n := 171) X.here hx (hb hby at_170) rfl rfl ?_
                refine w_bipush (z := (10 : Int32)) (n := 173) X.here hx (hb hby at_171) rfl rfl ?_
                refine w_iushr (n := 174) X.here hx (hb hby at_173) rfl ?_
                refine w_iconst (z := (1 : Int32)) (n := 175) X.here hx (hb hby at_174) rfl rfl ?_
                refine w_iand (n := 176) X.here hx (hb hby at_175) rfl ?_
                refine w_ifeq (n1 := 191) (n2 := 179) X.here hx (hb hby at_176) (by decide) (by decide) rfl (fun hc176 => ?_) (fun hc176 => ?_)
                · exact t191 T h L ds X eT E N V hl ok
                · refine w_aload (n := 181) X.here hx (hb hby at_179) rfl rfl rfl ?_
                  refine w_iloadN (n := 182) X.here hx (hb hby at_181) rfl rfl ?_
                  refine w_bipush (z := (16 : Int32)) (n := 184) X.here hx (hb hby at_182) rfl rfl ?_
                  refine w_iushr (n := 185) X.here hx (hb hby at_184) rfl ?_
                  refine w_bipush (z := (21 : Int32)) (n := 187) X.here hx (hb hby at_185) rfl rfl ?_
                  refine w_irem (n := 188) X.here hx (hb hby at_187) rfl (by decide) ?_
                  refine w_iload (n := 190) X.here hx (hb hby at_188) rfl rfl ?_
                  refine s_C (n := 191) X hx hZ eT V _ rfl (by rw [List.length_map, hl]; exact (own_sh i1).2.2) (own_sh i1).1 (own_sh i1).2.1 (hb hby at_190) rfl (fun T' h' X' e' W' V' => ?_)
                  rw [own_narc, ← List.map_set] at V'
                  exact t191 T' h' _ _ X' e' (Ext.wr E W' gb) (Fr.snoc X' N gb) V' (by rw [List.length_set]; exact hl) (own_ok_set ok (own_m255 i3))
              refine w_iloadN (n := 150) X7.here hx (hb hby at_149) rfl rfl ?_
              refine w_bipush (z := (9 : Int32)) (n := 152) X7.here hx (hb hby at_150) rfl rfl ?_
              refine w_iushr (n := 153) X7.here hx (hb hby at_152) rfl ?_
              refine w_iconst (z := (1 : Int32)) (n := 154) X7.here hx (hb hby at_153) rfl rfl ?_
              refine w_iand (n := 155) X7.here hx (hb hby at_154) rfl ?_
              refine w_ifeq (n1 := 170) (n2 := 158) X7.here hx (hb hby at_155) (by decide) (by decide) rfl (fun hc155 => ?_) (fun hc155 => ?_)
              · exact t170 _ _ _ (own_oid21 q6) X7 rfl E1 ((Fr.nil _).app N1) V1 rfl (own_okd hq6).1
              · refine w_aload (n := 160) X7.here hx (hb hby at_158) rfl rfl rfl ?_
                refine w_iloadN (n := 161) X7.here hx (hb hby at_160) rfl rfl ?_
                refine k_I (n := 163) X7 hx hZ hown (hw _ (List.mem_of_getElem? (i := 0) rfl)) (hb hby at_161) rfl ?_
                refine w_iand (n := 164) X7.here hx (hb hby at_163) rfl ?_
                refine w_bipush (z := (21 : Int32)) (n := 166) X7.here hx (hb hby at_164) rfl rfl ?_
                refine w_irem (n := 167) X7.here hx (hb hby at_166) rfl (by decide) ?_
                refine w_iload (n := 169) X7.here hx (hb hby at_167) rfl rfl ?_
                have im := idx_mod i1 21 21 (by decide) (by decide)
                refine s_C (n := 170) X7 hx hZ rfl V1 _ rfl (by rw [List.length_map]; exact im.2.2) im.1 im.2.1 (hb hby at_169) rfl (fun T' h' X' e' W' V' => ?_)
                rw [own_narc, ← List.map_set] at V'
                exact t170 T' h' _ _ X' e' (Ext.wr E1 W' gb) (Fr.snoc X' ((Fr.nil _).app N1) gb) V' (by rw [List.length_set]; rfl) (own_ok_set (own_okd hq6).1 (own_m255 i2))
          · refine n_O (n := 109) X0 hx hZ hown (hw _ (List.mem_of_getElem? (i := 42) rfl)) (hw _ (List.mem_of_getElem? (i := 43) rfl)) (hw _ (List.mem_of_getElem? (i := 28) rfl)) e0 (hb hby at_106) rfl (by decide) (by decide) (fun T10 h10 b10 g10 X10 e10 E10 A10 D10 U10 => ?_)
            have FC10 := D10 (O := "java/lang/String") (nm := "coder") (d := "B") (ty := .byte) (Or.inr (hw _ (List.mem_of_getElem? (i := 68) rfl))) (by decide +kernel)
            have FV10 := D10 (O := "java/lang/String") (nm := "value") (d := "[B") (ty := .array .byte) (Or.inr (hw _ (List.mem_of_getElem? (i := 70) rfl))) (by decide +kernel)
            refine w_dup (n := 110) X10.here hx (hb hby at_109) rfl rfl ?_
            refine w_iconst (z := (3 : Int32)) (n := 111) X10.here hx (hb hby at_110) rfl rfl ?_
            refine n_P (n := 113) X10 hx hZ (hw _ (List.mem_of_getElem? (i := 44) rfl)) e10 (hb hby at_111) rfl (by decide) 3 (by decide) (by decide) (by decide) (by decide) (fun T11 h11 k11 b11 g11 X11 e11 E11 V11 => ?_)
            have gb : h0.size ≤ b10 := Nat.le_of_eq g10.symm
            have ga : h10.size ≤ b11 := Nat.le_of_eq g11.symm
            have ga0 : h0.size ≤ b11 := Nat.le_trans E10.1 ga
            have V111 := pad0 V11 3
            have N11 := Fr.nil h0.size
            refine w_dup (n := 114) X11.here hx (hb hby at_113) rfl rfl ?_
            refine w_iconst (z := (0 : Int32)) (n := 115) X11.here hx (hb hby at_114) rfl rfl ?_
            refine w_iload (n := 117) X11.here hx (hb hby at_115) rfl rfl ?_
            refine s_C (n := 118) X11 hx hZ e11 V111 0 rfl (Nat.le_of_ble_eq_true rfl) (by decide) (by decide) (hb hby at_117) rfl (fun T12 h12 X12 e12 W12 (V12 : Arv Z h12 b11 k11 .char 3 [.int (nar .char (i2 &&& 255)), .int (0 : Int32), .int (0 : Int32)] (.int 0)) => ?_)
            have E12 := Ext.wr E11 W12 ga
            have N12 := Fr.snoc X12 N11 ga0
            refine w_dup (n := 119) X12.here hx (hb hby at_118) rfl rfl ?_
            refine w_iconst (z := (1 : Int32)) (n := 120) X12.here hx (hb hby at_119) rfl rfl ?_
            refine w_iload (n := 122) X12.here hx (hb hby at_120) rfl rfl ?_
            refine s_C (n := 123) X12 hx hZ e12 V12 1 rfl (Nat.le_of_ble_eq_true rfl) (by decide) (by decide) (hb hby at_122) rfl (fun T13 h13 X13 e13 W13 (V13 : Arv Z h13 b11 k11 .char 3 [.int (nar .char (i2 &&& 255)), .int (nar .char (i3 &&& 255)), .int (0 : Int32)] (.int 0)) => ?_)
            have E13 := Ext.wr E12 W13 ga
            have N13 := Fr.snoc X13 N12 ga0
            refine w_dup (n := 124) X13.here hx (hb hby at_123) rfl rfl ?_
            refine w_iconst (z := (2 : Int32)) (n := 125) X13.here hx (hb hby at_124) rfl rfl ?_
            refine w_iload (n := 127) X13.here hx (hb hby at_125) rfl rfl ?_
            refine s_C (n := 128) X13 hx hZ e13 V13 2 rfl (Nat.le_of_ble_eq_true rfl) (by decide) (by decide) (hb hby at_127) rfl (fun T14 h14 X14 e14 W14 (V14 : Arv Z h14 b11 k11 .char 3 [.int (nar .char (i2 &&& 255)), .int (nar .char (i3 &&& 255)), .int (nar .char (i4 &&& 255))] (.int 0)) => ?_)
            have E14 := Ext.wr E13 W14 ga
            have N14 := Fr.snoc X14 N13 ga0
            rw [own_narc, own_narc, own_narc] at V14
            have ok : own_ok [i2 &&& 255, i3 &&& 255, i4 &&& 255] := fun j hj => by
              match j, hj with
              | 0, _ => exact own_m255 i2
              | 1, _ => exact own_m255 i3
              | 2, _ => exact own_m255 i4
              | j + 3, h => exact absurd h (by simp)
            have EE := Ext.tr E10 E14
            refine c_N (n := 131) (b := b10) (argsL := [(.ref b11)]) (rest := [(.ref b10)]) X14 hx hZ rfl hown (rm_i1 l Z a0 hw [] b10 b11 k11 [i2 &&& 255, i3 &&& 255, i4 &&& 255] _ cs hcs (SC.ext EE) (by simp) (by exact Nat.le_of_ble_eq_true rfl) ok V14 (A10.ext E14) _ _ (FC10.ext E14) (FV10.ext E14)) e14 (hw _ (List.mem_of_getElem? (i := 45) rfl)) (hw _ (List.mem_of_getElem? (i := 46) rfl)) (hw _ (List.mem_of_getElem? (i := 28) rfl)) (hw _ (List.mem_of_getElem? (i := 47) rfl)) (by decide) 1 (by decide) (by decide) (by decide) (by decide) (by rw [hml]; rfl) pd_21 rfl rfl (Nat.le_of_ble_eq_true rfl) (hb hby at_128) rfl (fun v15 T15 L15 X15 hQ15 => ?_)
            obtain ⟨rfl, SS, K9, N9⟩ := hQ15
            show Endz _ _ _ _ T15 (mkF m 131 #[.val (.int i0), .val (.int i1), .val (.int i2), .val (.int i3), .val (.int i4), .val (.int q5), .val (.int q6), .val (.int (i2 &&& (255 : Int32))), .val (.int (i3 &&& (255 : Int32))), .val (.int (i4 &&& (255 : Int32))), .unset, .unset, .unset] [(.ref b10)])
            refine w_astore (Ls' := #[.val (.int i0), .val (.int i1), .val (.int i2), .val (.int i3), .val (.int i4), .val (.int q5), .val (.int q6), .val (.int (i2 &&& (255 : Int32))), .val (.int (i3 &&& (255 : Int32))), .val (.int (i4 &&& (255 : Int32))), .val (.ref b10), .unset, .unset]) (n := 133) X15.here hx (hb hby at_131) rfl rfl rfl ?_
            refine w_goto (n := 247) X15.here hx (hb hby at_133) (by decide) (by decide) ?_
            exact tail q5 q6 (i2 &&& (255 : Int32)) (i3 &&& (255 : Int32)) (i4 &&& (255 : Int32)) _ _ _ _ _ b10 _ .unset (X15.mono (by decide) (by decide)) rfl hS (Ext.keep1 EE K9 gb).1 hZ hown (H.trans (CHr.ext (Ext.keep1 EE K9 gb) H.1)) (Ext.keep1 EE K9 gb) (N14.app (N9 _ gb EE.1)) SS (Or.inl rfl)
        · refine w_iload (n := 92) X0.here hx (hb hby at_90) rfl rfl ?_
          refine c_S (n := 95) (argsL := [(.int (i2 &&& (255 : Int32)))]) (rest := []) X0 hx hZ hown (rm_vo l Z a0 hw [] (i2 &&& 255) (own_m255 i2) h0 cs hcs SC) e0 (hw _ (List.mem_of_getElem? (i := 81) rfl)) (hw _ (List.mem_of_getElem? (i := 82) rfl)) (hw _ (List.mem_of_getElem? (i := 28) rfl)) (hw _ (List.mem_of_getElem? (i := 83) rfl)) (by decide) 0 (by decide) (by decide) (by decide) (by decide) (by rw [hml]; rfl) pd_22 rfl rfl (Nat.le_of_ble_eq_true rfl) (hb hby at_92) rfl (fun v16 T16 L16 X16 hQ16 => ?_)
          obtain ⟨sa, us, rfl, SS, E9, N9⟩ := hQ16
          show Endz _ _ _ _ T16 (mkF m 95 #[.val (.int i0), .val (.int i1), .val (.int i2), .val (.int i3), .val (.int i4), .val (.int q5), .val (.int q6), .val (.int (i2 &&& (255 : Int32))), .val (.int (i3 &&& (255 : Int32))), .val (.int (i4 &&& (255 : Int32))), .unset, .unset, .unset] [(.ref sa)])
          refine w_astore (Ls' := #[.val (.int i0), .val (.int i1), .val (.int i2), .val (.int i3), .val (.int i4), .val (.int q5), .val (.int q6), .val (.int (i2 &&& (255 : Int32))), .val (.int (i3 &&& (255 : Int32))), .val (.int (i4 &&& (255 : Int32))), .val (.ref sa), .unset, .unset]) (n := 97) X16.here hx (hb hby at_95) rfl rfl rfl ?_
          refine w_goto (n := 247) X16.here hx (hb hby at_97) (by decide) (by decide) ?_
          exact tail q5 q6 (i2 &&& (255 : Int32)) (i3 &&& (255 : Int32)) (i4 &&& (255 : Int32)) _ _ _ _ _ sa _ .unset (X16.mono (by decide) (by decide)) rfl hS E9.1 hZ hown (H.trans (CHr.ext E9 H.1)) E9 ((Fr.nil _).app N9) SS (Or.inl rfl)
      · refine n_O (n := 72) X0 hx hZ hown (hw _ (List.mem_of_getElem? (i := 42) rfl)) (hw _ (List.mem_of_getElem? (i := 43) rfl)) (hw _ (List.mem_of_getElem? (i := 28) rfl)) e0 (hb hby at_69) rfl (by decide) (by decide) (fun T17 h17 b17 g17 X17 e17 E17 A17 D17 U17 => ?_)
        have FC17 := D17 (O := "java/lang/String") (nm := "coder") (d := "B") (ty := .byte) (Or.inr (hw _ (List.mem_of_getElem? (i := 68) rfl))) (by decide +kernel)
        have FV17 := D17 (O := "java/lang/String") (nm := "value") (d := "[B") (ty := .array .byte) (Or.inr (hw _ (List.mem_of_getElem? (i := 70) rfl))) (by decide +kernel)
        refine w_dup (n := 73) X17.here hx (hb hby at_72) rfl rfl ?_
        refine w_iconst (z := (0 : Int32)) (n := 74) X17.here hx (hb hby at_73) rfl rfl ?_
        refine n_P (n := 76) X17 hx hZ (hw _ (List.mem_of_getElem? (i := 44) rfl)) e17 (hb hby at_74) rfl (by decide) 0 (by decide) (by decide) (by decide) (by decide) (fun T18 h18 k18 b18 g18 X18 e18 E18 V18 => ?_)
        have EE := Ext.tr E17 E18
        have gb : h0.size ≤ b17 := Nat.le_of_eq g17.symm
        have C0 := CHr.ext EE H.1
        have Sf := Safe.ext EE H.1 (Safe.new (Z := Z) (EL := own_EL) (vm := vm0) gb)
        refine c_NW (n := 79) (b := b17) (argsL := [(.ref b18)]) (rest := [(.ref b17)]) X18 hx hZ rfl hown (rm_i1e l Z a0 hw [] hEL wS _ b17 b18 k18 _ _ h18 V18 (A17.ext E18) _ _ (FC17.ext E18) (FV17.ext E18) Sf) e18 hS EE.1 hEL C0.1 (hw _ (List.mem_of_getElem? (i := 45) rfl)) (hw _ (List.mem_of_getElem? (i := 46) rfl)) (hw _ (List.mem_of_getElem? (i := 28) rfl)) (hw _ (List.mem_of_getElem? (i := 47) rfl)) (by decide) 1 (by decide) (by decide) (by decide) (by decide) (by rw [hml]; rfl) pd_21 rfl rfl (Nat.le_of_ble_eq_true rfl) (hb hby at_76) rfl (fun v19 T19 L19 X19 hS hZ hown hQ19 => ?_)
        obtain ⟨rfl, SS, K9, N9, C9⟩ := hQ19
        show Endz _ _ _ _ T19 (mkF m 79 #[.val (.int i0), .val (.int i1), .val (.int i2), .val (.int i3), .val (.int i4), .val (.int q5), .val (.int q6), .val (.int (i2 &&& (255 : Int32))), .val (.int (i3 &&& (255 : Int32))), .val (.int (i4 &&& (255 : Int32))), .unset, .unset, .unset] [(.ref b17)])
        refine w_astore (Ls' := #[.val (.int i0), .val (.int i1), .val (.int i2), .val (.int i3), .val (.int i4), .val (.int q5), .val (.int q6), .val (.int (i2 &&& (255 : Int32))), .val (.int (i3 &&& (255 : Int32))), .val (.int (i4 &&& (255 : Int32))), .val (.ref b17), .unset, .unset]) (n := 81) X19.here hx (hb hby at_79) rfl rfl rfl ?_
        refine w_goto (n := 247) X19.here hx (hb hby at_81) (by decide) (by decide) ?_
        exact tail q5 q6 (i2 &&& (255 : Int32)) (i3 &&& (255 : Int32)) (i4 &&& (255 : Int32)) _ _ _ _ _ b17 _ .unset (X19.mono (by decide) (by decide)) rfl hS (Nat.le_refl _) hZ hown ((H.trans C0).trans C9) (Ext.keep1 EE K9 gb) ((Fr.nil _).app (N9 _ gb EE.1)) SS (Or.inl rfl)
    · refine w_aconstNull (n := 58) X0.here hx (hb hby at_57) rfl ?_
      refine w_astore (Ls' := #[.val (.int i0), .val (.int i1), .val (.int i2), .val (.int i3), .val (.int i4), .val (.int q5), .val (.int q6), .val (.int (i2 &&& (255 : Int32))), .val (.int (i3 &&& (255 : Int32))), .val (.int (i4 &&& (255 : Int32))), .val .null, .unset, .unset]) (n := 60) X0.here hx (hb hby at_58) rfl rfl rfl ?_
      refine w_goto (n := 247) X0.here hx (hb hby at_60) (by decide) (by decide) ?_
      refine w_aload (n := 249) X0.here hx (hb hby at_247) rfl rfl rfl ?_
      refine w_ifnonnull (n1 := 258) (n2 := 252) X0.here hx rfl (hb hby at_249) (by decide) (by decide) rfl (fun hc249 => absurd rfl hc249) (fun hc249 => ?_)
      refine w_aconstNull (n := 253) X0.here hx (hb hby at_252) rfl ?_
      refine w_astore (Ls' := #[.val (.int i0), .val (.int i1), .val (.int i2), .val (.int i3), .val (.int i4), .val (.int q5), .val (.int q6), .val (.int (i2 &&& (255 : Int32))), .val (.int (i3 &&& (255 : Int32))), .val (.int (i4 &&& (255 : Int32))), .val .null, .val .null, .unset]) (n := 255) X0.here hx (hb hby at_253) rfl rfl rfl ?_
      refine w_goto (n := 297) X0.here hx (hb hby at_255) (by decide) (by decide) ?_
      have ER := Ext.rfl' h0
      refine w_aload (n := 299) X0.here hx (hb hby at_297) rfl rfl rfl ?_
      refine c_S (n := 302) (argsL := [.null]) (rest := []) X0 hx hZ hown (rm_fn l Z a0 hw [] vA w1 w2 kA _ (SV.ext ER) (AV.ext ER) (VV.ext ER) (A1.ext ER) (A2.ext ER) t1 t2 own_o1 own_o2 (F1.ext ER) (F2.ext ER) (G1.ext ER) (G2.ext ER) eo (SE.ext ER) (AE.ext ER) (FE.ext ER) cs hcs (SC.ext ER)) e0 (hw _ (List.mem_of_getElem? (i := 1) rfl)) (hw _ (List.mem_of_getElem? (i := 2) rfl)) (hw _ (List.mem_of_getElem? (i := 3) rfl)) (hw _ (List.mem_of_getElem? (i := 4) rfl)) (by decide) 0 (by decide) (by decide) (by decide) (by decide) (by rw [hml]; rfl) pd_25 rfl rfl (Nat.le_of_ble_eq_true rfl) (hb hby at_299) rfl (fun v20 T20 L20 X20 hQ20 => ?_)
      obtain ⟨ob, rfl, AO, FO, EO, NO⟩ := hQ20
      show Endz _ _ _ _ T20 (mkF m 302 #[.val (.int i0), .val (.int i1), .val (.int i2), .val (.int i3), .val (.int i4), .val (.int q5), .val (.int q6), .val (.int (i2 &&& (255 : Int32))), .val (.int (i3 &&& (255 : Int32))), .val (.int (i4 &&& (255 : Int32))), .val .null, .val .null, .unset] [(.ref ob)])
      refine w_aconstNull (n := 303) X20.here hx (hb hby at_302) rfl ?_
      refine c_V (n := 306) (b := ob) (argsL := [.null]) (rest := []) X20 hx hZ hown (rm_oe l Z a0 hw [] ob .null rfl _ FO) rfl AO (hw _ (List.mem_of_getElem? (i := 35) rfl)) (hw _ (List.mem_of_getElem? (i := 36) rfl)) (notFace_of_selects (args := #[]) (mvT hZ (hw _ (List.mem_of_getElem? (i := 38) rfl)))) (hw _ (List.mem_of_getElem? (i := 38) rfl)) (hw _ (List.mem_of_getElem? (i := 37) rfl)) (hw _ (List.mem_of_getElem? (i := 32) rfl)) (hw _ (List.mem_of_getElem? (i := 39) rfl)) (by decide) 0 (by decide) (by decide) (by decide) (by decide) (by rw [hml]; rfl) pd_14 rfl rfl (Nat.le_of_ble_eq_true rfl) (hb hby at_303) rfl (fun v21 T21 L21 X21 hQ21 => ?_)
      obtain ⟨rfl, rfl, eOE⟩ := hQ21
      show Endz _ _ _ _ T21 (mkF m 306 #[.val (.int i0), .val (.int i1), .val (.int i2), .val (.int i3), .val (.int i4), .val (.int q5), .val (.int q6), .val (.int (i2 &&& (255 : Int32))), .val (.int (i3 &&& (255 : Int32))), .val (.int (i4 &&& (255 : Int32))), .val .null, .val .null, .unset] [.null])
      refine k_CN (n := 309) X21 hx (hb hby at_306) rfl ?_
      refine w_astore (Ls' := #[.val (.int i0), .val (.int i1), .val (.int i2), .val (.int i3), .val (.int i4), .val (.int q5), .val (.int q6), .val (.int (i2 &&& (255 : Int32))), .val (.int (i3 &&& (255 : Int32))), .val (.int (i4 &&& (255 : Int32))), .val .null, .val .null, .val .null]) (n := 311) X21.here hx (hb hby at_309) rfl rfl rfl ?_
      refine w_aload (n := 313) X21.here hx (hb hby at_311) rfl rfl rfl ?_
      refine w_aload (n := 315) X21.here hx (hb hby at_313) rfl rfl rfl ?_
      refine w_acmpne (n1 := 322) (n2 := 318) X21.here hx rfl rfl (hb hby at_315) (by decide) (by decide) rfl (fun hc315 => absurd rfl hc315) (fun hc315 => ?_)
      refine w_iconst (z := (1 : Int32)) (n := 319) X21.here hx (hb hby at_318) rfl rfl ?_
      refine w_goto (n := 323) X21.here hx (hb hby at_319) (by decide) (by decide) ?_
      refine finW_Z X21 hx hlk eOE hS (Nat.le_trans hk EO.1) hret (Or.inl rfl) (hb hby at_323) (by decide) (by decide) ⟨rfl, fun y hy => ?_⟩
      simp only [List.nil_append, List.append_nil] at hy
      exact Nat.le_trans ER.1 (NO y hy)
  refine w_iloadN (n := 1) X0.here hx (hb hby at_0) rfl rfl ?_
  refine k_I (n := 3) X0 hx hZ hown (hw _ (List.mem_of_getElem? (i := 0) rfl)) (hb hby at_1) rfl ?_
  refine w_iand (n := 4) X0.here hx (hb hby at_3) rfl ?_
  refine w_bipush (z := (6 : Int32)) (n := 6) X0.here hx (hb hby at_4) rfl rfl ?_
  refine w_irem (n := 7) X0.here hx (hb hby at_6) rfl (by decide) ?_
  refine w_istore (Ls' := #[.val (.int i0), .val (.int i1), .val (.int i2), .val (.int i3), .val (.int i4), .val (.int ((i0 &&& (2147483647 : Int32)) % (6 : Int32))), .unset, .unset, .unset, .unset, .unset, .unset, .unset]) (n := 9) X0.here hx (hb hby at_7) rfl rfl ?_
  refine w_iloadN (n := 10) X0.here hx (hb hby at_9) rfl rfl ?_
  refine w_bipush (z := (8 : Int32)) (n := 12) X0.here hx (hb hby at_10) rfl rfl ?_
  refine w_iushr (n := 13) X0.here hx (hb hby at_12) rfl ?_
  refine w_iconst (z := (1 : Int32)) (n := 14) X0.here hx (hb hby at_13) rfl rfl ?_
  refine w_iand (n := 15) X0.here hx (hb hby at_14) rfl ?_
  refine w_ifne (n1 := 23) (n2 := 18) X0.here hx (hb hby at_15) (by decide) (by decide) rfl (fun hc15 => ?_) (fun hc15 => ?_)
  · refine w_bipush (z := (50 : Int32)) (n := 25) X0.here hx (hb hby at_23) rfl rfl ?_
    refine w_istore (Ls' := #[.val (.int i0), .val (.int i1), .val (.int i2), .val (.int i3), .val (.int i4), .val (.int ((i0 &&& (2147483647 : Int32)) % (6 : Int32))), .val (.int (50 : Int32)), .unset, .unset, .unset, .unset, .unset, .unset]) (n := 27) X0.here hx (hb hby at_25) rfl rfl ?_
    refine w_iloadN (n := 28) X0.here hx (hb hby at_27) rfl rfl ?_
    refine w_sipush (z := (255 : Int32)) (n := 31) X0.here hx (hb hby at_28) rfl rfl ?_
    refine w_iand (n := 32) X0.here hx (hb hby at_31) rfl ?_
    refine w_i2c (n := 33) X0.here hx (hb hby at_32) rfl ?_
    rw [i2c_mask]
    show Endz _ _ _ _ T0 (mkF m 33 #[.val (.int i0), .val (.int i1), .val (.int i2), .val (.int i3), .val (.int i4), .val (.int ((i0 &&& (2147483647 : Int32)) % (6 : Int32))), .val (.int (50 : Int32)), .unset, .unset, .unset, .unset, .unset, .unset] [(.int (i2 &&& (255 : Int32)))])
    refine w_istore (Ls' := #[.val (.int i0), .val (.int i1), .val (.int i2), .val (.int i3), .val (.int i4), .val (.int ((i0 &&& (2147483647 : Int32)) % (6 : Int32))), .val (.int (50 : Int32)), .val (.int (i2 &&& (255 : Int32))), .unset, .unset, .unset, .unset, .unset]) (n := 35) X0.here hx (hb hby at_33) rfl rfl ?_
    refine w_iloadN (n := 36) X0.here hx (hb hby at_35) rfl rfl ?_
    refine w_sipush (z := (255 : Int32)) (n := 39) X0.here hx (hb hby at_36) rfl rfl ?_
    refine w_iand (n := 40) X0.here hx (hb hby at_39) rfl ?_
    refine w_i2c (n := 41) X0.here hx (hb hby at_40) rfl ?_
    rw [i2c_mask]
    show Endz _ _ _ _ T0 (mkF m 41 #[.val (.int i0), .val (.int i1), .val (.int i2), .val (.int i3), .val (.int i4), .val (.int ((i0 &&& (2147483647 : Int32)) % (6 : Int32))), .val (.int (50 : Int32)), .val (.int (i2 &&& (255 : Int32))), .unset, .unset, .unset, .unset, .unset] [(.int (i3 &&& (255 : Int32)))])
    refine w_istore (Ls' := #[.val (.int i0), .val (.int i1), .val (.int i2), .val (.int i3), .val (.int i4), .val (.int ((i0 &&& (2147483647 : Int32)) % (6 : Int32))), .val (.int (50 : Int32)), .val (.int (i2 &&& (255 : Int32))), .val (.int (i3 &&& (255 : Int32))), .unset, .unset, .unset, .unset]) (n := 43) X0.here hx (hb hby at_41) rfl rfl ?_
    refine w_iload (n := 45) X0.here hx (hb hby at_43) rfl rfl ?_
    refine w_sipush (z := (255 : Int32)) (n := 48) X0.here hx (hb hby at_45) rfl rfl ?_
    refine w_iand (n := 49) X0.here hx (hb hby at_48) rfl ?_
    refine w_i2c (n := 50) X0.here hx (hb hby at_49) rfl ?_
    rw [i2c_mask]
    show Endz _ _ _ _ T0 (mkF m 50 #[.val (.int i0), .val (.int i1), .val (.int i2), .val (.int i3), .val (.int i4), .val (.int ((i0 &&& (2147483647 : Int32)) % (6 : Int32))), .val (.int (50 : Int32)), .val (.int (i2 &&& (255 : Int32))), .val (.int (i3 &&& (255 : Int32))), .unset, .unset, .unset, .unset] [(.int (i4 &&& (255 : Int32)))])
    refine w_istore (Ls' := #[.val (.int i0), .val (.int i1), .val (.int i2), .val (.int i3), .val (.int i4), .val (.int ((i0 &&& (2147483647 : Int32)) % (6 : Int32))), .val (.int (50 : Int32)), .val (.int (i2 &&& (255 : Int32))), .val (.int (i3 &&& (255 : Int32))), .val (.int (i4 &&& (255 : Int32))), .unset, .unset, .unset]) (n := 52) X0.here hx (hb hby at_50) rfl rfl ?_
    exact main _ _ (Or.inr rfl)
  · refine w_bipush (z := (49 : Int32)) (n := 20) X0.here hx (hb hby at_18) rfl rfl ?_
    refine w_goto (n := 25) X0.here hx (hb hby at_20) (by decide) (by decide) ?_
    refine w_istore (Ls' := #[.val (.int i0), .val (.int i1), .val (.int i2), .val (.int i3), .val (.int i4), .val (.int ((i0 &&& (2147483647 : Int32)) % (6 : Int32))), .val (.int (49 : Int32)), .unset, .unset, .unset, .unset, .unset, .unset]) (n := 27) X0.here hx (hb hby at_25) rfl rfl ?_
    refine w_iloadN (n := 28) X0.here hx (hb hby at_27) rfl rfl ?_
    refine w_sipush (z := (255 : Int32)) (n := 31) X0.here hx (hb hby at_28) rfl rfl ?_
    refine w_iand (n := 32) X0.here hx (hb hby at_31) rfl ?_
    refine w_i2c (n := 33) X0.here hx (hb hby at_32) rfl ?_
    rw [i2c_mask]
    show Endz _ _ _ _ T0 (mkF m 33 #[.val (.int i0), .val (.int i1), .val (.int i2), .val (.int i3), .val (.int i4), .val (.int ((i0 &&& (2147483647 : Int32)) % (6 : Int32))), .val (.int (49 : Int32)), .unset, .unset, .unset, .unset, .unset, .unset] [(.int (i2 &&& (255 : Int32)))])
    refine w_istore (Ls' := #[.val (.int i0), .val (.int i1), .val (.int i2), .val (.int i3), .val (.int i4), .val (.int ((i0 &&& (2147483647 : Int32)) % (6 : Int32))), .val (.int (49 : Int32)), .val (.int (i2 &&& (255 : Int32))), .unset, .unset, .unset, .unset, .unset]) (n := 35) X0.here hx (hb hby at_33) rfl rfl ?_
    refine w_iloadN (n := 36) X0.here hx (hb hby at_35) rfl rfl ?_
    refine w_sipush (z := (255 : Int32)) (n := 39) X0.here hx (hb hby at_36) rfl rfl ?_
    refine w_iand (n := 40) X0.here hx (hb hby at_39) rfl ?_
    refine w_i2c (n := 41) X0.here hx (hb hby at_40) rfl ?_
    rw [i2c_mask]
    show Endz _ _ _ _ T0 (mkF m 41 #[.val (.int i0), .val (.int i1), .val (.int i2), .val (.int i3), .val (.int i4), .val (.int ((i0 &&& (2147483647 : Int32)) % (6 : Int32))), .val (.int (49 : Int32)), .val (.int (i2 &&& (255 : Int32))), .unset, .unset, .unset, .unset, .unset] [(.int (i3 &&& (255 : Int32)))])
    refine w_istore (Ls' := #[.val (.int i0), .val (.int i1), .val (.int i2), .val (.int i3), .val (.int i4), .val (.int ((i0 &&& (2147483647 : Int32)) % (6 : Int32))), .val (.int (49 : Int32)), .val (.int (i2 &&& (255 : Int32))), .val (.int (i3 &&& (255 : Int32))), .unset, .unset, .unset, .unset]) (n := 43) X0.here hx (hb hby at_41) rfl rfl ?_
    refine w_iload (n := 45) X0.here hx (hb hby at_43) rfl rfl ?_
    refine w_sipush (z := (255 : Int32)) (n := 48) X0.here hx (hb hby at_45) rfl rfl ?_
    refine w_iand (n := 49) X0.here hx (hb hby at_48) rfl ?_
    refine w_i2c (n := 50) X0.here hx (hb hby at_49) rfl ?_
    rw [i2c_mask]
    show Endz _ _ _ _ T0 (mkF m 50 #[.val (.int i0), .val (.int i1), .val (.int i2), .val (.int i3), .val (.int i4), .val (.int ((i0 &&& (2147483647 : Int32)) % (6 : Int32))), .val (.int (49 : Int32)), .val (.int (i2 &&& (255 : Int32))), .val (.int (i3 &&& (255 : Int32))), .unset, .unset, .unset, .unset] [(.int (i4 &&& (255 : Int32)))])
    refine w_istore (Ls' := #[.val (.int i0), .val (.int i1), .val (.int i2), .val (.int i3), .val (.int i4), .val (.int ((i0 &&& (2147483647 : Int32)) % (6 : Int32))), .val (.int (49 : Int32)), .val (.int (i2 &&& (255 : Int32))), .val (.int (i3 &&& (255 : Int32))), .val (.int (i4 &&& (255 : Int32))), .unset, .unset, .unset]) (n := 52) X0.here hx (hb hby at_50) rfl rfl ?_
    exact main _ _ (Or.inl rfl)
set_option maxRecDepth 65536 in
set_option maxHeartbeats 40000000 in
theorem comes_1 {Post : Tables → Env → Array Value → State → Outcome → State → Prop} (hpost : ∀ tb e args s v u, (limb_1_1.after args s (.returned v) u = true ∧ limb_1_2.after args s (.returned v) u = true ∧ True) → FramedW s (.returned v) u (Jvm.fieldLocs frame_1_writes args s ++ Jvm.arrayLocs frame_1_arrays args s ++ Jvm.staticLocs frame_1_statics s) 24 3264 → Post tb e args s (.returned v) u) :
    ArmFor flags0 classFile x code maxLocals ret World_1 tables_1 room_1 Calls_1 rest_1 Pre_1 Post := by
  intro l hfl _ _ p e ha hc hk s m args below hf hA hF happ hP
  obtain ⟨hcalls, hrest, hpre⟩ := hP
  obtain ⟨-, -, -, hnamed, -, -, -, hat⟩ := (Spec.applies_iff hf).mp happ
  obtain ⟨hg, hn⟩ := and_e (Cond.before_iff.mp (show (Jvm.Cond.and given_1 narrow_1).before args s = true from hpre))
  obtain ⟨q1, q2⟩ := and_e hg
  obtain ⟨q3, q4⟩ := and_e q2
  obtain ⟨q5, q6⟩ := and_e q4
  obtain ⟨q7, q8⟩ := and_e q6
  obtain ⟨q9, q10⟩ := and_e q8
  obtain ⟨w0, w1, w2, w3, w4, rfl⟩ : ∃ w0 w1 w2 w3 w4 : Value, args = #[w0, w1, w2, w3, w4] := by
    have hs : args.size = 5 := by simpa [Cond.value, given_1] using q1
    obtain ⟨L⟩ := args
    match L, hs with
    | [w0, w1, w2, w3, w4], _ => exact ⟨w0, w1, w2, w3, w4, rfl⟩
  have hw := fun d (hd : d ∈ tables_1) => atoms_spec (ws := Jvm.Cond.code x code maxLocals ret :: tables_1) hat d (List.mem_cons_of_mem _ hd)
  have hfit : Fit s := fun {y c} hc i hi => by
    obtain ⟨ha, rfl⟩ := Array.getElem?_eq_some_iff.mp hc
    have q := List.all_eq_true.mp ((Array.all_eq_true_iff_forall_mem.mp hF) _ (Array.getElem_mem ha)) i (List.mem_range.mpr hi)
    simpa [Array.getElem?_eq_getElem hi] using q
  obtain ⟨hsets, hown0⟩ := atoms_of _ (rest_1_c_eq ▸ (show rest_1_c.before _ s = true from hrest))
  have hr0 := Cond.before_iff.mp hown0
  obtain ⟨i0, ei0⟩ := is_v q3
  obtain rfl : w0 = (.int i0) := Option.some.inj ei0
  obtain ⟨i1, ei1⟩ := is_v q5
  obtain rfl : w1 = (.int i1) := Option.some.inj ei1
  obtain ⟨i2, ei2⟩ := is_v q7
  obtain rfl : w2 = (.int i2) := Option.some.inj ei2
  obtain ⟨i3, ei3⟩ := is_v q9
  obtain rfl : w3 = (.int i3) := Option.some.inj ei3
  obtain ⟨i4, ei4⟩ := is_v q10
  obtain rfl : w4 = (.int i4) := Option.some.inj ei4
  obtain ⟨q101, q102⟩ := and_e hn
  obtain ⟨q103, q104⟩ := and_e q102
  obtain ⟨q105, q106⟩ := and_e q104
  obtain ⟨q107, q108⟩ := and_e q106
  obtain ⟨q109, q110⟩ := and_e q108
  obtain ⟨q111, q112⟩ := and_e q110
  obtain ⟨q113, q114⟩ := and_e q112
  obtain ⟨q115, q116⟩ := and_e q114
  obtain ⟨q117, q118⟩ := and_e q116
  obtain ⟨q119, q120⟩ := and_e q118
  obtain ⟨q121, q122⟩ := and_e q120
  obtain ⟨q123, q124⟩ := and_e q122
  obtain ⟨q125, q126⟩ := and_e q124
  obtain ⟨q127, q128⟩ := and_e q126
  obtain ⟨q129, q130⟩ := and_e q128
  obtain ⟨q131, q132⟩ := and_e q130
  obtain ⟨q133, q134⟩ := and_e q132
  obtain ⟨q135, q136⟩ := and_e q134
  obtain ⟨q137, q138⟩ := and_e q136
  obtain ⟨q139, q140⟩ := and_e q138
  obtain ⟨q141, q142⟩ := and_e q140
  obtain ⟨q143, q144⟩ := and_e q142
  obtain ⟨q145, q146⟩ := and_e q144
  obtain ⟨q147, q148⟩ := and_e q146
  obtain ⟨q149, q150⟩ := and_e q148
  obtain ⟨q151, q152⟩ := and_e q150
  obtain ⟨q153, q154⟩ := and_e q152
  obtain ⟨q155, q156⟩ := and_e q154
  obtain ⟨q157, q158⟩ := and_e q156
  obtain ⟨q159, q160⟩ := and_e q158
  obtain ⟨q161, q162⟩ := and_e q160
  obtain ⟨q163, q164⟩ := and_e q162
  obtain ⟨q165, q166⟩ := and_e q164
  obtain ⟨q167, q168⟩ := and_e q166
  obtain ⟨q169, q170⟩ := and_e q168
  obtain ⟨q171, q172⟩ := and_e q170
  obtain ⟨q173, q174⟩ := and_e q172
  obtain ⟨q175, q176⟩ := and_e q174
  obtain ⟨q177, q178⟩ := and_e q176
  obtain ⟨q179, q180⟩ := and_e q178
  obtain ⟨q181, q182⟩ := and_e q180
  obtain ⟨q183, q184⟩ := and_e q182
  obtain ⟨q185, q186⟩ := and_e q184
  obtain ⟨q187, q188⟩ := and_e q186
  obtain ⟨q189, q190⟩ := and_e q188
  obtain ⟨q191, q192⟩ := and_e q190
  obtain ⟨q193, q194⟩ := and_e q192
  obtain ⟨q195, q196⟩ := and_e q194
  obtain ⟨q197, q198⟩ := and_e q196
  obtain ⟨q199, q200⟩ := and_e q198
  obtain ⟨q201, q202⟩ := and_e q200
  obtain ⟨q203, q204⟩ := and_e q202
  obtain ⟨q205, q206⟩ := and_e q204
  obtain ⟨q207, q208⟩ := and_e q206
  obtain ⟨q209, q210⟩ := and_e q208
  obtain ⟨q211, q212⟩ := and_e q210
  obtain ⟨vA, evA, AV, SV⟩ := sta_v q103 (hw _ (List.mem_of_getElem? (i := 3) rfl)) (hw _ (List.mem_of_getElem? (i := 9) rfl))
  obtain ⟨cA, arA⟩ := Arr.start evA q101
  obtain ⟨lA, zA⟩ := len_is evA arA.1 q105
  obtain ⟨w1', ev1, A1, S1⟩ := sta_v q107 (hw _ (List.mem_of_getElem? (i := 3) rfl)) (hw _ (List.mem_of_getElem? (i := 17) rfl))
  have el1 : cA.slots[0]? = some (.ref w1') := elem_is evA arA.1 ev1 rfl q109
  obtain ⟨t1, et1⟩ := exa_v q115
  have TA1 := Exa.start et1 q115
  have F1 := fldr_v ev1 et1
  have TC1 := fldi_v et1 q119
  obtain ⟨p1, ep1⟩ := arr_v q121
  have TV1 := fldr_v et1 ep1
  obtain ⟨cB1, arB1⟩ := Arr.start ep1 q121
  obtain ⟨lB1, zB1⟩ := len_is ep1 arB1.1 q123
  have b1_0 := elemi_is ep1 arB1.1 q131
  have b1_1 := elemi_is ep1 arB1.1 q133
  have b1_2 := elemi_is ep1 arB1.1 q135
  have b1_3 := elemi_is ep1 arB1.1 q137
  have b1_4 := elemi_is ep1 arB1.1 q139
  have b1_5 := elemi_is ep1 arB1.1 q141
  have b1_6 := elemi_is ep1 arB1.1 q143
  have b1_7 := elemi_is ep1 arB1.1 q145
  have b1_8 := elemi_is ep1 arB1.1 q147
  have b1_9 := elemi_is ep1 arB1.1 q149
  have b1_10 := elemi_is ep1 arB1.1 q151
  have b1_11 := elemi_is ep1 arB1.1 q153
  have b1_12 := elemi_is ep1 arB1.1 q155
  have b1_13 := elemi_is ep1 arB1.1 q157
  have b1_14 := elemi_is ep1 arB1.1 q159
  have b1_15 := elemi_is ep1 arB1.1 q161
  have b1_16 := elemi_is ep1 arB1.1 q163
  have b1_17 := elemi_is ep1 arB1.1 q165
  have b1_18 := elemi_is ep1 arB1.1 q167
  have b1_19 := elemi_is ep1 arB1.1 q169
  have b1_20 := elemi_is ep1 arB1.1 q171
  have TB1 : Arv s s.heap p1 cB1.cls .byte 21 (own_o1.map Value.int) (.int 0) := Arv.start hfit arB1 lB1 zB1 (by decide) rfl ⟨b1_0, b1_1, b1_2, b1_3, b1_4, b1_5, b1_6, b1_7, b1_8, b1_9, b1_10, b1_11, b1_12, b1_13, b1_14, b1_15, b1_16, b1_17, b1_18, b1_19, b1_20, trivial⟩
  have G1 : Strz s s.heap t1 own_o1 := ⟨TA1, TC1, p1, _, 21, TV1, TB1, by decide, by decide⟩
  obtain ⟨w2', ev2, A2, S2⟩ := sta_v q111 (hw _ (List.mem_of_getElem? (i := 3) rfl)) (hw _ (List.mem_of_getElem? (i := 18) rfl))
  have el2 : cA.slots[1]? = some (.ref w2') := elem_is evA arA.1 ev2 rfl q113
  obtain ⟨t2, et2⟩ := exa_v q117
  have TA2 := Exa.start et2 q117
  have F2 := fldr_v ev2 et2
  have TC2 := fldi_v et2 q125
  obtain ⟨p2, ep2⟩ := arr_v q127
  have TV2 := fldr_v et2 ep2
  obtain ⟨cB2, arB2⟩ := Arr.start ep2 q127
  obtain ⟨lB2, zB2⟩ := len_is ep2 arB2.1 q129
  have b2_0 := elemi_is ep2 arB2.1 q173
  have b2_1 := elemi_is ep2 arB2.1 q175
  have b2_2 := elemi_is ep2 arB2.1 q177
  have b2_3 := elemi_is ep2 arB2.1 q179
  have b2_4 := elemi_is ep2 arB2.1 q181
  have b2_5 := elemi_is ep2 arB2.1 q183
  have b2_6 := elemi_is ep2 arB2.1 q185
  have b2_7 := elemi_is ep2 arB2.1 q187
  have b2_8 := elemi_is ep2 arB2.1 q189
  have b2_9 := elemi_is ep2 arB2.1 q191
  have b2_10 := elemi_is ep2 arB2.1 q193
  have b2_11 := elemi_is ep2 arB2.1 q195
  have b2_12 := elemi_is ep2 arB2.1 q197
  have b2_13 := elemi_is ep2 arB2.1 q199
  have b2_14 := elemi_is ep2 arB2.1 q201
  have b2_15 := elemi_is ep2 arB2.1 q203
  have b2_16 := elemi_is ep2 arB2.1 q205
  have b2_17 := elemi_is ep2 arB2.1 q207
  have b2_18 := elemi_is ep2 arB2.1 q209
  have b2_19 := elemi_is ep2 arB2.1 q211
  have b2_20 := elemi_is ep2 arB2.1 q212
  have TB2 : Arv s s.heap p2 cB2.cls .byte 21 (own_o2.map Value.int) (.int 0) := Arv.start hfit arB2 lB2 zB2 (by decide) rfl ⟨b2_0, b2_1, b2_2, b2_3, b2_4, b2_5, b2_6, b2_7, b2_8, b2_9, b2_10, b2_11, b2_12, b2_13, b2_14, b2_15, b2_16, b2_17, b2_18, b2_19, b2_20, trivial⟩
  have G2 : Strz s s.heap t2 own_o2 := ⟨TA2, TC2, p2, _, 21, TV2, TB2, by decide, by decide⟩
  have VV : Arv s s.heap vA cA.cls (.object "com/example/legitka/legitka/CardKind") 2 [.ref w1', .ref w2'] .null := Arv.start hfit arA lA zA (by decide) rfl ⟨el1, el2, trivial⟩
  obtain ⟨eo, eeo⟩ := exa_v (Cond.before_iff.mp (hsets _ (List.mem_of_getElem? (i := 2) rfl)))
  have AE := Exa.start eeo (Cond.before_iff.mp (hsets _ (List.mem_of_getElem? (i := 2) rfl)))
  have SE := Sta.start eeo (Or.inl (hsets _ (List.mem_of_getElem? (i := 1) rfl)))
  have FE : Fld s s.heap eo "java/util/Optional" "value" "Ljava/lang/Object;" .null := Fld.start (by rw [← fld_at eeo]; exact null_v (Cond.before_iff.mp (hsets _ (List.mem_of_getElem? (i := 3) rfl))))
  obtain ⟨cs, ecs⟩ := is_v (Cond.before_iff.mp (hsets _ (List.mem_of_getElem? (i := 5) rfl)))
  have SC := Sta.start ecs (Or.inl (hsets _ (List.mem_of_getElem? (i := 4) rfl)))
  have hcs : cs ≠ 0 := gotF (Cond.eq_ints ecs (Term.int_eval 0)) (not_v (Cond.before_iff.mp (hsets _ (List.mem_of_getElem? (i := 6) rfl))))
  have hEL : EW s _ own_EL := EW.cons (hw _ (List.mem_of_getElem? (i := 71) rfl)) own_t1.1 (EW.cons (hw _ (List.mem_of_getElem? (i := 80) rfl)) own_t2.1 (EW.cons (hw _ (List.mem_of_getElem? (i := 114) rfl)) (fun c hc => nomatch hc) EW.nil))
  have hC0 : CHv s own_EL s.vm s.heap := CHv.start hEL (fun p hp => hcalls.1 p hp) (hsets _ (List.mem_of_getElem? (i := 6) rfl)) (hw _ (List.mem_of_getElem? (i := 60) rfl)) (hw _ (List.mem_of_getElem? (i := 43) rfl))
  obtain ⟨n, o, h1, h2, h3, _, L, rfl, ⟨rfl, N⟩, hq⟩ := rm0 l s _ hw tables_1 hEL s.vm i0 i1 i2 i3 i4 vA w1' w2' cA.cls s.heap SV AV VV A1 A2 t1 t2 F1 F2 G1 G2 eo SE AE FE cs hcs SC S1 S2 p e ha hc hk s m _ below hf ((Spec.applies_iff_loose hf).mp happ).1 ⟨rfl, State.Warmed39.refl s, rfl, CHr.refl hC0⟩ trivial
  exact ⟨n, _, h1, h2, h3, hpost _ _ _ _ _ _ ⟨Cond.after_iff.mpr rfl, Cond.after_iff.mpr (eq_i res_at (Term.int_eval (1)) rfl), trivial⟩ ⟨hq.1, hq.2.1, hq.2.2.1, (hq.2.2.2.sift fun y hy => Or.inr (N y hy)).mono (by decide) (by decide)⟩⟩
theorem main_1_1 : Claimed_1_1 := comes_1 fun _ _ _ _ _ _ h hF => ⟨h.1, hF⟩
theorem main_1_2 : Claimed_1_2 := comes_1 fun _ _ _ _ _ _ h hF => ⟨h.2.1, hF⟩
end Jvm.Pilot.@@N@@
namespace Jvm.Pilot.@@N@@
open Jvm Jvm.ClassFile Sem Op Lib Jvm.Free Jvm.Stand Jvm.Pilot.@@N@@.Jvm.D
/-! MADE BY PROGRAM (witnessworld.py) out of the Statement's table words and the real class files: 24 classes; the members and pool entries that the words name. The judged class is class 1, her method 4. -/
namespace start1
open Jvm.ClassFile
def u (s : String) : CpInfo := .utf8 (stringToUtf16 s)
/-- a pool by its gaps: so many unusable entries, then the entry; so many at the end -/
def gap : Nat → List CpInfo → List CpInfo
  | 0, r => r
  | n + 1, r => .unusable :: gap n r
def poolList (es : List (Nat × CpInfo)) (last : Nat) : List CpInfo := es.foldr (fun e r => gap e.1 (e.2 :: r)) (gap last [])
def pool (es : List (Nat × CpInfo)) (last : Nat) : Array CpInfo := ⟨poolList es last⟩
def fileOf (pool : Array CpInfo) (this : Nat) (attrs : Array Attribute := #[]) (ms : Array MethodInfo := #[]) (fl : Nat := 33) (sup : Nat := 0) (ifs : Array Nat := #[]) (fds : Array FieldInfo := #[]) : ClassFile where
  minorVersion := 0
  majorVersion := 65
  constantPool := pool
  accessFlags := fl
  thisClass := this
  superClass := sup
  interfaces := ifs
  fields := fds
  methods := ms
  attributes := attrs
def plain (name : String) (sup : Option ClassId) : Class where
  name := name
  kind := .ordinary
  loader := none
  accessFlags := 33
  super := sup
  interfaces := #[]
  cf := none
  fields := #[]
  methods := #[]
  instanceTypes := #[]
  staticTypes := #[]
  resolved := #[]
  callSites := []
  init := .initialized
  statics := none
  mirror := none

def pool0 : Array CpInfo := pool [(5, u "<init>"), (0, u "()V"), (1, .class_ 10), (1, u "java/lang/Object"), (85, u "clone"), (0, u "()Ljava/lang/Object;")] 26

def k0c0 : Code := { maxStack := 0, maxLocals := 1, code := object_method_1_code, exceptionTable := #[], attributes := #[] }
def k0m0 : Method := { name := "<init>", desc := "()V", sig := { parameters := [], returnType := none }, accessFlags := 1, code := some k0c0 }
def k0m1 : Method := { name := "clone", desc := "()Ljava/lang/Object;", sig := { parameters := [], returnType := some (.object "java/lang/Object") }, accessFlags := 260, code := none }
/-- java/lang/Object -/
def k0 : Class := { plain "java/lang/Object" none with
  accessFlags := 33
  interfaces := #[]
  cf := some (fileOf pool0 8 #[] #[{ accessFlags := 1, nameIndex := 5, descriptorIndex := 6, attributes := #[] }, { accessFlags := 260, nameIndex := 96, descriptorIndex := 97, attributes := #[] }] 33 0 #[] #[])
  fields := #[]
  methods := #[k0m0, k0m1]
  instanceTypes := #[]
  staticTypes := #[]
  resolved := Array.replicate 124 none
  statics := none }

def pool1 : Array CpInfo := pool [(2, .class_ 4), (1, u "java/lang/Object"), (0, u "<init>"), (0, u "()V"), (0, .integer 2147483647), (0, .class_ 9), (0, u "java/lang/String"), (0, .methodref 8 11), (0, .nameAndType 5 12), (0, u "([C)V"), (0, .methodref 8 14), (0, .nameAndType 15 16), (0, u "valueOf"), (0, u "(C)Ljava/lang/String;"), (0, .methodref 18 19), (0, .class_ 20), (0, .nameAndType 21 22), (0, u "com/example/legitka/legitka/CardKindForContentTypePinLaw"), (0, u "oid21"), (0, u "(C)[C"), (0, .methodref 18 24), (0, .nameAndType 25 26), (0, u "oid22"), (0, u "(CC)[C"), (0, .methodref 18 28), (0, .nameAndType 29 22), (0, u "oid20"), (0, .string 31), (0, u "1.2.616.1.101.4.1.1.1"), (0, .methodref 8 33), (0, .nameAndType 34 35), (0, u "equals"), (0, u "(Ljava/lang/Object;)Z"), (0, .fieldref 37 38), (0, .class_ 39), (0, .nameAndType 40 41), (0, u "com/example/legitka/legitka/CardKind"), (0, u "STUDENT"), (0, u "Lcom/example/legitka/legitka/CardKind;"), (0, .string 43), (0, u "1.2.616.1.101.4.1.2.1"), (0, .fieldref 37 45), (0, .nameAndType 46 41), (0, u "DOCTORAL"), (0, .methodref 37 48), (0, .nameAndType 49 50), (0, u "forContentType"), (0, u "(Ljava/lang/String;)Ljava/util/Optional;"), (0, .methodref 52 53), (0, .class_ 54), (0, .nameAndType 55 56), (0, u "java/util/Optional"), (0, u "orElse"), (0, u "(Ljava/lang/Object;)Ljava/lang/Object;"), (2, u "law"), (0, u "(IIIII)Z")] 5

def k1m0 : Method := { name := "<init>", desc := "()V", sig := { parameters := [], returnType := none }, accessFlags := 1, code := none }
def k1c1 : Code := { maxStack := 4, maxLocals := 1, code := method_2_code, exceptionTable := #[], attributes := #[] }
def k1m1 : Method := { name := "oid21", desc := "(C)[C", sig := { parameters := [.char], returnType := some (.array .char) }, accessFlags := 10, code := some k1c1 }
def k1c2 : Code := { maxStack := 4, maxLocals := 1, code := method_3_code, exceptionTable := #[], attributes := #[] }
def k1m2 : Method := { name := "oid20", desc := "(C)[C", sig := { parameters := [.char], returnType := some (.array .char) }, accessFlags := 10, code := some k1c2 }
def k1c3 : Code := { maxStack := 4, maxLocals := 2, code := method_4_code, exceptionTable := #[], attributes := #[] }
def k1m3 : Method := { name := "oid22", desc := "(CC)[C", sig := { parameters := [.char, .char], returnType := some (.array .char) }, accessFlags := 10, code := some k1c3 }
def k1c4 : Code := { maxStack := 6, maxLocals := 13, code := code, exceptionTable := #[], attributes := #[] }
def k1m4 : Method := { name := "law", desc := "(IIIII)Z", sig := { parameters := [.int, .int, .int, .int, .int], returnType := some .boolean }, accessFlags := 9, code := some k1c4 }
/-- com/example/legitka/legitka/CardKindForContentTypePinLaw -/
def k1 : Class := { plain "com/example/legitka/legitka/CardKindForContentTypePinLaw" (some 0) with
  accessFlags := 49
  interfaces := #[]
  cf := some (fileOf pool1 18 #[] #[{ accessFlags := 1, nameIndex := 5, descriptorIndex := 6, attributes := #[] }, { accessFlags := 10, nameIndex := 21, descriptorIndex := 22, attributes := #[] }, { accessFlags := 10, nameIndex := 29, descriptorIndex := 22, attributes := #[] }, { accessFlags := 10, nameIndex := 25, descriptorIndex := 26, attributes := #[] }, { accessFlags := 9, nameIndex := 59, descriptorIndex := 60, attributes := #[] }] 49 2 #[] #[])
  fields := #[]
  methods := #[k1m0, k1m1, k1m2, k1m3, k1m4]
  instanceTypes := #[]
  staticTypes := #[]
  resolved := Array.replicate 66 none
  statics := none }

def pool2 : Array CpInfo := pool [(1, .class_ 2), (0, u "java/lang/constant/Constable"), (0, .class_ 4), (0, u "java/lang/Object")] 6

/-- java/lang/constant/Constable -/
def k2 : Class := { plain "java/lang/constant/Constable" (some 0) with
  accessFlags := 1537
  interfaces := #[]
  cf := some (fileOf pool2 1 #[] #[] 1537 3 #[] #[])
  fields := #[]
  methods := #[]
  instanceTypes := #[]
  staticTypes := #[]
  resolved := Array.replicate 11 none
  statics := none }

def pool3 : Array CpInfo := pool [(1, .class_ 2), (0, u "java/lang/Comparable"), (0, .class_ 4), (0, u "java/lang/Object")] 7

/-- java/lang/Comparable -/
def k3 : Class := { plain "java/lang/Comparable" (some 0) with
  accessFlags := 1537
  interfaces := #[]
  cf := some (fileOf pool3 1 #[] #[] 1537 3 #[] #[])
  fields := #[]
  methods := #[]
  instanceTypes := #[]
  staticTypes := #[]
  resolved := Array.replicate 12 none
  statics := none }

def pool4 : Array CpInfo := pool [(1, .class_ 2), (0, u "java/io/Serializable"), (0, .class_ 4), (0, u "java/lang/Object")] 2

/-- java/io/Serializable -/
def k4 : Class := { plain "java/io/Serializable" (some 0) with
  accessFlags := 1537
  interfaces := #[]
  cf := some (fileOf pool4 1 #[] #[] 1537 3 #[] #[])
  fields := #[]
  methods := #[]
  instanceTypes := #[]
  staticTypes := #[]
  resolved := Array.replicate 7 none
  statics := none }

def pool5 : Array CpInfo := pool [(2, .class_ 4), (1, u "java/lang/Enum"), (0, u "name"), (0, u "Ljava/lang/String;"), (2, u "ordinal"), (0, u "I"), (1, .class_ 14), (1, u "java/lang/Object"), (4, u "hash"), (86, .class_ 108), (1, u "java/lang/Enum$EnumDesc"), (2, .class_ 112), (0, u "java/lang/constant/Constable"), (0, .class_ 114), (0, u "java/lang/Comparable"), (0, .class_ 116), (0, u "java/io/Serializable")] 87

/-- java/lang/Enum -/
def k5 : Class := { plain "java/lang/Enum" (some 0) with
  accessFlags := 1057
  interfaces := #[2, 3, 4]
  cf := some (fileOf pool5 2 #[.nestMembers #[106]] #[] 1057 12 #[111, 113, 115] #[{ accessFlags := 18, nameIndex := 5, descriptorIndex := 6, attributes := #[] }, { accessFlags := 18, nameIndex := 9, descriptorIndex := 10, attributes := #[] }, { accessFlags := 2, nameIndex := 19, descriptorIndex := 10, attributes := #[] }])
  fields := #[{ name := "name", type := (.object "java/lang/String"), accessFlags := 18, slot := 0, constantValue := 0 }, { name := "ordinal", type := .int, accessFlags := 18, slot := 1, constantValue := 0 }, { name := "hash", type := .int, accessFlags := 2, slot := 2, constantValue := 0 }]
  methods := #[]
  instanceTypes := #[(.object "java/lang/String"), .int, .int]
  staticTypes := #[]
  resolved := Array.replicate 204 none
  statics := none }

def pool6 : Array CpInfo := pool [(1, .class_ 2), (0, u "com/example/legitka/legitka/CardKind"), (2, u "STUDENT"), (0, u "Lcom/example/legitka/legitka/CardKind;"), (2, u "DOCTORAL"), (0, .fieldref 1 11), (0, .nameAndType 12 13), (0, u "$VALUES"), (0, u "[Lcom/example/legitka/legitka/CardKind;"), (0, .methodref 15 16), (0, .class_ 13), (0, .nameAndType 17 18), (0, u "clone"), (0, u "()Ljava/lang/Object;"), (1, .class_ 22), (1, u "java/lang/Enum"), (6, .fieldref 1 30), (0, .nameAndType 31 32), (0, u "contentType"), (0, u "Ljava/lang/String;"), (2, u "dataFileName"), (2, u "pix"), (0, u "[B"), (2, u "signingWindow"), (0, u "I"), (2, u "issuerCommonName"), (11, .class_ 60), (1, u "java/lang/String"), (45, .methodref 1 107), (0, .nameAndType 108 109), (0, u "values"), (0, u "()[Lcom/example/legitka/legitka/CardKind;"), (0, .methodref 58 111), (0, .nameAndType 112 113), (0, u "equals"), (0, u "(Ljava/lang/Object;)Z"), (0, .methodref 115 116), (0, .class_ 117), (0, .nameAndType 118 119), (0, u "java/util/Optional"), (0, u "of"), (0, u "(Ljava/lang/Object;)Ljava/util/Optional;"), (0, .methodref 115 121), (0, .nameAndType 122 123), (0, u "empty"), (0, u "()Ljava/util/Optional;"), (23, u "RID_LENGTH"), (2, u "CERTIFICATE_FILE_ID"), (1, u "SIGNED_FILE_ID"), (12, u "forContentType"), (0, u "(Ljava/lang/String;)Ljava/util/Optional;")] 22

def k6c0 : Code := { maxStack := 1, maxLocals := 0, code := prog_5_method_1_code, exceptionTable := #[], attributes := #[] }
def k6m0 : Method := { name := "values", desc := "()[Lcom/example/legitka/legitka/CardKind;", sig := { parameters := [], returnType := some (.array (.object "com/example/legitka/legitka/CardKind")) }, accessFlags := 9, code := some k6c0 }
def k6c1 : Code := { maxStack := 2, maxLocals := 5, code := prog_5_method_10_code, exceptionTable := #[], attributes := #[] }
def k6m1 : Method := { name := "forContentType", desc := "(Ljava/lang/String;)Ljava/util/Optional;", sig := { parameters := [(.object "java/lang/String")], returnType := some (.object "java/util/Optional") }, accessFlags := 9, code := some k6c1 }
/-- com/example/legitka/legitka/CardKind -/
def k6 : Class := { plain "com/example/legitka/legitka/CardKind" (some 5) with
  accessFlags := 16433
  interfaces := #[]
  cf := some (fileOf pool6 1 #[] #[{ accessFlags := 9, nameIndex := 108, descriptorIndex := 109, attributes := #[] }, { accessFlags := 9, nameIndex := 165, descriptorIndex := 166, attributes := #[] }] 16433 20 #[] #[{ accessFlags := 16409, nameIndex := 5, descriptorIndex := 6, attributes := #[] }, { accessFlags := 16409, nameIndex := 9, descriptorIndex := 6, attributes := #[] }, { accessFlags := 25, nameIndex := 147, descriptorIndex := 43, attributes := #[] }, { accessFlags := 24, nameIndex := 150, descriptorIndex := 43, attributes := #[] }, { accessFlags := 24, nameIndex := 152, descriptorIndex := 43, attributes := #[] }, { accessFlags := 18, nameIndex := 31, descriptorIndex := 32, attributes := #[] }, { accessFlags := 18, nameIndex := 35, descriptorIndex := 32, attributes := #[] }, { accessFlags := 18, nameIndex := 38, descriptorIndex := 39, attributes := #[] }, { accessFlags := 18, nameIndex := 42, descriptorIndex := 43, attributes := #[] }, { accessFlags := 18, nameIndex := 46, descriptorIndex := 32, attributes := #[] }, { accessFlags := 4122, nameIndex := 12, descriptorIndex := 13, attributes := #[] }])
  fields := #[{ name := "STUDENT", type := (.object "com/example/legitka/legitka/CardKind"), accessFlags := 16409, slot := 0, constantValue := 0 }, { name := "DOCTORAL", type := (.object "com/example/legitka/legitka/CardKind"), accessFlags := 16409, slot := 1, constantValue := 0 }, { name := "RID_LENGTH", type := .int, accessFlags := 25, slot := 2, constantValue := 0 }, { name := "CERTIFICATE_FILE_ID", type := .int, accessFlags := 24, slot := 3, constantValue := 0 }, { name := "SIGNED_FILE_ID", type := .int, accessFlags := 24, slot := 4, constantValue := 0 }, { name := "contentType", type := (.object "java/lang/String"), accessFlags := 18, slot := 3, constantValue := 0 }, { name := "dataFileName", type := (.object "java/lang/String"), accessFlags := 18, slot := 4, constantValue := 0 }, { name := "pix", type := (.array .byte), accessFlags := 18, slot := 5, constantValue := 0 }, { name := "signingWindow", type := .int, accessFlags := 18, slot := 6, constantValue := 0 }, { name := "issuerCommonName", type := (.object "java/lang/String"), accessFlags := 18, slot := 7, constantValue := 0 }, { name := "$VALUES", type := (.array (.object "com/example/legitka/legitka/CardKind")), accessFlags := 4122, slot := 5, constantValue := 0 }]
  methods := #[k6m0, k6m1]
  instanceTypes := #[(.object "java/lang/String"), .int, .int, (.object "java/lang/String"), (.object "java/lang/String"), (.array .byte), .int, (.object "java/lang/String")]
  staticTypes := #[(.object "com/example/legitka/legitka/CardKind"), (.object "com/example/legitka/legitka/CardKind"), .int, .int, .int, (.array (.object "com/example/legitka/legitka/CardKind"))]
  resolved := Array.replicate 189 none
  statics := some 0 }

def pool7 : Array CpInfo := pool [(1, .class_ 2), (0, u "java/lang/Cloneable"), (0, .class_ 4), (0, u "java/lang/Object")] 2

/-- java/lang/Cloneable -/
def k7 : Class := { plain "java/lang/Cloneable" (some 0) with
  accessFlags := 1537
  interfaces := #[]
  cf := some (fileOf pool7 1 #[] #[] 1537 3 #[] #[])
  fields := #[]
  methods := #[]
  instanceTypes := #[]
  staticTypes := #[]
  resolved := Array.replicate 7 none
  statics := none }

def pool8 : Array CpInfo := pool [(2, .class_ 4), (1, u "java/lang/CharSequence"), (42, .class_ 48), (0, u "java/lang/CharSequence$1CodePointIterator"), (10, .class_ 60), (0, u "java/lang/CharSequence$1CharIterator"), (5, .class_ 67), (0, u "java/lang/Object")] 63

/-- java/lang/CharSequence -/
def k8 : Class := { plain "java/lang/CharSequence" (some 0) with
  accessFlags := 1537
  interfaces := #[]
  cf := some (fileOf pool8 2 #[.nestMembers #[47, 59]] #[] 1537 66 #[] #[])
  fields := #[]
  methods := #[]
  instanceTypes := #[]
  staticTypes := #[]
  resolved := Array.replicate 131 none
  statics := none }

def pool9 : Array CpInfo := pool [(1, .class_ 2), (0, u "java/lang/constant/ConstantDesc"), (0, .class_ 4), (0, u "java/lang/Object")] 32

/-- java/lang/constant/ConstantDesc -/
def k9 : Class := { plain "java/lang/constant/ConstantDesc" (some 0) with
  accessFlags := 1537
  interfaces := #[]
  cf := some (fileOf pool9 1 #[] #[] 1537 3 #[] #[])
  fields := #[]
  methods := #[]
  instanceTypes := #[]
  staticTypes := #[]
  resolved := Array.replicate 37 none
  statics := none }

def pool10 : Array CpInfo := pool [(1, .methodref 2 3), (0, .class_ 4), (0, .nameAndType 5 6), (0, u "java/lang/Object"), (0, u "<init>"), (0, u "()V"), (0, .string 8), (0, u ""), (0, .fieldref 10 11), (0, .class_ 12), (0, .nameAndType 13 14), (0, u "java/lang/String"), (0, u "value"), (0, u "[B"), (0, .fieldref 10 16), (0, .nameAndType 17 18), (0, u "coder"), (0, u "B"), (2, u "hash"), (0, u "I"), (2, u "hashIsZero"), (0, u "Z"), (0, .methodref 10 28), (0, .nameAndType 5 29), (0, u "([CIILjava/lang/Void;)V"), (8, .fieldref 10 39), (0, .nameAndType 40 26), (0, u "COMPACT_STRINGS"), (1, .class_ 44), (1, u "java/lang/StringUTF16"), (0, u "compress"), (1, .methodref 42 48), (0, .nameAndType 49 50), (0, u "coderFromArrayLen"), (0, u "([BI)B"), (2, u "toBytes"), (53, .class_ 109), (1, u "java/lang/StringLatin1"), (67, .methodref 42 178), (0, .nameAndType 45 179), (0, u "([CII)[B"), (29, .methodref 10 210), (0, .nameAndType 5 211), (0, u "([BB)V"), (157, u "(C)Z"), (171, .methodref 107 542), (0, .nameAndType 543 544), (0, u "equals"), (0, u "([B[B)Z"), (28, u "(Ljava/lang/Object;)Z"), (1, .class_ 576), (0, u "java/lang/CharSequence"), (22, u "CASE_INSENSITIVE_ORDER"), (0, u "Ljava/util/Comparator;"), (181, u "valueOf"), (0, u "(C)Ljava/lang/String;"), (226, u "([C)V"), (4, .methodref 107 1016), (0, .nameAndType 1017 369), (0, u "canEncode"), (0, .methodref 107 1019), (0, .nameAndType 53 1020), (0, u "(C)[B"), (80, u "serialPersistentFields"), (0, u "[Ljava/io/ObjectStreamField;"), (0, .class_ 1104), (0, u "java/lang/String$CaseInsensitiveComparator"), (1, .class_ 1107), (0, u "java/io/Serializable"), (0, .class_ 1109), (0, u "java/lang/Comparable"), (0, .class_ 1111), (0, u "java/lang/constant/Constable"), (0, .class_ 1113), (0, u "java/lang/constant/ConstantDesc"), (2, u "serialVersionUID"), (0, u "J"), (3, u "REPL"), (0, u "C"), (2, u "LATIN1"), (1, u "UTF16")] 323

def k10m0 : Method := { name := "<init>", desc := "()V", sig := { parameters := [], returnType := none }, accessFlags := 1, code := none }
def k10c1 : Code := { maxStack := 5, maxLocals := 2, code := jdk_42_method_3_code, exceptionTable := #[], attributes := #[] }
def k10m1 : Method := { name := "<init>", desc := "([C)V", sig := { parameters := [(.array .char)], returnType := none }, accessFlags := 1, code := some k10c1 }
def k10c2 : Code := { maxStack := 2, maxLocals := 3, code := jdk_42_method_66_code, exceptionTable := #[], attributes := #[] }
def k10m2 : Method := { name := "equals", desc := "(Ljava/lang/Object;)Z", sig := { parameters := [(.object "java/lang/Object")], returnType := some .boolean }, accessFlags := 1, code := some k10c2 }
def k10c3 : Code := { maxStack := 4, maxLocals := 1, code := jdk_42_method_139_code, exceptionTable := #[], attributes := #[] }
def k10m3 : Method := { name := "valueOf", desc := "(C)Ljava/lang/String;", sig := { parameters := [.char], returnType := some (.object "java/lang/String") }, accessFlags := 9, code := some k10c3 }
def k10c4 : Code := { maxStack := 4, maxLocals := 6, code := jdk_42_method_149_code, exceptionTable := #[], attributes := #[] }
def k10m4 : Method := { name := "<init>", desc := "([CIILjava/lang/Void;)V", sig := { parameters := [(.array .char), .int, .int, (.object "java/lang/Void")], returnType := none }, accessFlags := 2, code := some k10c4 }
def k10c5 : Code := { maxStack := 2, maxLocals := 3, code := jdk_42_method_151_code, exceptionTable := #[], attributes := #[] }
def k10m5 : Method := { name := "<init>", desc := "([BB)V", sig := { parameters := [(.array .byte), .byte], returnType := none }, accessFlags := 0, code := some k10c5 }
/-- java/lang/String -/
def k10 : Class := { plain "java/lang/String" (some 0) with
  accessFlags := 49
  interfaces := #[4, 3, 8, 2, 9]
  cf := some (fileOf pool10 10 #[.nestMembers #[1103]] #[{ accessFlags := 1, nameIndex := 5, descriptorIndex := 6, attributes := #[] }, { accessFlags := 1, nameIndex := 5, descriptorIndex := 1010, attributes := #[] }, { accessFlags := 1, nameIndex := 543, descriptorIndex := 573, attributes := #[] }, { accessFlags := 9, nameIndex := 782, descriptorIndex := 783, attributes := #[] }, { accessFlags := 2, nameIndex := 5, descriptorIndex := 29, attributes := #[] }, { accessFlags := 0, nameIndex := 5, descriptorIndex := 211, attributes := #[] }] 49 2 #[1106, 1108, 575, 1110, 1112] #[{ accessFlags := 18, nameIndex := 13, descriptorIndex := 14, attributes := #[] }, { accessFlags := 18, nameIndex := 17, descriptorIndex := 18, attributes := #[] }, { accessFlags := 2, nameIndex := 21, descriptorIndex := 22, attributes := #[] }, { accessFlags := 2, nameIndex := 25, descriptorIndex := 26, attributes := #[] }, { accessFlags := 26, nameIndex := 1116, descriptorIndex := 1117, attributes := #[] }, { accessFlags := 24, nameIndex := 40, descriptorIndex := 26, attributes := #[] }, { accessFlags := 26, nameIndex := 1101, descriptorIndex := 1102, attributes := #[] }, { accessFlags := 26, nameIndex := 1121, descriptorIndex := 1122, attributes := #[] }, { accessFlags := 25, nameIndex := 599, descriptorIndex := 600, attributes := #[] }, { accessFlags := 24, nameIndex := 1125, descriptorIndex := 18, attributes := #[] }, { accessFlags := 24, nameIndex := 1127, descriptorIndex := 18, attributes := #[] }])
  fields := #[{ name := "value", type := (.array .byte), accessFlags := 18, slot := 0, constantValue := 0 }, { name := "coder", type := .byte, accessFlags := 18, slot := 1, constantValue := 0 }, { name := "hash", type := .int, accessFlags := 2, slot := 2, constantValue := 0 }, { name := "hashIsZero", type := .boolean, accessFlags := 2, slot := 3, constantValue := 0 }, { name := "serialVersionUID", type := .long, accessFlags := 26, slot := 0, constantValue := 0 }, { name := "COMPACT_STRINGS", type := .boolean, accessFlags := 24, slot := 1, constantValue := 0 }, { name := "serialPersistentFields", type := (.array (.object "java/io/ObjectStreamField")), accessFlags := 26, slot := 2, constantValue := 0 }, { name := "REPL", type := .char, accessFlags := 26, slot := 3, constantValue := 0 }, { name := "CASE_INSENSITIVE_ORDER", type := (.object "java/util/Comparator"), accessFlags := 25, slot := 4, constantValue := 0 }, { name := "LATIN1", type := .byte, accessFlags := 24, slot := 5, constantValue := 0 }, { name := "UTF16", type := .byte, accessFlags := 24, slot := 6, constantValue := 0 }]
  methods := #[k10m0, k10m1, k10m2, k10m3, k10m4, k10m5]
  instanceTypes := #[(.array .byte), .byte, .int, .boolean]
  staticTypes := #[.long, .boolean, (.array (.object "java/io/ObjectStreamField")), .char, (.object "java/util/Comparator"), .byte, .byte]
  resolved := Array.replicate 1451 none
  statics := some 1 }

def pool11 : Array CpInfo := pool [(1, .fieldref 2 3), (0, .class_ 4), (0, .nameAndType 5 6), (0, u "java/util/Optional"), (0, u "EMPTY"), (0, u "Ljava/util/Optional;"), (0, .methodref 8 9), (0, .class_ 10), (0, .nameAndType 11 12), (0, u "java/lang/Object"), (0, u "<init>"), (0, u "()V"), (0, .fieldref 2 14), (0, .nameAndType 15 16), (0, u "value"), (0, u "Ljava/lang/Object;"), (0, .methodref 18 19), (0, .class_ 20), (0, .nameAndType 21 22), (0, u "java/util/Objects"), (0, u "requireNonNull"), (0, u "(Ljava/lang/Object;)Ljava/lang/Object;"), (0, .methodref 2 24), (0, .nameAndType 11 25), (0, u "(Ljava/lang/Object;)V"), (29, u "empty"), (0, u "()Ljava/util/Optional;"), (8, u "(Ljava/lang/Object;)Ljava/util/Optional;"), (16, u "of"), (82, u "orElse")] 21

def k11c0 : Code := { maxStack := 1, maxLocals := 1, code := jdk_32_method_1_code, exceptionTable := #[], attributes := #[] }
def k11m0 : Method := { name := "empty", desc := "()Ljava/util/Optional;", sig := { parameters := [], returnType := some (.object "java/util/Optional") }, accessFlags := 9, code := some k11c0 }
def k11c1 : Code := { maxStack := 2, maxLocals := 2, code := jdk_32_method_2_code, exceptionTable := #[], attributes := #[] }
def k11m1 : Method := { name := "<init>", desc := "(Ljava/lang/Object;)V", sig := { parameters := [(.object "java/lang/Object")], returnType := none }, accessFlags := 2, code := some k11c1 }
def k11c2 : Code := { maxStack := 3, maxLocals := 1, code := jdk_32_method_3_code, exceptionTable := #[], attributes := #[] }
def k11m2 : Method := { name := "of", desc := "(Ljava/lang/Object;)Ljava/util/Optional;", sig := { parameters := [(.object "java/lang/Object")], returnType := some (.object "java/util/Optional") }, accessFlags := 9, code := some k11c2 }
def k11c3 : Code := { maxStack := 1, maxLocals := 2, code := jdk_32_method_15_code, exceptionTable := #[], attributes := #[] }
def k11m3 : Method := { name := "orElse", desc := "(Ljava/lang/Object;)Ljava/lang/Object;", sig := { parameters := [(.object "java/lang/Object")], returnType := some (.object "java/lang/Object") }, accessFlags := 1, code := some k11c3 }
/-- java/util/Optional -/
def k11 : Class := { plain "java/util/Optional" (some 0) with
  accessFlags := 49
  interfaces := #[]
  cf := some (fileOf pool11 2 #[] #[{ accessFlags := 9, nameIndex := 55, descriptorIndex := 56, attributes := #[] }, { accessFlags := 2, nameIndex := 11, descriptorIndex := 25, attributes := #[] }, { accessFlags := 9, nameIndex := 82, descriptorIndex := 65, attributes := #[] }, { accessFlags := 1, nameIndex := 165, descriptorIndex := 22, attributes := #[] }] 49 8 #[] #[{ accessFlags := 26, nameIndex := 5, descriptorIndex := 6, attributes := #[] }, { accessFlags := 18, nameIndex := 15, descriptorIndex := 16, attributes := #[] }])
  fields := #[{ name := "EMPTY", type := (.object "java/util/Optional"), accessFlags := 26, slot := 0, constantValue := 0 }, { name := "value", type := (.object "java/lang/Object"), accessFlags := 18, slot := 0, constantValue := 0 }]
  methods := #[k11m0, k11m1, k11m2, k11m3]
  instanceTypes := #[(.object "java/lang/Object")]
  staticTypes := #[(.object "java/util/Optional")]
  resolved := Array.replicate 187 none
  statics := some 2 }

def pool12 : Array CpInfo := pool [(6, .class_ 8), (1, u "java/lang/Object"), (0, u "<init>"), (0, u "()V"), (1, .class_ 14), (1, u "java/lang/StringUTF16"), (31, u "$assertionsDisabled"), (0, u "Z"), (13, u "HI_BYTE_SHIFT"), (0, u "I"), (2, u "LO_BYTE_SHIFT"), (49, .methodref 12 116), (0, .nameAndType 117 118), (0, u "compress"), (0, u "([CI[BII)I"), (3, u "([CII)[B"), (138, u "coderFromArrayLen"), (0, u "([BI)B"), (106, .class_ 371), (1, u "java/lang/StringUTF16$LinesSpliterator"), (58, u "MAX_LENGTH"), (196, .class_ 628), (0, u "java/lang/StringUTF16$CodePointsSpliterator"), (0, .class_ 630), (0, u "java/lang/StringUTF16$CharsSpliterator")] 4

def k12m0 : Method := { name := "<init>", desc := "()V", sig := { parameters := [], returnType := none }, accessFlags := 0, code := none }
def k12c1 : Code := { maxStack := 2, maxLocals := 2, code := jdk_52_method_15_code, exceptionTable := #[], attributes := #[] }
def k12m1 : Method := { name := "coderFromArrayLen", desc := "([BI)B", sig := { parameters := [(.array .byte), .int], returnType := some .byte }, accessFlags := 8, code := some k12c1 }
def k12c2 : Code := { maxStack := 5, maxLocals := 6, code := jdk_52_method_16_code, exceptionTable := #[], attributes := #[] }
def k12m2 : Method := { name := "compress", desc := "([CII)[B", sig := { parameters := [(.array .char), .int, .int], returnType := some (.array .byte) }, accessFlags := 9, code := some k12c2 }
def k12c3 : Code := { maxStack := 3, maxLocals := 7, code := jdk_52_method_21_code, exceptionTable := #[], attributes := #[] }
def k12m3 : Method := { name := "compress", desc := "([CI[BII)I", sig := { parameters := [(.array .char), .int, (.array .byte), .int, .int], returnType := some .int }, accessFlags := 9, code := some k12c3 }
/-- java/lang/StringUTF16 -/
def k12 : Class := { plain "java/lang/StringUTF16" (some 0) with
  accessFlags := 48
  interfaces := #[]
  cf := some (fileOf pool12 12 #[.nestMembers #[627, 629, 369]] #[{ accessFlags := 0, nameIndex := 9, descriptorIndex := 10, attributes := #[] }, { accessFlags := 8, nameIndex := 261, descriptorIndex := 262, attributes := #[] }, { accessFlags := 9, nameIndex := 117, descriptorIndex := 122, attributes := #[] }, { accessFlags := 9, nameIndex := 117, descriptorIndex := 118, attributes := #[] }] 48 6 #[] #[{ accessFlags := 26, nameIndex := 61, descriptorIndex := 62, attributes := #[] }, { accessFlags := 26, nameIndex := 65, descriptorIndex := 62, attributes := #[] }, { accessFlags := 24, nameIndex := 430, descriptorIndex := 62, attributes := #[] }, { accessFlags := 4120, nameIndex := 46, descriptorIndex := 47, attributes := #[] }])
  fields := #[{ name := "HI_BYTE_SHIFT", type := .int, accessFlags := 26, slot := 0, constantValue := 0 }, { name := "LO_BYTE_SHIFT", type := .int, accessFlags := 26, slot := 1, constantValue := 0 }, { name := "MAX_LENGTH", type := .int, accessFlags := 24, slot := 2, constantValue := 0 }, { name := "$assertionsDisabled", type := .boolean, accessFlags := 4120, slot := 3, constantValue := 0 }]
  methods := #[k12m0, k12m1, k12m2, k12m3]
  instanceTypes := #[]
  staticTypes := #[.int, .int, .int, .boolean]
  resolved := Array.replicate 635 none
  statics := none }

def pool13 : Array CpInfo := pool [(4, .class_ 6), (1, u "java/lang/Object"), (0, u "<init>"), (0, u "()V"), (5, .class_ 16), (1, u "java/lang/StringLatin1"), (73, u "canEncode"), (14, u "(C)Z"), (15, u "$assertionsDisabled"), (0, u "Z"), (98, .class_ 223), (1, u "java/lang/StringLatin1$LinesSpliterator"), (57, u "equals"), (0, u "([B[B)Z"), (97, u "toBytes"), (1, u "(C)[B"), (7, .class_ 391), (0, u "java/lang/StringLatin1$CharsSpliterator")] 3

def k13m0 : Method := { name := "<init>", desc := "()V", sig := { parameters := [], returnType := none }, accessFlags := 0, code := none }
def k13c1 : Code := { maxStack := 2, maxLocals := 1, code := jdk_43_method_3_code, exceptionTable := #[], attributes := #[] }
def k13m1 : Method := { name := "canEncode", desc := "(C)Z", sig := { parameters := [.char], returnType := some .boolean }, accessFlags := 9, code := some k13c1 }
def k13c2 : Code := { maxStack := 3, maxLocals := 3, code := jdk_43_method_13_code, exceptionTable := #[], attributes := #[] }
def k13m2 : Method := { name := "equals", desc := "([B[B)Z", sig := { parameters := [(.array .byte), (.array .byte)], returnType := some .boolean }, accessFlags := 9, code := some k13c2 }
def k13c3 : Code := { maxStack := 4, maxLocals := 1, code := jdk_43_method_46_code, exceptionTable := #[], attributes := #[] }
def k13m3 : Method := { name := "toBytes", desc := "(C)[B", sig := { parameters := [.char], returnType := some (.array .byte) }, accessFlags := 9, code := some k13c3 }
/-- java/lang/StringLatin1 -/
def k13 : Class := { plain "java/lang/StringLatin1" (some 0) with
  accessFlags := 48
  interfaces := #[]
  cf := some (fileOf pool13 14 #[.nestMembers #[390, 221]] #[{ accessFlags := 0, nameIndex := 7, descriptorIndex := 8, attributes := #[] }, { accessFlags := 9, nameIndex := 90, descriptorIndex := 105, attributes := #[] }, { accessFlags := 9, nameIndex := 281, descriptorIndex := 282, attributes := #[] }, { accessFlags := 9, nameIndex := 380, descriptorIndex := 382, attributes := #[] }] 48 4 #[] #[{ accessFlags := 4120, nameIndex := 121, descriptorIndex := 122, attributes := #[] }])
  fields := #[{ name := "$assertionsDisabled", type := .boolean, accessFlags := 4120, slot := 0, constantValue := 0 }]
  methods := #[k13m0, k13m1, k13m2, k13m3]
  instanceTypes := #[]
  staticTypes := #[.boolean]
  resolved := Array.replicate 395 none
  statics := none }

def pool14 : Array CpInfo := pool [(2, .class_ 4), (1, u "java/lang/Object"), (0, u "<init>"), (0, u "()V"), (35, .class_ 44), (1, u "java/util/Objects"), (0, u "requireNonNull"), (0, u "(Ljava/lang/Object;)Ljava/lang/Object;")] 137

def k14m0 : Method := { name := "<init>", desc := "()V", sig := { parameters := [], returnType := none }, accessFlags := 2, code := none }
def k14c1 : Code := { maxStack := 2, maxLocals := 1, code := jdk_31_method_10_code, exceptionTable := #[], attributes := #[] }
def k14m1 : Method := { name := "requireNonNull", desc := "(Ljava/lang/Object;)Ljava/lang/Object;", sig := { parameters := [(.object "java/lang/Object")], returnType := some (.object "java/lang/Object") }, accessFlags := 9, code := some k14c1 }
/-- java/util/Objects -/
def k14 : Class := { plain "java/util/Objects" (some 0) with
  accessFlags := 49
  interfaces := #[]
  cf := some (fileOf pool14 42 #[] #[{ accessFlags := 2, nameIndex := 5, descriptorIndex := 6, attributes := #[] }, { accessFlags := 9, nameIndex := 45, descriptorIndex := 46, attributes := #[] }] 49 2 #[] #[])
  fields := #[]
  methods := #[k14m0, k14m1]
  instanceTypes := #[]
  staticTypes := #[]
  resolved := Array.replicate 184 none
  statics := none }

def pool15 : Array CpInfo := pool [(2, .class_ 4), (1, u "java/lang/Object"), (0, u "<init>"), (0, u "()V"), (17, .class_ 26), (1, u "jdk/internal/util/Preconditions"), (28, .class_ 56), (0, u "jdk/internal/util/Preconditions$4"), (57, .class_ 115), (0, u "jdk/internal/util/Preconditions$1"), (7, u "SIOOBE_FORMATTER"), (0, u "Ljava/util/function/BiFunction;"), (0, .class_ 126), (0, u "jdk/internal/util/Preconditions$2"), (3, u "AIOOBE_FORMATTER"), (0, .class_ 132), (0, u "jdk/internal/util/Preconditions$3"), (3, u "IOOBE_FORMATTER")] 57

def k15m0 : Method := { name := "<init>", desc := "()V", sig := { parameters := [], returnType := none }, accessFlags := 1, code := none }
/-- jdk/internal/util/Preconditions -/
def k15 : Class := { plain "jdk/internal/util/Preconditions" (some 0) with
  accessFlags := 33
  interfaces := #[]
  cf := some (fileOf pool15 24 #[.nestMembers #[55, 131, 125, 114]] #[{ accessFlags := 1, nameIndex := 5, descriptorIndex := 6, attributes := #[] }] 33 2 #[] #[{ accessFlags := 25, nameIndex := 123, descriptorIndex := 124, attributes := #[] }, { accessFlags := 25, nameIndex := 130, descriptorIndex := 124, attributes := #[] }, { accessFlags := 25, nameIndex := 136, descriptorIndex := 124, attributes := #[] }])
  fields := #[{ name := "SIOOBE_FORMATTER", type := (.object "java/util/function/BiFunction"), accessFlags := 25, slot := 0, constantValue := 0 }, { name := "AIOOBE_FORMATTER", type := (.object "java/util/function/BiFunction"), accessFlags := 25, slot := 1, constantValue := 0 }, { name := "IOOBE_FORMATTER", type := (.object "java/util/function/BiFunction"), accessFlags := 25, slot := 2, constantValue := 0 }]
  methods := #[k15m0]
  instanceTypes := #[]
  staticTypes := #[(.object "java/util/function/BiFunction"), (.object "java/util/function/BiFunction"), (.object "java/util/function/BiFunction")]
  resolved := Array.replicate 194 none
  statics := some 3 }

def pool16 : Array CpInfo := pool [(9, u "<init>"), (6, .class_ 18), (1, u "java/lang/Object"), (0, u "()V"), (1, .class_ 23), (1, u "jdk/internal/util/ArraysSupport"), (0, u "LOG2_ARRAY_LONG_INDEX_SCALE"), (0, u "I"), (2, u "U"), (0, u "Ljdk/internal/misc/Unsafe;"), (8, u "BIG_ENDIAN"), (0, u "Z"), (8, u "LOG2_BYTE_BIT_SIZE"), (4, u "LOG2_ARRAY_INT_INDEX_SCALE"), (54, u "JLA"), (0, u "Ljdk/internal/access/JavaLangAccess;"), (11, u "LOG2_ARRAY_BOOLEAN_INDEX_SCALE"), (9, u "LOG2_ARRAY_BYTE_INDEX_SCALE"), (5, u "LOG2_ARRAY_CHAR_INDEX_SCALE"), (5, u "LOG2_ARRAY_SHORT_INDEX_SCALE"), (18, u "LOG2_ARRAY_FLOAT_INDEX_SCALE"), (24, u "LOG2_ARRAY_DOUBLE_INDEX_SCALE"), (89, u "T_BOOLEAN"), (2, u "T_CHAR"), (1, u "T_FLOAT"), (1, u "T_DOUBLE"), (1, u "T_BYTE"), (1, u "T_SHORT"), (1, u "T_INT"), (1, u "T_LONG"), (1, u "SOFT_MAX_ARRAY_LENGTH")] 83

def k16m0 : Method := { name := "<init>", desc := "()V", sig := { parameters := [], returnType := none }, accessFlags := 2, code := none }
/-- jdk/internal/util/ArraysSupport -/
def k16 : Class := { plain "jdk/internal/util/ArraysSupport" (some 0) with
  accessFlags := 33
  interfaces := #[]
  cf := some (fileOf pool16 21 #[] #[{ accessFlags := 2, nameIndex := 9, descriptorIndex := 19, attributes := #[] }] 33 16 #[] #[{ accessFlags := 24, nameIndex := 28, descriptorIndex := 29, attributes := #[] }, { accessFlags := 26, nameIndex := 38, descriptorIndex := 39, attributes := #[] }, { accessFlags := 25, nameIndex := 121, descriptorIndex := 25, attributes := #[] }, { accessFlags := 25, nameIndex := 131, descriptorIndex := 25, attributes := #[] }, { accessFlags := 25, nameIndex := 137, descriptorIndex := 25, attributes := #[] }, { accessFlags := 25, nameIndex := 143, descriptorIndex := 25, attributes := #[] }, { accessFlags := 25, nameIndex := 53, descriptorIndex := 25, attributes := #[] }, { accessFlags := 25, nameIndex := 24, descriptorIndex := 25, attributes := #[] }, { accessFlags := 25, nameIndex := 162, descriptorIndex := 25, attributes := #[] }, { accessFlags := 25, nameIndex := 187, descriptorIndex := 25, attributes := #[] }, { accessFlags := 26, nameIndex := 48, descriptorIndex := 25, attributes := #[] }, { accessFlags := 25, nameIndex := 277, descriptorIndex := 25, attributes := #[] }, { accessFlags := 25, nameIndex := 280, descriptorIndex := 25, attributes := #[] }, { accessFlags := 25, nameIndex := 282, descriptorIndex := 25, attributes := #[] }, { accessFlags := 25, nameIndex := 284, descriptorIndex := 25, attributes := #[] }, { accessFlags := 25, nameIndex := 286, descriptorIndex := 25, attributes := #[] }, { accessFlags := 25, nameIndex := 288, descriptorIndex := 25, attributes := #[] }, { accessFlags := 25, nameIndex := 290, descriptorIndex := 25, attributes := #[] }, { accessFlags := 25, nameIndex := 292, descriptorIndex := 25, attributes := #[] }, { accessFlags := 26, nameIndex := 108, descriptorIndex := 109, attributes := #[] }, { accessFlags := 25, nameIndex := 294, descriptorIndex := 25, attributes := #[] }])
  fields := #[{ name := "U", type := (.object "jdk/internal/misc/Unsafe"), accessFlags := 24, slot := 0, constantValue := 0 }, { name := "BIG_ENDIAN", type := .boolean, accessFlags := 26, slot := 1, constantValue := 0 }, { name := "LOG2_ARRAY_BOOLEAN_INDEX_SCALE", type := .int, accessFlags := 25, slot := 2, constantValue := 0 }, { name := "LOG2_ARRAY_BYTE_INDEX_SCALE", type := .int, accessFlags := 25, slot := 3, constantValue := 0 }, { name := "LOG2_ARRAY_CHAR_INDEX_SCALE", type := .int, accessFlags := 25, slot := 4, constantValue := 0 }, { name := "LOG2_ARRAY_SHORT_INDEX_SCALE", type := .int, accessFlags := 25, slot := 5, constantValue := 0 }, { name := "LOG2_ARRAY_INT_INDEX_SCALE", type := .int, accessFlags := 25, slot := 6, constantValue := 0 }, { name := "LOG2_ARRAY_LONG_INDEX_SCALE", type := .int, accessFlags := 25, slot := 7, constantValue := 0 }, { name := "LOG2_ARRAY_FLOAT_INDEX_SCALE", type := .int, accessFlags := 25, slot := 8, constantValue := 0 }, { name := "LOG2_ARRAY_DOUBLE_INDEX_SCALE", type := .int, accessFlags := 25, slot := 9, constantValue := 0 }, { name := "LOG2_BYTE_BIT_SIZE", type := .int, accessFlags := 26, slot := 10, constantValue := 0 }, { name := "T_BOOLEAN", type := .int, accessFlags := 25, slot := 11, constantValue := 0 }, { name := "T_CHAR", type := .int, accessFlags := 25, slot := 12, constantValue := 0 }, { name := "T_FLOAT", type := .int, accessFlags := 25, slot := 13, constantValue := 0 }, { name := "T_DOUBLE", type := .int, accessFlags := 25, slot := 14, constantValue := 0 }, { name := "T_BYTE", type := .int, accessFlags := 25, slot := 15, constantValue := 0 }, { name := "T_SHORT", type := .int, accessFlags := 25, slot := 16, constantValue := 0 }, { name := "T_INT", type := .int, accessFlags := 25, slot := 17, constantValue := 0 }, { name := "T_LONG", type := .int, accessFlags := 25, slot := 18, constantValue := 0 }, { name := "JLA", type := (.object "jdk/internal/access/JavaLangAccess"), accessFlags := 26, slot := 19, constantValue := 0 }, { name := "SOFT_MAX_ARRAY_LENGTH", type := .int, accessFlags := 25, slot := 20, constantValue := 0 }]
  methods := #[k16m0]
  instanceTypes := #[]
  staticTypes := #[(.object "jdk/internal/misc/Unsafe"), .boolean, .int, .int, .int, .int, .int, .int, .int, .int, .int, .int, .int, .int, .int, .int, .int, .int, .int, (.object "jdk/internal/access/JavaLangAccess"), .int]
  resolved := Array.replicate 378 none
  statics := none }

/-- the primitive byte -/
def k17 : Class := { plain "byte" none with kind := .primitive 'B', accessFlags := 0x411 }
/-- [B -/
def k18 : Class := { plain "[B" (some 0) with kind := .array 17 .byte, interfaces := #[7, 4], accessFlags := 1041 }

/-- the primitive char -/
def k19 : Class := { plain "char" none with kind := .primitive 'C', accessFlags := 0x411 }
/-- [C -/
def k20 : Class := { plain "[C" (some 0) with kind := .array 19 .char, interfaces := #[7, 4], accessFlags := 1041 }

/-- the primitive int -/
def k21 : Class := { plain "int" none with kind := .primitive 'I', accessFlags := 0x411 }
/-- [I -/
def k22 : Class := { plain "[I" (some 0) with kind := .array 21 .int, interfaces := #[7, 4], accessFlags := 1041 }

/-- [Lcom/example/legitka/legitka/CardKind; -/
def k23 : Class := { plain "[Lcom/example/legitka/legitka/CardKind;" (some 0) with kind := .array 6 (.object "com/example/legitka/legitka/CardKind"), interfaces := #[7, 4], accessFlags := 1041 }

def heap : Heap := #[{ cls := 6, slots := #[.ref 9, .ref 10, .int 0, .int 0, .int 0, .ref 4], vm := .statics 6 },
  { cls := 10, slots := #[.long 0, .int 1, .null, .int 0, .null, .int 0, .int 0], vm := .statics 10 },
  { cls := 11, slots := #[.ref 11], vm := .statics 11 },
  { cls := 15, slots := #[.null, .null, .null], vm := .statics 15 },
  { cls := 23, slots := #[.ref 9, .ref 10], vm := .none },
  { cls := 18, slots := #[.int 49, .int 46, .int 50, .int 46, .int 54, .int 49, .int 54, .int 46, .int 49, .int 46, .int 49, .int 48, .int 49, .int 46, .int 52, .int 46, .int 49, .int 46, .int 49, .int 46, .int 49], vm := .none },
  { cls := 18, slots := #[.int 49, .int 46, .int 50, .int 46, .int 54, .int 49, .int 54, .int 46, .int 49, .int 46, .int 49, .int 48, .int 49, .int 46, .int 52, .int 46, .int 49, .int 46, .int 50, .int 46, .int 49], vm := .none },
  { cls := 10, slots := #[.ref 5, .int 0, .int 0, .int 0], vm := .none },
  { cls := 10, slots := #[.ref 6, .int 0, .int 0, .int 0], vm := .none },
  { cls := 6, slots := #[.null, .int 0, .int 0, .ref 7, .null, .null, .int 0, .null], vm := .none },
  { cls := 6, slots := #[.null, .int 1, .int 0, .ref 8, .null, .null, .int 0, .null], vm := .none },
  { cls := 11, slots := #[.null], vm := .none }]
def classes : Array Class := #[k0, k1, k2, k3, k4, k5, k6, k7, k8, k9, k10, k11, k12, k13, k14, k15, k16, k17, k18, k19, k20, k21, k22, k23]
def interned : List (Array UInt16 × Addr) := []
def slotsUsed : Nat := 86
def theMethod : MethodId := ⟨1, 4⟩
def args0 : Array Value := #[.int 4, .int 1, .int 2, .int 3, .int 4]
def aboutOver (below : List Frame) : State where
  vm := { classes := classes, interned := interned.toArray }
  heap := heap
  slotsUsed := slotsUsed
  threads := #[{ frames := .invoking theMethod args0 :: below }]
def below0 : List Frame := [.native { method := ⟨0, 0⟩, args := #[] }]
def about1 : State := aboutOver below0
def p0 : Program := .bare "" "" ""
def e0 : Env := launch0.env 0 0 0
theorem w_frames : about1.frames = Frame.invoking theMethod args0 :: below0 := rfl
set_option maxRecDepth 65536 in
theorem w_args : argsFit about1.vm theMethod args0 = true := by decide +kernel
set_option maxRecDepth 65536 in
theorem w_heap : heapFits about1 = true := by decide +kernel
set_option maxRecDepth 65536 in
theorem w_runnable : about1.curStatus? = some .runnable := by decide +kernel
set_option maxRecDepth 65536 in
theorem w_alone : about1.alone = true := by decide +kernel
set_option maxRecDepth 65536 in
theorem w_named : about1.methodNamed? x = some theMethod := by decide +kernel
set_option maxRecDepth 65536 in
theorem w_hears : about1.hears theMethod below0 = true := by decide +kernel
set_option maxRecDepth 65536 in
theorem w_ripe : about1.ripe theMethod args0 below0 = true := by decide +kernel
theorem w_running : about1.status = .running := rfl
set_option maxRecDepth 65536 in
theorem w_room : about1.hasRoom e0.platform room_1 = true :=
  launch0.hasRoom_least _ room_1 (by decide +kernel) (by decide +kernel) (by decide +kernel) (by decide +kernel) (by decide +kernel) (by decide +kernel)
theorem allAtoms_all (ts : List Jvm.Cond) (a : Array Jvm.Value) (st : Jvm.State) : (allAtoms ts).before a st = ts.all (fun c => c.before a st) := by
  induction ts with
  | nil => rfl
  | cons c t ih =>
    show (Jvm.Cond.and c (allAtoms t)).before a st = _
    rw [Jvm.Cond.before_and, ih, List.all_cons]
def words1 : List Jvm.Cond := Jvm.Cond.code x code maxLocals ret :: tables_1
/-- a 'code' word, met by the world's own term for the bytes: nothing is compared byte by byte -/
theorem code_word {y : MethodName} {bytes : ByteArray} {mx : Nat} {rt : Option FieldType} {a : Array Value} {s : State} {m : MethodId} {meth : Method} {c : Code} (h1 : s.methodNamed? y = some m) (h2 : s.vm.method? m = some meth) (h3 : meth.code = some c) (h4 : c.code = bytes)
    (h5 : (c.maxLocals == mx && c.exceptionTable.isEmpty && decide (c.maxStack ≤ mostOperands) && decide (meth.sig.returnType = rt) && !meth.locks && decide (parseMethodDescriptor y.desc = some meth.sig)) = true) : (Jvm.Cond.code y bytes mx rt).before a s = true := by
  simp only [Bool.and_eq_true, beq_iff_eq, Bool.not_eq_true', decide_eq_true_eq] at h5
  obtain ⟨⟨⟨⟨⟨g1, g2⟩, g3⟩, g4⟩, g5⟩, g6⟩ := h5
  simp [Cond.before, Cond.holds, Cond.value, h1, h2, h3, h4, g1, g2, g3, g4, g5, g6]
def isCode : Jvm.Cond → Bool
  | .code _ _ _ _ => true
  | _ => false
theorem all_split {L : List Jvm.Cond} {P : Jvm.Cond → Bool} (h1 : L.all (fun c => isCode c || P c) = true) (h2 : ∀ c ∈ L.filter isCode, P c = true) : L.all P = true := by
  refine List.all_eq_true.mpr fun c hc => ?_
  have h := List.all_eq_true.mp h1 c hc
  rcases Bool.eq_false_or_eq_true (isCode c) with hi | hi
  · exact h2 c (List.mem_filter.mpr ⟨hc, hi⟩)
  · simpa [hi] using h
set_option maxRecDepth 65536 in
theorem w_c0 : (Jvm.Cond.code x code maxLocals ret).before args0 about1 = true := code_word (m := ⟨1, 4⟩) (meth := k1m4) (c := k1c4) (by decide +kernel) rfl rfl rfl (by decide +kernel)
set_option maxRecDepth 65536 in
theorem w_c1 : (Jvm.Cond.code ({ cls := "com/example/legitka/legitka/CardKind", name := "forContentType", desc := "(Ljava/lang/String;)Ljava/util/Optional;" } : Jvm.MethodName) prog_5_method_10_code (5 : Nat) (Option.some (Jvm.ClassFile.FieldType.object "java/util/Optional"))).before args0 about1 = true := code_word (m := ⟨6, 1⟩) (meth := k6m1) (c := k6c1) (by decide +kernel) rfl rfl rfl (by decide +kernel)
set_option maxRecDepth 65536 in
theorem w_c2 : (Jvm.Cond.code ({ cls := "com/example/legitka/legitka/CardKind", name := "values", desc := "()[Lcom/example/legitka/legitka/CardKind;" } : Jvm.MethodName) prog_5_method_1_code (0 : Nat) (Option.some (Jvm.ClassFile.FieldType.array (Jvm.ClassFile.FieldType.object "com/example/legitka/legitka/CardKind")))).before args0 about1 = true := code_word (m := ⟨6, 0⟩) (meth := k6m0) (c := k6c0) (by decide +kernel) rfl rfl rfl (by decide +kernel)
set_option maxRecDepth 65536 in
theorem w_c3 : (Jvm.Cond.code ({ cls := "java/lang/String", name := "equals", desc := "(Ljava/lang/Object;)Z" } : Jvm.MethodName) jdk_42_method_66_code (3 : Nat) (Option.some Jvm.ClassFile.FieldType.boolean)).before args0 about1 = true := code_word (m := ⟨10, 2⟩) (meth := k10m2) (c := k10c2) (by decide +kernel) rfl rfl rfl (by decide +kernel)
set_option maxRecDepth 65536 in
theorem w_c4 : (Jvm.Cond.code ({ cls := "java/util/Optional", name := "empty", desc := "()Ljava/util/Optional;" } : Jvm.MethodName) jdk_32_method_1_code (1 : Nat) (Option.some (Jvm.ClassFile.FieldType.object "java/util/Optional"))).before args0 about1 = true := code_word (m := ⟨11, 0⟩) (meth := k11m0) (c := k11c0) (by decide +kernel) rfl rfl rfl (by decide +kernel)
set_option maxRecDepth 65536 in
theorem w_c5 : (Jvm.Cond.code ({ cls := "java/util/Optional", name := "orElse", desc := "(Ljava/lang/Object;)Ljava/lang/Object;" } : Jvm.MethodName) jdk_32_method_15_code (2 : Nat) (Option.some (Jvm.ClassFile.FieldType.object "java/lang/Object"))).before args0 about1 = true := code_word (m := ⟨11, 3⟩) (meth := k11m3) (c := k11c3) (by decide +kernel) rfl rfl rfl (by decide +kernel)
set_option maxRecDepth 65536 in
theorem w_c6 : (Jvm.Cond.code ({ cls := "java/lang/String", name := "<init>", desc := "([C)V" } : Jvm.MethodName) jdk_42_method_3_code (2 : Nat) (Option.none : Option Jvm.ClassFile.FieldType)).before args0 about1 = true := code_word (m := ⟨10, 1⟩) (meth := k10m1) (c := k10c1) (by decide +kernel) rfl rfl rfl (by decide +kernel)
set_option maxRecDepth 65536 in
theorem w_c7 : (Jvm.Cond.code ({ cls := "java/lang/String", name := "<init>", desc := "([CIILjava/lang/Void;)V" } : Jvm.MethodName) jdk_42_method_149_code (6 : Nat) (Option.none : Option Jvm.ClassFile.FieldType)).before args0 about1 = true := code_word (m := ⟨10, 4⟩) (meth := k10m4) (c := k10c4) (by decide +kernel) rfl rfl rfl (by decide +kernel)
set_option maxRecDepth 65536 in
theorem w_c8 : (Jvm.Cond.code ({ cls := "java/lang/Object", name := "<init>", desc := "()V" } : Jvm.MethodName) object_method_1_code (1 : Nat) (Option.none : Option Jvm.ClassFile.FieldType)).before args0 about1 = true := code_word (m := ⟨0, 0⟩) (meth := k0m0) (c := k0c0) (by decide +kernel) rfl rfl rfl (by decide +kernel)
set_option maxRecDepth 65536 in
theorem w_c9 : (Jvm.Cond.code ({ cls := "java/lang/StringUTF16", name := "compress", desc := "([CII)[B" } : Jvm.MethodName) jdk_52_method_16_code (6 : Nat) (Option.some (Jvm.ClassFile.FieldType.array Jvm.ClassFile.FieldType.byte))).before args0 about1 = true := code_word (m := ⟨12, 2⟩) (meth := k12m2) (c := k12c2) (by decide +kernel) rfl rfl rfl (by decide +kernel)
set_option maxRecDepth 65536 in
theorem w_c10 : (Jvm.Cond.code ({ cls := "java/lang/StringUTF16", name := "compress", desc := "([CI[BII)I" } : Jvm.MethodName) jdk_52_method_21_code (7 : Nat) (Option.some Jvm.ClassFile.FieldType.int)).before args0 about1 = true := code_word (m := ⟨12, 3⟩) (meth := k12m3) (c := k12c3) (by decide +kernel) rfl rfl rfl (by decide +kernel)
set_option maxRecDepth 65536 in
theorem w_c11 : (Jvm.Cond.code ({ cls := "java/lang/StringUTF16", name := "coderFromArrayLen", desc := "([BI)B" } : Jvm.MethodName) jdk_52_method_15_code (2 : Nat) (Option.some Jvm.ClassFile.FieldType.byte)).before args0 about1 = true := code_word (m := ⟨12, 1⟩) (meth := k12m1) (c := k12c1) (by decide +kernel) rfl rfl rfl (by decide +kernel)
set_option maxRecDepth 65536 in
theorem w_c12 : (Jvm.Cond.code ({ cls := "java/lang/StringLatin1", name := "equals", desc := "([B[B)Z" } : Jvm.MethodName) jdk_43_method_13_code (3 : Nat) (Option.some Jvm.ClassFile.FieldType.boolean)).before args0 about1 = true := code_word (m := ⟨13, 2⟩) (meth := k13m2) (c := k13c2) (by decide +kernel) rfl rfl rfl (by decide +kernel)
set_option maxRecDepth 65536 in
theorem w_c13 : (Jvm.Cond.code ({ cls := "java/lang/String", name := "valueOf", desc := "(C)Ljava/lang/String;" } : Jvm.MethodName) jdk_42_method_139_code (1 : Nat) (Option.some (Jvm.ClassFile.FieldType.object "java/lang/String"))).before args0 about1 = true := code_word (m := ⟨10, 3⟩) (meth := k10m3) (c := k10c3) (by decide +kernel) rfl rfl rfl (by decide +kernel)
set_option maxRecDepth 65536 in
theorem w_c14 : (Jvm.Cond.code ({ cls := "java/lang/StringLatin1", name := "canEncode", desc := "(C)Z" } : Jvm.MethodName) jdk_43_method_3_code (1 : Nat) (Option.some Jvm.ClassFile.FieldType.boolean)).before args0 about1 = true := code_word (m := ⟨13, 1⟩) (meth := k13m1) (c := k13c1) (by decide +kernel) rfl rfl rfl (by decide +kernel)
set_option maxRecDepth 65536 in
theorem w_c15 : (Jvm.Cond.code ({ cls := "java/lang/StringLatin1", name := "toBytes", desc := "(C)[B" } : Jvm.MethodName) jdk_43_method_46_code (1 : Nat) (Option.some (Jvm.ClassFile.FieldType.array Jvm.ClassFile.FieldType.byte))).before args0 about1 = true := code_word (m := ⟨13, 3⟩) (meth := k13m3) (c := k13c3) (by decide +kernel) rfl rfl rfl (by decide +kernel)
set_option maxRecDepth 65536 in
theorem w_c16 : (Jvm.Cond.code ({ cls := "java/lang/String", name := "<init>", desc := "([BB)V" } : Jvm.MethodName) jdk_42_method_151_code (3 : Nat) (Option.none : Option Jvm.ClassFile.FieldType)).before args0 about1 = true := code_word (m := ⟨10, 5⟩) (meth := k10m5) (c := k10c5) (by decide +kernel) rfl rfl rfl (by decide +kernel)
set_option maxRecDepth 65536 in
theorem w_c17 : (Jvm.Cond.code ({ cls := "com/example/legitka/legitka/CardKindForContentTypePinLaw", name := "oid21", desc := "(C)[C" } : Jvm.MethodName) method_2_code (1 : Nat) (Option.some (Jvm.ClassFile.FieldType.array Jvm.ClassFile.FieldType.char))).before args0 about1 = true := code_word (m := ⟨1, 1⟩) (meth := k1m1) (c := k1c1) (by decide +kernel) rfl rfl rfl (by decide +kernel)
set_option maxRecDepth 65536 in
theorem w_c18 : (Jvm.Cond.code ({ cls := "java/util/Optional", name := "of", desc := "(Ljava/lang/Object;)Ljava/util/Optional;" } : Jvm.MethodName) jdk_32_method_3_code (1 : Nat) (Option.some (Jvm.ClassFile.FieldType.object "java/util/Optional"))).before args0 about1 = true := code_word (m := ⟨11, 2⟩) (meth := k11m2) (c := k11c2) (by decide +kernel) rfl rfl rfl (by decide +kernel)
set_option maxRecDepth 65536 in
theorem w_c19 : (Jvm.Cond.code ({ cls := "java/util/Objects", name := "requireNonNull", desc := "(Ljava/lang/Object;)Ljava/lang/Object;" } : Jvm.MethodName) jdk_31_method_10_code (1 : Nat) (Option.some (Jvm.ClassFile.FieldType.object "java/lang/Object"))).before args0 about1 = true := code_word (m := ⟨14, 1⟩) (meth := k14m1) (c := k14c1) (by decide +kernel) rfl rfl rfl (by decide +kernel)
set_option maxRecDepth 65536 in
theorem w_c20 : (Jvm.Cond.code ({ cls := "java/util/Optional", name := "<init>", desc := "(Ljava/lang/Object;)V" } : Jvm.MethodName) jdk_32_method_2_code (2 : Nat) (Option.none : Option Jvm.ClassFile.FieldType)).before args0 about1 = true := code_word (m := ⟨11, 1⟩) (meth := k11m1) (c := k11c1) (by decide +kernel) rfl rfl rfl (by decide +kernel)
set_option maxRecDepth 65536 in
theorem w_c21 : (Jvm.Cond.code ({ cls := "com/example/legitka/legitka/CardKindForContentTypePinLaw", name := "oid20", desc := "(C)[C" } : Jvm.MethodName) method_3_code (1 : Nat) (Option.some (Jvm.ClassFile.FieldType.array Jvm.ClassFile.FieldType.char))).before args0 about1 = true := code_word (m := ⟨1, 2⟩) (meth := k1m2) (c := k1c2) (by decide +kernel) rfl rfl rfl (by decide +kernel)
set_option maxRecDepth 65536 in
theorem w_c22 : (Jvm.Cond.code ({ cls := "com/example/legitka/legitka/CardKindForContentTypePinLaw", name := "oid22", desc := "(CC)[C" } : Jvm.MethodName) method_4_code (2 : Nat) (Option.some (Jvm.ClassFile.FieldType.array Jvm.ClassFile.FieldType.char))).before args0 about1 = true := code_word (m := ⟨1, 3⟩) (meth := k1m3) (c := k1c3) (by decide +kernel) rfl rfl rfl (by decide +kernel)
def codes1 : List Jvm.Cond := [Jvm.Cond.code x code maxLocals ret, Jvm.Cond.code ({ cls := "com/example/legitka/legitka/CardKind", name := "forContentType", desc := "(Ljava/lang/String;)Ljava/util/Optional;" } : Jvm.MethodName) prog_5_method_10_code (5 : Nat) (Option.some (Jvm.ClassFile.FieldType.object "java/util/Optional")), Jvm.Cond.code ({ cls := "com/example/legitka/legitka/CardKind", name := "values", desc := "()[Lcom/example/legitka/legitka/CardKind;" } : Jvm.MethodName) prog_5_method_1_code (0 : Nat) (Option.some (Jvm.ClassFile.FieldType.array (Jvm.ClassFile.FieldType.object "com/example/legitka/legitka/CardKind"))), Jvm.Cond.code ({ cls := "java/lang/String", name := "equals", desc := "(Ljava/lang/Object;)Z" } : Jvm.MethodName) jdk_42_method_66_code (3 : Nat) (Option.some Jvm.ClassFile.FieldType.boolean), Jvm.Cond.code ({ cls := "java/util/Optional", name := "empty", desc := "()Ljava/util/Optional;" } : Jvm.MethodName) jdk_32_method_1_code (1 : Nat) (Option.some (Jvm.ClassFile.FieldType.object "java/util/Optional")), Jvm.Cond.code ({ cls := "java/util/Optional", name := "orElse", desc := "(Ljava/lang/Object;)Ljava/lang/Object;" } : Jvm.MethodName) jdk_32_method_15_code (2 : Nat) (Option.some (Jvm.ClassFile.FieldType.object "java/lang/Object")), Jvm.Cond.code ({ cls := "java/lang/String", name := "<init>", desc := "([C)V" } : Jvm.MethodName) jdk_42_method_3_code (2 : Nat) (Option.none : Option Jvm.ClassFile.FieldType), Jvm.Cond.code ({ cls := "java/lang/String", name := "<init>", desc := "([CIILjava/lang/Void;)V" } : Jvm.MethodName) jdk_42_method_149_code (6 : Nat) (Option.none : Option Jvm.ClassFile.FieldType), Jvm.Cond.code ({ cls := "java/lang/Object", name := "<init>", desc := "()V" } : Jvm.MethodName) object_method_1_code (1 : Nat) (Option.none : Option Jvm.ClassFile.FieldType), Jvm.Cond.code ({ cls := "java/lang/StringUTF16", name := "compress", desc := "([CII)[B" } : Jvm.MethodName) jdk_52_method_16_code (6 : Nat) (Option.some (Jvm.ClassFile.FieldType.array Jvm.ClassFile.FieldType.byte)), Jvm.Cond.code ({ cls := "java/lang/StringUTF16", name := "compress", desc := "([CI[BII)I" } : Jvm.MethodName) jdk_52_method_21_code (7 : Nat) (Option.some Jvm.ClassFile.FieldType.int), Jvm.Cond.code ({ cls := "java/lang/StringUTF16", name := "coderFromArrayLen", desc := "([BI)B" } : Jvm.MethodName) jdk_52_method_15_code (2 : Nat) (Option.some Jvm.ClassFile.FieldType.byte), Jvm.Cond.code ({ cls := "java/lang/StringLatin1", name := "equals", desc := "([B[B)Z" } : Jvm.MethodName) jdk_43_method_13_code (3 : Nat) (Option.some Jvm.ClassFile.FieldType.boolean), Jvm.Cond.code ({ cls := "java/lang/String", name := "valueOf", desc := "(C)Ljava/lang/String;" } : Jvm.MethodName) jdk_42_method_139_code (1 : Nat) (Option.some (Jvm.ClassFile.FieldType.object "java/lang/String")), Jvm.Cond.code ({ cls := "java/lang/StringLatin1", name := "canEncode", desc := "(C)Z" } : Jvm.MethodName) jdk_43_method_3_code (1 : Nat) (Option.some Jvm.ClassFile.FieldType.boolean), Jvm.Cond.code ({ cls := "java/lang/StringLatin1", name := "toBytes", desc := "(C)[B" } : Jvm.MethodName) jdk_43_method_46_code (1 : Nat) (Option.some (Jvm.ClassFile.FieldType.array Jvm.ClassFile.FieldType.byte)), Jvm.Cond.code ({ cls := "java/lang/String", name := "<init>", desc := "([BB)V" } : Jvm.MethodName) jdk_42_method_151_code (3 : Nat) (Option.none : Option Jvm.ClassFile.FieldType), Jvm.Cond.code ({ cls := "com/example/legitka/legitka/CardKindForContentTypePinLaw", name := "oid21", desc := "(C)[C" } : Jvm.MethodName) method_2_code (1 : Nat) (Option.some (Jvm.ClassFile.FieldType.array Jvm.ClassFile.FieldType.char)), Jvm.Cond.code ({ cls := "java/util/Optional", name := "of", desc := "(Ljava/lang/Object;)Ljava/util/Optional;" } : Jvm.MethodName) jdk_32_method_3_code (1 : Nat) (Option.some (Jvm.ClassFile.FieldType.object "java/util/Optional")), Jvm.Cond.code ({ cls := "java/util/Objects", name := "requireNonNull", desc := "(Ljava/lang/Object;)Ljava/lang/Object;" } : Jvm.MethodName) jdk_31_method_10_code (1 : Nat) (Option.some (Jvm.ClassFile.FieldType.object "java/lang/Object")), Jvm.Cond.code ({ cls := "java/util/Optional", name := "<init>", desc := "(Ljava/lang/Object;)V" } : Jvm.MethodName) jdk_32_method_2_code (2 : Nat) (Option.none : Option Jvm.ClassFile.FieldType), Jvm.Cond.code ({ cls := "com/example/legitka/legitka/CardKindForContentTypePinLaw", name := "oid20", desc := "(C)[C" } : Jvm.MethodName) method_3_code (1 : Nat) (Option.some (Jvm.ClassFile.FieldType.array Jvm.ClassFile.FieldType.char)), Jvm.Cond.code ({ cls := "com/example/legitka/legitka/CardKindForContentTypePinLaw", name := "oid22", desc := "(CC)[C" } : Jvm.MethodName) method_4_code (2 : Nat) (Option.some (Jvm.ClassFile.FieldType.array Jvm.ClassFile.FieldType.char))]
set_option maxRecDepth 65536 in
theorem codes_eq : words1.filter isCode = codes1 := rfl
theorem w_codes : ∀ c ∈ words1.filter isCode, c.before args0 about1 = true := by
  rw [codes_eq]
  intro c hc
  simp only [codes1, List.mem_cons, List.not_mem_nil, or_false] at hc
  rcases hc with rfl | rfl | rfl | rfl | rfl | rfl | rfl | rfl | rfl | rfl | rfl | rfl | rfl | rfl | rfl | rfl | rfl | rfl | rfl | rfl | rfl | rfl | rfl
  · exact w_c0
  · exact w_c1
  · exact w_c2
  · exact w_c3
  · exact w_c4
  · exact w_c5
  · exact w_c6
  · exact w_c7
  · exact w_c8
  · exact w_c9
  · exact w_c10
  · exact w_c11
  · exact w_c12
  · exact w_c13
  · exact w_c14
  · exact w_c15
  · exact w_c16
  · exact w_c17
  · exact w_c18
  · exact w_c19
  · exact w_c20
  · exact w_c21
  · exact w_c22
set_option maxRecDepth 65536 in
theorem w_t1 : (words1.take 24).all (fun c => isCode c || c.before args0 about1) = true := by decide +kernel
set_option maxRecDepth 65536 in
theorem w_t2 : ((words1.drop 24).take 24).all (fun c => isCode c || c.before args0 about1) = true := by decide +kernel
set_option maxRecDepth 65536 in
theorem w_t3 : (((words1.drop 24).drop 24).take 24).all (fun c => isCode c || c.before args0 about1) = true := by decide +kernel
set_option maxRecDepth 65536 in
theorem w_t4 : ((((words1.drop 24).drop 24).drop 24).take 24).all (fun c => isCode c || c.before args0 about1) = true := by decide +kernel
set_option maxRecDepth 65536 in
theorem w_t5 : (((((words1.drop 24).drop 24).drop 24).drop 24).take 24).all (fun c => isCode c || c.before args0 about1) = true := by decide +kernel
set_option maxRecDepth 65536 in
theorem w_t6 : (((((words1.drop 24).drop 24).drop 24).drop 24).drop 24).all (fun c => isCode c || c.before args0 about1) = true := by decide +kernel
theorem w_tables : (allAtoms (Jvm.Cond.code x code maxLocals ret :: tables_1)).before args0 about1 = true := by
  rw [allAtoms_all]
  show words1.all (fun c => c.before args0 about1) = true
  refine all_split ?_ w_codes
  rw [← List.take_append_drop 24 words1, List.all_append, w_t1, ← List.take_append_drop 24 (words1.drop 24), List.all_append, w_t2, ← List.take_append_drop 24 ((words1.drop 24).drop 24), List.all_append, w_t3, ← List.take_append_drop 24 (((words1.drop 24).drop 24).drop 24), List.all_append, w_t4, ← List.take_append_drop 24 ((((words1.drop 24).drop 24).drop 24).drop 24), List.all_append, w_t5, w_t6]
  rfl
set_option maxRecDepth 65536 in
theorem w_rest : rest_1_c.before args0 about1 = true := by decide +kernel
set_option maxRecDepth 65536 in
theorem w_case : (Jvm.Cond.and given_1 narrow_1).before args0 about1 = true := by decide +kernel
set_option maxRecDepth 65536 in
theorem w_consts : constsHeld consts_1 about1 := Jvm.Lit.constsHeldB_iff.mp (by decide +kernel)
theorem w_applies : (headSpec (Jvm.Cond.code x code maxLocals ret :: tables_1) room_1).applies x e0.platform about1 = true :=
  (Spec.applies_iff w_frames).mpr ⟨w_running, w_runnable, w_alone, w_named, w_hears, w_ripe, w_room, w_tables⟩
theorem atStart : AtStart classFile x code maxLocals ret World_1 tables_1 room_1 Calls_1 rest_1 Pre_1 launch0 p0 e0 about1 theMethod args0 below0 :=
  ⟨lists_1, trivial, launch0.admits_env _ _ _, launch0.least_env, fairChoices_fair.cas, fairChoices_fair.clock, w_frames, w_args, w_heap, w_applies, ⟨w_consts, trivial⟩, w_rest, w_case⟩
end start1
theorem witness_1 : WitnessClaimed_1 := ⟨start1.p0, start1.e0, start1.about1, start1.theMethod, start1.args0, start1.below0, start1.atStart⟩
end Jvm.Pilot.@@N@@
