import JvmDerived
import JvmDerived.Pilot.@@N@@Statement
import JvmDerived.Pilot.@@N@@Code
set_option linter.unusedVariables false
set_option linter.unusedSimpArgs false
@@BLOCK:TracedD.lean.txt@@
namespace Jvm.OwnKit
open Sem ClassFile Op Lib Jvm.Stand Jvm.Free Jvm.LawKit Jvm.RoadKit
/-- from this frame the run ends, and the end is as Q says -/
def Endz (tb : Tables) (e : Env) (below : List Frame) (Q : Outcome → State → Prop) (T : State) (g : JFrame) : Prop :=
  ∃ s₂ o, Steps tb e below (T.setTop g) s₂ ∧ s₂.status = .running ∧ Ended s₂ below o ∧ Q o s₂
theorem Endz.by {tb : Tables} {e : Env} {below : List Frame} {Q : Outcome → State → Prop} {T T' : State} {g g' : JFrame} (st : ∀ t, Steps tb e below (T'.setTop g') t → Steps tb e below (T.setTop g) t) (h : Endz tb e below Q T' g') : Endz tb e below Q T g := by
  obtain ⟨s₂, o, h1, h2⟩ := h; exact ⟨s₂, o, st _ h1, h2⟩
theorem Endz.tr {tb : Tables} {e : Env} {below : List Frame} {Q : Outcome → State → Prop} {T T' : State} {g g' : JFrame} (st : Steps tb e below (T.setTop g) (T'.setTop g')) (h : Endz tb e below Q T' g') : Endz tb e below Q T g := by
  obtain ⟨s₂, o, h1, h2⟩ := h; exact ⟨s₂, o, st.trans h1, h2⟩
theorem Endz.eq {tb : Tables} {e : Env} {below : List Frame} {Q : Outcome → State → Prop} {T : State} {g g' : JFrame} (q : g = g') (h : Endz tb e below Q T g') : Endz tb e below Q T g := q ▸ h
section Plain
variable {tb : Tables} [Ours tb] {e : Env} {below : List Frame} {Q : Outcome → State → Prop} {T : State} {m : MethodId} {c : Code} {pc n n1 n2 : Nat} {Ls Ls' : Array Slot} {st : List Value}
theorem w_iloadN (h : At T m c below) (hx : tb.exec = Jvm.exec) {k : Fin 4} {v : Int32} (hd : decode c.code pc = .ok (.iload_n k, 1)) (hn : pc + 1 = n) (hl : Ls[k.val]? = some (.val (.int v))) (hr : Endz tb e below Q T (mkF m n Ls (.int v :: st))) : Endz tb e below Q T (mkF m pc Ls (st)) := by
  subst hn; exact Endz.by (fun _ k => XS.iloadN h hx rfl hd hl k) hr
theorem w_iload (h : At T m c below) (hx : tb.exec = Jvm.exec) {k : Nat} {v : Int32} (hd : decode c.code pc = .ok (.iload k, 2)) (hn : pc + 2 = n) (hl : Ls[k]? = some (.val (.int v))) (hr : Endz tb e below Q T (mkF m n Ls (.int v :: st))) : Endz tb e below Q T (mkF m pc Ls (st)) := by
  subst hn; exact Endz.by (fun _ k => XS.iload h hx rfl hd hl k) hr
theorem w_lloadN (h : At T m c below) (hx : tb.exec = Jvm.exec) {k : Fin 4} {v : Int64} (hd : decode c.code pc = .ok (.lload_n k, 1)) (hn : pc + 1 = n) (hl : Ls[k.val]? = some (.val (.long v))) (hr : Endz tb e below Q T (mkF m n Ls (.long v :: st))) : Endz tb e below Q T (mkF m pc Ls (st)) := by
  subst hn; exact Endz.by (fun _ k => XS.lloadN h hx rfl hd hl k) hr
theorem w_lload (h : At T m c below) (hx : tb.exec = Jvm.exec) {k : Nat} {v : Int64} (hd : decode c.code pc = .ok (.lload k, 2)) (hn : pc + 2 = n) (hl : Ls[k]? = some (.val (.long v))) (hr : Endz tb e below Q T (mkF m n Ls (.long v :: st))) : Endz tb e below Q T (mkF m pc Ls (st)) := by
  subst hn; exact Endz.by (fun _ k => XS.lload h hx rfl hd hl k) hr
theorem w_aloadN (h : At T m c below) (hx : tb.exec = Jvm.exec) {k : Fin 4} {v : Value} (hd : decode c.code pc = .ok (.aload_n k, 1)) (hn : pc + 1 = n) (hl : Ls[k.val]? = some (.val v)) (hv : v.isRef = true) (hr : Endz tb e below Q T (mkF m n Ls (v :: st))) : Endz tb e below Q T (mkF m pc Ls (st)) := by
  subst hn; exact Endz.by (fun _ k => XS.aloadN h hx rfl hd hl hv k) hr
theorem w_aload (h : At T m c below) (hx : tb.exec = Jvm.exec) {k : Nat} {v : Value} (hd : decode c.code pc = .ok (.aload k, 2)) (hn : pc + 2 = n) (hl : Ls[k]? = some (.val v)) (hv : v.isRef = true) (hr : Endz tb e below Q T (mkF m n Ls (v :: st))) : Endz tb e below Q T (mkF m pc Ls (st)) := by
  subst hn; exact Endz.by (fun _ k => XS.aload h hx rfl hd hl hv k) hr
theorem w_istoreN (h : At T m c below) (hx : tb.exec = Jvm.exec) {k : Fin 4} {x : Int32} (hd : decode c.code pc = .ok (.istore_n k, 1)) (hn : pc + 1 = n) (hl : storeLocals Ls k.val (.int x) = some Ls') (hr : Endz tb e below Q T (mkF m n Ls' (st))) : Endz tb e below Q T (mkF m pc Ls (.int x :: st)) := by
  subst hn; exact Endz.by (fun _ k => XS.istoreN h hx rfl hd rfl hl k) hr
theorem w_istore (h : At T m c below) (hx : tb.exec = Jvm.exec) {k : Nat} {x : Int32} (hd : decode c.code pc = .ok (.istore k, 2)) (hn : pc + 2 = n) (hl : storeLocals Ls k (.int x) = some Ls') (hr : Endz tb e below Q T (mkF m n Ls' (st))) : Endz tb e below Q T (mkF m pc Ls (.int x :: st)) := by
  subst hn; exact Endz.by (fun _ k => XS.istore h hx rfl hd rfl hl k) hr
theorem w_lstoreN (h : At T m c below) (hx : tb.exec = Jvm.exec) {k : Fin 4} {x : Int64} (hd : decode c.code pc = .ok (.lstore_n k, 1)) (hn : pc + 1 = n) (hl : storeLocals Ls k.val (.long x) = some Ls') (hr : Endz tb e below Q T (mkF m n Ls' (st))) : Endz tb e below Q T (mkF m pc Ls (.long x :: st)) := by
  subst hn; exact Endz.by (fun _ k => XS.lstoreN h hx rfl hd rfl hl k) hr
theorem w_lstore (h : At T m c below) (hx : tb.exec = Jvm.exec) {k : Nat} {x : Int64} (hd : decode c.code pc = .ok (.lstore k, 2)) (hn : pc + 2 = n) (hl : storeLocals Ls k (.long x) = some Ls') (hr : Endz tb e below Q T (mkF m n Ls' (st))) : Endz tb e below Q T (mkF m pc Ls (.long x :: st)) := by
  subst hn; exact Endz.by (fun _ k => XS.lstore h hx rfl hd rfl hl k) hr
theorem w_astoreN (h : At T m c below) (hx : tb.exec = Jvm.exec) {k : Fin 4} {x : Value} (hd : decode c.code pc = .ok (.astore_n k, 1)) (hn : pc + 1 = n) (hv : x.isRef = true) (hl : storeLocals Ls k.val x = some Ls') (hr : Endz tb e below Q T (mkF m n Ls' (st))) : Endz tb e below Q T (mkF m pc Ls (x :: st)) := by
  subst hn; exact Endz.by (fun _ k => XS.astoreN h hx rfl hd rfl hv hl k) hr
theorem w_astore (h : At T m c below) (hx : tb.exec = Jvm.exec) {k : Nat} {x : Value} (hd : decode c.code pc = .ok (.astore k, 2)) (hn : pc + 2 = n) (hv : x.isRef = true) (hl : storeLocals Ls k x = some Ls') (hr : Endz tb e below Q T (mkF m n Ls' (st))) : Endz tb e below Q T (mkF m pc Ls (x :: st)) := by
  subst hn; exact Endz.by (fun _ k => XS.astore h hx rfl hd rfl hv hl k) hr
theorem w_iinc (h : At T m c below) (hx : tb.exec = Jvm.exec) {k : Nat} {i : Int} {x : Int32} (hd : decode c.code pc = .ok (.iinc k i, 3)) (hn : pc + 3 = n) (hl : Ls[k]? = some (.val (.int x))) (hl' : storeLocals Ls k (.int (x + Int32.ofInt i)) = some Ls') (hr : Endz tb e below Q T (mkF m n Ls' (st))) : Endz tb e below Q T (mkF m pc Ls (st)) := by
  subst hn; exact Endz.by (fun _ k => XS.iinc h hx rfl hd hl hl' k) hr
theorem w_iconst (h : At T m c below) (hx : tb.exec = Jvm.exec) {i : Int} {z : Int32} (hd : decode c.code pc = .ok (.iconst i, 1)) (hn : pc + 1 = n) (hz : Int32.ofInt i = z) (hr : Endz tb e below Q T (mkF m n Ls (.int z :: st))) : Endz tb e below Q T (mkF m pc Ls (st)) := by
  subst hn; exact Endz.by (fun _ k => XS.iconst h hx rfl hd (hz ▸ k)) hr
theorem w_bipush (h : At T m c below) (hx : tb.exec = Jvm.exec) {i : Int} {z : Int32} (hd : decode c.code pc = .ok (.bipush i, 2)) (hn : pc + 2 = n) (hz : (Int8.ofInt i).toInt32 = z) (hr : Endz tb e below Q T (mkF m n Ls (.int z :: st))) : Endz tb e below Q T (mkF m pc Ls (st)) := by
  subst hn; exact Endz.by (fun _ k => XS.bipush h hx rfl hd (hz ▸ k)) hr
theorem w_sipush (h : At T m c below) (hx : tb.exec = Jvm.exec) {i : Int} {z : Int32} (hd : decode c.code pc = .ok (.sipush i, 3)) (hn : pc + 3 = n) (hz : (Int16.ofInt i).toInt32 = z) (hr : Endz tb e below Q T (mkF m n Ls (.int z :: st))) : Endz tb e below Q T (mkF m pc Ls (st)) := by
  subst hn; exact Endz.by (fun _ k => XS.sipush h hx rfl hd (hz ▸ k)) hr
theorem w_lconst (h : At T m c below) (hx : tb.exec = Jvm.exec) {i : Fin 2} {z : Int64} (hd : decode c.code pc = .ok (.lconst i, 1)) (hn : pc + 1 = n) (hz : Int64.ofNat i = z) (hr : Endz tb e below Q T (mkF m n Ls (.long z :: st))) : Endz tb e below Q T (mkF m pc Ls (st)) := by
  subst hn; exact Endz.by (fun _ k => XS.lconst h hx rfl hd (hz ▸ k)) hr
theorem w_aconstNull (h : At T m c below) (hx : tb.exec = Jvm.exec)  (hd : decode c.code pc = .ok (.aconst_null, 1)) (hn : pc + 1 = n) (hr : Endz tb e below Q T (mkF m n Ls (.null :: st))) : Endz tb e below Q T (mkF m pc Ls (st)) := by
  subst hn; exact Endz.by (fun _ k => XS.aconstNull h hx rfl hd k) hr
theorem w_iadd (h : At T m c below) (hx : tb.exec = Jvm.exec) {x y : Int32} (hd : decode c.code pc = .ok (.iadd, 1)) (hn : pc + 1 = n) (hr : Endz tb e below Q T (mkF m n Ls (.int (x + y) :: st))) : Endz tb e below Q T (mkF m pc Ls (.int y :: .int x :: st)) := by
  subst hn; exact Endz.by (fun _ k => XS.iadd h hx rfl hd rfl k) hr
theorem w_isub (h : At T m c below) (hx : tb.exec = Jvm.exec) {x y : Int32} (hd : decode c.code pc = .ok (.isub, 1)) (hn : pc + 1 = n) (hr : Endz tb e below Q T (mkF m n Ls (.int (x - y) :: st))) : Endz tb e below Q T (mkF m pc Ls (.int y :: .int x :: st)) := by
  subst hn; exact Endz.by (fun _ k => XS.isub h hx rfl hd rfl k) hr
theorem w_imul (h : At T m c below) (hx : tb.exec = Jvm.exec) {x y : Int32} (hd : decode c.code pc = .ok (.imul, 1)) (hn : pc + 1 = n) (hr : Endz tb e below Q T (mkF m n Ls (.int (x * y) :: st))) : Endz tb e below Q T (mkF m pc Ls (.int y :: .int x :: st)) := by
  subst hn; exact Endz.by (fun _ k => XS.imul h hx rfl hd rfl k) hr
theorem w_iand (h : At T m c below) (hx : tb.exec = Jvm.exec) {x y : Int32} (hd : decode c.code pc = .ok (.iand, 1)) (hn : pc + 1 = n) (hr : Endz tb e below Q T (mkF m n Ls (.int (x &&& y) :: st))) : Endz tb e below Q T (mkF m pc Ls (.int y :: .int x :: st)) := by
  subst hn; exact Endz.by (fun _ k => XS.iand h hx rfl hd rfl k) hr
theorem w_ior (h : At T m c below) (hx : tb.exec = Jvm.exec) {x y : Int32} (hd : decode c.code pc = .ok (.ior, 1)) (hn : pc + 1 = n) (hr : Endz tb e below Q T (mkF m n Ls (.int (x ||| y) :: st))) : Endz tb e below Q T (mkF m pc Ls (.int y :: .int x :: st)) := by
  subst hn; exact Endz.by (fun _ k => XS.ior h hx rfl hd rfl k) hr
theorem w_ixor (h : At T m c below) (hx : tb.exec = Jvm.exec) {x y : Int32} (hd : decode c.code pc = .ok (.ixor, 1)) (hn : pc + 1 = n) (hr : Endz tb e below Q T (mkF m n Ls (.int (x ^^^ y) :: st))) : Endz tb e below Q T (mkF m pc Ls (.int y :: .int x :: st)) := by
  subst hn; exact Endz.by (fun _ k => XS.ixor h hx rfl hd rfl k) hr
theorem w_ishl (h : At T m c below) (hx : tb.exec = Jvm.exec) {x y : Int32} (hd : decode c.code pc = .ok (.ishl, 1)) (hn : pc + 1 = n) (hr : Endz tb e below Q T (mkF m n Ls (.int (x <<< (y &&& 31)) :: st))) : Endz tb e below Q T (mkF m pc Ls (.int y :: .int x :: st)) := by
  subst hn; exact Endz.by (fun _ k => XS.ishl h hx rfl hd rfl k) hr
theorem w_ishr (h : At T m c below) (hx : tb.exec = Jvm.exec) {x y : Int32} (hd : decode c.code pc = .ok (.ishr, 1)) (hn : pc + 1 = n) (hr : Endz tb e below Q T (mkF m n Ls (.int (x >>> (y &&& 31)) :: st))) : Endz tb e below Q T (mkF m pc Ls (.int y :: .int x :: st)) := by
  subst hn; exact Endz.by (fun _ k => XS.ishr h hx rfl hd rfl k) hr
theorem w_iushr (h : At T m c below) (hx : tb.exec = Jvm.exec) {x y : Int32} (hd : decode c.code pc = .ok (.iushr, 1)) (hn : pc + 1 = n) (hr : Endz tb e below Q T (mkF m n Ls (.int ((x.toUInt32 >>> (y &&& 31).toUInt32).toInt32) :: st))) : Endz tb e below Q T (mkF m pc Ls (.int y :: .int x :: st)) := by
  subst hn; exact Endz.by (fun _ k => XS.iushr h hx rfl hd rfl k) hr
theorem w_ladd (h : At T m c below) (hx : tb.exec = Jvm.exec) {x y : Int64} (hd : decode c.code pc = .ok (.ladd, 1)) (hn : pc + 1 = n) (hr : Endz tb e below Q T (mkF m n Ls (.long (x + y) :: st))) : Endz tb e below Q T (mkF m pc Ls (.long y :: .long x :: st)) := by
  subst hn; exact Endz.by (fun _ k => XS.ladd h hx rfl hd rfl k) hr
theorem w_lsub (h : At T m c below) (hx : tb.exec = Jvm.exec) {x y : Int64} (hd : decode c.code pc = .ok (.lsub, 1)) (hn : pc + 1 = n) (hr : Endz tb e below Q T (mkF m n Ls (.long (x - y) :: st))) : Endz tb e below Q T (mkF m pc Ls (.long y :: .long x :: st)) := by
  subst hn; exact Endz.by (fun _ k => XS.lsub h hx rfl hd rfl k) hr
theorem w_lmul (h : At T m c below) (hx : tb.exec = Jvm.exec) {x y : Int64} (hd : decode c.code pc = .ok (.lmul, 1)) (hn : pc + 1 = n) (hr : Endz tb e below Q T (mkF m n Ls (.long (x * y) :: st))) : Endz tb e below Q T (mkF m pc Ls (.long y :: .long x :: st)) := by
  subst hn; exact Endz.by (fun _ k => XS.lmul h hx rfl hd rfl k) hr
theorem w_land (h : At T m c below) (hx : tb.exec = Jvm.exec) {x y : Int64} (hd : decode c.code pc = .ok (.land, 1)) (hn : pc + 1 = n) (hr : Endz tb e below Q T (mkF m n Ls (.long (x &&& y) :: st))) : Endz tb e below Q T (mkF m pc Ls (.long y :: .long x :: st)) := by
  subst hn; exact Endz.by (fun _ k => XS.land h hx rfl hd rfl k) hr
theorem w_lor (h : At T m c below) (hx : tb.exec = Jvm.exec) {x y : Int64} (hd : decode c.code pc = .ok (.lor, 1)) (hn : pc + 1 = n) (hr : Endz tb e below Q T (mkF m n Ls (.long (x ||| y) :: st))) : Endz tb e below Q T (mkF m pc Ls (.long y :: .long x :: st)) := by
  subst hn; exact Endz.by (fun _ k => XS.lor h hx rfl hd rfl k) hr
theorem w_lxor (h : At T m c below) (hx : tb.exec = Jvm.exec) {x y : Int64} (hd : decode c.code pc = .ok (.lxor, 1)) (hn : pc + 1 = n) (hr : Endz tb e below Q T (mkF m n Ls (.long (x ^^^ y) :: st))) : Endz tb e below Q T (mkF m pc Ls (.long y :: .long x :: st)) := by
  subst hn; exact Endz.by (fun _ k => XS.lxor h hx rfl hd rfl k) hr
theorem w_idiv (h : At T m c below) (hx : tb.exec = Jvm.exec) {x y : Int32} (hd : decode c.code pc = .ok (.idiv, 1)) (hn : pc + 1 = n) (hy : y ≠ 0) (hr : Endz tb e below Q T (mkF m n Ls (.int (x / y) :: st))) : Endz tb e below Q T (mkF m pc Ls (.int y :: .int x :: st)) := by
  subst hn; exact Endz.by (fun _ k => XS.idiv h hx rfl hd rfl hy k) hr
theorem w_irem (h : At T m c below) (hx : tb.exec = Jvm.exec) {x y : Int32} (hd : decode c.code pc = .ok (.irem, 1)) (hn : pc + 1 = n) (hy : y ≠ 0) (hr : Endz tb e below Q T (mkF m n Ls (.int (x % y) :: st))) : Endz tb e below Q T (mkF m pc Ls (.int y :: .int x :: st)) := by
  subst hn; exact Endz.by (fun _ k => XS.irem h hx rfl hd rfl hy (by rw [show x - x / y * y = x % y from irem_eq_mod x y]; exact k)) hr
theorem w_ldiv (h : At T m c below) (hx : tb.exec = Jvm.exec) {x y : Int64} (hd : decode c.code pc = .ok (.ldiv, 1)) (hn : pc + 1 = n) (hy : y ≠ 0) (hr : Endz tb e below Q T (mkF m n Ls (.long (x / y) :: st))) : Endz tb e below Q T (mkF m pc Ls (.long y :: .long x :: st)) := by
  subst hn; exact Endz.by (fun _ k => XS.ldiv h hx rfl hd rfl hy k) hr
theorem w_lrem (h : At T m c below) (hx : tb.exec = Jvm.exec) {x y : Int64} (hd : decode c.code pc = .ok (.lrem, 1)) (hn : pc + 1 = n) (hy : y ≠ 0) (hr : Endz tb e below Q T (mkF m n Ls (.long (x % y) :: st))) : Endz tb e below Q T (mkF m pc Ls (.long y :: .long x :: st)) := by
  subst hn; exact Endz.by (fun _ k => XS.lrem h hx rfl hd rfl hy (by rw [show x - x / y * y = x % y from lrem_mod x y]; exact k)) hr
theorem w_ineg (h : At T m c below) (hx : tb.exec = Jvm.exec) {x : Int32} (hd : decode c.code pc = .ok (.ineg, 1)) (hn : pc + 1 = n) (hr : Endz tb e below Q T (mkF m n Ls (.int (-x) :: st))) : Endz tb e below Q T (mkF m pc Ls (.int x :: st)) := by
  subst hn; exact Endz.by (fun _ k => XS.ineg h hx rfl hd rfl k) hr
theorem w_lneg (h : At T m c below) (hx : tb.exec = Jvm.exec) {x : Int64} (hd : decode c.code pc = .ok (.lneg, 1)) (hn : pc + 1 = n) (hr : Endz tb e below Q T (mkF m n Ls (.long (-x) :: st))) : Endz tb e below Q T (mkF m pc Ls (.long x :: st)) := by
  subst hn; exact Endz.by (fun _ k => XS.lneg h hx rfl hd rfl k) hr
theorem w_i2l (h : At T m c below) (hx : tb.exec = Jvm.exec) {x : Int32} (hd : decode c.code pc = .ok (.i2l, 1)) (hn : pc + 1 = n) (hr : Endz tb e below Q T (mkF m n Ls (.long x.toInt64 :: st))) : Endz tb e below Q T (mkF m pc Ls (.int x :: st)) := by
  subst hn; exact Endz.by (fun _ k => XS.i2l h hx rfl hd rfl k) hr
theorem w_l2i (h : At T m c below) (hx : tb.exec = Jvm.exec) {x : Int64} (hd : decode c.code pc = .ok (.l2i, 1)) (hn : pc + 1 = n) (hr : Endz tb e below Q T (mkF m n Ls (.int x.toInt32 :: st))) : Endz tb e below Q T (mkF m pc Ls (.long x :: st)) := by
  subst hn; exact Endz.by (fun _ k => XS.l2i h hx rfl hd rfl k) hr
theorem w_i2b (h : At T m c below) (hx : tb.exec = Jvm.exec) {x : Int32} (hd : decode c.code pc = .ok (.i2b, 1)) (hn : pc + 1 = n) (hr : Endz tb e below Q T (mkF m n Ls (.int x.toInt8.toInt32 :: st))) : Endz tb e below Q T (mkF m pc Ls (.int x :: st)) := by
  subst hn; exact Endz.by (fun _ k => XS.i2b h hx rfl hd rfl k) hr
theorem w_i2c (h : At T m c below) (hx : tb.exec = Jvm.exec) {x : Int32} (hd : decode c.code pc = .ok (.i2c, 1)) (hn : pc + 1 = n) (hr : Endz tb e below Q T (mkF m n Ls (.int x.toUInt32.toUInt16.toUInt32.toInt32 :: st))) : Endz tb e below Q T (mkF m pc Ls (.int x :: st)) := by
  subst hn; exact Endz.by (fun _ k => XS.i2c h hx rfl hd rfl k) hr
theorem w_i2s (h : At T m c below) (hx : tb.exec = Jvm.exec) {x : Int32} (hd : decode c.code pc = .ok (.i2s, 1)) (hn : pc + 1 = n) (hr : Endz tb e below Q T (mkF m n Ls (.int x.toInt16.toInt32 :: st))) : Endz tb e below Q T (mkF m pc Ls (.int x :: st)) := by
  subst hn; exact Endz.by (fun _ k => XS.i2s h hx rfl hd rfl k) hr
theorem w_lcmp (h : At T m c below) (hx : tb.exec = Jvm.exec) {x y : Int64} (hd : decode c.code pc = .ok (.lcmp, 1)) (hn : pc + 1 = n) (hr : Endz tb e below Q T (mkF m n Ls (.int (lcmpW x y) :: st))) : Endz tb e below Q T (mkF m pc Ls (.long y :: .long x :: st)) := by
  subst hn; exact Endz.by (fun _ k => XS.lcmp h hx rfl hd rfl k) hr
theorem w_dup (h : At T m c below) (hx : tb.exec = Jvm.exec) {x : Value} (hd : decode c.code pc = .ok (.dup, 1)) (hn : pc + 1 = n) (hc : x.category = 1) (hr : Endz tb e below Q T (mkF m n Ls (x :: x :: st))) : Endz tb e below Q T (mkF m pc Ls (x :: st)) := by
  subst hn; exact Endz.by (fun _ k => XS.dup h hx rfl hd rfl hc k) hr
theorem w_dupX1 (h : At T m c below) (hx : tb.exec = Jvm.exec) {x y : Value} (hd : decode c.code pc = .ok (.dup_x1, 1)) (hn : pc + 1 = n) (hc : x.category = 1) (hc' : y.category = 1) (hr : Endz tb e below Q T (mkF m n Ls (x :: y :: x :: st))) : Endz tb e below Q T (mkF m pc Ls (x :: y :: st)) := by
  subst hn; exact Endz.by (fun _ k => XS.dupX1 h hx rfl hd rfl hc hc' k) hr
theorem w_pop (h : At T m c below) (hx : tb.exec = Jvm.exec) {x : Value} (hd : decode c.code pc = .ok (.pop, 1)) (hn : pc + 1 = n) (hc : x.category = 1) (hr : Endz tb e below Q T (mkF m n Ls (st))) : Endz tb e below Q T (mkF m pc Ls (x :: st)) := by
  subst hn; exact Endz.by (fun _ k => XS.pop h hx rfl hd rfl hc k) hr
theorem w_dup2 (h : At T m c below) (hx : tb.exec = Jvm.exec) {x y : Value} (hd : decode c.code pc = .ok (.dup2, 1)) (hn : pc + 1 = n) (hc : x.category = 1) (hc' : y.category = 1) (hr : Endz tb e below Q T (mkF m n Ls (x :: y :: x :: y :: st))) : Endz tb e below Q T (mkF m pc Ls (x :: y :: st)) := by
  subst hn; exact Endz.by (fun _ k => Jvm.Free.XT.dup2 h hx rfl hd rfl hc hc' k) hr
theorem w_goto (h : At T m c below) (hx : tb.exec = Jvm.exec) {o : Int} (hd : decode c.code pc = .ok (.goto o, 3)) (ho : 0 ≤ (pc : Int) + o) (hp : ((pc : Int) + o).toNat = n) (hr : Endz tb e below Q T (mkF m n Ls (st))) : Endz tb e below Q T (mkF m pc Ls (st)) :=
  Endz.by (fun _ k => XS.goto h hx rfl rfl hd ho hp k) hr
theorem w_ifeq (h : At T m c below) (hx : tb.exec = Jvm.exec) {x : Int32} {o : Int} (hd : decode c.code pc = .ok (.ifCond .eq o, 3)) (ho : 0 ≤ (pc : Int) + o) (hp : ((pc : Int) + o).toNat = n1) (hn : pc + 3 = n2) (h1 : x = 0 → Endz tb e below Q T (mkF m n1 Ls (st))) (h2 : ¬ (x = 0) → Endz tb e below Q T (mkF m n2 Ls (st))) : Endz tb e below Q T (mkF m pc Ls (.int x :: st)) := by
  subst hn
  by_cases q : x = 0
  · exact Endz.by (fun _ k => XS.ifYes h hx rfl rfl hd rfl ((if0 _ _).trans (teq q).1) ho hp k) (h1 q)
  · exact Endz.by (fun _ k => XS.ifNo h hx rfl hd rfl ((if0 _ _).trans (feq q).1) k) (h2 q)
theorem w_ifne (h : At T m c below) (hx : tb.exec = Jvm.exec) {x : Int32} {o : Int} (hd : decode c.code pc = .ok (.ifCond .ne o, 3)) (ho : 0 ≤ (pc : Int) + o) (hp : ((pc : Int) + o).toNat = n1) (hn : pc + 3 = n2) (h1 : ¬ x = 0 → Endz tb e below Q T (mkF m n1 Ls (st))) (h2 : ¬ (¬ x = 0) → Endz tb e below Q T (mkF m n2 Ls (st))) : Endz tb e below Q T (mkF m pc Ls (.int x :: st)) := by
  subst hn
  by_cases q : ¬ x = 0
  · exact Endz.by (fun _ k => XS.ifYes h hx rfl rfl hd rfl ((if0 _ _).trans (feq q).2) ho hp k) (h1 q)
  · exact Endz.by (fun _ k => XS.ifNo h hx rfl hd rfl ((if0 _ _).trans (teq (Classical.not_not.mp q)).2) k) (h2 q)
theorem w_iflt (h : At T m c below) (hx : tb.exec = Jvm.exec) {x : Int32} {o : Int} (hd : decode c.code pc = .ok (.ifCond .lt o, 3)) (ho : 0 ≤ (pc : Int) + o) (hp : ((pc : Int) + o).toNat = n1) (hn : pc + 3 = n2) (h1 : x < 0 → Endz tb e below Q T (mkF m n1 Ls (st))) (h2 : ¬ (x < 0) → Endz tb e below Q T (mkF m n2 Ls (st))) : Endz tb e below Q T (mkF m pc Ls (.int x :: st)) := by
  subst hn
  by_cases q : x < 0
  · exact Endz.by (fun _ k => XS.ifYes h hx rfl rfl hd rfl ((if0 _ _).trans (tlt q).1) ho hp k) (h1 q)
  · exact Endz.by (fun _ k => XS.ifNo h hx rfl hd rfl ((if0 _ _).trans (flt q).1) k) (h2 q)
theorem w_ifge (h : At T m c below) (hx : tb.exec = Jvm.exec) {x : Int32} {o : Int} (hd : decode c.code pc = .ok (.ifCond .ge o, 3)) (ho : 0 ≤ (pc : Int) + o) (hp : ((pc : Int) + o).toNat = n1) (hn : pc + 3 = n2) (h1 : ¬ x < 0 → Endz tb e below Q T (mkF m n1 Ls (st))) (h2 : ¬ (¬ x < 0) → Endz tb e below Q T (mkF m n2 Ls (st))) : Endz tb e below Q T (mkF m pc Ls (.int x :: st)) := by
  subst hn
  by_cases q : ¬ x < 0
  · exact Endz.by (fun _ k => XS.ifYes h hx rfl rfl hd rfl ((if0 _ _).trans (flt q).2.1) ho hp k) (h1 q)
  · exact Endz.by (fun _ k => XS.ifNo h hx rfl hd rfl ((if0 _ _).trans (tlt (Classical.not_not.mp q)).2.1) k) (h2 q)
theorem w_ifgt (h : At T m c below) (hx : tb.exec = Jvm.exec) {x : Int32} {o : Int} (hd : decode c.code pc = .ok (.ifCond .gt o, 3)) (ho : 0 ≤ (pc : Int) + o) (hp : ((pc : Int) + o).toNat = n1) (hn : pc + 3 = n2) (h1 : 0 < x → Endz tb e below Q T (mkF m n1 Ls (st))) (h2 : ¬ (0 < x) → Endz tb e below Q T (mkF m n2 Ls (st))) : Endz tb e below Q T (mkF m pc Ls (.int x :: st)) := by
  subst hn
  by_cases q : 0 < x
  · exact Endz.by (fun _ k => XS.ifYes h hx rfl rfl hd rfl ((if0 _ _).trans (tlt q).2.2.1) ho hp k) (h1 q)
  · exact Endz.by (fun _ k => XS.ifNo h hx rfl hd rfl ((if0 _ _).trans (flt q).2.2.1) k) (h2 q)
theorem w_ifle (h : At T m c below) (hx : tb.exec = Jvm.exec) {x : Int32} {o : Int} (hd : decode c.code pc = .ok (.ifCond .le o, 3)) (ho : 0 ≤ (pc : Int) + o) (hp : ((pc : Int) + o).toNat = n1) (hn : pc + 3 = n2) (h1 : ¬ 0 < x → Endz tb e below Q T (mkF m n1 Ls (st))) (h2 : ¬ (¬ 0 < x) → Endz tb e below Q T (mkF m n2 Ls (st))) : Endz tb e below Q T (mkF m pc Ls (.int x :: st)) := by
  subst hn
  by_cases q : ¬ 0 < x
  · exact Endz.by (fun _ k => XS.ifYes h hx rfl rfl hd rfl ((if0 _ _).trans (flt q).2.2.2) ho hp k) (h1 q)
  · exact Endz.by (fun _ k => XS.ifNo h hx rfl hd rfl ((if0 _ _).trans (tlt (Classical.not_not.mp q)).2.2.2) k) (h2 q)
theorem w_icmpeq (h : At T m c below) (hx : tb.exec = Jvm.exec) {x y : Int32} {o : Int} (hd : decode c.code pc = .ok (.if_icmp .eq o, 3)) (ho : 0 ≤ (pc : Int) + o) (hp : ((pc : Int) + o).toNat = n1) (hn : pc + 3 = n2) (h1 : x = y → Endz tb e below Q T (mkF m n1 Ls (st))) (h2 : ¬ (x = y) → Endz tb e below Q T (mkF m n2 Ls (st))) : Endz tb e below Q T (mkF m pc Ls (.int y :: .int x :: st)) := by
  subst hn
  by_cases q : x = y
  · exact Endz.by (fun _ k => XS.icmpYes h hx rfl rfl hd rfl ((teq q).1) ho hp k) (h1 q)
  · exact Endz.by (fun _ k => XS.icmpNo h hx rfl hd rfl ((feq q).1) k) (h2 q)
theorem w_icmpne (h : At T m c below) (hx : tb.exec = Jvm.exec) {x y : Int32} {o : Int} (hd : decode c.code pc = .ok (.if_icmp .ne o, 3)) (ho : 0 ≤ (pc : Int) + o) (hp : ((pc : Int) + o).toNat = n1) (hn : pc + 3 = n2) (h1 : ¬ x = y → Endz tb e below Q T (mkF m n1 Ls (st))) (h2 : ¬ (¬ x = y) → Endz tb e below Q T (mkF m n2 Ls (st))) : Endz tb e below Q T (mkF m pc Ls (.int y :: .int x :: st)) := by
  subst hn
  by_cases q : ¬ x = y
  · exact Endz.by (fun _ k => XS.icmpYes h hx rfl rfl hd rfl ((feq q).2) ho hp k) (h1 q)
  · exact Endz.by (fun _ k => XS.icmpNo h hx rfl hd rfl ((teq (Classical.not_not.mp q)).2) k) (h2 q)
theorem w_icmplt (h : At T m c below) (hx : tb.exec = Jvm.exec) {x y : Int32} {o : Int} (hd : decode c.code pc = .ok (.if_icmp .lt o, 3)) (ho : 0 ≤ (pc : Int) + o) (hp : ((pc : Int) + o).toNat = n1) (hn : pc + 3 = n2) (h1 : x < y → Endz tb e below Q T (mkF m n1 Ls (st))) (h2 : ¬ (x < y) → Endz tb e below Q T (mkF m n2 Ls (st))) : Endz tb e below Q T (mkF m pc Ls (.int y :: .int x :: st)) := by
  subst hn
  by_cases q : x < y
  · exact Endz.by (fun _ k => XS.icmpYes h hx rfl rfl hd rfl ((tlt q).1) ho hp k) (h1 q)
  · exact Endz.by (fun _ k => XS.icmpNo h hx rfl hd rfl ((flt q).1) k) (h2 q)
theorem w_icmpge (h : At T m c below) (hx : tb.exec = Jvm.exec) {x y : Int32} {o : Int} (hd : decode c.code pc = .ok (.if_icmp .ge o, 3)) (ho : 0 ≤ (pc : Int) + o) (hp : ((pc : Int) + o).toNat = n1) (hn : pc + 3 = n2) (h1 : ¬ x < y → Endz tb e below Q T (mkF m n1 Ls (st))) (h2 : ¬ (¬ x < y) → Endz tb e below Q T (mkF m n2 Ls (st))) : Endz tb e below Q T (mkF m pc Ls (.int y :: .int x :: st)) := by
  subst hn
  by_cases q : ¬ x < y
  · exact Endz.by (fun _ k => XS.icmpYes h hx rfl rfl hd rfl ((flt q).2.1) ho hp k) (h1 q)
  · exact Endz.by (fun _ k => XS.icmpNo h hx rfl hd rfl ((tlt (Classical.not_not.mp q)).2.1) k) (h2 q)
theorem w_icmpgt (h : At T m c below) (hx : tb.exec = Jvm.exec) {x y : Int32} {o : Int} (hd : decode c.code pc = .ok (.if_icmp .gt o, 3)) (ho : 0 ≤ (pc : Int) + o) (hp : ((pc : Int) + o).toNat = n1) (hn : pc + 3 = n2) (h1 : y < x → Endz tb e below Q T (mkF m n1 Ls (st))) (h2 : ¬ (y < x) → Endz tb e below Q T (mkF m n2 Ls (st))) : Endz tb e below Q T (mkF m pc Ls (.int y :: .int x :: st)) := by
  subst hn
  by_cases q : y < x
  · exact Endz.by (fun _ k => XS.icmpYes h hx rfl rfl hd rfl ((tlt q).2.2.1) ho hp k) (h1 q)
  · exact Endz.by (fun _ k => XS.icmpNo h hx rfl hd rfl ((flt q).2.2.1) k) (h2 q)
theorem w_icmple (h : At T m c below) (hx : tb.exec = Jvm.exec) {x y : Int32} {o : Int} (hd : decode c.code pc = .ok (.if_icmp .le o, 3)) (ho : 0 ≤ (pc : Int) + o) (hp : ((pc : Int) + o).toNat = n1) (hn : pc + 3 = n2) (h1 : ¬ y < x → Endz tb e below Q T (mkF m n1 Ls (st))) (h2 : ¬ (¬ y < x) → Endz tb e below Q T (mkF m n2 Ls (st))) : Endz tb e below Q T (mkF m pc Ls (.int y :: .int x :: st)) := by
  subst hn
  by_cases q : ¬ y < x
  · exact Endz.by (fun _ k => XS.icmpYes h hx rfl rfl hd rfl ((flt q).2.2.2) ho hp k) (h1 q)
  · exact Endz.by (fun _ k => XS.icmpNo h hx rfl hd rfl ((tlt (Classical.not_not.mp q)).2.2.2) k) (h2 q)
theorem w_ifnull (h : At T m c below) (hx : tb.exec = Jvm.exec) {v : Value} {o : Int} (hv : v.isRef = true) (hd : decode c.code pc = .ok (.ifnull o, 3)) (ho : 0 ≤ (pc : Int) + o) (hp : ((pc : Int) + o).toNat = n1) (hn : pc + 3 = n2) (h1 : v = .null → Endz tb e below Q T (mkF m n1 Ls (st))) (h2 : v ≠ .null → Endz tb e below Q T (mkF m n2 Ls (st))) : Endz tb e below Q T (mkF m pc Ls (v :: st)) := by
  subst hn
  rcases ref_cases hv with rfl | ⟨a, rfl⟩
  · exact Endz.by (fun _ k => XS.ifnullYes h hx rfl rfl hd rfl ho hp k) (h1 rfl)
  · exact Endz.by (fun _ k => XS.ifnullNo h hx rfl hd rfl k) (h2 (by simp))
theorem w_ifnonnull (h : At T m c below) (hx : tb.exec = Jvm.exec) {v : Value} {o : Int} (hv : v.isRef = true) (hd : decode c.code pc = .ok (.ifnonnull o, 3)) (ho : 0 ≤ (pc : Int) + o) (hp : ((pc : Int) + o).toNat = n1) (hn : pc + 3 = n2) (h1 : v ≠ .null → Endz tb e below Q T (mkF m n1 Ls (st))) (h2 : v = .null → Endz tb e below Q T (mkF m n2 Ls (st))) : Endz tb e below Q T (mkF m pc Ls (v :: st)) := by
  subst hn
  rcases ref_cases hv with rfl | ⟨a, rfl⟩
  · exact Endz.by (fun _ k => XS.ifnonnullNo h hx rfl hd rfl k) (h2 rfl)
  · exact Endz.by (fun _ k => XS.ifnonnullYes h hx rfl rfl hd rfl ho hp k) (h1 (by simp))
theorem w_acmpeq (h : At T m c below) (hx : tb.exec = Jvm.exec) {x y : Value} {o : Int} (hv : x.isRef = true) (hv' : y.isRef = true) (hd : decode c.code pc = .ok (.if_acmp .eq o, 3)) (ho : 0 ≤ (pc : Int) + o) (hp : ((pc : Int) + o).toNat = n1) (hn : pc + 3 = n2) (h1 : x = y → Endz tb e below Q T (mkF m n1 Ls (st))) (h2 : ¬ x = y → Endz tb e below Q T (mkF m n2 Ls (st))) : Endz tb e below Q T (mkF m pc Ls (y :: x :: st)) := by
  subst hn
  by_cases q : x = y
  · exact Endz.by (fun _ k => Jvm.Free.XT.acmpYes h hx rfl rfl hd rfl hv hv' (by simp [Jvm.Free.XT.acmp, q]) ho hp k) (h1 q)
  · exact Endz.by (fun _ k => Jvm.Free.XT.acmpNo h hx rfl hd rfl hv hv' (by simp [Jvm.Free.XT.acmp, q]) k) (h2 q)
theorem w_acmpne (h : At T m c below) (hx : tb.exec = Jvm.exec) {x y : Value} {o : Int} (hv : x.isRef = true) (hv' : y.isRef = true) (hd : decode c.code pc = .ok (.if_acmp .ne o, 3)) (ho : 0 ≤ (pc : Int) + o) (hp : ((pc : Int) + o).toNat = n1) (hn : pc + 3 = n2) (h1 : x ≠ y → Endz tb e below Q T (mkF m n1 Ls (st))) (h2 : x = y → Endz tb e below Q T (mkF m n2 Ls (st))) : Endz tb e below Q T (mkF m pc Ls (y :: x :: st)) := by
  subst hn
  by_cases q : x = y
  · exact Endz.by (fun _ k => Jvm.Free.XT.acmpNo h hx rfl hd rfl hv hv' (by simp [Jvm.Free.XT.acmp, q]) k) (h2 q)
  · exact Endz.by (fun _ k => Jvm.Free.XT.acmpYes h hx rfl rfl hd rfl hv hv' (by simp [Jvm.Free.XT.acmp, q]) ho hp k) (h1 q)
end Plain
section Heap
theorem Ext.rfl' (h : Heap) : Ext h h := ⟨Nat.le_refl _, fun _ _ q => q⟩
theorem Ext.tr {h0 h h' : Heap} (E : Ext h0 h) (E' : Ext h h') : Ext h0 h' := ⟨Nat.le_trans E.1 E'.1, fun a c q => E'.2 a c (E.2 a c q)⟩
theorem Ext.wr {h0 h h' : Heap} {a : Addr} {sl : Nat} {v : Value} (E : Ext h0 h) (W : Wr h h' a sl v) (q : h0.size ≤ a) : Ext h0 h' := by
  obtain ⟨cell, h1, h2, h3, rfl⟩ := W
  refine ⟨by simpa using E.1, fun b c hb => ?_⟩
  have hne : b ≠ a := fun e => by subst e; exact absurd (Array.getElem?_eq_some_iff.mp hb).1 (Nat.not_lt.mpr q)
  rw [Array.getElem?_setIfInBounds_ne (Ne.symm hne)]; exact E.2 b c hb
theorem Ext.kp {h0 h : Heap} (K : Keep h0 h []) : Ext h0 h := ⟨K.1, fun a c q => K.2.1 a c q nin0⟩
theorem Arv.ex {Z : State} {h h' : Heap} {a : Addr} {k : ClassId} {ty : FieldType} {z : Int32} {vs : List Value} {d : Value} (E : Ext h h') (F : Arv Z h a k ty z vs d) : Arv Z h' a k ty z vs d := F.ext E
/-- what the run leaves -/
abbrev Finz (s : State) (rm : Room) (Qv : Option Value → Heap → List Loc → Prop) : Outcome → State → Prop := fun o U' => ∃ v L, o = .returned v ∧ Qv v U'.heap L ∧ FrameEnd s o U' L rm.cells rm.slots
/-- a body's contract at given arguments and heap -/
abbrev Con (l : Launch) (Z : State) (y : MethodName) (bytes : ByteArray) (maxL : Nat) (ret : Option FieldType) (ws : List Jvm.Cond) (rm : Room) (as : Array Value) (h0 : Heap) (Qv : Option Value → Heap → List Loc → Prop) : Prop :=
  MetFree l y (head1 (Jvm.Cond.code y bytes maxL ret :: ws) rm) (fun a U => a = as ∧ Z.Warmed39 U.vm ∧ U.heap = h0) (fun _ _ _ _ _ => True) (fun _ U o U' => ∃ v L, o = .returned v ∧ Qv v U'.heap L ∧ FrameEnd U o U' L rm.cells rm.slots)
theorem con_of {l : Launch} {Z : State} {y : MethodName} {bytes : ByteArray} {maxL : Nat} {ret : Option FieldType} {ws : List Jvm.Cond} {rm : Room} {as : Array Value} {h0 : Heap} {Qv : Option Value → Heap → List Loc → Prop} (hn : plainFor y = true)
    (body : ∀ (p : Program) (e : Env) (s : State) (m : MethodId) (below : List Frame) (meth : Method) (c : Code) (T : State), Stand p l e rm s m as below meth c T [] 0 0 → p.tables.exec = Jvm.exec → Z.Warmed39 s.vm → c.code = bytes → c.maxLocals = maxL → s.vm.findClass y.cls = some m.cls → meth.sig.returnType = ret → meth.name = y.name → meth.locks = false → T.heap = h0 → Endz p.tables e below (Finz s rm Qv) T (entryFrame m as maxL)) :
    Con l Z y bytes maxL ret ws rm as h0 Qv := by
  refine MetFree.of_bodySF hn hisR ?_
  intro p e s m args below meth c s₁ Bd hml0 hP hK
  obtain ⟨rfl, hZ, hh⟩ := hP
  have X0 : Stand p l e rm s m args below meth c s₁ [] 0 0 := Stand.of_body Bd
  exact body p e s m below meth c s₁ X0 Bd.exec hZ Bd.bytes hml0 (findClass_of_methodNamed Bd.named) Bd.returns (name_of_methodNamed Bd.named Bd.method).1 Bd.notSynchronized (by rw [← hh, Bd.state]; rfl)
variable {p : Program} {l : Launch} {e : Env} {R : Room} {s : State} {m : MethodId} {args : Array Value} {below : List Frame} {meth : Method} {c : Code} {T : State} {locs : List Loc} {cells slots : Nat} {Z : State} {a0 : Array Value} {h : Heap} {pc n : Nat} {Ls : Array Slot} {st : List Value} {rm : Room} {Qv : Option Value → Heap → List Loc → Prop}
/-! the ends -/
theorem fin_of (X : Stand p l e R s m args below meth c T locs cells slots) (hlk : meth.locks = false) (eT : T.heap = h) {v : Option Value} {g : JFrame} (hv : meth.sig.returnType = none → v = none) (hc : cells ≤ rm.cells) (hs : slots ≤ rm.slots) (hQ : Qv v h locs)
    (hstep : ∀ fs, (∀ (f : JFrame) (acts : List Action), f.method = m → f.locked = none → f.entered = [] → (doReturn e (T.setTop f) acts v).1 = T.setFrames fs) → Steps p.tables e below (T.setTop g) (T.setFrames fs)) : Endz p.tables e below (Finz s rm Qv) T g := by
  obtain ⟨fs, hr, hrun, hended, hW, hsame⟩ := X.leave (v := v) hv hlk
  have hQ' : Qv v (T.setFrames fs).heap locs := by show Qv v T.heap locs; rw [eT]; exact hQ
  exact ⟨_, _, hstep fs hr, hrun, hended, v, locs, rfl, hQ', ⟨_, rfl⟩, hW, hsame.mono hc hs⟩
theorem fin_Z (X : Stand p l e R s m args below meth c T locs cells slots) (hx : p.tables.exec = Jvm.exec) (hlk : meth.locks = false) (eT : T.heap = h) {t : FieldType} {z : Int32} (hret : meth.sig.returnType = some t) (ht : t = .boolean ∨ t = .byte ∨ t = .char ∨ t = .short) (hd : decode c.code pc = .ok (.ireturn, 1)) (hc : cells ≤ rm.cells) (hs : slots ≤ rm.slots) (hQ : Qv (some (.int (nar t z))) h locs) :
    Endz p.tables e below (Finz s rm Qv) T (mkF m pc Ls (.int z :: st)) :=
  fin_of X hlk eT (fun q => by rw [hret] at q; cases q) hc hs hQ fun fs hl => retN X hx hret ht hd hl
theorem fin_I (X : Stand p l e R s m args below meth c T locs cells slots) (hx : p.tables.exec = Jvm.exec) (hlk : meth.locks = false) (eT : T.heap = h) {z : Int32} (hret : meth.sig.returnType = some .int) (hd : decode c.code pc = .ok (.ireturn, 1)) (hc : cells ≤ rm.cells) (hs : slots ≤ rm.slots) (hQ : Qv (some (.int z)) h locs) :
    Endz p.tables e below (Finz s rm Qv) T (mkF m pc Ls (.int z :: st)) :=
  fin_of X hlk eT (fun q => by rw [hret] at q; cases q) hc hs hQ fun fs hl => retOut X hx hret rfl (Or.inl ⟨rfl, Or.inl rfl, _, rfl⟩) hd hl
theorem fin_J (X : Stand p l e R s m args below meth c T locs cells slots) (hx : p.tables.exec = Jvm.exec) (hlk : meth.locks = false) (eT : T.heap = h) {z : Int64} (hret : meth.sig.returnType = some .long) (hd : decode c.code pc = .ok (.lreturn, 1)) (hc : cells ≤ rm.cells) (hs : slots ≤ rm.slots) (hQ : Qv (some (.long z)) h locs) :
    Endz p.tables e below (Finz s rm Qv) T (mkF m pc Ls (.long z :: st)) :=
  fin_of X hlk eT (fun q => by rw [hret] at q; cases q) hc hs hQ fun fs hl => retOut X hx hret rfl (Or.inr (Or.inl ⟨rfl, rfl, _, rfl⟩)) hd hl
theorem fin_A (X : Stand p l e R s m args below meth c T locs cells slots) (hx : p.tables.exec = Jvm.exec) (hlk : meth.locks = false) (eT : T.heap = h) {w : Value} {t : FieldType} (hret : meth.sig.returnType = some t) (hn : narrow t w = w) (ht : t.isReference = true) (hw : w.isRef = true) (hd : decode c.code pc = .ok (.areturn, 1)) (hc : cells ≤ rm.cells) (hs : slots ≤ rm.slots) (hQ : Qv (some w) h locs) :
    Endz p.tables e below (Finz s rm Qv) T (mkF m pc Ls (w :: st)) :=
  fin_of X hlk eT (fun q => by rw [hret] at q; cases q) hc hs hQ fun fs hl => retOut X hx hret hn (Or.inr (Or.inr (Or.inr (Or.inr ⟨rfl, ht, hw⟩)))) hd hl
theorem fin_V (X : Stand p l e R s m args below meth c T locs cells slots) (hx : p.tables.exec = Jvm.exec) (hlk : meth.locks = false) (eT : T.heap = h) (hret : meth.sig.returnType = none) (hd : decode c.code pc = .ok (.return_, 1)) (hc : cells ≤ rm.cells) (hs : slots ≤ rm.slots) (hQ : Qv none h locs) :
    Endz p.tables e below (Finz s rm Qv) T (mkF m pc Ls []) :=
  fin_of X hlk eT (fun _ => rfl) hc hs hQ fun fs hl => X.returnOut hx hret hd hl
variable {Q : Outcome → State → Prop}
/-! fields and statics: what comes behind is asked of every such state -/
theorem g_F (X : Stand p l e R s m args below meth c T locs cells slots) (hx : p.tables.exec = Jvm.exec) (hZ : Z.Warmed39 s.vm) {own O nm d : String} {idx : Nat} (hown : s.vm.findClass own = some m.cls) (w : (Jvm.Cond.fieldLink own idx O nm d).before a0 Z = true) (eT : T.heap = h) {a : Addr} {v : Value} (F : Fld Z h a O nm d v) (hd : decode c.code pc = .ok (.getfield idx, 3)) (hn : pc + 3 = n)
    (hr : ∀ T', Stand p l e R s m args below meth c T' locs cells slots → T'.heap = h → Endz p.tables e below Q T' (mkF m n Ls (v :: st))) : Endz p.tables e below Q T (mkF m pc Ls (.ref a :: st)) := by
  subst hn
  obtain ⟨T', X', e', st'⟩ := getF X hx hZ hown (host := "") (Or.inl w) Via.refl eT F (g := mkF m pc Ls (.ref a :: st)) rfl rfl hd
  exact Endz.by st' (hr T' X' e')
theorem g_FV (X : Stand p l e R s m args below meth c T locs cells slots) (hx : p.tables.exec = Jvm.exec) (hZ : Z.Warmed39 s.vm) {own R0 O nm d : String} {idx : Nat} (hown : s.vm.findClass own = some m.cls) (w : (Jvm.Cond.fieldLink own idx R0 nm d).before a0 Z = true) (via : Via Z R0 O nm d) (eT : T.heap = h) {a : Addr} {v : Value} (F : Fld Z h a O nm d v) (hd : decode c.code pc = .ok (.getfield idx, 3)) (hn : pc + 3 = n)
    (hr : ∀ T', Stand p l e R s m args below meth c T' locs cells slots → T'.heap = h → Endz p.tables e below Q T' (mkF m n Ls (v :: st))) : Endz p.tables e below Q T (mkF m pc Ls (.ref a :: st)) := by
  subst hn
  obtain ⟨T', X', e', st'⟩ := getF X hx hZ hown (host := "") (Or.inl w) via eT F (g := mkF m pc Ls (.ref a :: st)) rfl rfl hd
  exact Endz.by st' (hr T' X' e')
theorem g_S (X : Stand p l e R s m args below meth c T locs cells slots) (hx : p.tables.exec = Jvm.exec) (hZ : Z.Warmed39 s.vm) {own O nm d : String} {idx : Nat} (hown : s.vm.findClass own = some m.cls) (w : (Jvm.Cond.fieldLink own idx O nm d).before a0 Z = true) (eT : T.heap = h) {v : Value} (F : Sta Z h O nm d v) (hd : decode c.code pc = .ok (.getstatic idx, 3)) (hn : pc + 3 = n)
    (hr : ∀ T', Stand p l e R s m args below meth c T' locs cells slots → T'.heap = h → Endz p.tables e below Q T' (mkF m n Ls (v :: st))) : Endz p.tables e below Q T (mkF m pc Ls st) := by
  subst hn
  obtain ⟨T', X', e', st'⟩ := getS2 X hx hZ hown (host := "") (Or.inl w) Via.refl eT F (g := mkF m pc Ls st) rfl hd
  exact Endz.by st' (hr T' X' e')
theorem p_F (X : Stand p l e R s m args below meth c T locs cells slots) (hx : p.tables.exec = Jvm.exec) (hZ : Z.Warmed39 s.vm) {own O nm d C : String} {idx kk : Nat} {ty : FieldType} (hown : s.vm.findClass own = some m.cls) (w : (Jvm.Cond.fieldLink own idx O nm d).before a0 Z = true) (eT : T.heap = h) {a : Addr} {v old : Value} (F : Fld Z h a O nm d old) (A : Exa Z h a C)
    (L : (Jvm.Cond.lays C O nm d).before a0 Z = true ∨ ((Jvm.Cond.laysFinal C O nm d).before a0 Z = true ∧ own = O ∧ meth.name = "<init>")) (wi : (Jvm.Cond.instantiable C kk).before a0 Z = true) (hty : parseFieldDescriptor d = some ty) (hna : narrow ty v = v) (hf : fits ty v = true) (hd : decode c.code pc = .ok (.putfield idx, 3)) (hn : pc + 3 = n)
    (hr : ∀ T' h', Stand p l e R s m args below meth c T' (locs ++ [⟨a, Jvm.RoadKit.slotOf Z O nm d⟩]) cells slots → T'.heap = h' → Wr h h' a (Jvm.RoadKit.slotOf Z O nm d) v → Endz p.tables e below Q T' (mkF m n Ls st)) : Endz p.tables e below Q T (mkF m pc Ls (v :: .ref a :: st)) := by
  subst hn
  obtain ⟨T', h', X', e', W', st'⟩ := putF X hx hZ hown (host := "") (Or.inl w) Via.refl eT F A L wi hty hna hf (g := mkF m pc Ls (v :: .ref a :: st)) rfl rfl hd
  exact Endz.by st' (hr T' h' X' e' W')
/-- putfield of a boolean, byte, char or short: what lies there is the narrowed int -/
theorem p_FN (X : Stand p l e R s m args below meth c T locs cells slots) (hx : p.tables.exec = Jvm.exec) (hZ : Z.Warmed39 s.vm) {own O nm d C : String} {idx kk : Nat} {ty : FieldType} (hown : s.vm.findClass own = some m.cls) (w : (Jvm.Cond.fieldLink own idx O nm d).before a0 Z = true) (eT : T.heap = h) {a : Addr} {v v' old : Value} (F : Fld Z h a O nm d old) (A : Exa Z h a C)
    (L : (Jvm.Cond.lays C O nm d).before a0 Z = true ∨ ((Jvm.Cond.laysFinal C O nm d).before a0 Z = true ∧ own = O ∧ meth.name = "<init>")) (wi : (Jvm.Cond.instantiable C kk).before a0 Z = true) (hty : parseFieldDescriptor d = some ty) (hna : narrow ty v = v') (hf : fits ty v' = true) (hd : decode c.code pc = .ok (.putfield idx, 3)) (hn : pc + 3 = n)
    (hr : ∀ T' h', Stand p l e R s m args below meth c T' (locs ++ [⟨a, Jvm.RoadKit.slotOf Z O nm d⟩]) cells slots → T'.heap = h' → Wr h h' a (Jvm.RoadKit.slotOf Z O nm d) v' → Endz p.tables e below Q T' (mkF m n Ls st)) : Endz p.tables e below Q T (mkF m pc Ls (v :: .ref a :: st)) := by
  subst hn
  obtain ⟨T', h', X', e', W', st'⟩ := putFN X hx hZ hown w Via.refl eT F A L wi hty hna hf (g := mkF m pc Ls (v :: .ref a :: st)) rfl rfl hd
  exact Endz.by st' (hr T' h' X' e' W')
/-! constants of the pool -/
theorem k_I (X : Stand p l e R s m args below meth c T locs cells slots) (hx : p.tables.exec = Jvm.exec) (hZ : Z.Warmed39 s.vm) {own : String} {idx : Nat} {v : Int32} (hown : s.vm.findClass own = some m.cls) (w : (Jvm.Cond.constant own idx v).before a0 Z = true) (hd : decode c.code pc = .ok (.ldc idx, 2)) (hn : pc + 2 = n) (hr : Endz p.tables e below Q T (mkF m n Ls (.int v :: st))) : Endz p.tables e below Q T (mkF m pc Ls st) := by
  subst hn
  exact Endz.by (X.ldcInt hx hown (mvT hZ w) (g := mkF m pc Ls st) rfl hd) hr
theorem k_J (X : Stand p l e R s m args below meth c T locs cells slots) (hx : p.tables.exec = Jvm.exec) (hZ : Z.Warmed39 s.vm) {own : String} {idx : Nat} {v : Int64} (hown : s.vm.findClass own = some m.cls) (w : (Jvm.Cond.constantLong own idx v).before a0 Z = true) (hd : decode c.code pc = .ok (.ldc2_w idx, 3)) (hn : pc + 3 = n) (hr : Endz p.tables e below Q T (mkF m n Ls (.long v :: st))) : Endz p.tables e below Q T (mkF m pc Ls st) := by
  subst hn
  exact Endz.by (X.ldc2Long hx hown (mvT hZ w) (g := mkF m pc Ls st) rfl hd) hr
/-! objects and arrays made -/
theorem n_O (X : Stand p l e R s m args below meth c T locs cells slots) (hx : p.tables.exec = Jvm.exec) (hZ : Z.Warmed39 s.vm) {own C : String} {idx k : Nat} (hown : s.vm.findClass own = some m.cls) (w : (Jvm.Cond.classLink own idx C).before a0 Z = true) (wi : (Jvm.Cond.instantiable C k).before a0 Z = true) (wz : (Jvm.Cond.initialized C).before a0 Z = true) (eT : T.heap = h) (hd : decode c.code pc = .ok (.new idx, 3)) (hn : pc + 3 = n) (hc : cells + 1 ≤ R.cells) (hl : slots + k ≤ R.slots)
    (hr : ∀ T' h' b, b = h.size → Stand p l e R s m args below meth c T' locs (cells + 1) (slots + k) → T'.heap = h' → Ext h h' → Exa Z h' b C → (∀ {O nm d : String} {ty : FieldType}, Laid Z a0 C O nm d → parseFieldDescriptor d = some ty → Fld Z h' b O nm d (defaultValue ty)) → (∃ cell : Cell, h'[b]? = some cell ∧ cell.vm = .none ∧ cell.monitor = {}) → Endz p.tables e below Q T' (mkF m n Ls (.ref b :: st))) : Endz p.tables e below Q T (mkF m pc Ls st) := by
  subst hn
  obtain ⟨T', h', X', e', E', A', D', U', st'⟩ := newO X hx hZ hown w wi wz eT (g := mkF m pc Ls st) rfl hd hc hl
  exact Endz.by st' (hr T' h' _ rfl X' e' E' A' D' U')
theorem n_P (X : Stand p l e R s m args below meth c T locs cells slots) (hx : p.tables.exec = Jvm.exec) (hZ : Z.Warmed39 s.vm) {aty : ArrayType} (w : (Jvm.Cond.arrayClass (newarray.typeOf aty)).before a0 Z = true) (eT : T.heap = h) {z : Int32} (hd : decode c.code pc = .ok (.newarray aty, 2)) (hn : pc + 2 = n) (hz : ¬ z < 0) (cap : Nat) (hcap : z.toNatClampNeg ≤ cap) (hb : cap * 8 ≤ 536870912) (hc : cells + 1 ≤ R.cells) (hl : slots + cap ≤ R.slots)
    (hr : ∀ T' h' k b, b = h.size → Stand p l e R s m args below meth c T' locs (cells + 1) (slots + cap) → T'.heap = h' → Ext h h' → Arv Z h' b k (newarray.typeOf aty) z [] (defaultValue (newarray.typeOf aty)) → Endz p.tables e below Q T' (mkF m n Ls (.ref b :: st))) : Endz p.tables e below Q T (mkF m pc Ls (.int z :: st)) := by
  subst hn
  obtain ⟨T', h', k, X', e', E', A', st'⟩ := newP X hx hZ w eT (g := mkF m pc Ls (.int z :: st)) rfl hd rfl hz (cap := cap) hcap hb hc hl
  exact Endz.by st' (hr T' h' k _ rfl X' e' E' (Arv.new A' hz))
theorem n_R (X : Stand p l e R s m args below meth c T locs cells slots) (hx : p.tables.exec = Jvm.exec) (hZ : Z.Warmed39 s.vm) {own C : String} {idx : Nat} (hown : s.vm.findClass own = some m.cls) (w1 : (Jvm.Cond.classLink own idx C).before a0 Z = true) (w2 : (Jvm.Cond.arrayOver (.object C)).before a0 Z = true) (eT : T.heap = h) {z : Int32} (hd : decode c.code pc = .ok (.anewarray idx, 3)) (hn : pc + 3 = n) (hz : ¬ z < 0) (cap : Nat) (hcap : z.toNatClampNeg ≤ cap) (hb : cap * 8 ≤ 536870912) (hc : cells + 1 ≤ R.cells) (hl : slots + cap ≤ R.slots)
    (hr : ∀ T' h' k b, b = h.size → Stand p l e R s m args below meth c T' locs (cells + 1) (slots + cap) → T'.heap = h' → Ext h h' → Arv Z h' b k (.object C) z [] .null → Ovr Z k C → Endz p.tables e below Q T' (mkF m n Ls (.ref b :: st))) : Endz p.tables e below Q T (mkF m pc Ls (.int z :: st)) := by
  subst hn
  obtain ⟨T', h', k, X', e', E', A', O', st'⟩ := newR X hx hZ hown w1 w2 eT (g := mkF m pc Ls (.int z :: st)) rfl hd rfl hz (cap := cap) hcap hb hc hl
  exact Endz.by st' (hr T' h' k _ rfl X' e' E' (Arv.new A' hz) O')
/-! stores into arrays: the place is j, the i-th of the list -/
theorem pad0 {h : Heap} {a : Addr} {k : ClassId} {ty : FieldType} {z : Int32} {d : Value} (V : Arv Z h a k ty z [] d) (i : Nat) : Arv Z h a k ty z (List.replicate i d) d := V.pad (pad_rep [] d i)
theorem s_R (X : Stand p l e R s m args below meth c T locs cells slots) (hx : p.tables.exec = Jvm.exec) (hZ : Z.Warmed39 s.vm) (eT : T.heap = h) {b : Addr} {k : ClassId} {C : String} {z j : Int32} {vs : List Value} {y : Addr} (V : Arv Z h b k (.object C) z vs .null) (O : Ovr Z k C) (I : Ins Z h y C true) (i : Nat) (hj : j.toNatClampNeg = i) (hi : i < vs.length) (hj0 : ¬ j < 0) (hjz : j < z) (hd : decode c.code pc = .ok (.aastore, 1)) (hn : pc + 1 = n)
    (hr : ∀ T' h', Stand p l e R s m args below meth c T' (locs ++ [⟨b, j.toNatClampNeg⟩]) cells slots → T'.heap = h' → Wr h h' b j.toNatClampNeg (.ref y) → Arv Z h' b k (.object C) z (vs.set i (.ref y)) .null → Endz p.tables e below Q T' (mkF m n Ls st)) : Endz p.tables e below Q T (mkF m pc Ls (.ref y :: .int j :: .ref b :: st)) := by
  subst hn
  obtain ⟨cl, A, q1, S, N, H, G⟩ := V
  obtain ⟨T', h', X', e', W', st'⟩ := stR X hx hZ eT A (j := j) (inb_of S ⟨hj0, hjz⟩) rfl (Sto.ofV A q1 O I) (g := mkF m pc Ls (.ref y :: .int j :: .ref b :: st)) rfl rfl hd
  exact Endz.by st' (hr T' h' X' e' W' (Arv.set A q1 S N H G rfl W' i hj hi))
theorem s_I (X : Stand p l e R s m args below meth c T locs cells slots) (hx : p.tables.exec = Jvm.exec) (hZ : Z.Warmed39 s.vm) (eT : T.heap = h) {b : Addr} {k : ClassId} {z j x : Int32} {vs : List Value} {dv : Value} (V : Arv Z h b k .int z vs dv) (i : Nat) (hj : j.toNatClampNeg = i) (hi : i < vs.length) (hj0 : ¬ j < 0) (hjz : j < z) (hd : decode c.code pc = .ok (.iastore, 1)) (hn : pc + 1 = n)
    (hr : ∀ T' h', Stand p l e R s m args below meth c T' (locs ++ [⟨b, j.toNatClampNeg⟩]) cells slots → T'.heap = h' → Wr h h' b j.toNatClampNeg (.int x) → Arv Z h' b k .int z (vs.set i (.int x)) dv → Endz p.tables e below Q T' (mkF m n Ls st)) : Endz p.tables e below Q T (mkF m pc Ls (.int x :: .int j :: .ref b :: st)) := by
  subst hn
  obtain ⟨cl, A, q1, S, N, H, G⟩ := V
  obtain ⟨T', h', X', e', W', st'⟩ := stI X hx hZ eT A (j := j) (inb_of S ⟨hj0, hjz⟩) (g := mkF m pc Ls (.int x :: .int j :: .ref b :: st)) rfl rfl hd
  exact Endz.by st' (hr T' h' X' e' W' (Arv.set A q1 S N H G rfl W' i hj hi))
theorem s_B (X : Stand p l e R s m args below meth c T locs cells slots) (hx : p.tables.exec = Jvm.exec) (hZ : Z.Warmed39 s.vm) (eT : T.heap = h) {b : Addr} {k : ClassId} {z j x : Int32} {vs : List Value} {dv : Value} (V : Arv Z h b k .byte z vs dv) (i : Nat) (hj : j.toNatClampNeg = i) (hi : i < vs.length) (hj0 : ¬ j < 0) (hjz : j < z) (hd : decode c.code pc = .ok (.bastore, 1)) (hn : pc + 1 = n)
    (hr : ∀ T' h', Stand p l e R s m args below meth c T' (locs ++ [⟨b, j.toNatClampNeg⟩]) cells slots → T'.heap = h' → Wr h h' b j.toNatClampNeg (.int (nar .byte x)) → Arv Z h' b k .byte z (vs.set i (.int (nar .byte x))) dv → Endz p.tables e below Q T' (mkF m n Ls st)) : Endz p.tables e below Q T (mkF m pc Ls (.int x :: .int j :: .ref b :: st)) := by
  subst hn
  obtain ⟨cl, A, q1, S, N, H, G⟩ := V
  obtain ⟨T', h', X', e', W', st'⟩ := stB X hx hZ eT A (j := j) (inb_of S ⟨hj0, hjz⟩) (g := mkF m pc Ls (.int x :: .int j :: .ref b :: st)) rfl rfl hd
  exact Endz.by st' (hr T' h' X' e' W' (Arv.set A q1 S N H G (fits_nar_byte _) W' i hj hi))
theorem s_Z (X : Stand p l e R s m args below meth c T locs cells slots) (hx : p.tables.exec = Jvm.exec) (hZ : Z.Warmed39 s.vm) (eT : T.heap = h) {b : Addr} {k : ClassId} {z j x : Int32} {vs : List Value} {dv : Value} (V : Arv Z h b k .boolean z vs dv) (i : Nat) (hj : j.toNatClampNeg = i) (hi : i < vs.length) (hj0 : ¬ j < 0) (hjz : j < z) (hd : decode c.code pc = .ok (.bastore, 1)) (hn : pc + 1 = n)
    (hr : ∀ T' h', Stand p l e R s m args below meth c T' (locs ++ [⟨b, j.toNatClampNeg⟩]) cells slots → T'.heap = h' → Wr h h' b j.toNatClampNeg (.int (nar .boolean x)) → Arv Z h' b k .boolean z (vs.set i (.int (nar .boolean x))) dv → Endz p.tables e below Q T' (mkF m n Ls st)) : Endz p.tables e below Q T (mkF m pc Ls (.int x :: .int j :: .ref b :: st)) := by
  subst hn
  obtain ⟨cl, A, q1, S, N, H, G⟩ := V
  obtain ⟨T', h', X', e', W', st'⟩ := stZ X hx hZ eT A (j := j) (inb_of S ⟨hj0, hjz⟩) (g := mkF m pc Ls (.int x :: .int j :: .ref b :: st)) rfl rfl hd
  exact Endz.by st' (hr T' h' X' e' W' (Arv.set A q1 S N H G (fits_nar_bool _) W' i hj hi))
theorem s_C (X : Stand p l e R s m args below meth c T locs cells slots) (hx : p.tables.exec = Jvm.exec) (hZ : Z.Warmed39 s.vm) (eT : T.heap = h) {b : Addr} {k : ClassId} {z j x : Int32} {vs : List Value} {dv : Value} (V : Arv Z h b k .char z vs dv) (i : Nat) (hj : j.toNatClampNeg = i) (hi : i < vs.length) (hj0 : ¬ j < 0) (hjz : j < z) (hd : decode c.code pc = .ok (.castore, 1)) (hn : pc + 1 = n)
    (hr : ∀ T' h', Stand p l e R s m args below meth c T' (locs ++ [⟨b, j.toNatClampNeg⟩]) cells slots → T'.heap = h' → Wr h h' b j.toNatClampNeg (.int (nar .char x)) → Arv Z h' b k .char z (vs.set i (.int (nar .char x))) dv → Endz p.tables e below Q T' (mkF m n Ls st)) : Endz p.tables e below Q T (mkF m pc Ls (.int x :: .int j :: .ref b :: st)) := by
  subst hn
  obtain ⟨cl, A, q1, S, N, H, G⟩ := V
  obtain ⟨T', h', X', e', W', st'⟩ := stC X hx hZ eT A (j := j) (inb_of S ⟨hj0, hjz⟩) (g := mkF m pc Ls (.int x :: .int j :: .ref b :: st)) rfl rfl hd
  exact Endz.by st' (hr T' h' X' e' W' (Arv.set A q1 S N H G (fits_nar_char _) W' i hj hi))
/-! reads of arrays -/
theorem Arv.at {h : Heap} {b : Addr} {k : ClassId} {ty : FieldType} {z j : Int32} {vs : List Value} {dv v : Value} (V : Arv Z h b k ty z vs dv) (hj0 : ¬ j < 0) (hjz : j < z) (hv : vs.getD j.toNatClampNeg dv = v) : ∃ cl, Arr Z h b cl ty ∧ ¬ (j < 0 ∨ cl.slots.size ≤ j.toNatClampNeg) ∧ cl.slots[j.toNatClampNeg]? = some v := by
  obtain ⟨cl, A, q1, S, N, H, G⟩ := V
  exact ⟨cl, A, inb_of S ⟨hj0, hjz⟩, H.at (inb_of S ⟨hj0, hjz⟩) hv⟩
theorem l_I (X : Stand p l e R s m args below meth c T locs cells slots) (hx : p.tables.exec = Jvm.exec) (hZ : Z.Warmed39 s.vm) (eT : T.heap = h) {b : Addr} {k : ClassId} {z j : Int32} {vs : List Value} {dv v : Value} (V : Arv Z h b k .int z vs dv) (hj0 : ¬ j < 0) (hjz : j < z) (hv : vs.getD j.toNatClampNeg dv = v) (hd : decode c.code pc = .ok (.iaload, 1)) (hn : pc + 1 = n) (hr : Endz p.tables e below Q T (mkF m n Ls (v :: st))) : Endz p.tables e below Q T (mkF m pc Ls (.int j :: .ref b :: st)) := by
  subst hn
  obtain ⟨cl, A, hin, hat⟩ := Arv.at V hj0 hjz hv
  exact Endz.by (fun _ q => X.iaload hx (j := j) (v := v) (by rw [eT]; exact A.1) (State.isArrayOf_alike hZ.alike A.2.1) A.2.2 hin hat (g := mkF m pc Ls (.int j :: .ref b :: st)) rfl rfl hd _ q) hr
theorem l_B (X : Stand p l e R s m args below meth c T locs cells slots) (hx : p.tables.exec = Jvm.exec) (hZ : Z.Warmed39 s.vm) (eT : T.heap = h) {b : Addr} {k : ClassId} {z j : Int32} {vs : List Value} {dv v : Value} (V : Arv Z h b k .byte z vs dv) (hj0 : ¬ j < 0) (hjz : j < z) (hv : vs.getD j.toNatClampNeg dv = v) (hd : decode c.code pc = .ok (.baload, 1)) (hn : pc + 1 = n) (hr : Endz p.tables e below Q T (mkF m n Ls (v :: st))) : Endz p.tables e below Q T (mkF m pc Ls (.int j :: .ref b :: st)) := by
  subst hn
  obtain ⟨cl, A, hin, hat⟩ := Arv.at V hj0 hjz hv
  exact Endz.by (fun _ q => X.baloadBytes hx (j := j) (v := v) (by rw [eT]; exact A.1) (State.isArrayOf_alike hZ.alike A.2.1) A.2.2 hin hat (g := mkF m pc Ls (.int j :: .ref b :: st)) rfl rfl hd _ q) hr
theorem l_Z (X : Stand p l e R s m args below meth c T locs cells slots) (hx : p.tables.exec = Jvm.exec) (hZ : Z.Warmed39 s.vm) (eT : T.heap = h) {b : Addr} {k : ClassId} {z j : Int32} {vs : List Value} {dv v : Value} (V : Arv Z h b k .boolean z vs dv) (hj0 : ¬ j < 0) (hjz : j < z) (hv : vs.getD j.toNatClampNeg dv = v) (hd : decode c.code pc = .ok (.baload, 1)) (hn : pc + 1 = n) (hr : Endz p.tables e below Q T (mkF m n Ls (v :: st))) : Endz p.tables e below Q T (mkF m pc Ls (.int j :: .ref b :: st)) := by
  subst hn
  obtain ⟨cl, A, hin, hat⟩ := Arv.at V hj0 hjz hv
  exact Endz.by (fun _ q => X.baloadBooleans hx (j := j) (v := v) (by rw [eT]; exact A.1) (State.isArrayOf_alike hZ.alike A.2.1) A.2.2 hin hat (g := mkF m pc Ls (.int j :: .ref b :: st)) rfl rfl hd _ q) hr
theorem l_C (X : Stand p l e R s m args below meth c T locs cells slots) (hx : p.tables.exec = Jvm.exec) (hZ : Z.Warmed39 s.vm) (eT : T.heap = h) {b : Addr} {k : ClassId} {z j : Int32} {vs : List Value} {dv v : Value} (V : Arv Z h b k .char z vs dv) (hj0 : ¬ j < 0) (hjz : j < z) (hv : vs.getD j.toNatClampNeg dv = v) (hd : decode c.code pc = .ok (.caload, 1)) (hn : pc + 1 = n) (hr : Endz p.tables e below Q T (mkF m n Ls (v :: st))) : Endz p.tables e below Q T (mkF m pc Ls (.int j :: .ref b :: st)) := by
  subst hn
  obtain ⟨cl, A, hin, hat⟩ := Arv.at V hj0 hjz hv
  exact Endz.by (fun _ q => X.caload hx (j := j) (v := v) (by rw [eT]; exact A.1) (State.isArrayOf_alike hZ.alike A.2.1) A.2.2 hin hat (g := mkF m pc Ls (.int j :: .ref b :: st)) rfl rfl hd _ q) hr
theorem l_A (X : Stand p l e R s m args below meth c T locs cells slots) (hx : p.tables.exec = Jvm.exec) (hZ : Z.Warmed39 s.vm) (eT : T.heap = h) {b : Addr} {k : ClassId} {z j : Int32} {vs : List Value} {dv v : Value} {ty : FieldType} (V : Arv Z h b k ty z vs dv) (hty : ty.isReference = true) (hj0 : ¬ j < 0) (hjz : j < z) (hv : vs.getD j.toNatClampNeg dv = v) (hd : decode c.code pc = .ok (.aaload, 1)) (hn : pc + 1 = n) (hr : Endz p.tables e below Q T (mkF m n Ls (v :: st))) : Endz p.tables e below Q T (mkF m pc Ls (.int j :: .ref b :: st)) := by
  subst hn
  obtain ⟨cl, A, hin, hat⟩ := Arv.at V hj0 hjz hv
  exact Endz.by (fun _ q => X.aaload hx (j := j) (v := v) (by rw [eT]; exact A.1) (State.isArrayOf_alike hZ.alike A.2.1) hty A.2.2 hin hat (g := mkF m pc Ls (.int j :: .ref b :: st)) rfl rfl hd _ q) hr
theorem l_J (X : Stand p l e R s m args below meth c T locs cells slots) (hx : p.tables.exec = Jvm.exec) (hZ : Z.Warmed39 s.vm) (eT : T.heap = h) {b : Addr} {k : ClassId} {z j : Int32} {vs : List Value} {dv v : Value} (V : Arv Z h b k .long z vs dv) (hj0 : ¬ j < 0) (hjz : j < z) (hv : vs.getD j.toNatClampNeg dv = v) (hd : decode c.code pc = .ok (.laload, 1)) (hn : pc + 1 = n) (hr : Endz p.tables e below Q T (mkF m n Ls (v :: st))) : Endz p.tables e below Q T (mkF m pc Ls (.int j :: .ref b :: st)) := by
  subst hn
  obtain ⟨cl, A, hin, hat⟩ := Arv.at V hj0 hjz hv
  exact Endz.by (fun _ q => X.laload hx (j := j) (v := v) (by rw [eT]; exact A.1) (State.isArrayOf_alike hZ.alike A.2.1) A.2.2 hin hat (g := mkF m pc Ls (.int j :: .ref b :: st)) rfl rfl hd _ q) hr
theorem a_L (X : Stand p l e R s m args below meth c T locs cells slots) (hx : p.tables.exec = Jvm.exec) (hZ : Z.Warmed39 s.vm) (eT : T.heap = h) {b : Addr} {k : ClassId} {ty : FieldType} {z : Int32} {vs : List Value} {dv : Value} (V : Arv Z h b k ty z vs dv) (hd : decode c.code pc = .ok (.arraylength, 1)) (hn : pc + 1 = n) (hr : Endz p.tables e below Q T (mkF m n Ls (.int z :: st))) : Endz p.tables e below Q T (mkF m pc Ls (.ref b :: st)) := by
  subst hn
  obtain ⟨cl, A, q1, S, N, H, G⟩ := V
  exact Endz.by (fun _ q => X.arraylength hx (by rw [eT]; exact A.1) (State.isArrayOf_alike hZ.alike A.2.1) (g := mkF m pc Ls (.ref b :: st)) rfl rfl hd _ (by rw [len_of S N]; exact q)) hr
/-! calls -/
theorem c_S (X : Stand p l e R s m args below meth c T locs cells slots) (hx : p.tables.exec = Jvm.exec) (hZ : Z.Warmed39 s.vm) {own : String} {idx : Nat} {y : MethodName} {bytes : ByteArray} {maxL : Nat} {ret : Option FieldType} {argsL rest stk : List Value} {ps : List FieldType} {r : Option FieldType} (hown : s.vm.findClass own = some m.cls) (hM : Con l Z y bytes maxL ret [] rm argsL.toArray h Qv) (eT : T.heap = h)
    (w1 : (Jvm.Cond.methodLink own idx y).before a0 Z = true) (w2 : (Jvm.Cond.static y).before a0 Z = true) (w3 : (Jvm.Cond.initialized y.cls).before a0 Z = true) (w4 : (Jvm.Cond.code y bytes maxL ret).before a0 Z = true) (hy : y.cls ≠ "java/lang/invoke/MethodHandle" ∧ y.cls ≠ "java/lang/invoke/VarHandle")
    (W : Nat) (hf : rm.frames + 1 ≤ R.frames) (hl : W + (maxL + 11) + rm.locals ≤ R.locals) (hcl : cells + rm.cells ≤ R.cells) (hsl : slots + rm.slots ≤ R.slots) (hml : Ls.size = c.maxLocals) (hpd : parseMethodDescriptor y.desc = some ⟨ps, r⟩) (hlen : argsL.length = ps.length) (hstk : stk = argsL.reverse ++ rest) (hW : 2 * 0 + (rest.map fun v => v.category).sum ≤ W) (hd : decode c.code pc = .ok (.invokestatic idx, 3)) (hn : pc + 3 = n)
    (hr : ∀ v T' L, Stand p l e R s m args below meth c T' (locs ++ L) (cells + rm.cells) (slots + rm.slots) → Qv v T'.heap L → Endz p.tables e below Q T' (mkF m n Ls (v.toList ++ rest))) : Endz p.tables e below Q T (mkF m pc Ls stk) := by
  subst hn hstk
  obtain ⟨v, _, ⟨T', L', k', n'⟩, -, X', ⟨L, hQ, l1, y1, z1⟩, st'⟩ := Jvm.LawKit.callS X hx (y := y) hown (mvT hZ w1) (mvT hZ w2) (mvT hZ w3) (mvT hZ w4) hy (backOf (W := W) hM hZ w4 w3 hf hl) (g := mkF m pc Ls (argsL.reverse ++ rest)) rfl hml (argsL := argsL) (rest := rest) (lenOf hpd hlen) rfl hW hd (fun _ _ => ⟨rfl, eT, hcl, hsl⟩)
  dsimp only [Pt.U, Pt.locs, Pt.cells, Pt.slots] at X' l1 y1 z1 st' hQ
  subst l1 y1 z1
  exact Endz.by st' (hr v T' L X' hQ)
theorem c_N (X : Stand p l e R s m args below meth c T locs cells slots) (hx : p.tables.exec = Jvm.exec) (hZ : Z.Warmed39 s.vm) {own : String} {idx : Nat} {y : MethodName} {bytes : ByteArray} {maxL : Nat} {b : Addr} {argsL rest stk : List Value} {ps : List FieldType} {r : Option FieldType} (hy1 : y.name = "<init>") (hown : s.vm.findClass own = some m.cls) (hM : Con l Z y bytes maxL none [] rm (.ref b :: argsL).toArray h Qv) (eT : T.heap = h)
    (w1 : (Jvm.Cond.methodLink own idx y).before a0 Z = true) (w2 : (Jvm.Cond.instanceMethod y).before a0 Z = true) (w3 : (Jvm.Cond.initialized y.cls).before a0 Z = true) (w4 : (Jvm.Cond.code y bytes maxL none).before a0 Z = true) (hy : y.cls ≠ "java/lang/invoke/MethodHandle" ∧ y.cls ≠ "java/lang/invoke/VarHandle")
    (W : Nat) (hf : rm.frames + 1 ≤ R.frames) (hl : W + (maxL + 11) + rm.locals ≤ R.locals) (hcl : cells + rm.cells ≤ R.cells) (hsl : slots + rm.slots ≤ R.slots) (hml : Ls.size = c.maxLocals) (hpd : parseMethodDescriptor y.desc = some ⟨ps, r⟩) (hlen : argsL.length = ps.length) (hstk : stk = argsL.reverse ++ .ref b :: rest) (hW : 2 * 0 + (rest.map fun v => v.category).sum ≤ W) (hd : decode c.code pc = .ok (.invokespecial idx, 3)) (hn : pc + 3 = n)
    (hr : ∀ v T' L, Stand p l e R s m args below meth c T' (locs ++ L) (cells + rm.cells) (slots + rm.slots) → Qv v T'.heap L → Endz p.tables e below Q T' (mkF m n Ls (v.toList ++ rest))) : Endz p.tables e below Q T (mkF m pc Ls stk) := by
  subst hn hstk
  obtain ⟨v, _, ⟨T', L', k', n'⟩, -, X', ⟨L, hQ, l1, y1, z1⟩, st'⟩ := X.specialBack hx (y := y) hy1 hown (mvT hZ w1) (mvT hZ w2) (mvT hZ w4) hy (backOf (W := W) hM hZ w4 w3 hf hl) (g := mkF m pc Ls (argsL.reverse ++ .ref b :: rest)) rfl hml (Steps.refl _) (a := b) (argsL := argsL) (rest := rest) (lenOf hpd hlen) rfl hW hd (fun _ _ => ⟨rfl, eT, hcl, hsl⟩)
  dsimp only [Pt.U, Pt.locs, Pt.cells, Pt.slots] at X' l1 y1 z1 st' hQ
  subst l1 y1 z1
  exact Endz.tr st' (hr v T' L X' hQ)
theorem c_V (X : Stand p l e R s m args below meth c T locs cells slots) (hx : p.tables.exec = Jvm.exec) (hZ : Z.Warmed39 s.vm) {own C : String} {idx : Nat} {y z : MethodName} {bytes : ByteArray} {maxL : Nat} {ret : Option FieldType} {b : Addr} {argsL rest stk : List Value} {ps : List FieldType} {r : Option FieldType} (hown : s.vm.findClass own = some m.cls) (hM : Con l Z z bytes maxL ret [] rm (.ref b :: argsL).toArray h Qv) (eT : T.heap = h) (A : Exa Z h b C)
    (w1 : (Jvm.Cond.methodLink own idx y).before a0 Z = true) (w2 : (Jvm.Cond.declares y).before a0 Z = true) (hnf : NotFace s y) (w5 : (Jvm.Cond.selects C y z).before a0 Z = true) (w6 : (Jvm.Cond.instanceMethod z).before a0 Z = true) (w3 : (Jvm.Cond.initialized z.cls).before a0 Z = true) (w4 : (Jvm.Cond.code z bytes maxL ret).before a0 Z = true) (hy : y.cls ≠ "java/lang/invoke/MethodHandle" ∧ y.cls ≠ "java/lang/invoke/VarHandle")
    (W : Nat) (hf : rm.frames + 1 ≤ R.frames) (hl : W + (maxL + 11) + rm.locals ≤ R.locals) (hcl : cells + rm.cells ≤ R.cells) (hsl : slots + rm.slots ≤ R.slots) (hml : Ls.size = c.maxLocals) (hpd : parseMethodDescriptor y.desc = some ⟨ps, r⟩) (hlen : argsL.length = ps.length) (hstk : stk = argsL.reverse ++ .ref b :: rest) (hW : 2 * 0 + (rest.map fun v => v.category).sum ≤ W) (hd : decode c.code pc = .ok (.invokevirtual idx, 3)) (hn : pc + 3 = n)
    (hr : ∀ v T' L, Stand p l e R s m args below meth c T' (locs ++ L) (cells + rm.cells) (slots + rm.slots) → Qv v T'.heap L → Endz p.tables e below Q T' (mkF m n Ls (v.toList ++ rest))) : Endz p.tables e below Q T (mkF m pc Ls stk) := by
  subst hn hstk
  obtain ⟨cq, kq, qa, qb, qc⟩ := isOf hZ eT A
  obtain ⟨v, _, ⟨T', L', k', n'⟩, -, X', ⟨L, hQ, l1, y1, z1⟩, st'⟩ := X.virtualBack hx (y := y) (z := z) hown (mvT hZ w1) (mvT hZ w2) hnf (mvT hZ w5) (mvT hZ w6) hy (backOf (W := W) hM hZ w4 w3 hf hl) qa qc (g := mkF m pc Ls (argsL.reverse ++ .ref b :: rest)) rfl hml (Steps.refl _) (argsL := argsL) (rest := rest) (lenOf hpd hlen) rfl hW hd (fun _ _ => ⟨rfl, eT, hcl, hsl⟩)
  dsimp only [Pt.U, Pt.locs, Pt.cells, Pt.slots] at X' l1 y1 z1 st' hQ
  subst l1 y1 z1
  exact Endz.tr st' (hr v T' L X' hQ)
/-- Object.<init> -/
theorem c_O (X : Stand p l e R s m args below meth c T locs cells slots) (hx : p.tables.exec = Jvm.exec) (hZ : Z.Warmed39 s.vm) {own : String} {idx : Nat} {b : Addr} (hown : s.vm.findClass own = some m.cls) (w1 : (Jvm.Cond.methodLink own idx Lib.objectInit).before a0 Z = true) (w2 : (Jvm.Cond.instanceMethod Lib.objectInit).before a0 Z = true) (w3 : (Jvm.Cond.code Lib.objectInit ⟨#[0xb1]⟩ 1 none).before a0 Z = true) (eT : T.heap = h) (hml : Ls.size = c.maxLocals) (hd : decode c.code pc = .ok (.invokespecial idx, 3)) (hn : pc + 3 = n)
    (W : Nat) (hf : 1 ≤ R.frames) (hW : 2 * 0 + (st.map fun v => v.category).sum ≤ W) (hl : W + 12 ≤ R.locals) (hr : ∀ T', Stand p l e R s m args below meth c T' locs cells slots → T'.heap = h → Endz p.tables e below Q T' (mkF m n Ls st)) : Endz p.tables e below Q T (mkF m pc Ls (.ref b :: st)) := by
  subst hn
  obtain ⟨T', X', e', st'⟩ := initO X hx hZ hown w1 w2 w3 eT (g := mkF m pc Ls (.ref b :: st)) rfl hml rfl hd hf (W := W) hW hl
  exact Endz.by st' (hr T' X' e')
/-- the clone of an array -/
theorem c_C (X : Stand p l e R s m args below meth c T locs cells slots) (hx : p.tables.exec = Jvm.exec) (hZ : Z.Warmed39 s.vm) {own ad : String} {idx : Nat} (hown : s.vm.findClass own = some m.cls)
    (w1 : (Jvm.Cond.methodLink own idx ⟨ad, "clone", "()Ljava/lang/Object;"⟩).before a0 Z = true) (w2 : (Jvm.Cond.sameMethod ad "java/lang/Object" "clone" "()Ljava/lang/Object;").before a0 Z = true) (w3 : (Jvm.Cond.native ⟨"java/lang/Object", "clone", "()Ljava/lang/Object;"⟩).before a0 Z = true)
    (w4 : (Jvm.Cond.instanceMethod ⟨"java/lang/Object", "clone", "()Ljava/lang/Object;"⟩).before a0 Z = true) (w5 : (Jvm.Cond.selects ad ⟨ad, "clone", "()Ljava/lang/Object;"⟩ ⟨"java/lang/Object", "clone", "()Ljava/lang/Object;"⟩).before a0 Z = true) (w6 : (Jvm.Cond.castable ad "java/lang/Cloneable").before a0 Z = true)
    (eT : T.heap = h) {a : Addr} {k : ClassId} {ty : FieldType} {z : Int32} {vs : List Value} {dv : Value} (F : Arv Z h a k ty z vs dv) (A : Exa Z h a ad) (hml : Ls.size = c.maxLocals) (hd : decode c.code pc = .ok (.invokevirtual idx, 3)) (hn : pc + 3 = n)
    (W cap : Nat) (hf : 1 ≤ R.frames) (hW : 2 * 0 + (st.map fun v => v.category).sum ≤ W) (hl : W + 14 ≤ R.locals) (hcap : z.toNatClampNeg ≤ cap) (hc : cells + 1 ≤ R.cells) (hsl : slots + cap ≤ R.slots)
    (hr : ∀ T' h' b, b = h.size → Stand p l e R s m args below meth c T' locs (cells + 1) (slots + cap) → T'.heap = h' → Ext h h' → Arv Z h' b k ty z vs dv → Exa Z h' b ad → Endz p.tables e below Q T' (mkF m n Ls (.ref b :: st))) : Endz p.tables e below Q T (mkF m pc Ls (.ref a :: st)) := by
  subst hn
  obtain ⟨T', h', X', e', E', V', A', st'⟩ := cloneH X hx hZ hown w1 w2 w3 w4 w5 w6 eT F.arh A (g := mkF m pc Ls (.ref a :: st)) rfl hml rfl hd hf (W := W) (cap := cap) hW hl hcap hc hsl
  exact Endz.by st' (hr T' h' _ rfl X' e' E' V' A')
theorem k_C (X : Stand p l e R s m args below meth c T locs cells slots) (hx : p.tables.exec = Jvm.exec) (hZ : Z.Warmed39 s.vm) {own K : String} {idx : Nat} (hown : s.vm.findClass own = some m.cls) (w : (Jvm.Cond.classLink own idx K).before a0 Z = true) (eT : T.heap = h) {a : Addr} (F : Ins Z h a K true) (hd : decode c.code pc = .ok (.checkcast idx, 3)) (hn : pc + 3 = n)
    (hr : ∀ T', Stand p l e R s m args below meth c T' locs cells slots → T'.heap = h → Endz p.tables e below Q T' (mkF m n Ls (.ref a :: st))) : Endz p.tables e below Q T (mkF m pc Ls (.ref a :: st)) := by
  subst hn
  obtain ⟨T', X', e', st'⟩ := castY X hx hZ hown w eT F (g := mkF m pc Ls (.ref a :: st)) rfl rfl hd
  exact Endz.by st' (hr T' X' e')
theorem i_Y (X : Stand p l e R s m args below meth c T locs cells slots) (hx : p.tables.exec = Jvm.exec) (hZ : Z.Warmed39 s.vm) {own K : String} {idx : Nat} (hown : s.vm.findClass own = some m.cls) (w : (Jvm.Cond.classLink own idx K).before a0 Z = true) (eT : T.heap = h) {a : Addr} (F : Ins Z h a K true) (hd : decode c.code pc = .ok (.instanceof idx, 3)) (hn : pc + 3 = n)
    (hr : ∀ T', Stand p l e R s m args below meth c T' locs cells slots → T'.heap = h → Endz p.tables e below Q T' (mkF m n Ls (.int 1 :: st))) : Endz p.tables e below Q T (mkF m pc Ls (.ref a :: st)) := by
  subst hn
  obtain ⟨T', X', e', st'⟩ := instY X hx hZ hown w eT F (g := mkF m pc Ls (.ref a :: st)) rfl rfl hd
  exact Endz.by st' (hr T' X' e')
theorem Ext.keep1 {h0 h h' : Heap} {b : Addr} (E : Ext h0 h) (K : Keep h h' [b]) (q : h0.size ≤ b) : Ext h0 h' := ⟨Nat.le_trans E.1 K.1, fun a c z => K.2.1 a c (E.2 a c z) (ninS (fun e => by subst e; exact absurd (Array.getElem?_eq_some_iff.mp z).1 (Nat.not_lt.mpr q)) nin0)⟩
/-- System.arraycopy -/
theorem c_Y (X : Stand p l e R s m args below meth c T locs cells slots) (hx : p.tables.exec = Jvm.exec) (hZ : Z.Warmed39 s.vm) {own : String} {idx : Nat} (hown : s.vm.findClass own = some m.cls)
    (w1 : (Jvm.Cond.methodLink own idx Jvm.Stand.acN).before a0 Z = true) (w2 : (Jvm.Cond.native Jvm.Stand.acN).before a0 Z = true) (w3 : (Jvm.Cond.static Jvm.Stand.acN).before a0 Z = true) (w4 : (Jvm.Cond.initialized "java/lang/System").before a0 Z = true) (eT : T.heap = h)
    {a b : Addr} {k k' : ClassId} {ty : FieldType} {z z' sp dp nn : Int32} {vs vd us : List Value} {dv dd : Value} (A : Arv Z h a k ty z vs dv) (B : Arv Z h b k' ty z' vd dd) (hty : refKind ty = false)
    (h1 : ¬ sp < 0) (h2 : ¬ dp < 0) (h3 : ¬ nn < 0) (h4 : sp.toNatClampNeg + nn.toNatClampNeg ≤ z.toNatClampNeg) (h5 : dp.toNatClampNeg + nn.toNatClampNeg ≤ z'.toNatClampNeg)
    (hus : us = (List.range nn.toNatClampNeg).map fun i => vs.getD (sp.toNatClampNeg + i) dv) (hl : dp.toNatClampNeg + nn.toNatClampNeg ≤ vd.length) {n0 : Nat} (N : Fr n0 locs) (ge : n0 ≤ b) (hml : Ls.size = c.maxLocals) (hd : decode c.code pc = .ok (.invokestatic idx, 3)) (hn : pc + 3 = n)
    (W : Nat) (hf : 1 ≤ R.frames) (hW : 2 * 0 + (st.map fun v => v.category).sum ≤ W) (hlo : W + (nativeFrameWords "java/lang/System" "arraycopy" 5 + 11) ≤ R.locals)
    (hr : ∀ T' h' L, Stand p l e R s m args below meth c T' L cells slots → T'.heap = h' → Fr n0 L → Keep h h' [b] → Arv Z h' b k' ty z' (vd.take dp.toNatClampNeg ++ us ++ vd.drop (dp.toNatClampNeg + nn.toNatClampNeg)) dd → Endz p.tables e below Q T' (mkF m n Ls st)) : Endz p.tables e below Q T (mkF m pc Ls (.int nn :: .int dp :: .ref b :: .int sp :: .ref a :: st)) := by
  subst hn
  obtain ⟨T', h', L, X', e', N', K', V', st'⟩ := cpA X hx hZ hown w1 w2 w3 w4 eT A B (Or.inl ⟨rfl, hty⟩) h1 h2 h3 h4 h5 hus hl N ge (g := mkF m pc Ls (.int nn :: .int dp :: .ref b :: .int sp :: .ref a :: st)) rfl hml rfl hd hf (W := W) hW hlo
  exact Endz.by st' (hr T' h' L X' e' N' K' V')
end Heap
section Start
variable {args : Array Value} {s : State}
/-- a static that the case says to be exactly of a class -/
theorem sta_v {C nm d K : String} (h : (Jvm.Cond.exactly (.static C nm d) K).value args s none s [] = some true) (wi : (Jvm.Cond.initialized C).before args s = true) (wl : (Jvm.Cond.laysStatic C nm d).before args s = true) : ∃ a, (Term.static C nm d).eval args s none [] s = some (.ref a) ∧ Exa s s.heap a K ∧ Sta s s.heap C nm d (.ref a) := by
  obtain ⟨a, ev⟩ := exa_v h
  exact ⟨a, ev, Exa.start ev h, Sta.start ev (Or.inr ⟨wi, wl⟩)⟩
/-- a field of it that the case says to be an int -/
theorem fldi_v {t : Term} {a : Addr} {C nm d : String} {k : Int32} (ev : t.eval args s none [] s = some (.ref a)) (h : (Jvm.Cond.eq (.field t C nm d) (.int k)).value args s none s [] = some true) : Fld s s.heap a C nm d (.int k) := by
  obtain ⟨x, y, e1, e2, k1, k2⟩ := cmp_v (Or.inl h)
  have hy : y = .int k := by have := (Term.int_eval (args := args) (first := s) (o := none) (idx := []) (s := s) k).symm.trans e2; exact (Option.some.inj this).symm
  subst hy
  obtain ⟨z, rfl⟩ := k2
  have := gotT (Cond.eq_ints e1 e2) h
  subst this
  exact Fld.start (by rw [← fld_at ev]; exact e1)
theorem len_is {t : Term} {a : Addr} {cl : Cell} {z : Int32} (ev : t.eval args s none [] s = some (.ref a)) (hc : s.heap[a]? = some cl) (h : (Jvm.Cond.eq (.length t) (.int z)).value args s none s [] = some true) : cl.slots.size < 2 ^ 31 ∧ cl.slots.size.toInt32 = z := by
  obtain ⟨x, y, e1, e2, -, k2⟩ := cmp_v (Or.inl h)
  cases (Term.int_eval (args := args) (first := s) (o := none) (idx := []) (s := s) z).symm.trans e2
  obtain ⟨w, rfl⟩ := k2
  have hw := gotT (Cond.eq_ints e1 e2) h
  subst hw
  simp only [Term.eval, ev, Option.bind_eq_bind, Option.bind_some] at e1
  cases ha : s.arrayAt? a with
  | none => simp [ha] at e1
  | some c2 =>
    cases hc.symm.trans (State.arrayAt?_spec ha).1
    by_cases hb : cl.slots.size < 2 ^ 31
    · simp [ha, hb] at e1; exact ⟨hb, e1⟩
    · simp [ha, hb] at e1
theorem elem_is {t u : Term} {a : Addr} {cl : Cell} {j : Int32} {v : Value} (ev : t.eval args s none [] s = some (.ref a)) (hc : s.heap[a]? = some cl) (eu : u.eval args s none [] s = some v) (hv : v.isRef = true) (h : (Jvm.Cond.eq (.elem t (.int j)) u).value args s none s [] = some true) : cl.slots[j.toNatClampNeg]? = some v := by
  obtain ⟨x, y, e1, e2, k1, k2⟩ := cmp_v (Or.inl h)
  cases eu.symm.trans e2
  have hx : x.isRef = true := by
    rcases ref_cases hv with rfl | ⟨b, rfl⟩
    · exact k2.2
    · exact k2.2
  have hw := gotT (eq_R e1 eu hx hv) h
  subst hw
  exact (elem_in e1 ev (Term.int_eval _) hc).2
theorem elemi_is {t : Term} {a : Addr} {cl : Cell} {j k : Int32} (ev : t.eval args s none [] s = some (.ref a)) (hc : s.heap[a]? = some cl) (h : (Jvm.Cond.eq (.elem t (.int j)) (.int k)).value args s none s [] = some true) : cl.slots[j.toNatClampNeg]? = some (.int k) := by
  obtain ⟨x, y, e1, e2, -, k2⟩ := cmp_v (Or.inl h)
  cases (Term.int_eval (args := args) (first := s) (o := none) (idx := []) (s := s) k).symm.trans e2
  obtain ⟨w, rfl⟩ := k2
  have hw := gotT (Cond.eq_ints e1 e2) h
  subst hw
  exact (elem_in e1 ev (Term.int_eval _) hc).2
theorem fldr_v {t : Term} {a b : Addr} {C nm d : String} (ev : t.eval args s none [] s = some (.ref a)) (h : (Term.field t C nm d).eval args s none [] s = some (.ref b)) : Fld s s.heap a C nm d (.ref b) := Fld.start (by rw [← fld_at ev]; exact h)
theorem eleml_is {t : Term} {a : Addr} {cl : Cell} {j : Int32} {k : Int64} (ev : t.eval args s none [] s = some (.ref a)) (hc : s.heap[a]? = some cl) (h : (Jvm.Cond.eq (.elem t (.int j)) (.long k)).value args s none s [] = some true) : cl.slots[j.toNatClampNeg]? = some (.long k) := by
  obtain ⟨x, y, e1, e2, -, k2⟩ := cmp_v (Or.inl h)
  have hk : (Term.long k).eval args s none [] s = some (.long k) := rfl
  cases hk.symm.trans e2
  obtain ⟨w, rfl⟩ := k2
  have hw := gotT (eq_L e1 e2) h
  subst hw
  exact (elem_in e1 ev (Term.int_eval _) hc).2
end Start
section Index
theorem i0_toInt : (0 : Int32).toInt = 0 := by decide
/-- (x & MAX) mod m is a place below m -/
theorem idx_mod (x m : Int32) (M : Nat) (hm : m.toInt = M) (hM : 0 < M) : ¬ ((x &&& 2147483647) % m < 0) ∧ (x &&& 2147483647) % m < m ∧ ((x &&& 2147483647) % m).toNatClampNeg < M := by
  have h1 := c_mask x 2147483647 31 (by decide) (by decide)
  have h2 := (c_irem (x &&& 2147483647) m M hm).1 (by rw [h1]; exact Int.emod_nonneg _ (by decide))
  have h3 := Int.emod_nonneg (x &&& 2147483647).toInt (show (M : Int) ≠ 0 by omega)
  have h4 := Int.emod_lt_of_pos (x &&& 2147483647).toInt (show (0 : Int) < M by omega)
  generalize (x &&& 2147483647) % m = n at h2 ⊢
  have h5 : ¬ n < 0 := by rw [Int32.lt_iff_toInt_lt, i0_toInt]; omega
  have h6 := nat_of h5
  exact ⟨h5, by rw [Int32.lt_iff_toInt_lt, hm]; omega, by omega⟩
theorem idx_eq {n k : Int32} {j : Nat} (h : ¬ n < 0) (hk : k.toInt = j) : n = k ↔ n.toNatClampNeg = j := by
  have h6 := nat_of h
  rw [← Int32.toInt_inj]; omega
theorem getD_map (ws : List Addr) (j : Nat) (h : j < ws.length) : (ws.map Value.ref).getD j .null = .ref (ws.getD j 0) := by
  simp [List.getD_eq_getElem?_getD, List.getElem?_eq_getElem, h]
theorem getD_mapI (ws : List Int32) (j : Nat) : (ws.map Value.int).getD j (.int 0) = .int (ws.getD j 0) := by
  simp only [List.getD_eq_getElem?_getD, List.getElem?_map]
  cases ws[j]? <;> rfl
theorem getD_mapJ (ws : List Int64) (j : Nat) : (ws.map Value.long).getD j (.long 0) = .long (ws.getD j 0) := by
  simp only [List.getD_eq_getElem?_getD, List.getElem?_map]
  cases ws[j]? <;> rfl
/-! small naturals as ints -/
theorem nat_toInt {n : Nat} (h : n < 2147483648) : (Int32.ofNat n).toInt = n := Int32.toInt_ofNat_small h
theorem nat_clamp {n : Nat} (h : n < 2147483648) : (Int32.ofNat n).toNatClampNeg = n := by
  show (Int32.ofNat n).toInt.toNat = n
  rw [nat_toInt h]; rfl
theorem nat_nn {n : Nat} (h : n < 2147483648) : ¬ Int32.ofNat n < 0 := by rw [Int32.lt_iff_toInt_lt, nat_toInt h, i0_toInt]; omega
theorem nat_lt {n k : Nat} (h : n < 2147483648) (h' : k < 2147483648) : Int32.ofNat n < Int32.ofNat k ↔ n < k := by rw [Int32.lt_iff_toInt_lt, nat_toInt h, nat_toInt h']; omega
theorem nat_eq {n k : Nat} (h : n < 2147483648) (h' : k < 2147483648) : Int32.ofNat n = Int32.ofNat k ↔ n = k := by rw [← Int32.toInt_inj, nat_toInt h, nat_toInt h']; omega
theorem nat_up (n : Nat) : Int32.ofNat n + 1 = Int32.ofNat (n + 1) := by simp [Int32.ofNat_add]
theorem Fld.fun {Z : State} {h : Heap} {a : Addr} {C n d : String} {v w : Value} (F : Fld Z h a C n d v) (G : Fld Z h a C n d w) : v = w := Classical.byContradiction fun q => F.ne G q rfl
end Index
section Wide
variable {p : Program} {l : Launch} {e : Env} {R : Room} {s : State} {m : MethodId} {args : Array Value} {below : List Frame} {meth : Method} {c : Code} {T : State} {locs : List Loc} {cells slots : Nat} {Z : State} {a0 : Array Value} {h hB : Heap} {pc n : Nat} {Ls : Array Slot} {st : List Value} {rm : Room} {vm0 vmB : Vm} {EL : List (String × Nat)} {Q : Outcome → State → Prop} {Qw : Option Value → Vm → Heap → List Loc → Prop} {k0 : Nat}
/-- a String of the given bytes -/
def Strz (Z : State) (h : Heap) (a : Addr) (ws : List Int32) : Prop := Exa Z h a "java/lang/String" ∧ Fld Z h a "java/lang/String" "coder" "B" (.int 0) ∧ ∃ b k z, Fld Z h a "java/lang/String" "value" "[B" (.ref b) ∧ Arv Z h b k .byte z (ws.map Value.int) (.int 0) ∧ ¬ z < 0 ∧ z.toNatClampNeg = ws.length
theorem Strz.ext {h h' : Heap} {a : Addr} {ws : List Int32} (F : Strz Z h a ws) (E : Ext h h') : Strz Z h' a ws := by
  obtain ⟨A, F, b, k, z, G, V, r⟩ := F
  exact ⟨A.ext E, F.ext E, b, k, z, G.ext E, V.ext E, r⟩
theorem Strz.fun {h : Heap} {a : Addr} {ws ws' : List Int32} (F : Strz Z h a ws) (G : Strz Z h a ws') : ws = ws' := by
  obtain ⟨A, F, b, k, z, B, V, z0, zl⟩ := F
  obtain ⟨A', F', b', k', z', B', V', z0', zl'⟩ := G
  have q : b = b' := Value.ref.inj (Fld.fun B B')
  subst q
  obtain ⟨c1, a1, -, s1, -, h1, -⟩ := V
  obtain ⟨c2, b1, -, s2, -, h2, -⟩ := V'
  cases a1.1.symm.trans b1.1
  have hl : ws.length = ws'.length := by rw [← zl, ← zl', ← s1, ← s2]
  refine List.ext_getElem hl fun i i1 i2 => ?_
  have e1 := h1 i (by rw [s1, zl]; exact i1)
  have e2 := h2 i (by rw [s1, zl]; exact i1)
  have e3 := Option.some.inj (e1.symm.trans e2)
  simp [List.getD_eq_getElem?_getD, i1, i2] at e3
  exact e3
/-- what the run leaves, where literals may be loaded -/
abbrev FinW (s : State) (rm : Room) (Qw : Option Value → Vm → Heap → List Loc → Prop) : Outcome → State → Prop := fun o U' => ∃ v L, o = .returned v ∧ Qw v U'.vm U'.heap L ∧ ReturnedEndW s o U' L rm.cells rm.slots
abbrev ConW (l : Launch) (Z : State) (EL : List (String × Nat)) (vmB : Vm) (y : MethodName) (bytes : ByteArray) (maxL : Nat) (ret : Option FieldType) (ws : List Jvm.Cond) (rm : Room) (as : Array Value) (h0 : Heap) (Qw : Option Value → Vm → Heap → List Loc → Prop) : Prop :=
  MetFree l y (head1 (Jvm.Cond.code y bytes maxL ret :: ws) rm) (fun a U => a = as ∧ Z.Warmed39 U.vm ∧ U.heap = h0 ∧ CHr Z EL vmB h0 U.vm h0) (fun _ _ _ _ _ => True) (fun _ U o U' => ∃ v L, o = .returned v ∧ Qw v U'.vm U'.heap L ∧ ReturnedEndW U o U' L rm.cells rm.slots)
theorem conW_of {y : MethodName} {bytes : ByteArray} {maxL : Nat} {ret : Option FieldType} {ws : List Jvm.Cond} {as : Array Value} {h0 : Heap} (hn : plainFor y = true)
    (body : ∀ (p : Program) (e : Env) (s : State) (vm0 : Vm) (m : MethodId) (below : List Frame) (meth : Method) (c : Code) (T : State), Stand p l e rm (s.setVm vm0) m as below meth c T [] 0 0 → p.tables.exec = Jvm.exec → Z.Warmed39 (s.setVm vm0).vm → c.code = bytes → c.maxLocals = maxL → (s.setVm vm0).vm.findClass y.cls = some m.cls → meth.sig.returnType = ret → meth.name = y.name → meth.locks = false → T.heap = h0 → s.Since vm0 h0.size → CHr Z EL vmB h0 vm0 h0 → Endz p.tables e below (FinW s rm Qw) T (entryFrame m as maxL)) :
    ConW l Z EL vmB y bytes maxL ret ws rm as h0 Qw := by
  refine MetFree.of_bodySF hn hisR ?_
  intro p e s m args below meth c s₁ Bd hml0 hP hK
  obtain ⟨rfl, hZ, hh, hC⟩ := hP
  have X0 : Stand p l e rm s m args below meth c s₁ [] 0 0 := Stand.of_body Bd
  exact body p e s s.vm m below meth c s₁ X0 Bd.exec hZ Bd.bytes hml0 (findClass_of_methodNamed Bd.named) Bd.returns (name_of_methodNamed Bd.named Bd.method).1 Bd.notSynchronized (by rw [← hh, Bd.state]; rfl) ((State.WarmedH.refl s).since _) hC
theorem finW_of (X : Stand p l e R (s.setVm vm0) m args below meth c T locs cells slots) (hlk : meth.locks = false) (eT : T.heap = h) (hS : s.Since vm0 k0) (hk : k0 ≤ h.size) {v : Option Value} {g : JFrame} (hv : meth.sig.returnType = none → v = none) (hc : cells ≤ rm.cells) (hs : slots ≤ rm.slots) (hQ : Qw v T.vm h locs)
    (hstep : ∀ fs, (∀ (f : JFrame) (acts : List Action), f.method = m → f.locked = none → f.entered = [] → (doReturn e (T.setTop f) acts v).1 = T.setFrames fs) → Steps p.tables e below (T.setTop g) (T.setFrames fs)) : Endz p.tables e below (FinW s rm Qw) T g := by
  obtain ⟨fs, hr, hrun, hended, hE⟩ := X.leaveW hS (by rw [eT]; exact hk) (v := v) hv hlk
  have hQ' : Qw v (T.setFrames fs).vm (T.setFrames fs).heap locs := by show Qw v T.vm T.heap locs; rw [eT]; exact hQ
  exact ⟨_, _, hstep fs hr, hrun, hended, v, locs, rfl, hQ', hE.1, hE.2.1, hE.2.2.1, hE.2.2.2.mono hc hs⟩
theorem finW_Z (X : Stand p l e R (s.setVm vm0) m args below meth c T locs cells slots) (hx : p.tables.exec = Jvm.exec) (hlk : meth.locks = false) (eT : T.heap = h) (hS : s.Since vm0 k0) (hk : k0 ≤ h.size) {t : FieldType} {z : Int32} (hret : meth.sig.returnType = some t) (ht : t = .boolean ∨ t = .byte ∨ t = .char ∨ t = .short) (hd : decode c.code pc = .ok (.ireturn, 1)) (hc : cells ≤ rm.cells) (hs : slots ≤ rm.slots) (hQ : Qw (some (.int (nar t z))) T.vm h locs) :
    Endz p.tables e below (FinW s rm Qw) T (mkF m pc Ls (.int z :: st)) :=
  finW_of X hlk eT hS hk (fun q => by rw [hret] at q; cases q) hc hs hQ fun fs hl => retN X hx hret ht hd hl
theorem finW_V (X : Stand p l e R (s.setVm vm0) m args below meth c T locs cells slots) (hx : p.tables.exec = Jvm.exec) (hlk : meth.locks = false) (eT : T.heap = h) (hS : s.Since vm0 k0) (hk : k0 ≤ h.size) (hret : meth.sig.returnType = none) (hd : decode c.code pc = .ok (.return_, 1)) (hc : cells ≤ rm.cells) (hs : slots ≤ rm.slots) (hQ : Qw none T.vm h locs) :
    Endz p.tables e below (FinW s rm Qw) T (mkF m pc Ls []) :=
  finW_of X hlk eT hS hk (fun _ => rfl) hc hs hQ fun fs hl => X.returnOut hx hret hd hl
theorem finW_A (X : Stand p l e R (s.setVm vm0) m args below meth c T locs cells slots) (hx : p.tables.exec = Jvm.exec) (hlk : meth.locks = false) (eT : T.heap = h) (hS : s.Since vm0 k0) (hk : k0 ≤ h.size) {w : Value} {t : FieldType} (hret : meth.sig.returnType = some t) (hn : narrow t w = w) (ht : t.isReference = true) (hw : w.isRef = true) (hd : decode c.code pc = .ok (.areturn, 1)) (hc : cells ≤ rm.cells) (hs : slots ≤ rm.slots) (hQ : Qw (some w) T.vm h locs) :
    Endz p.tables e below (FinW s rm Qw) T (mkF m pc Ls (w :: st)) :=
  finW_of X hlk eT hS hk (fun q => by rw [hret] at q; cases q) hc hs hQ fun fs hl => retOut X hx hret hn (Or.inr (Or.inr (Or.inr (Or.inr ⟨rfl, ht, hw⟩)))) hd hl
/-- what is booked now, of a walk that goes on over the tables at hand -/
theorem CHr.now (X : Stand p l e R (s.setVm vm0) m args below meth c T locs cells slots) (hZ : Z.Warmed39 vm0) (w : EW Z a0 EL) (H : CHr Z EL vmB hB vm0 h) : CHr Z EL vmB hB T.vm h := H.trans (CHv.at X hZ w H.1)
/-- a literal of the list loaded -/
theorem k_S (X : Stand p l e R (s.setVm vm0) m args below meth c T locs cells slots) (hx : p.tables.exec = Jvm.exec) (hZ : Z.Warmed39 (s.setVm vm0).vm) {own text : String} {idx : Nat} (hown : (s.setVm vm0).vm.findClass own = some m.cls) (w : (Jvm.Cond.stringLink own idx text).before a0 Z = true) (wS : ∀ a ∈ Bundle.stringAtoms, a.before a0 Z = true) (eT : T.heap = h) (hS : s.Since vm0 k0) (hk : k0 ≤ h.size) (hEL : EW Z a0 EL) (hmem : (own, idx) ∈ EL) (H : CHr Z EL vmB hB vm0 h)
    (ws : List Int32) (z : Int32) (ht : (∀ c ∈ text.toList, c.toNat < 256) ∧ text.toList.map (fun c => Value.int (Jvm.Lit.byteI c.toNat.toUInt16)) = ws.map Value.int) (hz : ¬ z < 0) (hl : z.toNatClampNeg = ws.length) (hd : decode c.code pc = .ok (.ldc idx, 2)) (hn : pc + 2 = n) (N : Nat) (hN : 4 * text.toList.length ≤ N) (hbig : N ≤ 536870912) (hc : cells + 2 ≤ R.cells) (hsl : slots + (N + 4) ≤ R.slots)
    (hr : ∀ T' h' k1 a, Stand p l e R (s.setVm T'.vm) m args below meth c T' locs (cells + 2) (slots + (N + 4)) → T'.heap = h' → Ext h h' → s.Since T'.vm k1 → k1 ≤ h'.size → Z.Warmed39 (s.setVm T'.vm).vm → (s.setVm T'.vm).vm.findClass own = some m.cls → Strz Z h' a ws → CHr Z EL vmB hB T'.vm h' → Lit (s.setVm T'.vm) own idx a → (∀ x, Safe Z EL T'.vm h' x → x ≠ a) → Endz p.tables e below Q T' (mkF m n Ls (.ref a :: st))) : Endz p.tables e below Q T (mkF m pc Ls st) := by
  subst hn
  obtain ⟨a, T', h', k1, b, k, X', e', E', hS', hk', hZ', hown', A, F, G, V, -, -, C', L', nb, st'⟩ := ldcCH X hx hZ hown w wS eT hS hk hEL hmem H.1 ht hz (by rw [hl, List.length_map]) (g := mkF m pc Ls st) rfl hd hN hbig hc hsl
  exact Endz.by st' (hr T' h' k1 a X' e' E' hS' hk' hZ' hown' ⟨A, F, b, k, z, G, V, hz, hl⟩ (H.trans C') L' (fun x S => (nb x S).1))
/-- .. and loaded again: nothing moves -/
theorem k_S2 (X : Stand p l e R (s.setVm vm0) m args below meth c T locs cells slots) (hx : p.tables.exec = Jvm.exec) (hZ : Z.Warmed39 (s.setVm vm0).vm) {own text : String} {idx : Nat} (hown : (s.setVm vm0).vm.findClass own = some m.cls) (w : (Jvm.Cond.stringLink own idx text).before a0 Z = true) {a : Addr} (L : Lit (s.setVm vm0) own idx a) (hd : decode c.code pc = .ok (.ldc idx, 2)) (hn : pc + 2 = n)
    (hr : Endz p.tables e below Q T (mkF m n Ls (.ref a :: st))) : Endz p.tables e below Q T (mkF m pc Ls st) := by
  subst hn
  exact Endz.by (ldcAgain X hx hZ hown w L (g := mkF m pc Ls st) rfl hd) hr
/-- a callee that may load literals -/
theorem backW {y : MethodName} {bytes : ByteArray} {maxL : Nat} {ret : Option FieldType} {len W : Nat} {as' : Array Value} (hM : ConW l Z EL vm0 y bytes maxL ret [] rm as' h Qw)
    (hZ : Z.Warmed39 vm0) (wc : (Jvm.Cond.code y bytes maxL ret).before a0 Z = true) (wz : (Jvm.Cond.initialized y.cls).before a0 Z = true) (hf : rm.frames + 1 ≤ R.frames) (hl : W + (maxL + 11) + rm.locals ≤ R.locals) (hEL : EW Z a0 EL) (H : CHv Z EL vm0 h) :
    BackS l R p e below (s.setVm vm0) args y len W (fun A a => a = as' ∧ A.U.heap = h ∧ A.cells + rm.cells ≤ R.cells ∧ A.slots + rm.slots ≤ R.slots)
      (fun A _ v B => ∃ L, Qw v B.U.vm B.U.heap L ∧ B.locs = A.locs ++ L ∧ B.cells = A.cells + rm.cells ∧ B.slots = A.slots + rm.slots) :=
  BackS.of_freeW (bytes := bytes) (maxL := maxL) (ret := ret) (E := fun _ _ o t L k n => k = rm.cells ∧ n = rm.slots ∧ ∃ v, o = .returned v ∧ Qw v t.vm t.heap L) hM hf hl
    (fun m meth c A a Y hp => have hU : Z.Warmed39 A.U.vm := wtrans (s := s.setVm vm0) hZ Y.warmed
      ⟨by show (Jvm.Cond.and _ .tt).before a A.U = true; rw [Cond.before_and, mv hU wc]; rfl, mv hU wc, mv hU wz, hp.2.2.1, hp.2.2.2⟩)
    (fun m meth c A a g mk Y hp => ⟨hp.1, wtrans (s := s.setVm vm0) hZ Y.warmed, hp.2.1, by have q := CHv.at Y hZ hEL H; exact q⟩) (fun _ _ _ _ _ _ _ _ _ => trivial)
    (fun _ _ _ _ ⟨v, L, h1, h2, h3⟩ => ⟨L, _, _, h3, rfl, rfl, v, h1, h2⟩)
    (fun m meth c A a g mk v t L k n Y hp _ _ ⟨e1, e2, v', e3, e4⟩ => by cases e3; subst e1 e2; exact ⟨L, e4, rfl, rfl, rfl⟩)
theorem c_NW (X : Stand p l e R (s.setVm vm0) m args below meth c T locs cells slots) (hx : p.tables.exec = Jvm.exec) (hZ : Z.Warmed39 (s.setVm vm0).vm) {own : String} {idx : Nat} {y : MethodName} {bytes : ByteArray} {maxL : Nat} {b : Addr} {argsL rest stk : List Value} {ps : List FieldType} {r : Option FieldType} (hy1 : y.name = "<init>") (hown : (s.setVm vm0).vm.findClass own = some m.cls) (hM : ConW l Z EL vm0 y bytes maxL none [] rm (.ref b :: argsL).toArray h Qw) (eT : T.heap = h) (hS : s.Since vm0 k0) (hk : k0 ≤ h.size) (hEL : EW Z a0 EL) (H : CHv Z EL vm0 h)
    (w1 : (Jvm.Cond.methodLink own idx y).before a0 Z = true) (w2 : (Jvm.Cond.instanceMethod y).before a0 Z = true) (w3 : (Jvm.Cond.initialized y.cls).before a0 Z = true) (w4 : (Jvm.Cond.code y bytes maxL none).before a0 Z = true) (hy : y.cls ≠ "java/lang/invoke/MethodHandle" ∧ y.cls ≠ "java/lang/invoke/VarHandle")
    (W : Nat) (hf : rm.frames + 1 ≤ R.frames) (hl : W + (maxL + 11) + rm.locals ≤ R.locals) (hcl : cells + rm.cells ≤ R.cells) (hsl : slots + rm.slots ≤ R.slots) (hml : Ls.size = c.maxLocals) (hpd : parseMethodDescriptor y.desc = some ⟨ps, r⟩) (hlen : argsL.length = ps.length) (hstk : stk = argsL.reverse ++ .ref b :: rest) (hW : 2 * 0 + (rest.map fun v => v.category).sum ≤ W) (hd : decode c.code pc = .ok (.invokespecial idx, 3)) (hn : pc + 3 = n)
    (hr : ∀ v T' L, Stand p l e R (s.setVm T'.vm) m args below meth c T' (locs ++ L) (cells + rm.cells) (slots + rm.slots) → s.Since T'.vm T'.heap.size → Z.Warmed39 (s.setVm T'.vm).vm → (s.setVm T'.vm).vm.findClass own = some m.cls → Qw v T'.vm T'.heap L → Endz p.tables e below Q T' (mkF m n Ls (v.toList ++ rest))) : Endz p.tables e below Q T (mkF m pc Ls stk) := by
  subst hn hstk
  obtain ⟨v, _, ⟨T', L', k', n'⟩, -, X', hS', hg', ⟨L, hQ, l1, y1, z1⟩, st'⟩ := X.specialBackS hx (y := y) hy1 hown (mvT hZ w1) (mvT hZ w2) (mvT hZ w4) hy (backW (W := W) hM hZ w4 w3 hf hl hEL H) (g := mkF m pc Ls (argsL.reverse ++ .ref b :: rest)) rfl hml (Steps.refl _) (a := b) (argsL := argsL) (rest := rest) (lenOf hpd hlen) rfl hW hd (fun _ _ => ⟨rfl, eT, hcl, hsl⟩)
  dsimp only [Pt.U, Pt.locs, Pt.cells, Pt.slots] at X' l1 y1 z1 st' hQ hS' hg'
  subst l1 y1 z1
  exact Endz.tr st' (hr v T' L X' (foldS hS (by rw [eT]; exact hk) hS' hg') (State.Warmed39.trans (t := s.setVm vm0) hZ hS'.1) (by rw [show (s.setVm T'.vm).vm = T'.vm from rfl, hS'.1.alike.findClass]; exact hown) hQ)
/-- instanceof of null -/
theorem i_N (X : Stand p l e R s m args below meth c T locs cells slots) (hx : p.tables.exec = Jvm.exec) {idx : Nat} (hd : decode c.code pc = .ok (.instanceof idx, 3)) (hn : pc + 3 = n) (hr : Endz p.tables e below Q T (mkF m n Ls (.int 0 :: st))) : Endz p.tables e below Q T (mkF m pc Ls (.null :: st)) := by
  subst hn
  exact Endz.by (X.instanceofNull hx (g := mkF m pc Ls (.null :: st)) rfl (rest := st) rfl hd) hr
/-- checkcast of null -/
theorem k_CN (X : Stand p l e R s m args below meth c T locs cells slots) (hx : p.tables.exec = Jvm.exec) {idx : Nat} (hd : decode c.code pc = .ok (.checkcast idx, 3)) (hn : pc + 3 = n) (hr : Endz p.tables e below Q T (mkF m n Ls (.null :: st))) : Endz p.tables e below Q T (mkF m pc Ls (.null :: st)) := by
  subst hn
  exact Endz.by (X.checkcastNull hx (g := mkF m pc Ls (.null :: st)) rfl (rest := st) rfl hd) hr
end Wide
section Build
variable {p : Program} {l : Launch} {e : Env} {R : Room} {s : State} {m : MethodId} {args : Array Value} {below : List Frame} {meth : Method} {c : Code} {T : State} {locs : List Loc} {cells slots : Nat} {Z : State} {a0 : Array Value} {h hB : Heap} {pc n : Nat} {Ls : Array Slot} {st : List Value} {rm : Room} {Q : Outcome → State → Prop} {Qv : Option Value → Heap → List Loc → Prop}
theorem declares_of {y : MethodName} {bytes : ByteArray} {maxL : Nat} {ret : Option FieldType} (w1 : (Jvm.Cond.instanceMethod y).before a0 Z = true) (w2 : (Jvm.Cond.code y bytes maxL ret).before a0 Z = true) : (Jvm.Cond.declares y).before a0 Z = true := by
  obtain ⟨mk, methM, hnamed, hmethM, hstM, habM⟩ := Cond.instanceMethod_spec w1
  obtain ⟨m2, cM, q1, -, -, -, -, -, -, hsig⟩ := Cond.code_spec hnamed w2
  cases hmethM.symm.trans q1
  simp [Cond.before, Cond.holds, Cond.value, hnamed, hmethM, hstM, hsig]
theorem same_of {y y' : MethodName} {C : String} (w1 : (Jvm.Cond.instanceMethod y).before a0 Z = true) (w2 : (Jvm.Cond.selects C y' y').before a0 Z = true) (hc : y'.cls = y.cls) (hy : y.cls ≠ "java/lang/invoke/MethodHandle" ∧ y.cls ≠ "java/lang/invoke/VarHandle") : (Jvm.Cond.sameMethod y.cls y.cls y.name y.desc).before a0 Z = true := by
  obtain ⟨mk, methM, hnamed, hmethM, hstM, habM⟩ := Cond.instanceMethod_spec w1
  have hf := State.methodFound?_of_named hnamed hy
  have hcn := findClass_of_methodNamed hnamed
  obtain ⟨c2, r2, m2, q1, q2, q3, q4, kP, hkP, hkPi⟩ := Cond.selects_spec w2
  have hc2 := findClass_of_methodNamed q3
  rw [hc] at hc2
  have e1 : m2.cls = mk.cls := Option.some.inj (hc2.symm.trans hcn)
  rw [e1] at hkP
  have hn : Z.methodNamed? ⟨y.cls, y.name, y.desc⟩ = some mk := hnamed
  simp [Cond.before, Cond.holds, Cond.value, hcn, hf, hn, hkP, hkPi]
theorem notFace_of2 {y y' : MethodName} {C : String} (w2 : (Jvm.Cond.selects C y' y').before args s = true) (hc : y'.cls = y.cls) : NotFace s y := fun r0 h0 => by
  obtain ⟨c2, r2, m2, q1, q2, q3, q4, kP, hkP, hkPi⟩ := Cond.selects_spec w2
  have hc2 := findClass_of_methodNamed q3
  rw [hc] at hc2
  have e1 : m2.cls = r0.cls := Option.some.inj (hc2.symm.trans (findClass_of_methodNamed h0))
  exact ⟨kP, e1 ▸ hkP, hkPi⟩
/-- invokespecial of a method of the superclass -/
theorem c_U (X : Stand p l e R s m args below meth c T locs cells slots) (hx : p.tables.exec = Jvm.exec) (hZ : Z.Warmed39 s.vm) {own C : String} {idx : Nat} {y : MethodName} {bytes : ByteArray} {maxL : Nat} {ret : Option FieldType} {b : Addr} {argsL rest stk : List Value} {ps : List FieldType} {r : Option FieldType} (hown : s.vm.findClass own = some m.cls) (hM : Con l Z y bytes maxL ret [] rm (.ref b :: argsL).toArray h Qv) (eT : T.heap = h) (A : Exa Z h b C)
    (w1 : (Jvm.Cond.methodLink own idx y).before a0 Z = true) (w2 : (Jvm.Cond.sameMethod y.cls y.cls y.name y.desc).before a0 Z = true) (w6 : (Jvm.Cond.instanceMethod y).before a0 Z = true) (w5 : (Jvm.Cond.superclass own y.cls).before a0 Z = true) (hni : y.name ≠ "<init>") (w3 : (Jvm.Cond.initialized y.cls).before a0 Z = true) (w4 : (Jvm.Cond.code y bytes maxL ret).before a0 Z = true)
    (W : Nat) (hf : rm.frames + 1 ≤ R.frames) (hl : W + (maxL + 11) + rm.locals ≤ R.locals) (hcl : cells + rm.cells ≤ R.cells) (hsl : slots + rm.slots ≤ R.slots) (hml : Ls.size = c.maxLocals) (hpd : parseMethodDescriptor y.desc = some ⟨ps, r⟩) (hlen : argsL.length = ps.length) (hstk : stk = argsL.reverse ++ .ref b :: rest) (hW : 2 * 0 + (rest.map fun v => v.category).sum ≤ W) (hd : decode c.code pc = .ok (.invokespecial idx, 3)) (hn : pc + 3 = n)
    (hr : ∀ v T' L, Stand p l e R s m args below meth c T' (locs ++ L) (cells + rm.cells) (slots + rm.slots) → Qv v T'.heap L → Endz p.tables e below Q T' (mkF m n Ls (v.toList ++ rest))) : Endz p.tables e below Q T (mkF m pc Ls stk) := by
  subst hn hstk
  obtain ⟨v, _, ⟨T', L', k', n'⟩, -, X', ⟨L, hQ, l1, y1, z1⟩, st'⟩ := superBack X hx hZ (y := y) hown w1 w2 w6 w5 hni (backOf (W := W) hM hZ w4 w3 hf hl) eT (Ins.self A) (g := mkF m pc Ls (argsL.reverse ++ .ref b :: rest)) rfl hml w4 (argsL := argsL) (rest := rest) (lenOf hpd hlen) rfl hW hd (fun _ _ => ⟨rfl, eT, hcl, hsl⟩)
  dsimp only [Pt.U, Pt.locs, Pt.cells, Pt.slots] at X' l1 y1 z1 st' hQ
  subst l1 y1 z1
  exact Endz.tr st' (hr v T' L X' hQ)
/-- invokevirtual of a method that the named class inherits -/
theorem c_VU (X : Stand p l e R s m args below meth c T locs cells slots) (hx : p.tables.exec = Jvm.exec) (hZ : Z.Warmed39 s.vm) {own C owner : String} {idx : Nat} {y z : MethodName} {bytes : ByteArray} {maxL : Nat} {ret : Option FieldType} {b : Addr} {argsL rest stk : List Value} {ps : List FieldType} {r : Option FieldType} (hown : s.vm.findClass own = some m.cls) (hM : Con l Z z bytes maxL ret [] rm (.ref b :: argsL).toArray h Qv) (eT : T.heap = h) (A : Exa Z h b C)
    (w1 : (Jvm.Cond.methodLink own idx y).before a0 Z = true) (w7 : (Jvm.Cond.sameMethod y.cls owner y.name y.desc).before a0 Z = true) (w2 : (Jvm.Cond.declares ⟨owner, y.name, y.desc⟩).before a0 Z = true) (hyo : owner ≠ "java/lang/invoke/MethodHandle" ∧ owner ≠ "java/lang/invoke/VarHandle") (w5 : (Jvm.Cond.selects C y z).before a0 Z = true) (w6 : (Jvm.Cond.instanceMethod z).before a0 Z = true) (w3 : (Jvm.Cond.initialized z.cls).before a0 Z = true) (w4 : (Jvm.Cond.code z bytes maxL ret).before a0 Z = true)
    (W : Nat) (hf : rm.frames + 1 ≤ R.frames) (hl : W + (maxL + 11) + rm.locals ≤ R.locals) (hcl : cells + rm.cells ≤ R.cells) (hsl : slots + rm.slots ≤ R.slots) (hml : Ls.size = c.maxLocals) (hpd : parseMethodDescriptor y.desc = some ⟨ps, r⟩) (hlen : argsL.length = ps.length) (hstk : stk = argsL.reverse ++ .ref b :: rest) (hW : 2 * 0 + (rest.map fun v => v.category).sum ≤ W) (hd : decode c.code pc = .ok (.invokevirtual idx, 3)) (hn : pc + 3 = n)
    (hr : ∀ v T' L, Stand p l e R s m args below meth c T' (locs ++ L) (cells + rm.cells) (slots + rm.slots) → Qv v T'.heap L → Endz p.tables e below Q T' (mkF m n Ls (v.toList ++ rest))) : Endz p.tables e below Q T (mkF m pc Ls stk) := by
  subst hn hstk
  obtain ⟨cq, kq, qa, qb, qc⟩ := isOf hZ eT A
  obtain ⟨v, _, ⟨T', L', k', n'⟩, -, X', ⟨L, hQ, l1, y1, z1⟩, st'⟩ := X.virtualBackUp hx (x := y) (y := z) hown (mvT hZ w1) (mvT hZ w7) (mvT hZ w2) hyo (mvT hZ w5) (mvT hZ w6) (backOf (W := W) hM hZ w4 w3 hf hl) qa qc (g := mkF m pc Ls (argsL.reverse ++ .ref b :: rest)) rfl hml (Steps.refl _) (argsL := argsL) (rest := rest) (lenOf hpd hlen) rfl hW hd (fun _ _ => ⟨rfl, eT, hcl, hsl⟩)
  dsimp only [Pt.U, Pt.locs, Pt.cells, Pt.slots] at X' l1 y1 z1 st' hQ
  subst l1 y1 z1
  exact Endz.tr st' (hr v T' L X' hQ)
end Build
section Known
variable {p : Program} {l : Launch} {e : Env} {R : Room} {s : State} {m : MethodId} {args : Array Value} {below : List Frame} {meth : Method} {c : Code} {T : State} {locs : List Loc} {cells slots : Nat} {Z : State} {a0 : Array Value} {h hB : Heap} {pc n : Nat} {Ls : Array Slot} {st : List Value} {rm : Room} {vm0 vmB : Vm} {EL : List (String × Nat)} {Q : Outcome → State → Prop} {Qw : Option Value → Vm → Heap → List Loc → Prop} {k0 : Nat}
/-- as ConW, of a body that fills in a stack trace -/
abbrev ConK (l : Launch) (Z : State) (EL : List (String × Nat)) (vmB : Vm) (y : MethodName) (bytes : ByteArray) (maxL : Nat) (ret : Option FieldType) (ws : List Jvm.Cond) (rm : Room) (as : Array Value) (h0 : Heap) (Qw : Option Value → Vm → Heap → List Loc → Prop) : Prop :=
  MetFree l y (head1 (Jvm.Cond.code y bytes maxL ret :: ws) rm) (fun a U => a = as ∧ Z.Warmed39 U.vm ∧ U.heap = h0 ∧ CHr Z EL vmB h0 U.vm h0) (fun _ _ bl s _ => s.vm.MethodsKnown ∧ s.vm.FramesKnown bl) (fun _ U o U' => ∃ v L, o = .returned v ∧ Qw v U'.vm U'.heap L ∧ ReturnedEndW U o U' L rm.cells rm.slots)
theorem conK_of {y : MethodName} {bytes : ByteArray} {maxL : Nat} {ret : Option FieldType} {ws : List Jvm.Cond} {as : Array Value} {h0 : Heap} (hn : plainFor y = true)
    (body : ∀ (p : Program) (e : Env) (s : State) (vm0 : Vm) (m : MethodId) (below : List Frame) (meth : Method) (c : Code) (T : State), Stand p l e rm (s.setVm vm0) m as below meth c T [] 0 0 → p.tables.exec = Jvm.exec → Z.Warmed39 (s.setVm vm0).vm → c.code = bytes → c.maxLocals = maxL → (s.setVm vm0).vm.findClass y.cls = some m.cls → meth.sig.returnType = ret → meth.name = y.name → meth.locks = false → T.heap = h0 → s.Since vm0 h0.size → CHr Z EL vmB h0 vm0 h0 → s.heap = h0 → s.vm.MethodsKnown → s.vm.FramesKnown below → Endz p.tables e below (FinW s rm Qw) T (entryFrame m as maxL)) :
    ConK l Z EL vmB y bytes maxL ret ws rm as h0 Qw := by
  refine MetFree.of_bodySF hn hisR ?_
  intro p e s m args below meth c s₁ Bd hml0 hP hK
  obtain ⟨rfl, hZ, hh, hC⟩ := hP
  have X0 : Stand p l e rm s m args below meth c s₁ [] 0 0 := Stand.of_body Bd
  exact body p e s s.vm m below meth c s₁ X0 Bd.exec hZ Bd.bytes hml0 (findClass_of_methodNamed Bd.named) Bd.returns (name_of_methodNamed Bd.named Bd.method).1 Bd.notSynchronized (by rw [← hh, Bd.state]; rfl) ((State.WarmedH.refl s).since _) hC hh hK.1 hK.2
theorem backK {y : MethodName} {bytes : ByteArray} {maxL : Nat} {ret : Option FieldType} {len W : Nat} {as' : Array Value} (hM : ConK l Z EL vm0 y bytes maxL ret [] rm as' h Qw)
    (hZ : Z.Warmed39 vm0) (wc : (Jvm.Cond.code y bytes maxL ret).before a0 Z = true) (wz : (Jvm.Cond.initialized y.cls).before a0 Z = true) (hf : rm.frames + 1 ≤ R.frames) (hl : W + (maxL + 11) + rm.locals ≤ R.locals) (hEL : EW Z a0 EL) (H : CHv Z EL vm0 h) (hTK : vm0.MethodsKnown) (hBelow : vm0.FramesKnown below) :
    BackS l R p e below (s.setVm vm0) args y len W (fun A a => a = as' ∧ A.U.heap = h ∧ A.cells + rm.cells ≤ R.cells ∧ A.slots + rm.slots ≤ R.slots)
      (fun A _ v B => ∃ L, Qw v B.U.vm B.U.heap L ∧ B.locs = A.locs ++ L ∧ B.cells = A.cells + rm.cells ∧ B.slots = A.slots + rm.slots) :=
  BackS.of_freeWG (bytes := bytes) (maxL := maxL) (ret := ret) (E := fun _ _ o t L k n => k = rm.cells ∧ n = rm.slots ∧ ∃ v, o = .returned v ∧ Qw v t.vm t.heap L) hM hf hl
    (fun m meth c A a Y hp => have hU : Z.Warmed39 A.U.vm := wtrans (s := s.setVm vm0) hZ Y.warmed
      ⟨by show (Jvm.Cond.and _ .tt).before a A.U = true; rw [Cond.before_and, mv hU wc]; rfl, mv hU wc, mv hU wz, hp.2.2.1, hp.2.2.2⟩)
    (fun m meth c A a g mk Y hp => ⟨hp.1, wtrans (s := s.setVm vm0) hZ Y.warmed, hp.2.1, by have q := CHv.at Y hZ hEL H; exact q⟩) (fun m meth c A a g mk Y _ hg => known_frames Y hg hTK hBelow)
    (fun _ _ _ _ ⟨v, L, h1, h2, h3⟩ => ⟨L, _, _, h3, rfl, rfl, v, h1, h2⟩)
    (fun m meth c A a g mk v t L k n Y hp _ _ ⟨e1, e2, v', e3, e4⟩ => by cases e3; subst e1 e2; exact ⟨L, e4, rfl, rfl, rfl⟩)
theorem c_SK (X : Stand p l e R (s.setVm vm0) m args below meth c T locs cells slots) (hx : p.tables.exec = Jvm.exec) (hZ : Z.Warmed39 (s.setVm vm0).vm) {own : String} {idx : Nat} {y : MethodName} {bytes : ByteArray} {maxL : Nat} {ret : Option FieldType} {argsL rest stk : List Value} {ps : List FieldType} {r : Option FieldType} (hown : (s.setVm vm0).vm.findClass own = some m.cls) (hM : ConK l Z EL vm0 y bytes maxL ret [] rm argsL.toArray h Qw) (eT : T.heap = h) (hS : s.Since vm0 k0) (hk : k0 ≤ h.size) (hEL : EW Z a0 EL) (H : CHv Z EL vm0 h) (hTK : s.vm.MethodsKnown) (hBelow : s.vm.FramesKnown below)
    (w1 : (Jvm.Cond.methodLink own idx y).before a0 Z = true) (w2 : (Jvm.Cond.static y).before a0 Z = true) (w3 : (Jvm.Cond.initialized y.cls).before a0 Z = true) (w4 : (Jvm.Cond.code y bytes maxL ret).before a0 Z = true) (hy : y.cls ≠ "java/lang/invoke/MethodHandle" ∧ y.cls ≠ "java/lang/invoke/VarHandle")
    (W : Nat) (hf : rm.frames + 1 ≤ R.frames) (hl : W + (maxL + 11) + rm.locals ≤ R.locals) (hcl : cells + rm.cells ≤ R.cells) (hsl : slots + rm.slots ≤ R.slots) (hml : Ls.size = c.maxLocals) (hpd : parseMethodDescriptor y.desc = some ⟨ps, r⟩) (hlen : argsL.length = ps.length) (hstk : stk = argsL.reverse ++ rest) (hW : 2 * 0 + (rest.map fun v => v.category).sum ≤ W) (hd : decode c.code pc = .ok (.invokestatic idx, 3)) (hn : pc + 3 = n)
    (hr : ∀ v T' L, Stand p l e R (s.setVm T'.vm) m args below meth c T' (locs ++ L) (cells + rm.cells) (slots + rm.slots) → s.Since T'.vm T'.heap.size → Z.Warmed39 (s.setVm T'.vm).vm → (s.setVm T'.vm).vm.findClass own = some m.cls → Qw v T'.vm T'.heap L → Endz p.tables e below Q T' (mkF m n Ls (v.toList ++ rest))) : Endz p.tables e below Q T (mkF m pc Ls stk) := by
  subst hn hstk
  obtain ⟨v, _, ⟨T', L', k', n'⟩, -, X', hS', hg', ⟨L, hQ, l1, y1, z1⟩, st'⟩ := callSS X hx (y := y) hown (mvT hZ w1) (mvT hZ w2) (mvT hZ w3) (mvT hZ w4) hy (backK (W := W) hM hZ w4 w3 hf hl hEL H (Vm.MethodsKnown.alikeC hS.1.alike hTK) (Vm.FramesKnown.alikeC hS.1.alike hBelow)) (g := mkF m pc Ls (argsL.reverse ++ rest)) rfl hml (argsL := argsL) (rest := rest) (lenOf hpd hlen) rfl hW hd (fun _ _ => ⟨rfl, eT, hcl, hsl⟩)
  dsimp only [Pt.U, Pt.locs, Pt.cells, Pt.slots] at X' l1 y1 z1 st' hQ hS' hg'
  subst l1 y1 z1
  exact Endz.tr st' (hr v T' L X' (foldS hS (by rw [eT]; exact hk) hS' hg') (State.Warmed39.trans (t := s.setVm vm0) hZ hS'.1) (by rw [show (s.setVm T'.vm).vm = T'.vm from rfl, hS'.1.alike.findClass]; exact hown) hQ)
open Jvm.Free.Exc in
/-- an exception's constructor chain, with a message -/
theorem x_1 (X : Stand p l e R s m args below meth c T locs cells slots) (hx : p.tables.exec = Jvm.exec) (hl : l.stackTraces = true) (hZ : Z.Warmed39 s.vm) {own rc : String} (hown : s.vm.findClass own = some m.cls) {links : List Link} {ic k : Nat} (hok : linksOk 1 links = true)
    (w1 : (Jvm.Cond.methodLink own ic (ctor 1 (headName links))).before a0 Z = true) (w2 : (Jvm.Cond.instanceMethod (ctor 1 (headName links))).before a0 Z = true) (wT : (chainTab 1 rc links).before a0 Z = true) (wi : (Jvm.Cond.instantiable rc k).before a0 Z = true) (r : ∀ d ∈ twoRefs, d.before a0 Z = true)
    (hT0 : ThS Z s.heap) (hT : ThS Z h) (hTK : s.vm.MethodsKnown) (hBelow : s.vm.FramesKnown below) (eT : T.heap = h) {a : Addr} (E : Exa Z h a rc) (N : Unt h a) (B : Fld Z h a Bundle.tN "backtrace" obD .null) (B2 : Fld Z h a Bundle.tN "detailMessage" msgD .null) {msg : Value} (hmsg : msg.isRef = true)
    (hml : Ls.size = c.maxLocals) (hd : decode c.code pc = .ok (.invokespecial ic, 3)) (hn : pc + 3 = n) (hf : 4 + links.length ≤ R.frames) (hlo : 2 * 0 + (st.map fun v => v.category).sum + (56 + 14 * links.length) ≤ R.locals) (hc : cells + 1 ≤ R.cells) (hsl : slots + 2752 ≤ R.slots)
    (hr : ∀ T' h', Stand p l e R s m args below meth c T' (locs ++ sixLocs Z a) (cells + 1) (slots + 2752) → T'.heap = h' → Kp Z h h' a → Exa Z h' a rc → Fld Z h' a Bundle.tN "detailMessage" msgD msg → Endz p.tables e below Q T' (mkF m n Ls st)) : Endz p.tables e below Q T (mkF m pc Ls (msg :: .ref a :: st)) := by
  subst hn
  obtain ⟨T', h', X', e', K', E', -, F', -, -, st'⟩ := excL1 X hx hl hZ hown hok w1 w2 wT wi r hT0 hT hTK hBelow eT E N B B2 hmsg (g := mkF m pc Ls (msg :: .ref a :: st)) rfl hml (rest := st) rfl hd hf hlo hc hsl
  exact Endz.by st' (hr T' h' X' e' K' E' F')
end Known
section Thr
open Bundle Jvm.Free.Exc
variable {args : Array Value} {s : State} {pl : Platform} {rc : String}
/-- the words of Throwable that this road asks (one fewer than the library's list: Throwable's own layout of suppressedExceptions is read off the subclass) -/
def thrW (rc : String) : List Jvm.Cond := [.native tFill0, .initialized tN, .superclass tN "java/lang/Object", .instanceMethod tFill, .codeSync tFill Jvm.LibCode.Throwable.Fill.code 1 (some (.object tN)), .instanceMethod tFill0, .instanceMethod oInit, .code oInit ⟨#[0xb1]⟩ 1 none,
  .methodLink tN 1 oInit, .methodLink tN 27 tFill, .methodLink tN 202 tFill0, .fieldLink tN 7 tN "cause" thD, .lays rc tN "cause" thD, .fieldLink tN 17 tN "stackTrace" steD, .lays rc tN "stackTrace" steD, .fieldLink tN 24 tN "suppressedExceptions" listD, .lays rc tN "suppressedExceptions" listD,
  .fieldLink tN 13 tN "UNASSIGNED_STACK" steD, .laysStatic tN "UNASSIGNED_STACK" steD, .fieldLink tN 20 tN "SUPPRESSED_SENTINEL" listD, .laysStatic tN "SUPPRESSED_SENTINEL" listD]
theorem thrLinks (h1 : pl.frameOwnsMonitors = true) (h2 : pl.finalization = false) (h3 : pl.magicAccessors = ({} : Platform).magicAccessors) (W : ∀ d ∈ thrW rc, d.before args s = true) :
    ∃ T : ThrowableC, T.Links pl s ∧ s.vm.findClass tN = some T.cT ∧ s.methodNamed? tFill = some T.fill ∧ s.methodNamed? tFill0 = some T.fill0 ∧ s.fieldFound? tN "stackTrace" steD = some (T.cT, T.kT, T.i17, T.fStack) ∧ s.fieldFound? tN "UNASSIGNED_STACK" steD = some (T.cT, T.kT, T.i13, T.fUnassigned) ∧ T.fStack.type = .array (.object "java/lang/StackTraceElement") := by
  have w : ∀ d, d ∈ thrW rc → d.holds args s none s [] = true := fun d hd => W d hd
  obtain ⟨⟨ct, j0⟩, f0, n0, m0, nat0, code0, lk0, sig0⟩ := Cond.native_spec (w (.native tFill0) (by simp [thrW]))
  have fc : s.vm.findClass tN = some ct := findClass_of_methodNamed n0
  obtain ⟨kt, hkt, hnm⟩ := Vm.findClass_spec fc
  obtain ⟨_, ksup, _, _, hks, _, _, -, _, hni⟩ := Cond.superclass_spec fc (w (.superclass tN "java/lang/Object") (by simp [thrW]))
  cases hkt.symm.trans hks
  obtain ⟨jF, fF, nF, mF, atF, stF, abF, -, -⟩ := Cond.ownMethod (x := tFill) fc hkt (w (.instanceMethod tFill) (by simp [thrW]))
  obtain ⟨fF', cF, mF', cdF, byF, loF, reF, lkF, -, sigF⟩ := Cond.codeSync_spec nF (w (.codeSync tFill Jvm.LibCode.Throwable.Fill.code 1 (some (.object tN))) (by simp [thrW]))
  cases mF.symm.trans mF'
  obtain ⟨j0', f0', n0', m0', at0, st0, ab0, nm0, ds0⟩ := Cond.ownMethod (x := tFill0) fc hkt (w (.instanceMethod tFill0) (by simp [thrW]))
  cases n0.symm.trans n0'
  cases m0.symm.trans m0'
  obtain ⟨mo, fo, no, mmo, sto, abo⟩ := Cond.instanceMethod_spec (w (.instanceMethod oInit) (by simp [thrW]))
  obtain ⟨fo', cob, mo', cdo, byo, loo, -, lko, -, sigo⟩ := Cond.code_spec no (w (.code oInit ⟨#[0xb1]⟩ 1 none) (by simp [thrW]))
  cases mmo.symm.trans mo'
  obtain ⟨ko, hko, hno⟩ := Vm.findClass_spec (findClass_of_methodNamed no)
  obtain ⟨nmo, dso⟩ := name_of_methodNamed no mmo
  obtain ⟨a1, b1, cf, l1, r1, hcf, p1⟩ := Cond.linkedMethod fc hkt no (w (.methodLink tN 1 oInit) (by simp [thrW])) pl h3
  obtain ⟨a27, b27, cf2, l27, r27, hcf2, p27⟩ := Cond.linkedMethod fc hkt nF (w (.methodLink tN 27 tFill) (by simp [thrW])) pl h3
  cases hcf.symm.trans hcf2
  obtain ⟨a202, b202, cf3, l202, r202, hcf3, p202⟩ := Cond.linkedMethod fc hkt n0 (w (.methodLink tN 202 tFill0) (by simp [thrW])) pl h3
  cases hcf.symm.trans hcf3
  obtain ⟨c7, i7, g7, k7, q7, at7, s7, f7, -, -, ff7⟩ := Cond.ownField (t := .object tN) fc hkt (by decide +kernel) (w (.fieldLink tN 7 tN "cause" thD) (by simp [thrW])) (w (.lays rc tN "cause" thD) (by simp [thrW])) pl h3
  obtain ⟨c17, i17, g17, k17, q17, at17, s17, f17, n17, t17, ff17⟩ := Cond.ownField (t := .array (.object "java/lang/StackTraceElement")) fc hkt (by decide +kernel) (w (.fieldLink tN 17 tN "stackTrace" steD) (by simp [thrW])) (w (.lays rc tN "stackTrace" steD) (by simp [thrW])) pl h3
  obtain ⟨c24, i24, g24, k24, q24, at24, s24, f24, n24, -, ff24⟩ := Cond.ownField (t := .object "java/util/List") fc hkt (by decide +kernel) (w (.fieldLink tN 24 tN "suppressedExceptions" listD) (by simp [thrW])) (w (.lays rc tN "suppressedExceptions" listD) (by simp [thrW])) pl h3
  obtain ⟨c13, i13, g13, aS, cS, k13, q13, at13, s13, -, -, sta, -, -, -, -, ff13⟩ := Cond.ownStatic (t := .array (.object "java/lang/StackTraceElement")) fc hkt (by decide +kernel) (w (.fieldLink tN 13 tN "UNASSIGNED_STACK" steD) (by simp [thrW])) (w (.laysStatic tN "UNASSIGNED_STACK" steD) (by simp [thrW])) pl h3
  obtain ⟨c20, i20, g20, _, _, k20, q20, at20, s20, -, -, -, -, -, -, -, -⟩ := Cond.ownStatic (t := .object "java/util/List") fc hkt (by decide +kernel) (w (.fieldLink tN 20 tN "SUPPRESSED_SENTINEL" listD) (by simp [thrW])) (w (.laysStatic tN "SUPPRESSED_SENTINEL" listD) (by simp [thrW])) pl h3
  have ap : g17.slot ≠ g24.slot := by
    obtain ⟨cr, kr, _, _, _, _, fr, hkr, _⟩ := Cond.lays_spec (w (.lays rc tN "stackTrace" steD) (by simp [thrW]))
    obtain ⟨-, dS, hdS, hdnS⟩ := Cond.laysAt fr hkr ff17 (W (.lays rc tN "stackTrace" steD) (by simp [thrW]))
    obtain ⟨-, dP, hdP, hdnP⟩ := Cond.laysAt fr hkr ff24 (W (.lays rc tN "suppressedExceptions" listD) (by simp [thrW]))
    exact Cond.laysApart hdS hdP hdnS hdnP (by rw [n17, n24]; decide)
  have par : ∀ {y : MethodName} {g : MethodDescriptor} {ps : List FieldType}, parseMethodDescriptor y.desc = some g → (parseMethodDescriptor y.desc).map (·.parameters) = some ps → g.parameters = ps := fun e1 e2 => by rw [e1] at e2; simpa using e2
  exact ⟨{ cT := ct, kT := kt, cO := ct, aS := aS, fillIdx := jF, fill0Idx := j0, initSIdx := j0, obj := mo, kObj := ko, methFill := fF, methFill0 := f0, methInitS := f0, methObj := fo, codeFill := cF, codeInitS := cF, codeObj := cob,
              fBack := g7, fDepth := g7, fStack := g17, fCause := g7, fSupp := g24, fMsg := g7, fUnassigned := g13, fSentinel := g20, cfT := cf, ci1 := a1, n1 := b1, ci27 := a27, n27 := b27, ci202 := a202, n202 := b202,
              ci7 := c7, i7 := i7, ci13 := c13, i13 := i13, ci17 := c17, i17 := i17, ci20 := c20, i20 := i20, ci24 := c24, i24 := i24 },
    { owns := h1, noFinalization := h2, cls := hkt, name := hnm, boot := Vm.findClass_boot fc hkt, notInterface := hni, initialized := Cond.initialized_spec fc hkt (w (.initialized tN) (by simp [thrW])), statics := sta,
              fillAt := atF, fillCode := cdF, fillBytes := byF, fillLocals := loF, fillLocks := lkF, fillStatic := stF, fillAbstract := abF, fillReturns := reF, fillParams := par (y := tFill) sigF (by decide +kernel),
              fill0At := at0, fill0Name := nm0, fill0Desc := ds0, fill0Params := par (y := tFill0) sig0 (by decide +kernel), fill0Static := st0, fill0Native := nat0, fill0Code := code0, fill0Locks := lk0, fill0Abstract := ab0,
              stackInstance := s17, stackNotFinal := f17, unassignedStatic := s13, objClass := hko, objClassName := hno, objMethod := mmo, objName := nmo, objStatic := sto, objAbstract := abo,
              objFound := by rw [dso]; exact lookupSpecial_of_named no mmo sto, objParams := by rw [par (y := oInit) (ps := []) sigo (by decide +kernel)]; rfl, objCode := cdo, objBytes := byo, objLocks := lko,
              causeInstance := s7, causeNotFinal := f7, sentinelStatic := s20, suppInstance := s24, suppNotFinal := f24, msgInstance := s7, msgNotFinal := f7, stackApartSupp := ap, file := hcf,
              mlink1 := l1, mright1 := r1, pool1 := p1, mlink27 := l27, mright27 := r27, pool27 := p27, mlink202 := l202, mright202 := r202, pool202 := p202,
              link7 := k7, right7 := q7, at7 := at7, link13 := k13, right13 := q13, at13 := at13, link17 := k17, right17 := q17, at17 := at17, link20 := k20, right20 := q20, at20 := at20, link24 := k24, right24 := q24, at24 := at24 },
    fc, nF, n0, ff17, ff13, t17⟩
/-- the further words of the call of fillInStackTrace() -/
def fillW (rc : String) : List Jvm.Cond := [.declares tFill, .selects rc tFill tFill, .selects rc tFill0 tFill0, .instanceMethod tFill, .methodLink tN 27 tFill, .fieldLink tN 198 tN "backtrace" obD, .lays rc tN "backtrace" obD, .lays rc tN "depth" "I", .soleField tN "backtrace", .soleField tN "depth", .arrayOver (.object "java/lang/Object")]
theorem thr_ok : (thrW rc ++ fillW rc).all xOk = true := rfl
variable {p : Program} {l : Launch} {e : Env} {R : Room} {m : MethodId} {below : List Frame} {meth : Method} {c : Code} {T : State} {locs : List Loc} {cells slots : Nat} {Z : State} {a0 : Array Value} {h : Heap} {pc n : Nat} {Ls : Array Slot} {st : List Value} {Q : Outcome → State → Prop}
/-- a field of the walk's heap, by the field that the tables at hand find -/
theorem fld_now (hZ : Z.Warmed39 s.vm) {a : Addr} {C nm d : String} {v : Value} (F : Fld Z h a C nm d v) {cf i : Nat} {k : Class} {f : Field} (hf : s.fieldFound? C nm d = some (cf, k, i, f)) {cell : Cell} (hc : h[a]? = some cell) : cell.slots[f.slot]? = some v ∧ Jvm.RoadKit.slotOf Z C nm d = f.slot := by
  obtain ⟨cell', cf', k', i', f', h1, h2, h3, h4, h5, h6, h7⟩ := F
  obtain ⟨k2, q1, -⟩ := State.fieldFound?_setVm (s := Z) hZ.alike h2
  have q2 : s.fieldFound? C nm d = some (cf', k2, i', f') := q1
  cases hf.symm.trans q2
  cases h1.symm.trans hc
  exact ⟨h7, by simp [Jvm.RoadKit.slotOf, h2]⟩
theorem x_F (X : Stand p l e R s m args below meth c T locs cells slots) (hx : p.tables.exec = Jvm.exec) (hl : l.stackTraces = true) (hZ : Z.Warmed39 s.vm) (hown : s.vm.findClass tN = some m.cls) (W0 : ∀ d ∈ thrW rc ++ fillW rc, d.before a0 Z = true) (hT0 : ThS Z s.heap) (hTK : s.vm.MethodsKnown) (hBelow : s.vm.FramesKnown below) (eT : T.heap = h) {a : Addr} {u : Value} (hu : u.isRef = true) (E : Exa Z h a rc) {nn : Nat} (wi : (Jvm.Cond.instantiable rc nn).before a0 Z = true) (N : Unt h a) (FS : Fld Z h a tN "stackTrace" steD u) (FB : Fld Z h a tN "backtrace" obD .null) (SU : Sta Z h tN "UNASSIGNED_STACK" steD u)
    (hml : Ls.size = c.maxLocals) (hd : decode c.code pc = .ok (.invokevirtual 27, 3)) (hn : pc + 3 = n) (W : Nat) (hW : 2 * 0 + (st.map fun v => v.category).sum ≤ W) (hf : 2 < R.frames) (hlo : W + 42 ≤ R.locals) (hc : cells + 1 ≤ R.cells) (hsl : slots + 2752 ≤ R.slots)
    (hr : ∀ T' h' L, Stand p l e R s m args below meth c T' (locs ++ L) (cells + 1) (slots + 2752) → T'.heap = h' → (∀ y ∈ L, y.base = a) → (∃ C cell : Cell, h[a]? = some cell ∧ h'[a]? = some C ∧ C.cls = cell.cls ∧ C.vm = cell.vm ∧ C.slots.size = cell.slots.size ∧ ∀ i, i ≠ Jvm.RoadKit.slotOf Z tN "backtrace" obD → i ≠ Jvm.RoadKit.slotOf Z tN "depth" "I" → i ≠ Jvm.RoadKit.slotOf Z tN "stackTrace" steD → C.slots[i]? = cell.slots[i]?) → Endz p.tables e below Q T' (mkF m n Ls (.ref a :: st))) : Endz p.tables e below Q T (mkF m pc Ls (.ref a :: st)) := by
  subst hn
  have Ws : ∀ d ∈ thrW rc ++ fillW rc, d.before args s = true := fun d hd => mvX hT0 hZ (List.all_eq_true.mp thr_ok d hd) (W0 d hd)
  have w2 : ∀ d ∈ fillW rc, d.before args s = true := fun d hd => Ws d (List.mem_append_right _ hd)
  have htr : e.platform.stackTraces = true := by rw [X.admits.platform]; exact hl
  have howns : e.platform.frameOwnsMonitors = true := by rw [X.admits.platform]
  have hfin : e.platform.finalization = false := by rw [X.admits.platform]
  have hpl : e.platform.magicAccessors = ({} : Platform).magicAccessors := by rw [X.admits.platform]
  obtain ⟨TC, LK, fc, nF, n0, ff17, ff13, t17⟩ := thrLinks (pl := e.platform) (rc := rc) howns hfin hpl fun d hd => Ws d (List.mem_append_left _ hd)
  obtain ⟨cell, hcell, hvm, hmon⟩ := N
  obtain ⟨cellE, kE, e1, e2, e3, e4, e5⟩ := E
  cases e1.symm.trans hcell
  have hfr : s.vm.findClass rc = some cell.cls := by rw [hZ.alike.findClass]; exact e2
  obtain ⟨cI, kI, i1, i2, i3, -⟩ := Cond.instantiable_spec (mv (args := args) hZ wi)
  cases hfr.symm.trans i1
  obtain ⟨kE', y1, y2⟩ := hZ.alike.2.2 _ _ e3
  cases i2.symm.trans y1
  have hsz : cell.slots.size = kI.instanceTypes.size := by
    have q : kE.kind = .ordinary := by rw [y2] at i3; exact i3
    rw [e5 q, y2]
  have tk : ∀ {f : Field} {v : Value}, kI.instanceTypes[f.slot]? = some f.type → fits f.type v = true → Jvm.Takes s cell f v := fun {f v} g1 g2 => by
    obtain ⟨q1, q2⟩ := Takes.of_laid (v := v) i2 i3 g1 g2
    exact ⟨by rw [hsz]; simpa using q1, by rw [hvm]; exact q2⟩
  have hsel0 : selectMethod e.platform s.vm cell.cls TC.fill0 = .method TC.fill0 := by
    obtain ⟨c2, r2, m2, q1, q2, q3, q4, -⟩ := Cond.selects_spec (w2 (.selects rc tFill0 tFill0) (by simp [fillW]))
    cases q1.symm.trans hfr
    cases q2.symm.trans (State.methodFound?_of_named n0 (by decide))
    cases q3.symm.trans n0
    rw [Launch.admits_selectMethod X.admits]; exact q4
  obtain ⟨ciB, iB, fB, lB, rB, aB, sB, -, nB, tB, ffB⟩ := Cond.ownField (t := .object "java/lang/Object") fc LK.cls (by decide +kernel) (w2 (.fieldLink tN 198 tN "backtrace" obD) (by simp [fillW])) (w2 (.lays rc tN "backtrace" obD) (by simp [fillW])) e.platform hpl
  obtain ⟨_, _, cD, kD, iD, fD, -, -, ffD, sD, -, -, -, -⟩ := Cond.lays_spec (w2 (.lays rc tN "depth" "I") (by simp [fillW]))
  cases (Cond.lays_declared (w2 (.lays rc tN "depth" "I") (by simp [fillW])) ffD).symm.trans fc
  obtain ⟨hkD, atD⟩ := State.fieldFound?_spec ffD
  cases hkD.symm.trans LK.cls
  obtain ⟨nD, tD⟩ := State.fieldFound?_type ffD (t := .int) (by decide +kernel)
  have hfb := Cond.soleField_find fc LK.cls (w2 (.soleField tN "backtrace") (by simp [fillW])) aB nB sB
  have hfd := Cond.soleField_find fc LK.cls (w2 (.soleField tN "depth") (by simp [fillW])) atD nD sD
  obtain ⟨comp, cO, kO, -, -, hkO, hkindO, hO⟩ := Cond.arrayOver_spec (w2 (.arrayOver (.object "java/lang/Object")) (by simp [fillW]))
  obtain ⟨tyS, -⟩ := Cond.laysAt hfr i2 ff17 (Ws (.lays rc tN "stackTrace" steD) (by simp [thrW]))
  obtain ⟨tyB, -⟩ := Cond.laysAt hfr i2 ffB (w2 (.lays rc tN "backtrace" obD) (by simp [fillW]))
  obtain ⟨tyD, -⟩ := Cond.laysAt hfr i2 ffD (w2 (.lays rc tN "depth" "I") (by simp [fillW]))
  obtain ⟨vS, slS⟩ := fld_now hZ FS ff17 hcell
  obtain ⟨vB, slB⟩ := fld_now hZ FB ffB hcell
  have slD : Jvm.RoadKit.slotOf Z tN "depth" "I" = fD.slot := by
    obtain ⟨kz, qz⟩ := ff_back (U := s) hZ.alike ffD
    simp [Jvm.RoadKit.slotOf, qz]
  obtain ⟨cf, i, kz, f, sa, cellS, z1, z2, z3, z4, z5, z6, z7⟩ := SU
  obtain ⟨k2, z8, z9⟩ := State.fieldFound?_setVm (s := Z) hZ.alike z1
  have z8 : s.fieldFound? tN "UNASSIGNED_STACK" steD = some (cf, k2, i, f) := z8
  have hkS : k2.statics = kz.statics := by rw [z9]
  have z10 := ff13.symm.trans z8
  simp only [Option.some.injEq, Prod.mk.injEq] at z10
  obtain ⟨-, zk, -, zf⟩ := z10
  have zs : TC.aS = sa := by
    have q := LK.statics
    rw [zk, hkS, z4] at q
    exact (Option.some.inj q).symm
  subst zs
  have hneS : TC.aS ≠ a := fun q => by rw [q] at z5; cases z5.symm.trans hcell; rw [hvm] at z6; cases z6
  have hknS : cellS.vm ≠ .unknown := fun q => by rw [q] at z6; cases z6
  obtain ⟨v6, vm6, ⟨T6, L6, c6, n6⟩, hW6, X6, ⟨hv6, C6, n', hn', hD6, q1, q2, q3, q4, hL6, hc6, hn6'⟩, come⟩ := X.virtualBack hx (own := tN) (C := rc) (index := 27) (y := tFill) (z := tFill) hown (w2 (.methodLink tN 27 tFill) (by simp [fillW])) (w2 (.declares tFill) (by simp [fillW])) (notFace_of_selects (w2 (.selects rc tFill tFill) (by simp [fillW]))) (w2 (.selects rc tFill tFill) (by simp [fillW])) (w2 (.instanceMethod tFill) (by simp [fillW])) (by decide)
    (fillPaysAny (l := l) (W := W) hx htr TC LK nF (u0 := ⟨u, hu⟩) (self := a) (cell := cell) (cellS := cellS) (fun _ => by rw [hvm]; simp) (by rw [hvm]; simp) (by rw [hmon]) (by rw [hmon]) vS hsel0 hneS hknS (by rw [zf]; exact z7) (tk tyS (by rw [t17]; exact fits_refV_array _ ⟨u, hu⟩)) ⟨{ ci198 := ciB, i198 := iB, fBack := fB }, ⟨lB, rB, aB, sB⟩, vB⟩ hTK hBelow fc hO hkO hkindO hfb hfd (fun x => tk tyB (by rw [tB]; rfl)) (fun x => tk tyD (by rw [tD]; rfl)) hf hlo)
    (b := a) (cB := cell.cls) hfr ⟨cell, by rw [eT]; exact hcell, rfl, by rw [hvm]; rfl⟩ (g := mkF m pc Ls (.ref a :: st)) rfl hml (Steps.refl _) (argsL := []) (rest := st) (lenOf (by decide +kernel : parseMethodDescriptor tFill.desc = some ⟨[], some (.object tN)⟩) rfl) rfl hW hd (fun vmx hWx => ⟨rfl, hc, hsl, by show T.heap[a]? = _; rw [eT]; exact hcell, by show T.heap[TC.aS]? = _; rw [eT]; exact z5⟩)
  dsimp only [Pt.U, Pt.locs, Pt.cells, Pt.slots] at X6 hD6 hL6 hc6 hn6' come
  subst hv6 hL6 hc6 hn6'
  exact Endz.tr come (hr T6 _ _ (X6.mono (Nat.le_refl _) (Nat.add_le_add_left hn' _)) rfl (fun y hy => by simp only [List.mem_cons, List.not_mem_nil, or_false] at hy; rcases hy with rfl | rfl | rfl <;> rfl) ⟨C6, cell, hcell, hD6, q1, q2, q3, fun i j1 j2 j3 => q4 i (by rw [slB] at j1; exact j1) (by rw [slD] at j2; exact j2) (by rw [slS] at j3; exact j3)⟩)
end Thr
section Nar
variable {p : Program} {l : Launch} {e : Env} {R : Room} {s : State} {m : MethodId} {args : Array Value} {below : List Frame} {meth : Method} {c : Code} {T : State} {locs : List Loc} {cells slots : Nat} {Z : State} {a0 : Array Value} {h : Heap} {pc n : Nat} {Ls : Array Slot} {st : List Value} {rm : Room} {Q : Outcome → State → Prop} {Qv : Option Value → Heap → List Loc → Prop}
/-- as Con, of a body that fills in a stack trace -/
abbrev ConN (l : Launch) (Z : State) (y : MethodName) (bytes : ByteArray) (maxL : Nat) (ret : Option FieldType) (ws : List Jvm.Cond) (rm : Room) (as : Array Value) (h0 : Heap) (Qv : Option Value → Heap → List Loc → Prop) : Prop :=
  MetFree l y (head1 (Jvm.Cond.code y bytes maxL ret :: ws) rm) (fun a U => a = as ∧ Z.Warmed39 U.vm ∧ U.heap = h0) (fun _ _ bl s _ => s.vm.MethodsKnown ∧ s.vm.FramesKnown bl) (fun _ U o U' => ∃ v L, o = .returned v ∧ Qv v U'.heap L ∧ FrameEnd U o U' L rm.cells rm.slots)
theorem conN_of {y : MethodName} {bytes : ByteArray} {maxL : Nat} {ret : Option FieldType} {ws : List Jvm.Cond} {as : Array Value} {h0 : Heap} (hn : plainFor y = true)
    (body : ∀ (p : Program) (e : Env) (s : State) (m : MethodId) (below : List Frame) (meth : Method) (c : Code) (T : State), Stand p l e rm s m as below meth c T [] 0 0 → p.tables.exec = Jvm.exec → Z.Warmed39 s.vm → c.code = bytes → c.maxLocals = maxL → s.vm.findClass y.cls = some m.cls → meth.sig.returnType = ret → meth.name = y.name → meth.locks = false → T.heap = h0 → s.heap = h0 → s.vm.MethodsKnown → s.vm.FramesKnown below → Endz p.tables e below (Finz s rm Qv) T (entryFrame m as maxL)) :
    ConN l Z y bytes maxL ret ws rm as h0 Qv := by
  refine MetFree.of_bodySF hn hisR ?_
  intro p e s m args below meth c s₁ Bd hml0 hP hK
  obtain ⟨rfl, hZ, hh⟩ := hP
  have X0 : Stand p l e rm s m args below meth c s₁ [] 0 0 := Stand.of_body Bd
  exact body p e s m below meth c s₁ X0 Bd.exec hZ Bd.bytes hml0 (findClass_of_methodNamed Bd.named) Bd.returns (name_of_methodNamed Bd.named Bd.method).1 Bd.notSynchronized (by rw [← hh, Bd.state]; rfl) hh hK.1 hK.2
theorem c_NN (X : Stand p l e R s m args below meth c T locs cells slots) (hx : p.tables.exec = Jvm.exec) (hZ : Z.Warmed39 s.vm) {own : String} {idx : Nat} {y : MethodName} {bytes : ByteArray} {maxL : Nat} {b : Addr} {argsL rest stk : List Value} {ps : List FieldType} {r : Option FieldType} (hy1 : y.name = "<init>") (hown : s.vm.findClass own = some m.cls) (hM : ConN l Z y bytes maxL none [] rm (.ref b :: argsL).toArray h Qv) (eT : T.heap = h) (hTK : s.vm.MethodsKnown) (hBelow : s.vm.FramesKnown below)
    (w1 : (Jvm.Cond.methodLink own idx y).before a0 Z = true) (w2 : (Jvm.Cond.instanceMethod y).before a0 Z = true) (w3 : (Jvm.Cond.initialized y.cls).before a0 Z = true) (w4 : (Jvm.Cond.code y bytes maxL none).before a0 Z = true) (hy : y.cls ≠ "java/lang/invoke/MethodHandle" ∧ y.cls ≠ "java/lang/invoke/VarHandle")
    (W : Nat) (hf : rm.frames + 1 ≤ R.frames) (hl : W + (maxL + 11) + rm.locals ≤ R.locals) (hcl : cells + rm.cells ≤ R.cells) (hsl : slots + rm.slots ≤ R.slots) (hml : Ls.size = c.maxLocals) (hpd : parseMethodDescriptor y.desc = some ⟨ps, r⟩) (hlen : argsL.length = ps.length) (hstk : stk = argsL.reverse ++ .ref b :: rest) (hW : 2 * 0 + (rest.map fun v => v.category).sum ≤ W) (hd : decode c.code pc = .ok (.invokespecial idx, 3)) (hn : pc + 3 = n)
    (hr : ∀ v T' L, Stand p l e R s m args below meth c T' (locs ++ L) (cells + rm.cells) (slots + rm.slots) → Qv v T'.heap L → Endz p.tables e below Q T' (mkF m n Ls (v.toList ++ rest))) : Endz p.tables e below Q T (mkF m pc Ls stk) := by
  subst hn hstk
  obtain ⟨v, _, ⟨T', L', k', n'⟩, -, X', ⟨L, hQ, l1, y1, z1⟩, st'⟩ := X.specialBack hx (y := y) hy1 hown (mvT hZ w1) (mvT hZ w2) (mvT hZ w4) hy (backOfKL (W := W) hM hZ w4 w3 hf hl hTK hBelow) (g := mkF m pc Ls (argsL.reverse ++ .ref b :: rest)) rfl hml (Steps.refl _) (a := b) (argsL := argsL) (rest := rest) (lenOf hpd hlen) rfl hW hd (fun _ _ => ⟨rfl, eT, hcl, hsl⟩)
  dsimp only [Pt.U, Pt.locs, Pt.cells, Pt.slots] at X' l1 y1 z1 st' hQ
  subst l1 y1 z1
  exact Endz.tr st' (hr v T' L X' hQ)
/-- what a walk whose places all lie in one cell keeps -/
theorem keep_of_stand (X : Stand p l e R s m args below meth c T locs cells slots) {a : Addr} (hs : s.heap = h) (N : ∀ y ∈ locs, y.base = a) : Keep h T.heap [a] := by
  subst hs
  refine ⟨X.same.2.1, fun x cl hx hne => ?_, fun x cl hx => ?_⟩
  · obtain ⟨c', h1, h2, -, h4⟩ := X.same.2.2.2.2.2 x cl hx
    have hsl : c'.slots = cl.slots := Array.ext_getElem? fun i => h4 i fun hm => hne (List.mem_singleton.mpr (N _ hm))
    have hcc : c' = cl := by rw [h2, hsl]
    rw [← hcc]; exact h1
  · obtain ⟨c', h1, h2, h3, -⟩ := X.same.2.2.2.2.2 x cl hx
    exact ⟨c', h1, by rw [h2], by rw [h2], h3⟩
/-- a field whose slot the cell has kept -/
theorem Fld.slotKept {h' : Heap} {a : Addr} {O nm d : String} {v : Value} {C cell : Cell} (F : Fld Z h a O nm d v) (y1 : h[a]? = some cell) (y2 : h'[a]? = some C) (y3 : C.cls = cell.cls) (y4 : C.vm = cell.vm) (hs : C.slots[Jvm.RoadKit.slotOf Z O nm d]? = cell.slots[Jvm.RoadKit.slotOf Z O nm d]?) : Fld Z h' a O nm d v := by
  obtain ⟨c', cf, k, i, f, h1, h2, h3, h4, h5, h6, h7⟩ := F
  cases h1.symm.trans y1
  have e : Jvm.RoadKit.slotOf Z O nm d = f.slot := by simp [Jvm.RoadKit.slotOf, h2]
  rw [e] at hs
  exact ⟨C, cf, k, i, f, y2, h2, h3, by rw [y4]; exact h4, by rw [y4]; exact h5, by rw [y3]; exact h6, hs.trans h7⟩
end Nar
end Jvm.OwnKit
namespace Jvm.Pilot.@@N@@
open Jvm Jvm.ClassFile Sem Op Lib Jvm.Free Jvm.Stand Jvm.LawKit Jvm.RoadKit Bundle Jvm.Pilot.@@N@@.Jvm.D Jvm.OwnKit
theorem d1_0 : decode jdk_42_method_3_code 0 = .ok (.aload_n 0, 1) := by decide +kernel
theorem d1_1 : decode jdk_42_method_3_code 1 = .ok (.aload_n 1, 1) := by decide +kernel
theorem d1_2 : decode jdk_42_method_3_code 2 = .ok (.iconst 0, 1) := by decide +kernel
theorem d1_3 : decode jdk_42_method_3_code 3 = .ok (.aload_n 1, 1) := by decide +kernel
theorem d1_4 : decode jdk_42_method_3_code 4 = .ok (.arraylength, 1) := by decide +kernel
theorem d1_5 : decode jdk_42_method_3_code 5 = .ok (.aconst_null, 1) := by decide +kernel
theorem d1_6 : decode jdk_42_method_3_code 6 = .ok (.invokespecial 27, 3) := by decide +kernel
theorem d1_9 : decode jdk_42_method_3_code 9 = .ok (.return_, 1) := by decide +kernel
theorem d2_0 : decode jdk_42_method_149_code 0 = .ok (.aload_n 0, 1) := by decide +kernel
theorem d2_1 : decode jdk_42_method_149_code 1 = .ok (.invokespecial 1, 3) := by decide +kernel
theorem d2_4 : decode jdk_42_method_149_code 4 = .ok (.iload_n 3, 1) := by decide +kernel
theorem d2_5 : decode jdk_42_method_149_code 5 = .ok (.ifCond .ne 22, 3) := by decide +kernel
theorem d2_8 : decode jdk_42_method_149_code 8 = .ok (.aload_n 0, 1) := by decide +kernel
theorem d2_9 : decode jdk_42_method_149_code 9 = .ok (.ldc 7, 2) := by decide +kernel
theorem d2_11 : decode jdk_42_method_149_code 11 = .ok (.getfield 9, 3) := by decide +kernel
theorem d2_14 : decode jdk_42_method_149_code 14 = .ok (.putfield 9, 3) := by decide +kernel
theorem d2_17 : decode jdk_42_method_149_code 17 = .ok (.aload_n 0, 1) := by decide +kernel
theorem d2_18 : decode jdk_42_method_149_code 18 = .ok (.ldc 7, 2) := by decide +kernel
theorem d2_20 : decode jdk_42_method_149_code 20 = .ok (.getfield 15, 3) := by decide +kernel
theorem d2_23 : decode jdk_42_method_149_code 23 = .ok (.putfield 15, 3) := by decide +kernel
theorem d2_26 : decode jdk_42_method_149_code 26 = .ok (.return_, 1) := by decide +kernel
theorem d2_27 : decode jdk_42_method_149_code 27 = .ok (.getstatic 38, 3) := by decide +kernel
theorem d2_30 : decode jdk_42_method_149_code 30 = .ok (.ifCond .eq 28, 3) := by decide +kernel
theorem d2_33 : decode jdk_42_method_149_code 33 = .ok (.aload_n 1, 1) := by decide +kernel
theorem d2_34 : decode jdk_42_method_149_code 34 = .ok (.iload_n 2, 1) := by decide +kernel
theorem d2_35 : decode jdk_42_method_149_code 35 = .ok (.iload_n 3, 1) := by decide +kernel
theorem d2_36 : decode jdk_42_method_149_code 36 = .ok (.invokestatic 177, 3) := by decide +kernel
theorem d2_39 : decode jdk_42_method_149_code 39 = .ok (.astore 5, 2) := by decide +kernel
theorem d2_41 : decode jdk_42_method_149_code 41 = .ok (.aload_n 0, 1) := by decide +kernel
theorem d2_42 : decode jdk_42_method_149_code 42 = .ok (.aload 5, 2) := by decide +kernel
theorem d2_44 : decode jdk_42_method_149_code 44 = .ok (.iload_n 3, 1) := by decide +kernel
theorem d2_45 : decode jdk_42_method_149_code 45 = .ok (.invokestatic 47, 3) := by decide +kernel
theorem d2_48 : decode jdk_42_method_149_code 48 = .ok (.putfield 15, 3) := by decide +kernel
theorem d2_51 : decode jdk_42_method_149_code 51 = .ok (.aload_n 0, 1) := by decide +kernel
theorem d2_52 : decode jdk_42_method_149_code 52 = .ok (.aload 5, 2) := by decide +kernel
theorem d2_54 : decode jdk_42_method_149_code 54 = .ok (.putfield 9, 3) := by decide +kernel
theorem d2_57 : decode jdk_42_method_149_code 57 = .ok (.return_, 1) := by decide +kernel
theorem d2_58 : decode jdk_42_method_149_code 58 = .ok (.aload_n 0, 1) := by decide +kernel
theorem d2_59 : decode jdk_42_method_149_code 59 = .ok (.iconst 1, 1) := by decide +kernel
theorem d2_60 : decode jdk_42_method_149_code 60 = .ok (.putfield 15, 3) := by decide +kernel
theorem d2_63 : decode jdk_42_method_149_code 63 = .ok (.aload_n 0, 1) := by decide +kernel
theorem d2_64 : decode jdk_42_method_149_code 64 = .ok (.aload_n 1, 1) := by decide +kernel
theorem d2_65 : decode jdk_42_method_149_code 65 = .ok (.iload_n 2, 1) := by decide +kernel
theorem d2_66 : decode jdk_42_method_149_code 66 = .ok (.iload_n 3, 1) := by decide +kernel
theorem d2_67 : decode jdk_42_method_149_code 67 = .ok (.invokestatic 180, 3) := by decide +kernel
theorem d2_70 : decode jdk_42_method_149_code 70 = .ok (.putfield 9, 3) := by decide +kernel
theorem d2_73 : decode jdk_42_method_149_code 73 = .ok (.return_, 1) := by decide +kernel
theorem d3_0 : decode object_method_1_code 0 = .ok (.return_, 1) := by decide +kernel
theorem d4_0 : decode jdk_52_method_16_code 0 = .ok (.iload_n 2, 1) := by decide +kernel
theorem d4_1 : decode jdk_52_method_16_code 1 = .ok (.newarray .byte, 2) := by decide +kernel
theorem d4_3 : decode jdk_52_method_16_code 3 = .ok (.astore_n 3, 1) := by decide +kernel
theorem d4_4 : decode jdk_52_method_16_code 4 = .ok (.aload_n 0, 1) := by decide +kernel
theorem d4_5 : decode jdk_52_method_16_code 5 = .ok (.iload_n 1, 1) := by decide +kernel
theorem d4_6 : decode jdk_52_method_16_code 6 = .ok (.aload_n 3, 1) := by decide +kernel
theorem d4_7 : decode jdk_52_method_16_code 7 = .ok (.iconst 0, 1) := by decide +kernel
theorem d4_8 : decode jdk_52_method_16_code 8 = .ok (.iload_n 2, 1) := by decide +kernel
theorem d4_9 : decode jdk_52_method_16_code 9 = .ok (.invokestatic 115, 3) := by decide +kernel
theorem d4_12 : decode jdk_52_method_16_code 12 = .ok (.istore 4, 2) := by decide +kernel
theorem d4_14 : decode jdk_52_method_16_code 14 = .ok (.iload 4, 2) := by decide +kernel
theorem d4_16 : decode jdk_52_method_16_code 16 = .ok (.iload_n 2, 1) := by decide +kernel
theorem d4_17 : decode jdk_52_method_16_code 17 = .ok (.if_icmp .eq 40, 3) := by decide +kernel
theorem d4_20 : decode jdk_52_method_16_code 20 = .ok (.aload_n 0, 1) := by decide +kernel
theorem d4_21 : decode jdk_52_method_16_code 21 = .ok (.iload_n 1, 1) := by decide +kernel
theorem d4_22 : decode jdk_52_method_16_code 22 = .ok (.iload_n 2, 1) := by decide +kernel
theorem d4_23 : decode jdk_52_method_16_code 23 = .ok (.invokestatic 119, 3) := by decide +kernel
theorem d4_26 : decode jdk_52_method_16_code 26 = .ok (.astore 5, 2) := by decide +kernel
theorem d4_28 : decode jdk_52_method_16_code 28 = .ok (.aload 5, 2) := by decide +kernel
theorem d4_30 : decode jdk_52_method_16_code 30 = .ok (.iload 4, 2) := by decide +kernel
theorem d4_32 : decode jdk_52_method_16_code 32 = .ok (.invokestatic 71, 3) := by decide +kernel
theorem d4_35 : decode jdk_52_method_16_code 35 = .ok (.sipush 255, 3) := by decide +kernel
theorem d4_38 : decode jdk_52_method_16_code 38 = .ok (.if_icmp .gt 16, 3) := by decide +kernel
theorem d4_41 : decode jdk_52_method_16_code 41 = .ok (.aload 5, 2) := by decide +kernel
theorem d4_43 : decode jdk_52_method_16_code 43 = .ok (.iconst 0, 1) := by decide +kernel
theorem d4_44 : decode jdk_52_method_16_code 44 = .ok (.aload_n 3, 1) := by decide +kernel
theorem d4_45 : decode jdk_52_method_16_code 45 = .ok (.iconst 0, 1) := by decide +kernel
theorem d4_46 : decode jdk_52_method_16_code 46 = .ok (.iload_n 2, 1) := by decide +kernel
theorem d4_47 : decode jdk_52_method_16_code 47 = .ok (.invokestatic 123, 3) := by decide +kernel
theorem d4_50 : decode jdk_52_method_16_code 50 = .ok (.iload_n 2, 1) := by decide +kernel
theorem d4_51 : decode jdk_52_method_16_code 51 = .ok (.if_icmp .eq 6, 3) := by decide +kernel
theorem d4_54 : decode jdk_52_method_16_code 54 = .ok (.aload 5, 2) := by decide +kernel
theorem d4_56 : decode jdk_52_method_16_code 56 = .ok (.areturn, 1) := by decide +kernel
theorem d4_57 : decode jdk_52_method_16_code 57 = .ok (.aload_n 3, 1) := by decide +kernel
theorem d4_58 : decode jdk_52_method_16_code 58 = .ok (.areturn, 1) := by decide +kernel
theorem d5_0 : decode jdk_52_method_21_code 0 = .ok (.iconst 0, 1) := by decide +kernel
theorem d5_1 : decode jdk_52_method_21_code 1 = .ok (.istore 5, 2) := by decide +kernel
theorem d5_3 : decode jdk_52_method_21_code 3 = .ok (.iload 5, 2) := by decide +kernel
theorem d5_5 : decode jdk_52_method_21_code 5 = .ok (.iload 4, 2) := by decide +kernel
theorem d5_7 : decode jdk_52_method_21_code 7 = .ok (.if_icmp .ge 37, 3) := by decide +kernel
theorem d5_10 : decode jdk_52_method_21_code 10 = .ok (.aload_n 0, 1) := by decide +kernel
theorem d5_11 : decode jdk_52_method_21_code 11 = .ok (.iload_n 1, 1) := by decide +kernel
theorem d5_12 : decode jdk_52_method_21_code 12 = .ok (.caload, 1) := by decide +kernel
theorem d5_13 : decode jdk_52_method_21_code 13 = .ok (.istore 6, 2) := by decide +kernel
theorem d5_15 : decode jdk_52_method_21_code 15 = .ok (.iload 6, 2) := by decide +kernel
theorem d5_17 : decode jdk_52_method_21_code 17 = .ok (.sipush 255, 3) := by decide +kernel
theorem d5_20 : decode jdk_52_method_21_code 20 = .ok (.if_icmp .le 6, 3) := by decide +kernel
theorem d5_23 : decode jdk_52_method_21_code 23 = .ok (.iload 5, 2) := by decide +kernel
theorem d5_25 : decode jdk_52_method_21_code 25 = .ok (.ireturn, 1) := by decide +kernel
theorem d5_26 : decode jdk_52_method_21_code 26 = .ok (.aload_n 2, 1) := by decide +kernel
theorem d5_27 : decode jdk_52_method_21_code 27 = .ok (.iload_n 3, 1) := by decide +kernel
theorem d5_28 : decode jdk_52_method_21_code 28 = .ok (.iload 6, 2) := by decide +kernel
theorem d5_30 : decode jdk_52_method_21_code 30 = .ok (.i2b, 1) := by decide +kernel
theorem d5_31 : decode jdk_52_method_21_code 31 = .ok (.bastore, 1) := by decide +kernel
theorem d5_32 : decode jdk_52_method_21_code 32 = .ok (.iinc 1 1, 3) := by decide +kernel
theorem d5_35 : decode jdk_52_method_21_code 35 = .ok (.iinc 3 1, 3) := by decide +kernel
theorem d5_38 : decode jdk_52_method_21_code 38 = .ok (.iinc 5 1, 3) := by decide +kernel
theorem d5_41 : decode jdk_52_method_21_code 41 = .ok (.goto (-38), 3) := by decide +kernel
theorem d5_44 : decode jdk_52_method_21_code 44 = .ok (.iload 4, 2) := by decide +kernel
theorem d5_46 : decode jdk_52_method_21_code 46 = .ok (.ireturn, 1) := by decide +kernel
theorem d6_0 : decode jdk_52_method_15_code 0 = .ok (.iload_n 1, 1) := by decide +kernel
theorem d6_1 : decode jdk_52_method_15_code 1 = .ok (.aload_n 0, 1) := by decide +kernel
theorem d6_2 : decode jdk_52_method_15_code 2 = .ok (.arraylength, 1) := by decide +kernel
theorem d6_3 : decode jdk_52_method_15_code 3 = .ok (.isub, 1) := by decide +kernel
theorem d6_4 : decode jdk_52_method_15_code 4 = .ok (.bipush 31, 2) := by decide +kernel
theorem d6_6 : decode jdk_52_method_15_code 6 = .ok (.iushr, 1) := by decide +kernel
theorem d6_7 : decode jdk_52_method_15_code 7 = .ok (.i2b, 1) := by decide +kernel
theorem d6_8 : decode jdk_52_method_15_code 8 = .ok (.ireturn, 1) := by decide +kernel
theorem d7_0 : decode prog_21_method_2_code 0 = .ok (.new 7, 3) := by decide +kernel
theorem d7_3 : decode prog_21_method_2_code 3 = .ok (.dup, 1) := by decide +kernel
theorem d7_4 : decode prog_21_method_2_code 4 = .ok (.new 9, 3) := by decide +kernel
theorem d7_7 : decode prog_21_method_2_code 7 = .ok (.dup, 1) := by decide +kernel
theorem d7_8 : decode prog_21_method_2_code 8 = .ok (.invokespecial 11, 3) := by decide +kernel
theorem d7_11 : decode prog_21_method_2_code 11 = .ok (.ldc 14, 2) := by decide +kernel
theorem d7_13 : decode prog_21_method_2_code 13 = .ok (.invokevirtual 16, 3) := by decide +kernel
theorem d7_16 : decode prog_21_method_2_code 16 = .ok (.aload_n 0, 1) := by decide +kernel
theorem d7_17 : decode prog_21_method_2_code 17 = .ok (.invokevirtual 16, 3) := by decide +kernel
theorem d7_20 : decode prog_21_method_2_code 20 = .ok (.ldc 20, 2) := by decide +kernel
theorem d7_22 : decode prog_21_method_2_code 22 = .ok (.invokevirtual 16, 3) := by decide +kernel
theorem d7_25 : decode prog_21_method_2_code 25 = .ok (.invokevirtual 22, 3) := by decide +kernel
theorem d7_28 : decode prog_21_method_2_code 28 = .ok (.invokespecial 26, 3) := by decide +kernel
theorem d7_31 : decode prog_21_method_2_code 31 = .ok (.areturn, 1) := by decide +kernel
theorem d8_0 : decode jdk_67_method_1_code 0 = .ok (.aload_n 0, 1) := by decide +kernel
theorem d8_1 : decode jdk_67_method_1_code 1 = .ok (.bipush 16, 2) := by decide +kernel
theorem d8_3 : decode jdk_67_method_1_code 3 = .ok (.invokespecial 1, 3) := by decide +kernel
theorem d8_6 : decode jdk_67_method_1_code 6 = .ok (.return_, 1) := by decide +kernel
theorem d9_0 : decode jdk_68_method_2_code 0 = .ok (.aload_n 0, 1) := by decide +kernel
theorem d9_1 : decode jdk_68_method_2_code 1 = .ok (.invokespecial 3, 3) := by decide +kernel
theorem d9_4 : decode jdk_68_method_2_code 4 = .ok (.getstatic 18, 3) := by decide +kernel
theorem d9_7 : decode jdk_68_method_2_code 7 = .ok (.ifCond .eq 18, 3) := by decide +kernel
theorem d9_10 : decode jdk_68_method_2_code 10 = .ok (.aload_n 0, 1) := by decide +kernel
theorem d9_11 : decode jdk_68_method_2_code 11 = .ok (.iload_n 1, 1) := by decide +kernel
theorem d9_12 : decode jdk_68_method_2_code 12 = .ok (.newarray .byte, 2) := by decide +kernel
theorem d9_14 : decode jdk_68_method_2_code 14 = .ok (.putfield 15, 3) := by decide +kernel
theorem d9_17 : decode jdk_68_method_2_code 17 = .ok (.aload_n 0, 1) := by decide +kernel
theorem d9_18 : decode jdk_68_method_2_code 18 = .ok (.iconst 0, 1) := by decide +kernel
theorem d9_19 : decode jdk_68_method_2_code 19 = .ok (.putfield 22, 3) := by decide +kernel
theorem d9_22 : decode jdk_68_method_2_code 22 = .ok (.goto 16, 3) := by decide +kernel
theorem d9_25 : decode jdk_68_method_2_code 25 = .ok (.aload_n 0, 1) := by decide +kernel
theorem d9_26 : decode jdk_68_method_2_code 26 = .ok (.iload_n 1, 1) := by decide +kernel
theorem d9_27 : decode jdk_68_method_2_code 27 = .ok (.invokestatic 26, 3) := by decide +kernel
theorem d9_30 : decode jdk_68_method_2_code 30 = .ok (.putfield 15, 3) := by decide +kernel
theorem d9_33 : decode jdk_68_method_2_code 33 = .ok (.aload_n 0, 1) := by decide +kernel
theorem d9_34 : decode jdk_68_method_2_code 34 = .ok (.iconst 1, 1) := by decide +kernel
theorem d9_35 : decode jdk_68_method_2_code 35 = .ok (.putfield 22, 3) := by decide +kernel
theorem d9_38 : decode jdk_68_method_2_code 38 = .ok (.return_, 1) := by decide +kernel
theorem d10_0 : decode jdk_67_method_7_code 0 = .ok (.aload_n 0, 1) := by decide +kernel
theorem d10_1 : decode jdk_67_method_7_code 1 = .ok (.aload_n 1, 1) := by decide +kernel
theorem d10_2 : decode jdk_67_method_7_code 2 = .ok (.invokespecial 29, 3) := by decide +kernel
theorem d10_5 : decode jdk_67_method_7_code 5 = .ok (.pop, 1) := by decide +kernel
theorem d10_6 : decode jdk_67_method_7_code 6 = .ok (.aload_n 0, 1) := by decide +kernel
theorem d10_7 : decode jdk_67_method_7_code 7 = .ok (.areturn, 1) := by decide +kernel
theorem d11_0 : decode jdk_68_method_22_code 0 = .ok (.aload_n 1, 1) := by decide +kernel
theorem d11_1 : decode jdk_68_method_22_code 1 = .ok (.ifnonnull 8, 3) := by decide +kernel
theorem d11_4 : decode jdk_68_method_22_code 4 = .ok (.aload_n 0, 1) := by decide +kernel
theorem d11_5 : decode jdk_68_method_22_code 5 = .ok (.invokevirtual 204, 3) := by decide +kernel
theorem d11_8 : decode jdk_68_method_22_code 8 = .ok (.areturn, 1) := by decide +kernel
theorem d11_9 : decode jdk_68_method_22_code 9 = .ok (.aload_n 1, 1) := by decide +kernel
theorem d11_10 : decode jdk_68_method_22_code 10 = .ok (.invokevirtual 32, 3) := by decide +kernel
theorem d11_13 : decode jdk_68_method_22_code 13 = .ok (.istore_n 2, 1) := by decide +kernel
theorem d11_14 : decode jdk_68_method_22_code 14 = .ok (.aload_n 0, 1) := by decide +kernel
theorem d11_15 : decode jdk_68_method_22_code 15 = .ok (.aload_n 0, 1) := by decide +kernel
theorem d11_16 : decode jdk_68_method_22_code 16 = .ok (.getfield 79, 3) := by decide +kernel
theorem d11_19 : decode jdk_68_method_22_code 19 = .ok (.iload_n 2, 1) := by decide +kernel
theorem d11_20 : decode jdk_68_method_22_code 20 = .ok (.iadd, 1) := by decide +kernel
theorem d11_21 : decode jdk_68_method_22_code 21 = .ok (.invokevirtual 100, 3) := by decide +kernel
theorem d11_24 : decode jdk_68_method_22_code 24 = .ok (.aload_n 0, 1) := by decide +kernel
theorem d11_25 : decode jdk_68_method_22_code 25 = .ok (.aload_n 0, 1) := by decide +kernel
theorem d11_26 : decode jdk_68_method_22_code 26 = .ok (.getfield 79, 3) := by decide +kernel
theorem d11_29 : decode jdk_68_method_22_code 29 = .ok (.aload_n 1, 1) := by decide +kernel
theorem d11_30 : decode jdk_68_method_22_code 30 = .ok (.invokevirtual 208, 3) := by decide +kernel
theorem d11_33 : decode jdk_68_method_22_code 33 = .ok (.aload_n 0, 1) := by decide +kernel
theorem d11_34 : decode jdk_68_method_22_code 34 = .ok (.dup, 1) := by decide +kernel
theorem d11_35 : decode jdk_68_method_22_code 35 = .ok (.getfield 79, 3) := by decide +kernel
theorem d11_38 : decode jdk_68_method_22_code 38 = .ok (.iload_n 2, 1) := by decide +kernel
theorem d11_39 : decode jdk_68_method_22_code 39 = .ok (.iadd, 1) := by decide +kernel
theorem d11_40 : decode jdk_68_method_22_code 40 = .ok (.putfield 79, 3) := by decide +kernel
theorem d11_43 : decode jdk_68_method_22_code 43 = .ok (.aload_n 0, 1) := by decide +kernel
theorem d11_44 : decode jdk_68_method_22_code 44 = .ok (.areturn, 1) := by decide +kernel
theorem d12_0 : decode jdk_42_method_54_code 0 = .ok (.aload_n 0, 1) := by decide +kernel
theorem d12_1 : decode jdk_42_method_54_code 1 = .ok (.getfield 9, 3) := by decide +kernel
theorem d12_4 : decode jdk_42_method_54_code 4 = .ok (.arraylength, 1) := by decide +kernel
theorem d12_5 : decode jdk_42_method_54_code 5 = .ok (.aload_n 0, 1) := by decide +kernel
theorem d12_6 : decode jdk_42_method_54_code 6 = .ok (.invokevirtual 335, 3) := by decide +kernel
theorem d12_9 : decode jdk_42_method_54_code 9 = .ok (.ishr, 1) := by decide +kernel
theorem d12_10 : decode jdk_42_method_54_code 10 = .ok (.ireturn, 1) := by decide +kernel
theorem d13_0 : decode jdk_42_method_152_code 0 = .ok (.getstatic 38, 3) := by decide +kernel
theorem d13_3 : decode jdk_42_method_152_code 3 = .ok (.ifCond .eq 10, 3) := by decide +kernel
theorem d13_6 : decode jdk_42_method_152_code 6 = .ok (.aload_n 0, 1) := by decide +kernel
theorem d13_7 : decode jdk_42_method_152_code 7 = .ok (.getfield 15, 3) := by decide +kernel
theorem d13_10 : decode jdk_42_method_152_code 10 = .ok (.goto 4, 3) := by decide +kernel
theorem d13_13 : decode jdk_42_method_152_code 13 = .ok (.iconst 1, 1) := by decide +kernel
theorem d13_14 : decode jdk_42_method_152_code 14 = .ok (.ireturn, 1) := by decide +kernel
theorem d14_0 : decode jdk_68_method_9_code 0 = .ok (.aload_n 0, 1) := by decide +kernel
theorem d14_1 : decode jdk_68_method_9_code 1 = .ok (.getfield 15, 3) := by decide +kernel
theorem d14_4 : decode jdk_68_method_9_code 4 = .ok (.arraylength, 1) := by decide +kernel
theorem d14_5 : decode jdk_68_method_9_code 5 = .ok (.aload_n 0, 1) := by decide +kernel
theorem d14_6 : decode jdk_68_method_9_code 6 = .ok (.getfield 22, 3) := by decide +kernel
theorem d14_9 : decode jdk_68_method_9_code 9 = .ok (.ishr, 1) := by decide +kernel
theorem d14_10 : decode jdk_68_method_9_code 10 = .ok (.istore_n 2, 1) := by decide +kernel
theorem d14_11 : decode jdk_68_method_9_code 11 = .ok (.iload_n 1, 1) := by decide +kernel
theorem d14_12 : decode jdk_68_method_9_code 12 = .ok (.iload_n 2, 1) := by decide +kernel
theorem d14_13 : decode jdk_68_method_9_code 13 = .ok (.isub, 1) := by decide +kernel
theorem d14_14 : decode jdk_68_method_9_code 14 = .ok (.ifCond .le 24, 3) := by decide +kernel
theorem d14_17 : decode jdk_68_method_9_code 17 = .ok (.aload_n 0, 1) := by decide +kernel
theorem d14_18 : decode jdk_68_method_9_code 18 = .ok (.aload_n 0, 1) := by decide +kernel
theorem d14_19 : decode jdk_68_method_9_code 19 = .ok (.getfield 15, 3) := by decide +kernel
theorem d14_22 : decode jdk_68_method_9_code 22 = .ok (.aload_n 0, 1) := by decide +kernel
theorem d14_23 : decode jdk_68_method_9_code 23 = .ok (.iload_n 1, 1) := by decide +kernel
theorem d14_24 : decode jdk_68_method_9_code 24 = .ok (.invokevirtual 104, 3) := by decide +kernel
theorem d14_27 : decode jdk_68_method_9_code 27 = .ok (.aload_n 0, 1) := by decide +kernel
theorem d14_28 : decode jdk_68_method_9_code 28 = .ok (.getfield 22, 3) := by decide +kernel
theorem d14_31 : decode jdk_68_method_9_code 31 = .ok (.ishl, 1) := by decide +kernel
theorem d14_32 : decode jdk_68_method_9_code 32 = .ok (.invokestatic 108, 3) := by decide +kernel
theorem d14_35 : decode jdk_68_method_9_code 35 = .ok (.putfield 15, 3) := by decide +kernel
theorem d14_38 : decode jdk_68_method_9_code 38 = .ok (.return_, 1) := by decide +kernel
theorem d15_0 : decode jdk_68_method_73_code 0 = .ok (.aload_n 0, 1) := by decide +kernel
theorem d15_1 : decode jdk_68_method_73_code 1 = .ok (.aload_n 2, 1) := by decide +kernel
theorem d15_2 : decode jdk_68_method_73_code 2 = .ok (.invokevirtual 397, 3) := by decide +kernel
theorem d15_5 : decode jdk_68_method_73_code 5 = .ok (.aload_n 2, 1) := by decide +kernel
theorem d15_6 : decode jdk_68_method_73_code 6 = .ok (.aload_n 0, 1) := by decide +kernel
theorem d15_7 : decode jdk_68_method_73_code 7 = .ok (.getfield 15, 3) := by decide +kernel
theorem d15_10 : decode jdk_68_method_73_code 10 = .ok (.iload_n 1, 1) := by decide +kernel
theorem d15_11 : decode jdk_68_method_73_code 11 = .ok (.aload_n 0, 1) := by decide +kernel
theorem d15_12 : decode jdk_68_method_73_code 12 = .ok (.getfield 22, 3) := by decide +kernel
theorem d15_15 : decode jdk_68_method_73_code 15 = .ok (.invokevirtual 399, 3) := by decide +kernel
theorem d15_18 : decode jdk_68_method_73_code 18 = .ok (.return_, 1) := by decide +kernel
theorem d16_0 : decode jdk_68_method_71_code 0 = .ok (.getstatic 18, 3) := by decide +kernel
theorem d16_3 : decode jdk_68_method_71_code 3 = .ok (.ifCond .eq 18, 3) := by decide +kernel
theorem d16_6 : decode jdk_68_method_71_code 6 = .ok (.aload_n 0, 1) := by decide +kernel
theorem d16_7 : decode jdk_68_method_71_code 7 = .ok (.getfield 22, 3) := by decide +kernel
theorem d16_10 : decode jdk_68_method_71_code 10 = .ok (.aload_n 1, 1) := by decide +kernel
theorem d16_11 : decode jdk_68_method_71_code 11 = .ok (.invokevirtual 40, 3) := by decide +kernel
theorem d16_14 : decode jdk_68_method_71_code 14 = .ok (.if_icmp .eq 7, 3) := by decide +kernel
theorem d16_17 : decode jdk_68_method_71_code 17 = .ok (.aload_n 0, 1) := by decide +kernel
theorem d16_18 : decode jdk_68_method_71_code 18 = .ok (.invokevirtual 195, 3) := by decide +kernel
theorem d16_21 : decode jdk_68_method_71_code 21 = .ok (.return_, 1) := by decide +kernel
theorem d17_0 : decode jdk_42_method_147_code 0 = .ok (.aload_n 0, 1) := by decide +kernel
theorem d17_1 : decode jdk_42_method_147_code 1 = .ok (.invokevirtual 335, 3) := by decide +kernel
theorem d17_4 : decode jdk_42_method_147_code 4 = .ok (.iload_n 3, 1) := by decide +kernel
theorem d17_5 : decode jdk_42_method_147_code 5 = .ok (.if_icmp .ne 23, 3) := by decide +kernel
theorem d17_8 : decode jdk_42_method_147_code 8 = .ok (.aload_n 0, 1) := by decide +kernel
theorem d17_9 : decode jdk_42_method_147_code 9 = .ok (.getfield 9, 3) := by decide +kernel
theorem d17_12 : decode jdk_42_method_147_code 12 = .ok (.iconst 0, 1) := by decide +kernel
theorem d17_13 : decode jdk_42_method_147_code 13 = .ok (.aload_n 1, 1) := by decide +kernel
theorem d17_14 : decode jdk_42_method_147_code 14 = .ok (.iload_n 2, 1) := by decide +kernel
theorem d17_15 : decode jdk_42_method_147_code 15 = .ok (.iload_n 3, 1) := by decide +kernel
theorem d17_16 : decode jdk_42_method_147_code 16 = .ok (.ishl, 1) := by decide +kernel
theorem d17_17 : decode jdk_42_method_147_code 17 = .ok (.aload_n 0, 1) := by decide +kernel
theorem d17_18 : decode jdk_42_method_147_code 18 = .ok (.getfield 9, 3) := by decide +kernel
theorem d17_21 : decode jdk_42_method_147_code 21 = .ok (.arraylength, 1) := by decide +kernel
theorem d17_22 : decode jdk_42_method_147_code 22 = .ok (.invokestatic 212, 3) := by decide +kernel
theorem d17_25 : decode jdk_42_method_147_code 25 = .ok (.goto 18, 3) := by decide +kernel
theorem d17_28 : decode jdk_42_method_147_code 28 = .ok (.aload_n 0, 1) := by decide +kernel
theorem d17_29 : decode jdk_42_method_147_code 29 = .ok (.getfield 9, 3) := by decide +kernel
theorem d17_32 : decode jdk_42_method_147_code 32 = .ok (.iconst 0, 1) := by decide +kernel
theorem d17_33 : decode jdk_42_method_147_code 33 = .ok (.aload_n 1, 1) := by decide +kernel
theorem d17_34 : decode jdk_42_method_147_code 34 = .ok (.iload_n 2, 1) := by decide +kernel
theorem d17_35 : decode jdk_42_method_147_code 35 = .ok (.aload_n 0, 1) := by decide +kernel
theorem d17_36 : decode jdk_42_method_147_code 36 = .ok (.getfield 9, 3) := by decide +kernel
theorem d17_39 : decode jdk_42_method_147_code 39 = .ok (.arraylength, 1) := by decide +kernel
theorem d17_40 : decode jdk_42_method_147_code 40 = .ok (.invokestatic 106, 3) := by decide +kernel
theorem d17_43 : decode jdk_42_method_147_code 43 = .ok (.return_, 1) := by decide +kernel
theorem d18_0 : decode jdk_68_method_10_code 0 = .ok (.aload_n 0, 1) := by decide +kernel
theorem d18_1 : decode jdk_68_method_10_code 1 = .ok (.getfield 15, 3) := by decide +kernel
theorem d18_4 : decode jdk_68_method_10_code 4 = .ok (.arraylength, 1) := by decide +kernel
theorem d18_5 : decode jdk_68_method_10_code 5 = .ok (.istore_n 2, 1) := by decide +kernel
theorem d18_6 : decode jdk_68_method_10_code 6 = .ok (.iload_n 1, 1) := by decide +kernel
theorem d18_7 : decode jdk_68_method_10_code 7 = .ok (.aload_n 0, 1) := by decide +kernel
theorem d18_8 : decode jdk_68_method_10_code 8 = .ok (.getfield 22, 3) := by decide +kernel
theorem d18_11 : decode jdk_68_method_10_code 11 = .ok (.ishl, 1) := by decide +kernel
theorem d18_12 : decode jdk_68_method_10_code 12 = .ok (.istore_n 3, 1) := by decide +kernel
theorem d18_13 : decode jdk_68_method_10_code 13 = .ok (.iload_n 3, 1) := by decide +kernel
theorem d18_14 : decode jdk_68_method_10_code 14 = .ok (.iload_n 2, 1) := by decide +kernel
theorem d18_15 : decode jdk_68_method_10_code 15 = .ok (.isub, 1) := by decide +kernel
theorem d18_16 : decode jdk_68_method_10_code 16 = .ok (.istore 4, 2) := by decide +kernel
theorem d18_18 : decode jdk_68_method_10_code 18 = .ok (.iload_n 2, 1) := by decide +kernel
theorem d18_19 : decode jdk_68_method_10_code 19 = .ok (.iload 4, 2) := by decide +kernel
theorem d18_21 : decode jdk_68_method_10_code 21 = .ok (.iload_n 2, 1) := by decide +kernel
theorem d18_22 : decode jdk_68_method_10_code 22 = .ok (.iconst 2, 1) := by decide +kernel
theorem d18_23 : decode jdk_68_method_10_code 23 = .ok (.aload_n 0, 1) := by decide +kernel
theorem d18_24 : decode jdk_68_method_10_code 24 = .ok (.getfield 22, 3) := by decide +kernel
theorem d18_27 : decode jdk_68_method_10_code 27 = .ok (.ishl, 1) := by decide +kernel
theorem d18_28 : decode jdk_68_method_10_code 28 = .ok (.iadd, 1) := by decide +kernel
theorem d18_29 : decode jdk_68_method_10_code 29 = .ok (.invokestatic 114, 3) := by decide +kernel
theorem d18_32 : decode jdk_68_method_10_code 32 = .ok (.istore 5, 2) := by decide +kernel
theorem d18_34 : decode jdk_68_method_10_code 34 = .ok (.iload 5, 2) := by decide +kernel
theorem d18_36 : decode jdk_68_method_10_code 36 = .ok (.ldc 39, 2) := by decide +kernel
theorem d18_38 : decode jdk_68_method_10_code 38 = .ok (.if_icmp .ne 13, 3) := by decide +kernel
theorem d18_41 : decode jdk_68_method_10_code 41 = .ok (.new 120, 3) := by decide +kernel
theorem d18_44 : decode jdk_68_method_10_code 44 = .ok (.dup, 1) := by decide +kernel
theorem d18_45 : decode jdk_68_method_10_code 45 = .ok (.ldc 122, 2) := by decide +kernel
theorem d18_47 : decode jdk_68_method_10_code 47 = .ok (.invokespecial 124, 3) := by decide +kernel
theorem d18_50 : decode jdk_68_method_10_code 50 = .ok (.athrow, 1) := by decide +kernel
theorem d18_51 : decode jdk_68_method_10_code 51 = .ok (.iload 5, 2) := by decide +kernel
theorem d18_53 : decode jdk_68_method_10_code 53 = .ok (.aload_n 0, 1) := by decide +kernel
theorem d18_54 : decode jdk_68_method_10_code 54 = .ok (.getfield 22, 3) := by decide +kernel
theorem d18_57 : decode jdk_68_method_10_code 57 = .ok (.ishr, 1) := by decide +kernel
theorem d18_58 : decode jdk_68_method_10_code 58 = .ok (.ireturn, 1) := by decide +kernel
theorem d19_0 : decode jdk_48_method_27_code 0 = .ok (.iload_n 0, 1) := by decide +kernel
theorem d19_1 : decode jdk_48_method_27_code 1 = .ok (.iload_n 1, 1) := by decide +kernel
theorem d19_2 : decode jdk_48_method_27_code 2 = .ok (.iload_n 2, 1) := by decide +kernel
theorem d19_3 : decode jdk_48_method_27_code 3 = .ok (.invokestatic 194, 3) := by decide +kernel
theorem d19_6 : decode jdk_48_method_27_code 6 = .ok (.iadd, 1) := by decide +kernel
theorem d19_7 : decode jdk_48_method_27_code 7 = .ok (.istore_n 3, 1) := by decide +kernel
theorem d19_8 : decode jdk_48_method_27_code 8 = .ok (.iconst 0, 1) := by decide +kernel
theorem d19_9 : decode jdk_48_method_27_code 9 = .ok (.iload_n 3, 1) := by decide +kernel
theorem d19_10 : decode jdk_48_method_27_code 10 = .ok (.if_icmp .ge 11, 3) := by decide +kernel
theorem d19_13 : decode jdk_48_method_27_code 13 = .ok (.iload_n 3, 1) := by decide +kernel
theorem d19_14 : decode jdk_48_method_27_code 14 = .ok (.ldc 200, 2) := by decide +kernel
theorem d19_16 : decode jdk_48_method_27_code 16 = .ok (.if_icmp .gt 5, 3) := by decide +kernel
theorem d19_19 : decode jdk_48_method_27_code 19 = .ok (.iload_n 3, 1) := by decide +kernel
theorem d19_20 : decode jdk_48_method_27_code 20 = .ok (.ireturn, 1) := by decide +kernel
theorem d19_21 : decode jdk_48_method_27_code 21 = .ok (.iload_n 0, 1) := by decide +kernel
theorem d19_22 : decode jdk_48_method_27_code 22 = .ok (.iload_n 1, 1) := by decide +kernel
theorem d19_23 : decode jdk_48_method_27_code 23 = .ok (.invokestatic 201, 3) := by decide +kernel
theorem d19_26 : decode jdk_48_method_27_code 26 = .ok (.ireturn, 1) := by decide +kernel
theorem d20_0 : decode jdk_29_method_65_code 0 = .ok (.iload_n 0, 1) := by decide +kernel
theorem d20_1 : decode jdk_29_method_65_code 1 = .ok (.iload_n 1, 1) := by decide +kernel
theorem d20_2 : decode jdk_29_method_65_code 2 = .ok (.if_icmp .lt 7, 3) := by decide +kernel
theorem d20_5 : decode jdk_29_method_65_code 5 = .ok (.iload_n 0, 1) := by decide +kernel
theorem d20_6 : decode jdk_29_method_65_code 6 = .ok (.goto 4, 3) := by decide +kernel
theorem d20_9 : decode jdk_29_method_65_code 9 = .ok (.iload_n 1, 1) := by decide +kernel
theorem d20_10 : decode jdk_29_method_65_code 10 = .ok (.ireturn, 1) := by decide +kernel
theorem d21_0 : decode jdk_65_method_121_code 0 = .ok (.iload_n 1, 1) := by decide +kernel
theorem d21_1 : decode jdk_65_method_121_code 1 = .ok (.aload_n 0, 1) := by decide +kernel
theorem d21_2 : decode jdk_65_method_121_code 2 = .ok (.arraylength, 1) := by decide +kernel
theorem d21_3 : decode jdk_65_method_121_code 3 = .ok (.if_icmp .ne 11, 3) := by decide +kernel
theorem d21_6 : decode jdk_65_method_121_code 6 = .ok (.aload_n 0, 1) := by decide +kernel
theorem d21_7 : decode jdk_65_method_121_code 7 = .ok (.invokevirtual 310, 3) := by decide +kernel
theorem d21_10 : decode jdk_65_method_121_code 10 = .ok (.checkcast 311, 3) := by decide +kernel
theorem d21_13 : decode jdk_65_method_121_code 13 = .ok (.areturn, 1) := by decide +kernel
theorem d21_14 : decode jdk_65_method_121_code 14 = .ok (.iload_n 1, 1) := by decide +kernel
theorem d21_15 : decode jdk_65_method_121_code 15 = .ok (.newarray .byte, 2) := by decide +kernel
theorem d21_17 : decode jdk_65_method_121_code 17 = .ok (.astore_n 2, 1) := by decide +kernel
theorem d21_18 : decode jdk_65_method_121_code 18 = .ok (.aload_n 0, 1) := by decide +kernel
theorem d21_19 : decode jdk_65_method_121_code 19 = .ok (.iconst 0, 1) := by decide +kernel
theorem d21_20 : decode jdk_65_method_121_code 20 = .ok (.aload_n 2, 1) := by decide +kernel
theorem d21_21 : decode jdk_65_method_121_code 21 = .ok (.iconst 0, 1) := by decide +kernel
theorem d21_22 : decode jdk_65_method_121_code 22 = .ok (.aload_n 0, 1) := by decide +kernel
theorem d21_23 : decode jdk_65_method_121_code 23 = .ok (.arraylength, 1) := by decide +kernel
theorem d21_24 : decode jdk_65_method_121_code 24 = .ok (.iload_n 1, 1) := by decide +kernel
theorem d21_25 : decode jdk_65_method_121_code 25 = .ok (.invokestatic 304, 3) := by decide +kernel
theorem d21_28 : decode jdk_65_method_121_code 28 = .ok (.invokestatic 150, 3) := by decide +kernel
theorem d21_31 : decode jdk_65_method_121_code 31 = .ok (.aload_n 2, 1) := by decide +kernel
theorem d21_32 : decode jdk_65_method_121_code 32 = .ok (.areturn, 1) := by decide +kernel
theorem d22_0 : decode jdk_29_method_69_code 0 = .ok (.iload_n 0, 1) := by decide +kernel
theorem d22_1 : decode jdk_29_method_69_code 1 = .ok (.iload_n 1, 1) := by decide +kernel
theorem d22_2 : decode jdk_29_method_69_code 2 = .ok (.if_icmp .gt 7, 3) := by decide +kernel
theorem d22_5 : decode jdk_29_method_69_code 5 = .ok (.iload_n 0, 1) := by decide +kernel
theorem d22_6 : decode jdk_29_method_69_code 6 = .ok (.goto 4, 3) := by decide +kernel
theorem d22_9 : decode jdk_29_method_69_code 9 = .ok (.iload_n 1, 1) := by decide +kernel
theorem d22_10 : decode jdk_29_method_69_code 10 = .ok (.ireturn, 1) := by decide +kernel
theorem d23_0 : decode jdk_67_method_42_code 0 = .ok (.new 18, 3) := by decide +kernel
theorem d23_3 : decode jdk_67_method_42_code 3 = .ok (.dup, 1) := by decide +kernel
theorem d23_4 : decode jdk_67_method_42_code 4 = .ok (.aload_n 0, 1) := by decide +kernel
theorem d23_5 : decode jdk_67_method_42_code 5 = .ok (.invokespecial 137, 3) := by decide +kernel
theorem d23_8 : decode jdk_67_method_42_code 8 = .ok (.areturn, 1) := by decide +kernel
theorem d24_0 : decode jdk_42_method_53_code 0 = .ok (.aload_n 0, 1) := by decide +kernel
theorem d24_1 : decode jdk_42_method_53_code 1 = .ok (.aload_n 1, 1) := by decide +kernel
theorem d24_2 : decode jdk_42_method_53_code 2 = .ok (.aconst_null, 1) := by decide +kernel
theorem d24_3 : decode jdk_42_method_53_code 3 = .ok (.invokespecial 489, 3) := by decide +kernel
theorem d24_6 : decode jdk_42_method_53_code 6 = .ok (.return_, 1) := by decide +kernel
theorem d25_0 : decode jdk_42_method_150_code 0 = .ok (.aload_n 0, 1) := by decide +kernel
theorem d25_1 : decode jdk_42_method_150_code 1 = .ok (.invokespecial 1, 3) := by decide +kernel
theorem d25_4 : decode jdk_42_method_150_code 4 = .ok (.aload_n 1, 1) := by decide +kernel
theorem d25_5 : decode jdk_42_method_150_code 5 = .ok (.invokevirtual 552, 3) := by decide +kernel
theorem d25_8 : decode jdk_42_method_150_code 8 = .ok (.astore_n 3, 1) := by decide +kernel
theorem d25_9 : decode jdk_42_method_150_code 9 = .ok (.aload_n 1, 1) := by decide +kernel
theorem d25_10 : decode jdk_42_method_150_code 10 = .ok (.invokevirtual 549, 3) := by decide +kernel
theorem d25_13 : decode jdk_42_method_150_code 13 = .ok (.istore 4, 2) := by decide +kernel
theorem d25_15 : decode jdk_42_method_150_code 15 = .ok (.aload_n 1, 1) := by decide +kernel
theorem d25_16 : decode jdk_42_method_150_code 16 = .ok (.invokevirtual 1047, 3) := by decide +kernel
theorem d25_19 : decode jdk_42_method_150_code 19 = .ok (.ifCond .eq 22, 3) := by decide +kernel
theorem d25_22 : decode jdk_42_method_150_code 22 = .ok (.aload_n 0, 1) := by decide +kernel
theorem d25_23 : decode jdk_42_method_150_code 23 = .ok (.iconst 0, 1) := by decide +kernel
theorem d25_24 : decode jdk_42_method_150_code 24 = .ok (.putfield 15, 3) := by decide +kernel
theorem d25_27 : decode jdk_42_method_150_code 27 = .ok (.aload_n 0, 1) := by decide +kernel
theorem d25_28 : decode jdk_42_method_150_code 28 = .ok (.aload_n 3, 1) := by decide +kernel
theorem d25_29 : decode jdk_42_method_150_code 29 = .ok (.iconst 0, 1) := by decide +kernel
theorem d25_30 : decode jdk_42_method_150_code 30 = .ok (.iload 4, 2) := by decide +kernel
theorem d25_32 : decode jdk_42_method_150_code 32 = .ok (.invokestatic 54, 3) := by decide +kernel
theorem d25_35 : decode jdk_42_method_150_code 35 = .ok (.putfield 9, 3) := by decide +kernel
theorem d25_38 : decode jdk_42_method_150_code 38 = .ok (.goto 59, 3) := by decide +kernel
theorem d25_41 : decode jdk_42_method_150_code 41 = .ok (.getstatic 38, 3) := by decide +kernel
theorem d25_44 : decode jdk_42_method_150_code 44 = .ok (.ifCond .eq 35, 3) := by decide +kernel
theorem d25_47 : decode jdk_42_method_150_code 47 = .ok (.aload_n 1, 1) := by decide +kernel
theorem d25_48 : decode jdk_42_method_150_code 48 = .ok (.getfield 1048, 3) := by decide +kernel
theorem d25_51 : decode jdk_42_method_150_code 51 = .ok (.ifCond .eq 28, 3) := by decide +kernel
theorem d25_54 : decode jdk_42_method_150_code 54 = .ok (.aload_n 0, 1) := by decide +kernel
theorem d25_55 : decode jdk_42_method_150_code 55 = .ok (.aload_n 3, 1) := by decide +kernel
theorem d25_56 : decode jdk_42_method_150_code 56 = .ok (.iconst 0, 1) := by decide +kernel
theorem d25_57 : decode jdk_42_method_150_code 57 = .ok (.iload 4, 2) := by decide +kernel
theorem d25_59 : decode jdk_42_method_150_code 59 = .ok (.invokestatic 1051, 3) := by decide +kernel
theorem d25_62 : decode jdk_42_method_150_code 62 = .ok (.putfield 9, 3) := by decide +kernel
theorem d25_65 : decode jdk_42_method_150_code 65 = .ok (.aload_n 0, 1) := by decide +kernel
theorem d25_66 : decode jdk_42_method_150_code 66 = .ok (.aload_n 0, 1) := by decide +kernel
theorem d25_67 : decode jdk_42_method_150_code 67 = .ok (.getfield 9, 3) := by decide +kernel
theorem d25_70 : decode jdk_42_method_150_code 70 = .ok (.iload 4, 2) := by decide +kernel
theorem d25_72 : decode jdk_42_method_150_code 72 = .ok (.invokestatic 47, 3) := by decide +kernel
theorem d25_75 : decode jdk_42_method_150_code 75 = .ok (.putfield 15, 3) := by decide +kernel
theorem d25_78 : decode jdk_42_method_150_code 78 = .ok (.return_, 1) := by decide +kernel
theorem d25_79 : decode jdk_42_method_150_code 79 = .ok (.aload_n 0, 1) := by decide +kernel
theorem d25_80 : decode jdk_42_method_150_code 80 = .ok (.iconst 1, 1) := by decide +kernel
theorem d25_81 : decode jdk_42_method_150_code 81 = .ok (.putfield 15, 3) := by decide +kernel
theorem d25_84 : decode jdk_42_method_150_code 84 = .ok (.aload_n 0, 1) := by decide +kernel
theorem d25_85 : decode jdk_42_method_150_code 85 = .ok (.aload_n 3, 1) := by decide +kernel
theorem d25_86 : decode jdk_42_method_150_code 86 = .ok (.iconst 0, 1) := by decide +kernel
theorem d25_87 : decode jdk_42_method_150_code 87 = .ok (.iload 4, 2) := by decide +kernel
theorem d25_89 : decode jdk_42_method_150_code 89 = .ok (.iconst 1, 1) := by decide +kernel
theorem d25_90 : decode jdk_42_method_150_code 90 = .ok (.ishl, 1) := by decide +kernel
theorem d25_91 : decode jdk_42_method_150_code 91 = .ok (.invokestatic 54, 3) := by decide +kernel
theorem d25_94 : decode jdk_42_method_150_code 94 = .ok (.putfield 9, 3) := by decide +kernel
theorem d25_97 : decode jdk_42_method_150_code 97 = .ok (.return_, 1) := by decide +kernel
theorem d26_0 : decode jdk_68_method_64_code 0 = .ok (.aload_n 0, 1) := by decide +kernel
theorem d26_1 : decode jdk_68_method_64_code 1 = .ok (.getfield 15, 3) := by decide +kernel
theorem d26_4 : decode jdk_68_method_64_code 4 = .ok (.areturn, 1) := by decide +kernel
theorem d27_0 : decode jdk_67_method_93_code 0 = .ok (.aload_n 0, 1) := by decide +kernel
theorem d27_1 : decode jdk_67_method_93_code 1 = .ok (.invokespecial 343, 3) := by decide +kernel
theorem d27_4 : decode jdk_67_method_93_code 4 = .ok (.ireturn, 1) := by decide +kernel
theorem d28_0 : decode jdk_68_method_6_code 0 = .ok (.aload_n 0, 1) := by decide +kernel
theorem d28_1 : decode jdk_68_method_6_code 1 = .ok (.getfield 79, 3) := by decide +kernel
theorem d28_4 : decode jdk_68_method_6_code 4 = .ok (.ireturn, 1) := by decide +kernel
theorem d29_0 : decode jdk_68_method_68_code 0 = .ok (.getstatic 18, 3) := by decide +kernel
theorem d29_3 : decode jdk_68_method_68_code 3 = .ok (.ifCond .eq 14, 3) := by decide +kernel
theorem d29_6 : decode jdk_68_method_68_code 6 = .ok (.aload_n 0, 1) := by decide +kernel
theorem d29_7 : decode jdk_68_method_68_code 7 = .ok (.getfield 22, 3) := by decide +kernel
theorem d29_10 : decode jdk_68_method_68_code 10 = .ok (.ifCond .ne 7, 3) := by decide +kernel
theorem d29_13 : decode jdk_68_method_68_code 13 = .ok (.iconst 1, 1) := by decide +kernel
theorem d29_14 : decode jdk_68_method_68_code 14 = .ok (.goto 4, 3) := by decide +kernel
theorem d29_17 : decode jdk_68_method_68_code 17 = .ok (.iconst 0, 1) := by decide +kernel
theorem d29_18 : decode jdk_68_method_68_code 18 = .ok (.ireturn, 1) := by decide +kernel
theorem d30_0 : decode jdk_65_method_132_code 0 = .ok (.iload_n 1, 1) := by decide +kernel
theorem d30_1 : decode jdk_65_method_132_code 1 = .ok (.ifCond .ne 9, 3) := by decide +kernel
theorem d30_4 : decode jdk_65_method_132_code 4 = .ok (.iload_n 2, 1) := by decide +kernel
theorem d30_5 : decode jdk_65_method_132_code 5 = .ok (.aload_n 0, 1) := by decide +kernel
theorem d30_6 : decode jdk_65_method_132_code 6 = .ok (.arraylength, 1) := by decide +kernel
theorem d30_7 : decode jdk_65_method_132_code 7 = .ok (.if_icmp .eq 10, 3) := by decide +kernel
theorem d30_10 : decode jdk_65_method_132_code 10 = .ok (.aload_n 0, 1) := by decide +kernel
theorem d30_11 : decode jdk_65_method_132_code 11 = .ok (.iload_n 1, 1) := by decide +kernel
theorem d30_12 : decode jdk_65_method_132_code 12 = .ok (.iload_n 2, 1) := by decide +kernel
theorem d30_13 : decode jdk_65_method_132_code 13 = .ok (.invokestatic 339, 3) := by decide +kernel
theorem d30_16 : decode jdk_65_method_132_code 16 = .ok (.areturn, 1) := by decide +kernel
theorem d30_17 : decode jdk_65_method_132_code 17 = .ok (.aload_n 0, 1) := by decide +kernel
theorem d30_18 : decode jdk_65_method_132_code 18 = .ok (.invokevirtual 310, 3) := by decide +kernel
theorem d30_21 : decode jdk_65_method_132_code 21 = .ok (.checkcast 311, 3) := by decide +kernel
theorem d30_24 : decode jdk_65_method_132_code 24 = .ok (.areturn, 1) := by decide +kernel
theorem d31_0 : decode jdk_65_method_133_code 0 = .ok (.iload_n 1, 1) := by decide +kernel
theorem d31_1 : decode jdk_65_method_133_code 1 = .ok (.iload_n 2, 1) := by decide +kernel
theorem d31_2 : decode jdk_65_method_133_code 2 = .ok (.invokestatic 343, 3) := by decide +kernel
theorem d31_5 : decode jdk_65_method_133_code 5 = .ok (.iload_n 2, 1) := by decide +kernel
theorem d31_6 : decode jdk_65_method_133_code 6 = .ok (.iload_n 1, 1) := by decide +kernel
theorem d31_7 : decode jdk_65_method_133_code 7 = .ok (.isub, 1) := by decide +kernel
theorem d31_8 : decode jdk_65_method_133_code 8 = .ok (.istore_n 3, 1) := by decide +kernel
theorem d31_9 : decode jdk_65_method_133_code 9 = .ok (.iload_n 3, 1) := by decide +kernel
theorem d31_10 : decode jdk_65_method_133_code 10 = .ok (.newarray .byte, 2) := by decide +kernel
theorem d31_12 : decode jdk_65_method_133_code 12 = .ok (.astore 4, 2) := by decide +kernel
theorem d31_14 : decode jdk_65_method_133_code 14 = .ok (.aload_n 0, 1) := by decide +kernel
theorem d31_15 : decode jdk_65_method_133_code 15 = .ok (.iload_n 1, 1) := by decide +kernel
theorem d31_16 : decode jdk_65_method_133_code 16 = .ok (.aload 4, 2) := by decide +kernel
theorem d31_18 : decode jdk_65_method_133_code 18 = .ok (.iconst 0, 1) := by decide +kernel
theorem d31_19 : decode jdk_65_method_133_code 19 = .ok (.aload_n 0, 1) := by decide +kernel
theorem d31_20 : decode jdk_65_method_133_code 20 = .ok (.arraylength, 1) := by decide +kernel
theorem d31_21 : decode jdk_65_method_133_code 21 = .ok (.iload_n 1, 1) := by decide +kernel
theorem d31_22 : decode jdk_65_method_133_code 22 = .ok (.isub, 1) := by decide +kernel
theorem d31_23 : decode jdk_65_method_133_code 23 = .ok (.iload_n 3, 1) := by decide +kernel
theorem d31_24 : decode jdk_65_method_133_code 24 = .ok (.invokestatic 304, 3) := by decide +kernel
theorem d31_27 : decode jdk_65_method_133_code 27 = .ok (.invokestatic 150, 3) := by decide +kernel
theorem d31_30 : decode jdk_65_method_133_code 30 = .ok (.aload 4, 2) := by decide +kernel
theorem d31_32 : decode jdk_65_method_133_code 32 = .ok (.areturn, 1) := by decide +kernel
theorem d32_0 : decode jdk_65_method_131_code 0 = .ok (.iload_n 1, 1) := by decide +kernel
theorem d32_1 : decode jdk_65_method_131_code 1 = .ok (.iload_n 0, 1) := by decide +kernel
theorem d32_2 : decode jdk_65_method_131_code 2 = .ok (.if_icmp .ge 35, 3) := by decide +kernel
theorem d32_5 : decode jdk_65_method_131_code 5 = .ok (.new 43, 3) := by decide +kernel
theorem d32_8 : decode jdk_65_method_131_code 8 = .ok (.dup, 1) := by decide +kernel
theorem d32_9 : decode jdk_65_method_131_code 9 = .ok (.new 45, 3) := by decide +kernel
theorem d32_12 : decode jdk_65_method_131_code 12 = .ok (.dup, 1) := by decide +kernel
theorem d32_13 : decode jdk_65_method_131_code 13 = .ok (.invokespecial 47, 3) := by decide +kernel
theorem d32_16 : decode jdk_65_method_131_code 16 = .ok (.iload_n 0, 1) := by decide +kernel
theorem d32_17 : decode jdk_65_method_131_code 17 = .ok (.invokevirtual 54, 3) := by decide +kernel
theorem d32_20 : decode jdk_65_method_131_code 20 = .ok (.ldc_w 337, 3) := by decide +kernel
theorem d32_23 : decode jdk_65_method_131_code 23 = .ok (.invokevirtual 50, 3) := by decide +kernel
theorem d32_26 : decode jdk_65_method_131_code 26 = .ok (.iload_n 1, 1) := by decide +kernel
theorem d32_27 : decode jdk_65_method_131_code 27 = .ok (.invokevirtual 54, 3) := by decide +kernel
theorem d32_30 : decode jdk_65_method_131_code 30 = .ok (.invokevirtual 61, 3) := by decide +kernel
theorem d32_33 : decode jdk_65_method_131_code 33 = .ok (.invokespecial 65, 3) := by decide +kernel
theorem d32_36 : decode jdk_65_method_131_code 36 = .ok (.athrow, 1) := by decide +kernel
theorem d32_37 : decode jdk_65_method_131_code 37 = .ok (.return_, 1) := by decide +kernel
theorem d33_0 : decode prog_21_method_1_code 0 = .ok (.aload_n 0, 1) := by decide +kernel
theorem d33_1 : decode prog_21_method_1_code 1 = .ok (.aload_n 1, 1) := by decide +kernel
theorem d33_2 : decode prog_21_method_1_code 2 = .ok (.invokespecial 1, 3) := by decide +kernel
theorem d33_5 : decode prog_21_method_1_code 5 = .ok (.return_, 1) := by decide +kernel
theorem d34_0 : decode jdk_59_method_2_code 0 = .ok (.aload_n 0, 1) := by decide +kernel
theorem d34_1 : decode jdk_59_method_2_code 1 = .ok (.aload_n 1, 1) := by decide +kernel
theorem d34_2 : decode jdk_59_method_2_code 2 = .ok (.invokespecial 7, 3) := by decide +kernel
theorem d34_5 : decode jdk_59_method_2_code 5 = .ok (.return_, 1) := by decide +kernel
theorem d35_0 : decode jdk_78_method_2_code 0 = .ok (.aload_n 0, 1) := by decide +kernel
theorem d35_1 : decode jdk_78_method_2_code 1 = .ok (.invokespecial 1, 3) := by decide +kernel
theorem d35_4 : decode jdk_78_method_2_code 4 = .ok (.aload_n 0, 1) := by decide +kernel
theorem d35_5 : decode jdk_78_method_2_code 5 = .ok (.aload_n 0, 1) := by decide +kernel
theorem d35_6 : decode jdk_78_method_2_code 6 = .ok (.putfield 7, 3) := by decide +kernel
theorem d35_9 : decode jdk_78_method_2_code 9 = .ok (.aload_n 0, 1) := by decide +kernel
theorem d35_10 : decode jdk_78_method_2_code 10 = .ok (.getstatic 13, 3) := by decide +kernel
theorem d35_13 : decode jdk_78_method_2_code 13 = .ok (.putfield 17, 3) := by decide +kernel
theorem d35_16 : decode jdk_78_method_2_code 16 = .ok (.aload_n 0, 1) := by decide +kernel
theorem d35_17 : decode jdk_78_method_2_code 17 = .ok (.getstatic 20, 3) := by decide +kernel
theorem d35_20 : decode jdk_78_method_2_code 20 = .ok (.putfield 24, 3) := by decide +kernel
theorem d35_23 : decode jdk_78_method_2_code 23 = .ok (.aload_n 0, 1) := by decide +kernel
theorem d35_24 : decode jdk_78_method_2_code 24 = .ok (.invokevirtual 27, 3) := by decide +kernel
theorem d35_27 : decode jdk_78_method_2_code 27 = .ok (.pop, 1) := by decide +kernel
theorem d35_28 : decode jdk_78_method_2_code 28 = .ok (.aload_n 0, 1) := by decide +kernel
theorem d35_29 : decode jdk_78_method_2_code 29 = .ok (.aload_n 1, 1) := by decide +kernel
theorem d35_30 : decode jdk_78_method_2_code 30 = .ok (.putfield 31, 3) := by decide +kernel
theorem d35_33 : decode jdk_78_method_2_code 33 = .ok (.return_, 1) := by decide +kernel
theorem d36_0 : decode jdk_78_method_1_code 0 = .ok (.aload_n 0, 1) := by decide +kernel
theorem d36_1 : decode jdk_78_method_1_code 1 = .ok (.invokespecial 1, 3) := by decide +kernel
theorem d36_4 : decode jdk_78_method_1_code 4 = .ok (.aload_n 0, 1) := by decide +kernel
theorem d36_5 : decode jdk_78_method_1_code 5 = .ok (.aload_n 0, 1) := by decide +kernel
theorem d36_6 : decode jdk_78_method_1_code 6 = .ok (.putfield 7, 3) := by decide +kernel
theorem d36_9 : decode jdk_78_method_1_code 9 = .ok (.aload_n 0, 1) := by decide +kernel
theorem d36_10 : decode jdk_78_method_1_code 10 = .ok (.getstatic 13, 3) := by decide +kernel
theorem d36_13 : decode jdk_78_method_1_code 13 = .ok (.putfield 17, 3) := by decide +kernel
theorem d36_16 : decode jdk_78_method_1_code 16 = .ok (.aload_n 0, 1) := by decide +kernel
theorem d36_17 : decode jdk_78_method_1_code 17 = .ok (.getstatic 20, 3) := by decide +kernel
theorem d36_20 : decode jdk_78_method_1_code 20 = .ok (.putfield 24, 3) := by decide +kernel
theorem d36_23 : decode jdk_78_method_1_code 23 = .ok (.aload_n 0, 1) := by decide +kernel
theorem d36_24 : decode jdk_78_method_1_code 24 = .ok (.invokevirtual 27, 3) := by decide +kernel
theorem d36_27 : decode jdk_78_method_1_code 27 = .ok (.pop, 1) := by decide +kernel
theorem d36_28 : decode jdk_78_method_1_code 28 = .ok (.return_, 1) := by decide +kernel
theorem d37_0 : decode jdk_78_method_6_code 0 = .ok (.aload_n 0, 1) := by decide +kernel
theorem d37_1 : decode jdk_78_method_6_code 1 = .ok (.getfield 31, 3) := by decide +kernel
theorem d37_4 : decode jdk_78_method_6_code 4 = .ok (.areturn, 1) := by decide +kernel
theorem d38_0 : decode jdk_42_method_66_code 0 = .ok (.aload_n 0, 1) := by decide +kernel
theorem d38_1 : decode jdk_42_method_66_code 1 = .ok (.aload_n 1, 1) := by decide +kernel
theorem d38_2 : decode jdk_42_method_66_code 2 = .ok (.if_acmp .ne 5, 3) := by decide +kernel
theorem d38_5 : decode jdk_42_method_66_code 5 = .ok (.iconst 1, 1) := by decide +kernel
theorem d38_6 : decode jdk_42_method_66_code 6 = .ok (.ireturn, 1) := by decide +kernel
theorem d38_7 : decode jdk_42_method_66_code 7 = .ok (.aload_n 1, 1) := by decide +kernel
theorem d38_8 : decode jdk_42_method_66_code 8 = .ok (.instanceof 10, 3) := by decide +kernel
theorem d38_11 : decode jdk_42_method_66_code 11 = .ok (.ifCond .eq 43, 3) := by decide +kernel
theorem d38_14 : decode jdk_42_method_66_code 14 = .ok (.aload_n 1, 1) := by decide +kernel
theorem d38_15 : decode jdk_42_method_66_code 15 = .ok (.checkcast 10, 3) := by decide +kernel
theorem d38_18 : decode jdk_42_method_66_code 18 = .ok (.astore_n 2, 1) := by decide +kernel
theorem d38_19 : decode jdk_42_method_66_code 19 = .ok (.getstatic 38, 3) := by decide +kernel
theorem d38_22 : decode jdk_42_method_66_code 22 = .ok (.ifCond .eq 14, 3) := by decide +kernel
theorem d38_25 : decode jdk_42_method_66_code 25 = .ok (.aload_n 0, 1) := by decide +kernel
theorem d38_26 : decode jdk_42_method_66_code 26 = .ok (.getfield 15, 3) := by decide +kernel
theorem d38_29 : decode jdk_42_method_66_code 29 = .ok (.aload_n 2, 1) := by decide +kernel
theorem d38_30 : decode jdk_42_method_66_code 30 = .ok (.getfield 15, 3) := by decide +kernel
theorem d38_33 : decode jdk_42_method_66_code 33 = .ok (.if_icmp .ne 21, 3) := by decide +kernel
theorem d38_36 : decode jdk_42_method_66_code 36 = .ok (.aload_n 0, 1) := by decide +kernel
theorem d38_37 : decode jdk_42_method_66_code 37 = .ok (.getfield 9, 3) := by decide +kernel
theorem d38_40 : decode jdk_42_method_66_code 40 = .ok (.aload_n 2, 1) := by decide +kernel
theorem d38_41 : decode jdk_42_method_66_code 41 = .ok (.getfield 9, 3) := by decide +kernel
theorem d38_44 : decode jdk_42_method_66_code 44 = .ok (.invokestatic 541, 3) := by decide +kernel
theorem d38_47 : decode jdk_42_method_66_code 47 = .ok (.ifCond .eq 7, 3) := by decide +kernel
theorem d38_50 : decode jdk_42_method_66_code 50 = .ok (.iconst 1, 1) := by decide +kernel
theorem d38_51 : decode jdk_42_method_66_code 51 = .ok (.goto 4, 3) := by decide +kernel
theorem d38_54 : decode jdk_42_method_66_code 54 = .ok (.iconst 0, 1) := by decide +kernel
theorem d38_55 : decode jdk_42_method_66_code 55 = .ok (.ireturn, 1) := by decide +kernel
theorem d39_0 : decode jdk_43_method_13_code 0 = .ok (.aload_n 0, 1) := by decide +kernel
theorem d39_1 : decode jdk_43_method_13_code 1 = .ok (.arraylength, 1) := by decide +kernel
theorem d39_2 : decode jdk_43_method_13_code 2 = .ok (.aload_n 1, 1) := by decide +kernel
theorem d39_3 : decode jdk_43_method_13_code 3 = .ok (.arraylength, 1) := by decide +kernel
theorem d39_4 : decode jdk_43_method_13_code 4 = .ok (.if_icmp .ne 30, 3) := by decide +kernel
theorem d39_7 : decode jdk_43_method_13_code 7 = .ok (.iconst 0, 1) := by decide +kernel
theorem d39_8 : decode jdk_43_method_13_code 8 = .ok (.istore_n 2, 1) := by decide +kernel
theorem d39_9 : decode jdk_43_method_13_code 9 = .ok (.iload_n 2, 1) := by decide +kernel
theorem d39_10 : decode jdk_43_method_13_code 10 = .ok (.aload_n 0, 1) := by decide +kernel
theorem d39_11 : decode jdk_43_method_13_code 11 = .ok (.arraylength, 1) := by decide +kernel
theorem d39_12 : decode jdk_43_method_13_code 12 = .ok (.if_icmp .ge 20, 3) := by decide +kernel
theorem d39_15 : decode jdk_43_method_13_code 15 = .ok (.aload_n 0, 1) := by decide +kernel
theorem d39_16 : decode jdk_43_method_13_code 16 = .ok (.iload_n 2, 1) := by decide +kernel
theorem d39_17 : decode jdk_43_method_13_code 17 = .ok (.baload, 1) := by decide +kernel
theorem d39_18 : decode jdk_43_method_13_code 18 = .ok (.aload_n 1, 1) := by decide +kernel
theorem d39_19 : decode jdk_43_method_13_code 19 = .ok (.iload_n 2, 1) := by decide +kernel
theorem d39_20 : decode jdk_43_method_13_code 20 = .ok (.baload, 1) := by decide +kernel
theorem d39_21 : decode jdk_43_method_13_code 21 = .ok (.if_icmp .eq 5, 3) := by decide +kernel
theorem d39_24 : decode jdk_43_method_13_code 24 = .ok (.iconst 0, 1) := by decide +kernel
theorem d39_25 : decode jdk_43_method_13_code 25 = .ok (.ireturn, 1) := by decide +kernel
theorem d39_26 : decode jdk_43_method_13_code 26 = .ok (.iinc 2 1, 3) := by decide +kernel
theorem d39_29 : decode jdk_43_method_13_code 29 = .ok (.goto (-20), 3) := by decide +kernel
theorem d39_32 : decode jdk_43_method_13_code 32 = .ok (.iconst 1, 1) := by decide +kernel
theorem d39_33 : decode jdk_43_method_13_code 33 = .ok (.ireturn, 1) := by decide +kernel
theorem d39_34 : decode jdk_43_method_13_code 34 = .ok (.iconst 0, 1) := by decide +kernel
theorem d39_35 : decode jdk_43_method_13_code 35 = .ok (.ireturn, 1) := by decide +kernel
/-- a char's byte -/
def own_by (w : Int32) : Int32 := nar .byte w.toInt8.toInt32
abbrev own_r0 : Room := { frames := 0, cells := 0, slots := 0, locals := 0 }
abbrev own_rB : Room := { frames := 1, cells := 1, slots := 24, locals := 18 }
abbrev own_rD : Room := { frames := 2, cells := 1, slots := 24, locals := 40 }
abbrev own_rE : Room := { frames := 3, cells := 1, slots := 24, locals := 60 }
abbrev own_rQ : Room := { frames := 1, cells := 0, slots := 0, locals := 14 }
abbrev own_rDW : Room := { frames := 1, cells := 2, slots := 4, locals := 14 }
abbrev own_rEW : Room := { frames := 2, cells := 2, slots := 4, locals := 34 }
theorem own_c0 (z : Int32) : nar .byte (((z - z).toUInt32 >>> ((31 : Int32) &&& 31).toUInt32).toInt32).toInt8.toInt32 = 0 := by rw [Int32.sub_self]; rfl
def own_s1 (o : Slot) : Prop := o = .unset ∨ ∃ q, o = .val (.int q)
theorem own_nat {z : Int32} {n : Nat} (h : ¬ z < 0) (q : z.toNatClampNeg = n) : n < 2147483648 ∧ z = Int32.ofNat n := by
  have h6 := nat_of h
  have h7 : z.toInt < 2147483648 := Int32.toInt_lt z
  have h8 : n < 2147483648 := by omega
  refine ⟨h8, ?_⟩
  rw [← Int32.toInt_inj, nat_toInt h8]; omega
theorem own_get {Z : State} {h : Heap} {a : Addr} {ws : List Int32} (F : Strz Z h a ws) : Exa Z h a "java/lang/String" ∧ Fld Z h a "java/lang/String" "coder" "B" (.int 0) ∧ ∃ b k, Fld Z h a "java/lang/String" "value" "[B" (.ref b) ∧ Arv Z h b k .byte (Int32.ofNat ws.length) (ws.map Value.int) (.int 0) ∧ ws.length < 2147483648 := by
  obtain ⟨A, F, b, k, z, B, V, z0, zl⟩ := F
  obtain ⟨q1, rfl⟩ := own_nat z0 zl
  exact ⟨A, F, b, k, B, V, q1⟩
theorem own_list {vs : List Value} {ds : List Int32} (hl : vs.length = ds.length) (h : ∀ j, j < ds.length → vs.getD j (.int 0) = .int (own_by (ds.getD j 0))) : vs = (ds.map own_by).map Value.int := by
  refine List.ext_getElem (by simp [hl]) fun i i1 i2 => ?_
  have q := h i (by omega)
  have i3 : i < ds.length := by omega
  simp [List.getD_eq_getElem?_getD, i1, i3] at q
  simp [q]
theorem own_setd {vs : List Value} {f : Nat → Int32} {i j : Nat} (hi : i < vs.length) (hj : j < i + 1) (hv : ∀ j, j < i → vs.getD j (.int 0) = .int (f j)) : (vs.set i (.int (f i))).getD j (.int 0) = .int (f j) := by
  by_cases q : j = i
  · subst q; simp [List.getD_eq_getElem?_getD, hi]
  · have := hv j (by omega)
    simp only [List.getD_eq_getElem?_getD] at this ⊢
    rw [List.getElem?_set_ne (by omega)]; exact this
theorem ef_1 (m : MethodId) (a : Addr) (x : Int32) (b : Addr) (y : Int32) (z : Int32) : entryFrame m #[(.ref a), (.int x), (.ref b), (.int y), (.int z)] 7 = mkF m 0 #[.val (.ref a), .val (.int x), .val (.ref b), .val (.int y), .val (.int z), .unset, .unset] [] := by first | (simp [entryFrame, mkF, argsToLocals, Value.category]; done) | rfl
theorem pn_0 : plainName "java/lang/StringUTF16" = true := by first | (simp [plainName, overriddenIn]; done) | decide +kernel
set_option maxRecDepth 65536 in
set_option maxHeartbeats 40000000 in
theorem rm_c5 (l : Launch) (Z : State) (a0 : Array Value) (hw : ∀ d ∈ tables_1, d.before a0 Z = true) (ws : List Jvm.Cond) (a b : Addr) (ka kb : ClassId) (ds : List Int32) (h0 : Heap) (hn : ds.length < 2147483648) (hd : ∀ j, j < ds.length → ¬ 255 < ds.getD j 0) (VA : Arv Z h0 a ka .char (Int32.ofNat ds.length) (ds.map Value.int) (.int 0)) (vs0 : List Value) (VB : Arv Z h0 b kb .byte (Int32.ofNat ds.length) vs0 (.int 0)) (hv0 : vs0.length = ds.length) (hab : a ≠ b) :
    Con l Z (⟨"java/lang/StringUTF16", "compress", "([CI[BII)I"⟩ : MethodName) jdk_52_method_21_code 7 (some .int) ws own_r0 #[.ref a, .int 0, .ref b, .int 0, .int (Int32.ofNat ds.length)] h0 (fun v h L => v = some (.int (Int32.ofNat ds.length)) ∧ Keep h0 h [b] ∧ Arv Z h b kb .byte (Int32.ofNat ds.length) ((ds.map own_by).map Value.int) (.int 0) ∧ ∀ n0, n0 ≤ b → Fr n0 L) := by
  refine con_of (plainFor_of_name pn_0) ?_
  intro p e s m below meth c T0 X0 hx hZ hby hml hown hret hnm hlk e0
  refine Endz.eq (ef_1 m a 0 b 0 (Int32.ofNat ds.length)) ?_
  have loop : ∀ (k i : Nat) (vs : List Value) (o : Slot) (T : State) (h : Heap) (L : List Loc), i + k = ds.length → own_s1 o → vs.length = ds.length → (∀ j, j < i → vs.getD j (.int 0) = .int (own_by (ds.getD j 0))) → Stand p l e own_r0 s m #[.ref a, .int 0, .ref b, .int 0, .int (Int32.ofNat ds.length)] below meth c T L 0 0 → T.heap = h → Keep h0 h [b] → Arv Z h b kb .byte (Int32.ofNat ds.length) vs (.int 0) → (∀ n0, n0 ≤ b → Fr n0 L) → Endz p.tables e below (Finz s own_r0 (fun v h L => v = some (.int (Int32.ofNat ds.length)) ∧ Keep h0 h [b] ∧ Arv Z h b kb .byte (Int32.ofNat ds.length) ((ds.map own_by).map Value.int) (.int 0) ∧ ∀ n0, n0 ≤ b → Fr n0 L)) T (mkF m 3 #[.val (.ref a), .val (.int (Int32.ofNat i)), .val (.ref b), .val (.int (Int32.ofNat i)), .val (.int (Int32.ofNat ds.length)), .val (.int (Int32.ofNat i)), o] []) := by
    intro k
    induction k with
    | zero =>
      intro i vs o T h L hk ho hl hv X eT K Vb N
      obtain rfl : i = ds.length := by omega
      refine w_iload (n := 5) X.here hx (hb hby d5_3) rfl rfl ?_
      refine w_iload (n := 7) X.here hx (hb hby d5_5) rfl rfl ?_
      refine w_icmpge (n1 := 44) (n2 := 10) X.here hx (hb hby d5_7) (by decide) (by decide) rfl (fun hc7 => ?_) (fun hc7 => (Int32.lt_irrefl (Classical.not_not.mp hc7)).elim)
      refine w_iload (n := 46) X.here hx (hb hby d5_44) rfl rfl ?_
      exact fin_I X hx hlk eT hret (hb hby d5_46) (by decide) (by decide) ⟨rfl, K, own_list hl hv ▸ Vb, N⟩
    | succ k ih =>
      intro i vs o T h L hk ho hl hv X eT K Vb N
      have hi : i < ds.length := by omega
      have hib : i < 2147483648 := by omega
      refine w_iload (n := 5) X.here hx (hb hby d5_3) rfl rfl ?_
      refine w_iload (n := 7) X.here hx (hb hby d5_5) rfl rfl ?_
      refine w_icmpge (n1 := 44) (n2 := 10) X.here hx (hb hby d5_7) (by decide) (by decide) rfl (fun hc7 => absurd ((nat_lt hib hn).mpr hi) hc7) (fun hc7 => ?_)
      refine w_aloadN (n := 11) X.here hx (hb hby d5_10) rfl rfl rfl ?_
      refine w_iloadN (n := 12) X.here hx (hb hby d5_11) rfl rfl ?_
      refine l_C (n := 13) (v := .int (ds.getD i 0)) X hx hZ eT (VA.keep K (ninS hab nin0)) (nat_nn hib) ((nat_lt hib hn).mpr hi) (by rw [nat_clamp hib]; exact getD_mapI ds i) (hb hby d5_12) rfl ?_
      refine w_istore (Ls' := #[.val (.ref a), .val (.int (Int32.ofNat i)), .val (.ref b), .val (.int (Int32.ofNat i)), .val (.int (Int32.ofNat ds.length)), .val (.int (Int32.ofNat i)), .val (.int (ds.getD i 0))]) (n := 15) X.here hx (hb hby d5_13) rfl (by rcases ho with rfl | ⟨_, rfl⟩ <;> rfl) ?_
      refine w_iload (n := 17) X.here hx (hb hby d5_15) rfl rfl ?_
      refine w_sipush (z := (255 : Int32)) (n := 20) X.here hx (hb hby d5_17) rfl rfl ?_
      refine w_icmple (n1 := 26) (n2 := 23) X.here hx (hb hby d5_20) (by decide) (by decide) rfl (fun hc20 => ?_) (fun hc20 => absurd (Classical.not_not.mp hc20) (hd i hi))
      refine w_aloadN (n := 27) X.here hx (hb hby d5_26) rfl rfl rfl ?_
      refine w_iloadN (n := 28) X.here hx (hb hby d5_27) rfl rfl ?_
      refine w_iload (n := 30) X.here hx (hb hby d5_28) rfl rfl ?_
      refine w_i2b (n := 31) X.here hx (hb hby d5_30) rfl ?_
      refine s_B (n := 32) X hx hZ eT Vb i (nat_clamp hib) (by rw [hl]; exact hi) (nat_nn hib) ((nat_lt hib hn).mpr hi) (hb hby d5_31) rfl (fun T' h' X' e' W' V' => ?_)
      refine w_iinc (Ls' := #[.val (.ref a), .val (.int ((Int32.ofNat i) + (1 : Int32))), .val (.ref b), .val (.int (Int32.ofNat i)), .val (.int (Int32.ofNat ds.length)), .val (.int (Int32.ofNat i)), .val (.int (ds.getD i 0))]) (n := 35) X'.here hx (hb hby d5_32) rfl rfl rfl ?_
      refine w_iinc (Ls' := #[.val (.ref a), .val (.int ((Int32.ofNat i) + (1 : Int32))), .val (.ref b), .val (.int ((Int32.ofNat i) + (1 : Int32))), .val (.int (Int32.ofNat ds.length)), .val (.int (Int32.ofNat i)), .val (.int (ds.getD i 0))]) (n := 38) X'.here hx (hb hby d5_35) rfl rfl rfl ?_
      refine w_iinc (Ls' := #[.val (.ref a), .val (.int ((Int32.ofNat i) + (1 : Int32))), .val (.ref b), .val (.int ((Int32.ofNat i) + (1 : Int32))), .val (.int (Int32.ofNat ds.length)), .val (.int ((Int32.ofNat i) + (1 : Int32))), .val (.int (ds.getD i 0))]) (n := 41) X'.here hx (hb hby d5_38) rfl rfl rfl ?_
      refine w_goto (n := 3) X'.here hx (hb hby d5_41) (by decide) (by decide) ?_
      rw [show Int32.ofNat i + (1 : Int32) = Int32.ofNat (i + 1) from nat_up i]
      exact ih (i + 1) _ _ T' h' _ (by omega) (Or.inr ⟨_, rfl⟩) (by rw [List.length_set]; exact hl) (fun j hj => own_setd (by rw [hl]; exact hi) hj hv) X' e' (K.wr W' (Or.inl (List.mem_singleton.mpr rfl))) V' (fun n0 q => Fr.snoc X' (N n0 q) q)
  refine w_iconst (z := (0 : Int32)) (n := 1) X0.here hx (hb hby d5_0) rfl rfl ?_
  refine w_istore (Ls' := #[.val (.ref a), .val (.int (0 : Int32)), .val (.ref b), .val (.int (0 : Int32)), .val (.int (Int32.ofNat ds.length)), .val (.int (0 : Int32)), .unset]) (n := 3) X0.here hx (hb hby d5_1) rfl rfl ?_
  exact loop ds.length 0 vs0 .unset T0 h0 [] (by omega) (Or.inl rfl) hv0 (fun j hj => absurd hj (Nat.not_lt_zero _)) X0 e0 (Keep.refl _ _) VB (fun n0 _ => Fr.nil n0)
theorem ef_2 (m : MethodId) (a : Addr) (x : Int32) (z : Int32) : entryFrame m #[(.ref a), (.int x), (.int z)] 6 = mkF m 0 #[.val (.ref a), .val (.int x), .val (.int z), .unset, .unset, .unset] [] := by first | (simp [entryFrame, mkF, argsToLocals, Value.category]; done) | rfl
theorem pd_1 : parseMethodDescriptor "([CI[BII)I" = some ⟨[(.array .char), .int, (.array .byte), .int, .int], some .int⟩ := by decide +kernel
set_option maxRecDepth 65536 in
set_option maxHeartbeats 40000000 in
theorem rm_cB (l : Launch) (Z : State) (a0 : Array Value) (hw : ∀ d ∈ tables_1, d.before a0 Z = true) (ws : List Jvm.Cond) (a : Addr) (ka : ClassId) (ds : List Int32) (h0 : Heap) (hn : ds.length ≤ 24) (hd : ∀ j, j < ds.length → ¬ 255 < ds.getD j 0) (VA : Arv Z h0 a ka .char (Int32.ofNat ds.length) (ds.map Value.int) (.int 0)) :
    Con l Z (⟨"java/lang/StringUTF16", "compress", "([CII)[B"⟩ : MethodName) jdk_52_method_16_code 6 (some (.array .byte)) ws own_rB #[.ref a, .int 0, .int (Int32.ofNat ds.length)] h0 (fun v h L => ∃ b k, v = some (.ref b) ∧ h0.size ≤ b ∧ Ext h0 h ∧ Arv Z h b k .byte (Int32.ofNat ds.length) ((ds.map own_by).map Value.int) (.int 0) ∧ Fr h0.size L) := by
  refine con_of (plainFor_of_name pn_0) ?_
  intro p e s m below meth c T0 X0 hx hZ hby hml hown hret hnm hlk e0
  refine Endz.eq (ef_2 m a 0 (Int32.ofNat ds.length)) ?_
  have hn' : ds.length < 2147483648 := by omega
  refine w_iloadN (n := 1) X0.here hx (hb hby d4_0) rfl rfl ?_
  refine n_P (n := 3) X0 hx hZ (hw _ (List.mem_of_getElem? (i := 15) rfl)) e0 (hb hby d4_1) rfl (nat_nn hn') 24 (by rw [nat_clamp hn']; exact hn) (by decide) (by decide) (by decide) (fun T1 h1 k1 b1 g1 X1 e1 E1 V1 => ?_)
  refine w_astoreN (Ls' := #[.val (.ref a), .val (.int (0 : Int32)), .val (.int (Int32.ofNat ds.length)), .val (.ref b1), .unset, .unset]) (n := 4) X1.here hx (hb hby d4_3) rfl rfl rfl ?_
  refine w_aloadN (n := 5) X1.here hx (hb hby d4_4) rfl rfl rfl ?_
  refine w_iloadN (n := 6) X1.here hx (hb hby d4_5) rfl rfl ?_
  refine w_aloadN (n := 7) X1.here hx (hb hby d4_6) rfl rfl rfl ?_
  refine w_iconst (z := (0 : Int32)) (n := 8) X1.here hx (hb hby d4_7) rfl rfl ?_
  refine w_iloadN (n := 9) X1.here hx (hb hby d4_8) rfl rfl ?_
  have hab : a ≠ b1 := fun q => Nat.lt_irrefl _ (by have := VA.lt; rw [q, g1] at this; exact this)
  refine c_S (n := 12) (argsL := [(.ref a), (.int (0 : Int32)), (.ref b1), (.int (0 : Int32)), (.int (Int32.ofNat ds.length))]) (rest := []) X1 hx hZ hown (rm_c5 l Z a0 hw [] a b1 ka k1 ds h1 hn' hd (VA.ext E1) _ (pad0 V1 ds.length) List.length_replicate hab) e1 (hw _ (List.mem_of_getElem? (i := 27) rfl)) (hw _ (List.mem_of_getElem? (i := 28) rfl)) (hw _ (List.mem_of_getElem? (i := 25) rfl)) (hw _ (List.mem_of_getElem? (i := 29) rfl)) (by decide) 0 (by decide) (by decide) (by decide) (by decide) (by rw [hml]; rfl) pd_1 rfl rfl (Nat.le_of_ble_eq_true rfl) (hb hby d4_9) rfl (fun v2 T2 L2 X2 hQ2 => ?_)
  obtain ⟨rfl, K, VB, N⟩ := hQ2
  show Endz _ _ _ _ T2 (mkF m 12 #[.val (.ref a), .val (.int (0 : Int32)), .val (.int (Int32.ofNat ds.length)), .val (.ref b1), .unset, .unset] [(.int (Int32.ofNat ds.length))])
  refine w_istore (Ls' := #[.val (.ref a), .val (.int (0 : Int32)), .val (.int (Int32.ofNat ds.length)), .val (.ref b1), .val (.int (Int32.ofNat ds.length)), .unset]) (n := 14) X2.here hx (hb hby d4_12) rfl rfl ?_
  refine w_iload (n := 16) X2.here hx (hb hby d4_14) rfl rfl ?_
  refine w_iloadN (n := 17) X2.here hx (hb hby d4_16) rfl rfl ?_
  refine w_icmpeq (n1 := 57) (n2 := 20) X2.here hx (hb hby d4_17) (by decide) (by decide) rfl (fun hc17 => ?_) (fun hc17 => absurd rfl hc17)
  refine w_aloadN (n := 58) X2.here hx (hb hby d4_57) rfl rfl rfl ?_
  exact fin_A X2 hx hlk rfl hret rfl rfl rfl (hb hby d4_58) (by decide) (by decide) ⟨_, _, rfl, Nat.le_of_eq g1.symm, Ext.keep1 E1 K (Nat.le_of_eq g1.symm), VB, (Fr.nil _).app (N _ (Nat.le_of_eq g1.symm))⟩
theorem ef_3 (m : MethodId) (b : Addr) (z : Int32) : entryFrame m #[(.ref b), (.int z)] 2 = mkF m 0 #[.val (.ref b), .val (.int z)] [] := by first | (simp [entryFrame, mkF, argsToLocals, Value.category]; done) | rfl
set_option maxRecDepth 65536 in
set_option maxHeartbeats 40000000 in
theorem rm_cl (l : Launch) (Z : State) (a0 : Array Value) (hw : ∀ d ∈ tables_1, d.before a0 Z = true) (ws : List Jvm.Cond) (b : Addr) (k : ClassId) (z : Int32) (vs : List Value) (dv : Value) (h0 : Heap) (VB : Arv Z h0 b k .byte z vs dv) :
    Con l Z (⟨"java/lang/StringUTF16", "coderFromArrayLen", "([BI)B"⟩ : MethodName) jdk_52_method_15_code 2 (some .byte) ws own_r0 #[.ref b, .int z] h0 (fun v h L => v = some (.int 0) ∧ L = [] ∧ h = h0) := by
  refine con_of (plainFor_of_name pn_0) ?_
  intro p e s m below meth c T0 X0 hx hZ hby hml hown hret hnm hlk e0
  refine Endz.eq (ef_3 m b z) ?_
  refine w_iloadN (n := 1) X0.here hx (hb hby d6_0) rfl rfl ?_
  refine w_aloadN (n := 2) X0.here hx (hb hby d6_1) rfl rfl rfl ?_
  refine a_L (n := 3) X0 hx hZ e0 VB (hb hby d6_2) rfl ?_
  refine w_isub (n := 4) X0.here hx (hb hby d6_3) rfl ?_
  refine w_bipush (z := (31 : Int32)) (n := 6) X0.here hx (hb hby d6_4) rfl rfl ?_
  refine w_iushr (n := 7) X0.here hx (hb hby d6_6) rfl ?_
  refine w_i2b (n := 8) X0.here hx (hb hby d6_7) rfl ?_
  exact fin_Z X0 hx hlk e0 hret (Or.inr (Or.inl rfl)) (hb hby d6_8) (by decide) (by decide) ⟨by rw [own_c0], rfl, rfl⟩
theorem pn_2 : plainName "java/lang/String" = true := by first | (simp [plainName, overriddenIn]; done) | decide +kernel
theorem ef_i4 (m : MethodId) (th a : Addr) (z : Int32) : entryFrame m #[.ref th, .ref a, .int 0, .int z, .null] 6 = mkF m 0 #[.val (.ref th), .val (.ref a), .val (.int 0), .val (.int z), .val .null, .unset] [] := by first | (simp [entryFrame, mkF, argsToLocals, Value.category]; done) | rfl
theorem pd_3 : parseMethodDescriptor "([CII)[B" = some ⟨[(.array .char), .int, .int], some (.array .byte)⟩ := by decide +kernel
theorem pd_4 : parseMethodDescriptor "([BI)B" = some ⟨[(.array .byte), .int], some .byte⟩ := by decide +kernel
set_option maxRecDepth 65536 in
set_option maxHeartbeats 40000000 in
theorem rm_i4 (l : Launch) (Z : State) (a0 : Array Value) (hw : ∀ d ∈ tables_1, d.before a0 Z = true) (ws : List Jvm.Cond) (th a : Addr) (ka : ClassId) (ds : List Int32) (h0 : Heap) (cs : Int32) (hcs : cs ≠ 0) (SC : Sta Z h0 "java/lang/String" "COMPACT_STRINGS" "Z" (.int cs)) (hne : ds ≠ []) (hn : ds.length ≤ 24) (hd : ∀ j, j < ds.length → ¬ 255 < ds.getD j 0) (VA : Arv Z h0 a ka .char (Int32.ofNat ds.length) (ds.map Value.int) (.int 0)) (A : Exa Z h0 th "java/lang/String") (o1 o2 : Value) (FC : Fld Z h0 th "java/lang/String" "coder" "B" o1) (FV : Fld Z h0 th "java/lang/String" "value" "[B" o2) :
    Con l Z (⟨"java/lang/String", "<init>", "([CIILjava/lang/Void;)V"⟩ : MethodName) jdk_42_method_149_code 6 none ws own_rD #[.ref th, .ref a, .int 0, .int (Int32.ofNat ds.length), .null] h0 (fun v h L => v = none ∧ Strz Z h th (ds.map own_by) ∧ Keep h0 h [th] ∧ ∀ n0, n0 ≤ th → n0 ≤ h0.size → Fr n0 L) := by
  refine con_of (plainFor_of_name pn_2) ?_
  intro p e s m below meth c T0 X0 hx hZ hby hml hown hret hnm hlk e0
  refine Endz.eq (ef_i4 m th a (Int32.ofNat ds.length)) ?_
  have hn' : ds.length < 2147483648 := by omega
  have hz : ¬ Int32.ofNat ds.length = 0 := fun q => hne (List.length_eq_zero_iff.mp ((nat_eq hn' (by decide)).mp q))
  refine w_aloadN (n := 1) X0.here hx (hb hby d2_0) rfl rfl rfl ?_
  refine c_O (n := 4) X0 hx hZ hown (hw _ (List.mem_of_getElem? (i := 11) rfl)) (hw _ (List.mem_of_getElem? (i := 12) rfl)) (hw _ (List.mem_of_getElem? (i := 13) rfl)) e0 (by rw [hml]; rfl) (hb hby d2_1) rfl 0 (by decide) (Nat.le_of_ble_eq_true rfl) (by decide) (fun T1 X1 e1 => ?_)
  refine w_iloadN (n := 5) X1.here hx (hb hby d2_4) rfl rfl ?_
  refine w_ifne (n1 := 27) (n2 := 8) X1.here hx (hb hby d2_5) (by decide) (by decide) rfl (fun hc5 => ?_) (fun hc5 => absurd hz hc5)
  refine g_S (n := 30) X1 hx hZ hown (hw _ (List.mem_of_getElem? (i := 22) rfl)) e1 SC (hb hby d2_27) rfl (fun T2 X2 e2 => ?_)
  refine w_ifeq (n1 := 58) (n2 := 33) X2.here hx (hb hby d2_30) (by decide) (by decide) rfl (fun hc30 => absurd hc30 hcs) (fun hc30 => ?_)
  refine w_aloadN (n := 34) X2.here hx (hb hby d2_33) rfl rfl rfl ?_
  refine w_iloadN (n := 35) X2.here hx (hb hby d2_34) rfl rfl ?_
  refine w_iloadN (n := 36) X2.here hx (hb hby d2_35) rfl rfl ?_
  refine c_S (n := 39) (argsL := [(.ref a), (.int (0 : Int32)), (.int (Int32.ofNat ds.length))]) (rest := []) X2 hx hZ hown (rm_cB l Z a0 hw [] a ka ds h0 hn hd VA) e2 (hw _ (List.mem_of_getElem? (i := 23) rfl)) (hw _ (List.mem_of_getElem? (i := 24) rfl)) (hw _ (List.mem_of_getElem? (i := 25) rfl)) (hw _ (List.mem_of_getElem? (i := 26) rfl)) (by decide) 0 (by decide) (by decide) (by decide) (by decide) (by rw [hml]; rfl) pd_3 rfl rfl (Nat.le_of_ble_eq_true rfl) (hb hby d2_36) rfl (fun v3 T3 L3 X3 hQ3 => ?_)
  obtain ⟨b, kb, rfl, hbg, E1, VB, N1⟩ := hQ3
  show Endz _ _ _ _ T3 (mkF m 39 #[.val (.ref th), .val (.ref a), .val (.int (0 : Int32)), .val (.int (Int32.ofNat ds.length)), .val .null, .unset] [(.ref b)])
  refine w_astore (Ls' := #[.val (.ref th), .val (.ref a), .val (.int (0 : Int32)), .val (.int (Int32.ofNat ds.length)), .val .null, .val (.ref b)]) (n := 41) X3.here hx (hb hby d2_39) rfl rfl rfl ?_
  refine w_aloadN (n := 42) X3.here hx (hb hby d2_41) rfl rfl rfl ?_
  refine w_aload (n := 44) X3.here hx (hb hby d2_42) rfl rfl rfl ?_
  refine w_iloadN (n := 45) X3.here hx (hb hby d2_44) rfl rfl ?_
  refine c_S (n := 48) (argsL := [(.ref b), (.int (Int32.ofNat ds.length))]) (rest := [(.ref th)]) X3 hx hZ hown (rm_cl l Z a0 hw [] b kb (Int32.ofNat ds.length) _ _ _ VB) rfl (hw _ (List.mem_of_getElem? (i := 30) rfl)) (hw _ (List.mem_of_getElem? (i := 31) rfl)) (hw _ (List.mem_of_getElem? (i := 25) rfl)) (hw _ (List.mem_of_getElem? (i := 32) rfl)) (by decide) 1 (by decide) (by decide) (by decide) (by decide) (by rw [hml]; rfl) pd_4 rfl rfl (Nat.le_of_ble_eq_true rfl) (hb hby d2_45) rfl (fun v4 T4 L4 X4 hQ4 => ?_)
  obtain ⟨rfl, rfl, e2⟩ := hQ4
  show Endz _ _ _ _ T4 (mkF m 48 #[.val (.ref th), .val (.ref a), .val (.int (0 : Int32)), .val (.int (Int32.ofNat ds.length)), .val .null, .val (.ref b)] [(.int (0 : Int32)), (.ref th)])
  refine p_F (n := 51) (ty := .byte) X4 hx hZ hown (hw _ (List.mem_of_getElem? (i := 21) rfl)) e2 (FC.ext E1) (A.ext E1) (Or.inr ⟨(hw _ (List.mem_of_getElem? (i := 17) rfl)), rfl, hnm⟩) (hw _ (List.mem_of_getElem? (i := 2) rfl)) (by decide +kernel) rfl rfl (hb hby d2_48) rfl (fun T5 h5 X5 e5 W5 => ?_)
  refine w_aloadN (n := 52) X5.here hx (hb hby d2_51) rfl rfl rfl ?_
  refine w_aload (n := 54) X5.here hx (hb hby d2_52) rfl rfl rfl ?_
  have hbt : b ≠ th := fun q => Nat.lt_irrefl _ (Nat.lt_of_lt_of_le A.lt (q ▸ hbg))
  refine p_F (n := 57) (ty := (.array .byte)) X5 hx hZ hown (hw _ (List.mem_of_getElem? (i := 20) rfl)) e5 ((FV.ext E1).other W5 (Or.inr (slot_ne (Or.inr (hw _ (List.mem_of_getElem? (i := 16) rfl))) (Or.inr (hw _ (List.mem_of_getElem? (i := 17) rfl))) (by decide) (t := (.array .byte)) (t' := .byte) (by decide +kernel) (by decide +kernel)))) ((A.ext E1).wr W5) (Or.inr ⟨(hw _ (List.mem_of_getElem? (i := 16) rfl)), rfl, hnm⟩) (hw _ (List.mem_of_getElem? (i := 2) rfl)) (by decide +kernel) rfl rfl (hb hby d2_54) rfl (fun T6 h6 X6 e6 W6 => ?_)
  have GC := ((FC.ext E1).same W5).other W6 (Or.inr (slot_ne (Or.inr (hw _ (List.mem_of_getElem? (i := 17) rfl))) (Or.inr (hw _ (List.mem_of_getElem? (i := 16) rfl))) (by decide) (t := .byte) (t' := (.array .byte)) (by decide +kernel) (by decide +kernel)))
  have GV := ((FV.ext E1).other W5 (Or.inr (slot_ne (Or.inr (hw _ (List.mem_of_getElem? (i := 16) rfl))) (Or.inr (hw _ (List.mem_of_getElem? (i := 17) rfl))) (by decide) (t := (.array .byte)) (t' := .byte) (by decide +kernel) (by decide +kernel)))).same W6
  have GB := (VB.other W5 hbt).other W6 hbt
  have KK := (((Keep.refl h0 [th]).ext E1).wr W5 (Or.inl (List.mem_singleton.mpr rfl))).wr W6 (Or.inl (List.mem_singleton.mpr rfl))
  exact fin_V X6 hx hlk e6 hret (hb hby d2_57) (by decide) (by decide) ⟨rfl, ⟨((A.ext E1).wr W5).wr W6, GC, b, kb, _, GV, GB, nat_nn hn', by rw [nat_clamp hn', List.length_map]⟩, KK, fun n0 q1 q2 => Fr.snoc X6 (Fr.snoc X5 (((Fr.nil n0).app (fun y hy => Nat.le_trans q2 (N1 y hy))).app (Fr.nil n0)) q1) q1⟩
theorem ef_4 (m : MethodId) (th : Addr) (a : Addr) : entryFrame m #[(.ref th), (.ref a)] 2 = mkF m 0 #[.val (.ref th), .val (.ref a)] [] := by first | (simp [entryFrame, mkF, argsToLocals, Value.category]; done) | rfl
theorem pd_5 : parseMethodDescriptor "([CIILjava/lang/Void;)V" = some ⟨[(.array .char), .int, .int, (.object "java/lang/Void")], none⟩ := by decide +kernel
set_option maxRecDepth 65536 in
set_option maxHeartbeats 40000000 in
theorem rm_i1 (l : Launch) (Z : State) (a0 : Array Value) (hw : ∀ d ∈ tables_1, d.before a0 Z = true) (ws : List Jvm.Cond) (th a : Addr) (ka : ClassId) (ds : List Int32) (h0 : Heap) (cs : Int32) (hcs : cs ≠ 0) (SC : Sta Z h0 "java/lang/String" "COMPACT_STRINGS" "Z" (.int cs)) (hne : ds ≠ []) (hn : ds.length ≤ 24) (hd : ∀ j, j < ds.length → ¬ 255 < ds.getD j 0) (VA : Arv Z h0 a ka .char (Int32.ofNat ds.length) (ds.map Value.int) (.int 0)) (A : Exa Z h0 th "java/lang/String") (o1 o2 : Value) (FC : Fld Z h0 th "java/lang/String" "coder" "B" o1) (FV : Fld Z h0 th "java/lang/String" "value" "[B" o2) :
    Con l Z (⟨"java/lang/String", "<init>", "([C)V"⟩ : MethodName) jdk_42_method_3_code 2 none ws own_rE #[.ref th, .ref a] h0 (fun v h L => v = none ∧ Strz Z h th (ds.map own_by) ∧ Keep h0 h [th] ∧ ∀ n0, n0 ≤ th → n0 ≤ h0.size → Fr n0 L) := by
  refine con_of (plainFor_of_name pn_2) ?_
  intro p e s m below meth c T0 X0 hx hZ hby hml hown hret hnm hlk e0
  refine Endz.eq (ef_4 m th a) ?_
  refine w_aloadN (n := 1) X0.here hx (hb hby d1_0) rfl rfl rfl ?_
  refine w_aloadN (n := 2) X0.here hx (hb hby d1_1) rfl rfl rfl ?_
  refine w_iconst (z := (0 : Int32)) (n := 3) X0.here hx (hb hby d1_2) rfl rfl ?_
  refine w_aloadN (n := 4) X0.here hx (hb hby d1_3) rfl rfl rfl ?_
  refine a_L (n := 5) X0 hx hZ e0 VA (hb hby d1_4) rfl ?_
  refine w_aconstNull (n := 6) X0.here hx (hb hby d1_5) rfl ?_
  refine c_N (n := 9) (b := th) (argsL := [(.ref a), (.int (0 : Int32)), (.int (Int32.ofNat ds.length)), .null]) (rest := []) X0 hx hZ rfl hown (rm_i4 l Z a0 hw [] th a ka ds h0 cs hcs SC hne hn hd VA A o1 o2 FC FV) e0 (hw _ (List.mem_of_getElem? (i := 7) rfl)) (hw _ (List.mem_of_getElem? (i := 8) rfl)) (hw _ (List.mem_of_getElem? (i := 3) rfl)) (hw _ (List.mem_of_getElem? (i := 10) rfl)) (by decide) 0 (by decide) (by decide) (by decide) (by decide) (by rw [hml]; rfl) pd_5 rfl rfl (Nat.le_of_ble_eq_true rfl) (hb hby d1_6) rfl (fun v1 T1 L1 X1 hQ1 => ?_)
  obtain ⟨rfl, S1, K1, N1⟩ := hQ1
  show Endz _ _ _ _ T1 (mkF m 9 #[.val (.ref th), .val (.ref a)] [])
  exact fin_V X1 hx hlk rfl hret (hb hby d1_9) (by decide) (by decide) ⟨rfl, S1, K1, fun n0 q1 q2 => (Fr.nil n0).app (N1 n0 q1 q2)⟩
abbrev own_EL : List (String × Nat) := [("com/example/legitka/legitka/cli/UsageException", 14), ("com/example/legitka/legitka/cli/UsageException", 20), ("java/lang/String", 7)]
set_option maxRecDepth 65536 in
set_option maxHeartbeats 40000000 in
theorem rm_i4e (l : Launch) (Z : State) (a0 : Array Value) (hw : ∀ d ∈ tables_1, d.before a0 Z = true) (ws : List Jvm.Cond) (hEL : EW Z a0 own_EL) (wS : ∀ a ∈ Bundle.stringAtoms, a.before a0 Z = true) (vmB : Vm) (th a : Addr) (h0 : Heap) (A : Exa Z h0 th "java/lang/String") (o1 o2 : Value) (FC : Fld Z h0 th "java/lang/String" "coder" "B" o1) (FV : Fld Z h0 th "java/lang/String" "value" "[B" o2) (hSf : Safe Z own_EL vmB h0 th) :
    ConW l Z own_EL vmB (⟨"java/lang/String", "<init>", "([CIILjava/lang/Void;)V"⟩ : MethodName) jdk_42_method_149_code 6 none ws own_rDW #[.ref th, .ref a, .int 0, .int 0, .null] h0 (fun v vm h L => v = none ∧ Strz Z h th [] ∧ Keep h0 h [th] ∧ (∀ n0, n0 ≤ th → n0 ≤ h0.size → Fr n0 L) ∧ CHr Z own_EL vmB h0 vm h) := by
  refine conW_of (plainFor_of_name pn_2) ?_
  intro p e s vm0 m below meth c T0 X0 hx hZ hby hml hown hret hnm hlk e0 hS H
  refine Endz.eq (ef_i4 m th a 0) ?_
  refine w_aloadN (n := 1) X0.here hx (hb hby d2_0) rfl rfl rfl ?_
  refine c_O (n := 4) X0 hx hZ hown (hw _ (List.mem_of_getElem? (i := 11) rfl)) (hw _ (List.mem_of_getElem? (i := 12) rfl)) (hw _ (List.mem_of_getElem? (i := 13) rfl)) e0 (by rw [hml]; rfl) (hb hby d2_1) rfl 0 (by decide) (Nat.le_of_ble_eq_true rfl) (by decide) (fun T1 X1 e1 => ?_)
  refine w_iloadN (n := 5) X1.here hx (hb hby d2_4) rfl rfl ?_
  refine w_ifne (n1 := 27) (n2 := 8) X1.here hx (hb hby d2_5) (by decide) (by decide) rfl (fun hc5 => absurd rfl hc5) (fun hc5 => ?_)
  refine w_aloadN (n := 9) X1.here hx (hb hby d2_8) rfl rfl rfl ?_
  refine k_S (n := 11) X1 hx hZ hown (hw _ (List.mem_of_getElem? (i := 14) rfl)) wS e1 hS (Nat.le_refl _) hEL (List.Mem.tail _ (List.Mem.tail _ (List.Mem.head _))) H [] 0 ⟨fun c hc => (nomatch hc), rfl⟩ (by decide) rfl (hb hby d2_9) rfl 0 (by decide) (by decide) (by decide) (by decide) (fun T2 h2 k1 sa X2 e2 E1 hS hk hZ hown ST C1 LT nb => ?_)
  obtain ⟨SA, SCo, b, kb, SV, VB, -⟩ := own_get ST
  refine g_F (n := 14) X2 hx hZ hown (hw _ (List.mem_of_getElem? (i := 20) rfl)) e2 SV (hb hby d2_11) rfl (fun T3 X3 e3 => ?_)
  refine p_F (n := 17) (ty := (.array .byte)) X3 hx hZ hown (hw _ (List.mem_of_getElem? (i := 20) rfl)) e3 (FV.ext E1) (A.ext E1) (Or.inr ⟨(hw _ (List.mem_of_getElem? (i := 16) rfl)), rfl, hnm⟩) (hw _ (List.mem_of_getElem? (i := 2) rfl)) (by decide +kernel) rfl rfl (hb hby d2_14) rfl (fun T4 h4 X4 e4 W4 => ?_)
  refine w_aloadN (n := 18) X4.here hx (hb hby d2_17) rfl rfl rfl ?_
  refine k_S2 (n := 20) X4 hx hZ hown (hw _ (List.mem_of_getElem? (i := 14) rfl)) LT (hb hby d2_18) rfl ?_
  refine g_F (n := 23) X4 hx hZ hown (hw _ (List.mem_of_getElem? (i := 21) rfl)) e4 (SCo.other W4 (Or.inr (slot_ne (Or.inr (hw _ (List.mem_of_getElem? (i := 17) rfl))) (Or.inr (hw _ (List.mem_of_getElem? (i := 16) rfl))) (by decide) (t := .byte) (t' := (.array .byte)) (by decide +kernel) (by decide +kernel)))) (hb hby d2_20) rfl (fun T5 X5 e5 => ?_)
  refine p_F (n := 26) (ty := .byte) X5 hx hZ hown (hw _ (List.mem_of_getElem? (i := 21) rfl)) e5 ((FC.ext E1).other W4 (Or.inr (slot_ne (Or.inr (hw _ (List.mem_of_getElem? (i := 17) rfl))) (Or.inr (hw _ (List.mem_of_getElem? (i := 16) rfl))) (by decide) (t := .byte) (t' := (.array .byte)) (by decide +kernel) (by decide +kernel)))) ((A.ext E1).wr W4) (Or.inr ⟨(hw _ (List.mem_of_getElem? (i := 17) rfl)), rfl, hnm⟩) (hw _ (List.mem_of_getElem? (i := 2) rfl)) (by decide +kernel) rfl rfl (hb hby d2_23) rfl (fun T6 h6 X6 e6 W6 => ?_)
  have GV := ((FV.ext E1).same W4).other W6 (Or.inr (slot_ne (Or.inr (hw _ (List.mem_of_getElem? (i := 16) rfl))) (Or.inr (hw _ (List.mem_of_getElem? (i := 17) rfl))) (by decide) (t := (.array .byte)) (t' := .byte) (by decide +kernel) (by decide +kernel)))
  have GC := ((FC.ext E1).other W4 (Or.inr (slot_ne (Or.inr (hw _ (List.mem_of_getElem? (i := 17) rfl))) (Or.inr (hw _ (List.mem_of_getElem? (i := 16) rfl))) (by decide) (t := .byte) (t' := (.array .byte)) (by decide +kernel) (by decide +kernel)))).same W6
  have hbt : b ≠ th := (Exa.neArv (A.ext E1) VB (hw _ (List.mem_of_getElem? (i := 2) rfl))).symm
  have GB := (VB.other W4 hbt).other W6 hbt
  have KK := (((Keep.refl h0 [th]).ext E1).wr W4 (Or.inl (List.mem_singleton.mpr rfl))).wr W6 (Or.inl (List.mem_singleton.mpr rfl))
  have Sf1 := C1.safe A.lt hSf
  have C2 := C1.trans (CHr.wr W4 Sf1 C1.1)
  have C3 := C2.trans (CHr.wr W6 (C2.safe A.lt hSf) C2.1)
  exact finW_V X6 hx hlk e6 hS (Nat.le_trans hk (by rw [W6.size, W4.size]; exact Nat.le_refl _)) hret (hb hby d2_26) (by decide) (by decide) ⟨rfl, ⟨((A.ext E1).wr W4).wr W6, GC, b, kb, _, GV, GB, by decide, rfl⟩, KK, fun n0 q1 q2 => Fr.snoc X6 (Fr.snoc X4 (Fr.nil n0) q1) q1, CHr.now X6 hZ hEL C3⟩
theorem ef_5 (m : MethodId) (th : Addr) (a : Addr) : entryFrame m #[(.ref th), (.ref a)] 2 = mkF m 0 #[.val (.ref th), .val (.ref a)] [] := by first | (simp [entryFrame, mkF, argsToLocals, Value.category]; done) | rfl
set_option maxRecDepth 65536 in
set_option maxHeartbeats 40000000 in
theorem rm_i1e (l : Launch) (Z : State) (a0 : Array Value) (hw : ∀ d ∈ tables_1, d.before a0 Z = true) (ws : List Jvm.Cond) (hEL : EW Z a0 own_EL) (wS : ∀ a ∈ Bundle.stringAtoms, a.before a0 Z = true) (vmB : Vm) (th a : Addr) (ka : ClassId) (vs : List Value) (dv : Value) (h0 : Heap) (VA : Arv Z h0 a ka .char 0 vs dv) (A : Exa Z h0 th "java/lang/String") (o1 o2 : Value) (FC : Fld Z h0 th "java/lang/String" "coder" "B" o1) (FV : Fld Z h0 th "java/lang/String" "value" "[B" o2) (hSf : Safe Z own_EL vmB h0 th) :
    ConW l Z own_EL vmB (⟨"java/lang/String", "<init>", "([C)V"⟩ : MethodName) jdk_42_method_3_code 2 none ws own_rEW #[.ref th, .ref a] h0 (fun v vm h L => v = none ∧ Strz Z h th [] ∧ Keep h0 h [th] ∧ (∀ n0, n0 ≤ th → n0 ≤ h0.size → Fr n0 L) ∧ CHr Z own_EL vmB h0 vm h) := by
  refine conW_of (plainFor_of_name pn_2) ?_
  intro p e s vm0 m below meth c T0 X0 hx hZ hby hml hown hret hnm hlk e0 hS H
  refine Endz.eq (ef_5 m th a) ?_
  refine w_aloadN (n := 1) X0.here hx (hb hby d1_0) rfl rfl rfl ?_
  refine w_aloadN (n := 2) X0.here hx (hb hby d1_1) rfl rfl rfl ?_
  refine w_iconst (z := (0 : Int32)) (n := 3) X0.here hx (hb hby d1_2) rfl rfl ?_
  refine w_aloadN (n := 4) X0.here hx (hb hby d1_3) rfl rfl rfl ?_
  refine a_L (n := 5) X0 hx hZ e0 VA (hb hby d1_4) rfl ?_
  refine w_aconstNull (n := 6) X0.here hx (hb hby d1_5) rfl ?_
  have hSf' := H.safe A.lt hSf
  refine c_NW (n := 9) (b := th) (argsL := [(.ref a), (.int (0 : Int32)), (.int (0 : Int32)), .null]) (rest := []) X0 hx hZ rfl hown (rm_i4e l Z a0 hw [] hEL wS _ th a h0 A o1 o2 FC FV hSf') e0 hS (Nat.le_refl _) hEL H.1 (hw _ (List.mem_of_getElem? (i := 7) rfl)) (hw _ (List.mem_of_getElem? (i := 8) rfl)) (hw _ (List.mem_of_getElem? (i := 3) rfl)) (hw _ (List.mem_of_getElem? (i := 10) rfl)) (by decide) 0 (by decide) (by decide) (by decide) (by decide) (by rw [hml]; rfl) pd_5 rfl rfl (Nat.le_of_ble_eq_true rfl) (hb hby d1_6) rfl (fun v1 T1 L1 X1 hS hZ hown hQ1 => ?_)
  obtain ⟨rfl, S1, K1, N1, C1⟩ := hQ1
  show Endz _ _ _ _ T1 (mkF m 9 #[.val (.ref th), .val (.ref a)] [])
  exact finW_V X1 hx hlk rfl hS (Nat.le_refl _) hret (hb hby d1_9) (by decide) (by decide) ⟨rfl, S1, K1, fun n0 q1 q2 => (Fr.nil n0).app (N1 n0 q1 q2), CHr.now X1 hZ hEL (H.trans C1)⟩
theorem pn_6 : plainName "java/lang/StringLatin1" = true := by first | (simp [plainName, overriddenIn]; done) | decide +kernel
theorem ef_6 (m : MethodId) (a : Addr) (b : Addr) : entryFrame m #[(.ref a), (.ref b)] 3 = mkF m 0 #[.val (.ref a), .val (.ref b), .unset] [] := by first | (simp [entryFrame, mkF, argsToLocals, Value.category]; done) | rfl
theorem own_eqs {us vs : List Int32} (hl : us.length = vs.length) (h : ∀ j, j < us.length → us.getD j 0 = vs.getD j 0) : us = vs := by
  refine List.ext_getElem hl fun i i1 i2 => ?_
  have q := h i i1
  simp [List.getD_eq_getElem?_getD, i1, i2] at q
  exact q
set_option maxRecDepth 65536 in
set_option maxHeartbeats 40000000 in
theorem rm_le (l : Launch) (Z : State) (a0 : Array Value) (hw : ∀ d ∈ tables_1, d.before a0 Z = true) (ws : List Jvm.Cond) (a b : Addr) (ka kb : ClassId) (us vs : List Int32) (h0 : Heap) (hu : us.length < 2147483648) (hv : vs.length < 2147483648) (VA : Arv Z h0 a ka .byte (Int32.ofNat us.length) (us.map Value.int) (.int 0)) (VB : Arv Z h0 b kb .byte (Int32.ofNat vs.length) (vs.map Value.int) (.int 0)) :
    Con l Z (⟨"java/lang/StringLatin1", "equals", "([B[B)Z"⟩ : MethodName) jdk_43_method_13_code 3 (some .boolean) ws own_r0 #[.ref a, .ref b] h0 (fun v h L => v = some (.int (if us = vs then 1 else 0)) ∧ L = [] ∧ h = h0) := by
  refine con_of (plainFor_of_name pn_6) ?_
  intro p e s m below meth c T0 X0 hx hZ hby hml hown hret hnm hlk e0
  refine Endz.eq (ef_6 m a b) ?_
  have loop : us.length = vs.length → ∀ (k i : Nat), i + k = us.length → (∀ j, j < i → us.getD j 0 = vs.getD j 0) → Endz p.tables e below (Finz s own_r0 (fun v h L => v = some (.int (if us = vs then 1 else 0)) ∧ L = [] ∧ h = h0)) T0 (mkF m 9 #[.val (.ref a), .val (.ref b), .val (.int (Int32.ofNat i))] []) := by
    intro hl k
    induction k with
    | zero =>
      intro i hk he
      obtain rfl : i = us.length := by omega
      refine w_iloadN (n := 10) X0.here hx (hb hby d39_9) rfl rfl ?_
      refine w_aloadN (n := 11) X0.here hx (hb hby d39_10) rfl rfl rfl ?_
      refine a_L (n := 12) X0 hx hZ e0 VA (hb hby d39_11) rfl ?_
      refine w_icmpge (n1 := 32) (n2 := 15) X0.here hx (hb hby d39_12) (by decide) (by decide) rfl (fun hc12 => ?_) (fun hc12 => (Int32.lt_irrefl (Classical.not_not.mp hc12)).elim)
      refine w_iconst (z := (1 : Int32)) (n := 33) X0.here hx (hb hby d39_32) rfl rfl ?_
      exact fin_Z X0 hx hlk e0 hret (Or.inl rfl) (hb hby d39_33) (by decide) (by decide) ⟨by rw [if_pos (own_eqs hl he)]; rfl, rfl, rfl⟩
    | succ k ih =>
      intro i hk he
      have hi : i < us.length := by omega
      have hib : i < 2147483648 := by omega
      refine w_iloadN (n := 10) X0.here hx (hb hby d39_9) rfl rfl ?_
      refine w_aloadN (n := 11) X0.here hx (hb hby d39_10) rfl rfl rfl ?_
      refine a_L (n := 12) X0 hx hZ e0 VA (hb hby d39_11) rfl ?_
      refine w_icmpge (n1 := 32) (n2 := 15) X0.here hx (hb hby d39_12) (by decide) (by decide) rfl (fun hc12 => absurd ((nat_lt hib hu).mpr hi) hc12) (fun hc12 => ?_)
      refine w_aloadN (n := 16) X0.here hx (hb hby d39_15) rfl rfl rfl ?_
      refine w_iloadN (n := 17) X0.here hx (hb hby d39_16) rfl rfl ?_
      refine l_B (n := 18) (v := .int (us.getD i 0)) X0 hx hZ e0 VA (nat_nn hib) ((nat_lt hib hu).mpr hi) (by rw [nat_clamp hib]; exact getD_mapI us i) (hb hby d39_17) rfl ?_
      refine w_aloadN (n := 19) X0.here hx (hb hby d39_18) rfl rfl rfl ?_
      refine w_iloadN (n := 20) X0.here hx (hb hby d39_19) rfl rfl ?_
      refine l_B (n := 21) (v := .int (vs.getD i 0)) X0 hx hZ e0 VB (nat_nn hib) ((nat_lt hib hv).mpr (hl ▸ hi)) (by rw [nat_clamp hib]; exact getD_mapI vs i) (hb hby d39_20) rfl ?_
      refine w_icmpeq (n1 := 26) (n2 := 24) X0.here hx (hb hby d39_21) (by decide) (by decide) rfl (fun hc21 => ?_) (fun hc21 => ?_)
      · refine w_iinc (Ls' := #[.val (.ref a), .val (.ref b), .val (.int ((Int32.ofNat i) + (1 : Int32)))]) (n := 29) X0.here hx (hb hby d39_26) rfl rfl rfl ?_
        refine w_goto (n := 9) X0.here hx (hb hby d39_29) (by decide) (by decide) ?_
        rw [show Int32.ofNat i + (1 : Int32) = Int32.ofNat (i + 1) from nat_up i]
        refine ih (i + 1) (by omega) (fun j hj => ?_)
        by_cases q : j = i
        · subst q; exact hc21
        · exact he j (by omega)
      · refine w_iconst (z := (0 : Int32)) (n := 25) X0.here hx (hb hby d39_24) rfl rfl ?_
        exact fin_Z X0 hx hlk e0 hret (Or.inl rfl) (hb hby d39_25) (by decide) (by decide) ⟨by rw [if_neg (fun q => hc21 (by rw [q]))]; rfl, rfl, rfl⟩
  refine w_aloadN (n := 1) X0.here hx (hb hby d39_0) rfl rfl rfl ?_
  refine a_L (n := 2) X0 hx hZ e0 VA (hb hby d39_1) rfl ?_
  refine w_aloadN (n := 3) X0.here hx (hb hby d39_2) rfl rfl rfl ?_
  refine a_L (n := 4) X0 hx hZ e0 VB (hb hby d39_3) rfl ?_
  refine w_icmpne (n1 := 34) (n2 := 7) X0.here hx (hb hby d39_4) (by decide) (by decide) rfl (fun hc4 => ?_) (fun hc4 => ?_)
  · refine w_iconst (z := (0 : Int32)) (n := 35) X0.here hx (hb hby d39_34) rfl rfl ?_
    exact fin_Z X0 hx hlk e0 hret (Or.inl rfl) (hb hby d39_35) (by decide) (by decide) ⟨by rw [if_neg (fun q => hc4 (by rw [q]))]; rfl, rfl, rfl⟩
  · refine w_iconst (z := (0 : Int32)) (n := 8) X0.here hx (hb hby d39_7) rfl rfl ?_
    refine w_istoreN (Ls' := #[.val (.ref a), .val (.ref b), .val (.int (0 : Int32))]) (n := 9) X0.here hx (hb hby d39_8) rfl rfl ?_
    exact loop ((nat_eq hu hv).mp (Classical.not_not.mp hc4)) us.length 0 (by omega) (fun j hj => absurd hj (Nat.not_lt_zero _))
theorem ef_7 (m : MethodId) (a : Addr) (b : Addr) : entryFrame m #[(.ref a), (.ref b)] 3 = mkF m 0 #[.val (.ref a), .val (.ref b), .unset] [] := by first | (simp [entryFrame, mkF, argsToLocals, Value.category]; done) | rfl
theorem pd_7 : parseMethodDescriptor "([B[B)Z" = some ⟨[(.array .byte), (.array .byte)], some .boolean⟩ := by decide +kernel
set_option maxRecDepth 65536 in
set_option maxHeartbeats 40000000 in
theorem rm_eq (l : Launch) (Z : State) (a0 : Array Value) (hw : ∀ d ∈ tables_1, d.before a0 Z = true) (ws : List Jvm.Cond) (a b : Addr) (us vs : List Int32) (h0 : Heap) (cs : Int32) (hcs : cs ≠ 0) (SC : Sta Z h0 "java/lang/String" "COMPACT_STRINGS" "Z" (.int cs)) (SA : Strz Z h0 a us) (SB : Strz Z h0 b vs) :
    Con l Z (⟨"java/lang/String", "equals", "(Ljava/lang/Object;)Z"⟩ : MethodName) jdk_42_method_66_code 3 (some .boolean) ws own_rQ #[.ref a, .ref b] h0 (fun v h L => v = some (.int (if us = vs then 1 else 0)) ∧ L = [] ∧ h = h0) := by
  refine con_of (plainFor_of_name pn_2) ?_
  intro p e s m below meth c T0 X0 hx hZ hby hml hown hret hnm hlk e0
  refine Endz.eq (ef_7 m a b) ?_
  have SA' := SA
  have SB' := SB
  obtain ⟨A1, C1, v1, k1, F1, V1, l1⟩ := own_get SA
  obtain ⟨A2, C2, v2, k2, F2, V2, l2⟩ := own_get SB
  refine w_aloadN (n := 1) X0.here hx (hb hby d38_0) rfl rfl rfl ?_
  refine w_aloadN (n := 2) X0.here hx (hb hby d38_1) rfl rfl rfl ?_
  refine w_acmpne (n1 := 7) (n2 := 5) X0.here hx rfl rfl (hb hby d38_2) (by decide) (by decide) rfl (fun hc2 => ?_) (fun hc2 => ?_)
  · refine w_aloadN (n := 8) X0.here hx (hb hby d38_7) rfl rfl rfl ?_
    refine i_Y (n := 11) X0 hx hZ hown (hw _ (List.mem_of_getElem? (i := 230) rfl)) e0 (Ins.self A2) (hb hby d38_8) rfl (fun T1 X1 e1 => ?_)
    refine w_ifeq (n1 := 54) (n2 := 14) X1.here hx (hb hby d38_11) (by decide) (by decide) rfl (fun hc11 => absurd hc11 (by decide)) (fun hc11 => ?_)
    refine w_aloadN (n := 15) X1.here hx (hb hby d38_14) rfl rfl rfl ?_
    refine k_C (n := 18) X1 hx hZ hown (hw _ (List.mem_of_getElem? (i := 230) rfl)) e1 (Ins.self A2) (hb hby d38_15) rfl (fun T2 X2 e2 => ?_)
    refine w_astoreN (Ls' := #[.val (.ref a), .val (.ref b), .val (.ref b)]) (n := 19) X2.here hx (hb hby d38_18) rfl rfl rfl ?_
    refine g_S (n := 22) X2 hx hZ hown (hw _ (List.mem_of_getElem? (i := 22) rfl)) e2 SC (hb hby d38_19) rfl (fun T3 X3 e3 => ?_)
    refine w_ifeq (n1 := 36) (n2 := 25) X3.here hx (hb hby d38_22) (by decide) (by decide) rfl (fun hc22 => absurd hc22 hcs) (fun hc22 => ?_)
    refine w_aloadN (n := 26) X3.here hx (hb hby d38_25) rfl rfl rfl ?_
    refine g_F (n := 29) X3 hx hZ hown (hw _ (List.mem_of_getElem? (i := 21) rfl)) e3 C1 (hb hby d38_26) rfl (fun T4 X4 e4 => ?_)
    refine w_aloadN (n := 30) X4.here hx (hb hby d38_29) rfl rfl rfl ?_
    refine g_F (n := 33) X4 hx hZ hown (hw _ (List.mem_of_getElem? (i := 21) rfl)) e4 C2 (hb hby d38_30) rfl (fun T5 X5 e5 => ?_)
    refine w_icmpne (n1 := 54) (n2 := 36) X5.here hx (hb hby d38_33) (by decide) (by decide) rfl (fun hc33 => absurd rfl hc33) (fun hc33 => ?_)
    refine w_aloadN (n := 37) X5.here hx (hb hby d38_36) rfl rfl rfl ?_
    refine g_F (n := 40) X5 hx hZ hown (hw _ (List.mem_of_getElem? (i := 20) rfl)) e5 F1 (hb hby d38_37) rfl (fun T6 X6 e6 => ?_)
    refine w_aloadN (n := 41) X6.here hx (hb hby d38_40) rfl rfl rfl ?_
    refine g_F (n := 44) X6 hx hZ hown (hw _ (List.mem_of_getElem? (i := 20) rfl)) e6 F2 (hb hby d38_41) rfl (fun T7 X7 e7 => ?_)
    refine c_S (n := 47) (argsL := [(.ref v1), (.ref v2)]) (rest := []) X7 hx hZ hown (rm_le l Z a0 hw [] v1 v2 k1 k2 us vs h0 l1 l2 V1 V2) e7 (hw _ (List.mem_of_getElem? (i := 231) rfl)) (hw _ (List.mem_of_getElem? (i := 232) rfl)) (hw _ (List.mem_of_getElem? (i := 233) rfl)) (hw _ (List.mem_of_getElem? (i := 234) rfl)) (by decide) 0 (by decide) (by decide) (by decide) (by decide) (by rw [hml]; rfl) pd_7 rfl rfl (Nat.le_of_ble_eq_true rfl) (hb hby d38_44) rfl (fun v8 T8 L8 X8 hQ8 => ?_)
    obtain ⟨rfl, rfl, e9⟩ := hQ8
    show Endz _ _ _ _ T8 (mkF m 47 #[.val (.ref a), .val (.ref b), .val (.ref b)] [(.int (if us = vs then 1 else 0))])
    refine w_ifeq (n1 := 54) (n2 := 50) X8.here hx (hb hby d38_47) (by decide) (by decide) rfl (fun hc47 => ?_) (fun hc47 => ?_)
    · refine w_iconst (z := (0 : Int32)) (n := 55) X8.here hx (hb hby d38_54) rfl rfl ?_
      exact fin_Z X8 hx hlk e9 hret (Or.inl rfl) (hb hby d38_55) (by decide) (by decide) ⟨by rw [hc47]; rfl, rfl, rfl⟩
    · refine w_iconst (z := (1 : Int32)) (n := 51) X8.here hx (hb hby d38_50) rfl rfl ?_
      refine w_goto (n := 55) X8.here hx (hb hby d38_51) (by decide) (by decide) ?_
      exact fin_Z X8 hx hlk e9 hret (Or.inl rfl) (hb hby d38_55) (by decide) (by decide) ⟨by rw [if_pos (Classical.byContradiction fun q => hc47 (if_neg q))]; rfl, rfl, rfl⟩
  · refine w_iconst (z := (1 : Int32)) (n := 6) X0.here hx (hb hby d38_5) rfl rfl ?_
    exact fin_Z X0 hx hlk e0 hret (Or.inl rfl) (hb hby d38_6) (by decide) (by decide) ⟨by rw [if_pos (by cases hc2; exact SA'.fun SB')]; rfl, rfl, rfl⟩
def own_pad (cap : Nat) (ws : List Int32) : List Int32 := ws ++ List.replicate (cap - ws.length) 0
theorem own_pad_len {cap : Nat} {ws : List Int32} (h : ws.length ≤ cap) : (own_pad cap ws).length = cap := by simp [own_pad]; omega
/-- a builder that holds ws -/
def own_Sb (Z : State) (h : Heap) (sb b : Addr) (kb : ClassId) (cap : Nat) (ws : List Int32) : Prop := Exa Z h sb "java/lang/StringBuilder" ∧ Fld Z h sb "java/lang/AbstractStringBuilder" "value" "[B" (.ref b) ∧ Fld Z h sb "java/lang/AbstractStringBuilder" "coder" "B" (.int 0) ∧ Fld Z h sb "java/lang/AbstractStringBuilder" "count" "I" (.int (Int32.ofNat ws.length)) ∧ Arv Z h b kb .byte (Int32.ofNat cap) ((own_pad cap ws).map Value.int) (.int 0) ∧ ws.length ≤ cap
theorem own_Sb_ext {Z : State} {h h' : Heap} {sb b : Addr} {kb : ClassId} {cap : Nat} {ws : List Int32} (F : own_Sb Z h sb b kb cap ws) (E : Ext h h') : own_Sb Z h' sb b kb cap ws := by
  obtain ⟨A, F1, F2, F3, V, r⟩ := F; exact ⟨A.ext E, F1.ext E, F2.ext E, F3.ext E, V.ext E, r⟩
def own_cap (cap mn : Nat) : Nat := if mn ≤ cap then cap else 34
theorem own_shr0 (x : Int32) : x >>> ((0 : Int32) &&& 31) = x := by
  rw [show ((0 : Int32) &&& 31) = 0 from rfl]; apply Int32.toBitVec_inj.mp; simp
theorem own_shl0 (x : Int32) : x <<< ((0 : Int32) &&& 31) = x := by
  rw [show ((0 : Int32) &&& 31) = 0 from rfl]; apply Int32.toBitVec_inj.mp; simp
theorem own_range {vs : List Value} {d : Value} {n : Nat} (h : n ≤ vs.length) : ((List.range n).map fun i => vs.getD (0 + i) d) = vs.take n := by
  refine List.ext_getElem (by simp; omega) fun i i1 i2 => ?_
  simp at i1 i2
  have : i < vs.length := by omega
  simp [List.getD_eq_getElem?_getD, this]
/-- growing -/
theorem own_grow {ws : List Int32} (h : ws.length ≤ 16) : (List.replicate 34 (Value.int 0)).take 0 ++ ((own_pad 16 ws).map Value.int).take 16 ++ (List.replicate 34 (Value.int 0)).drop (0 + 16) = (own_pad 34 ws).map Value.int := by
  rw [List.take_zero, List.nil_append, List.take_of_length_le (by rw [List.length_map, own_pad_len h]; exact Nat.le_refl _)]
  simp only [own_pad, List.map_append, List.map_replicate, List.drop_replicate, List.append_assoc, List.replicate_append_replicate]
  congr 2; omega
/-- writing us behind ws -/
theorem own_put {cap : Nat} {ws us : List Int32} (h : ws.length + us.length ≤ cap) : ((own_pad cap ws).map Value.int).take ws.length ++ us.map Value.int ++ ((own_pad cap ws).map Value.int).drop (ws.length + us.length) = (own_pad cap (ws ++ us)).map Value.int := by
  simp only [own_pad, List.map_append, List.map_replicate]
  rw [List.take_append_of_le_length (by simp), List.take_of_length_le (by simp), List.drop_append, List.drop_of_length_le (by simp)]
  simp only [List.nil_append, List.drop_replicate, List.length_map, List.length_append, List.append_assoc]
  congr 3; omega
/-- the first ones -/
theorem own_cut {cap : Nat} {ws : List Int32} (h : ws.length ≤ cap) : (List.replicate ws.length (Value.int 0)).take 0 ++ ((own_pad cap ws).map Value.int).take ws.length ++ (List.replicate ws.length (Value.int 0)).drop (0 + ws.length) = ws.map Value.int := by
  simp only [own_pad, List.map_append, List.map_replicate, List.take_zero, List.nil_append]
  rw [List.take_append_of_le_length (by simp), List.take_of_length_le (by simp), List.drop_of_length_le (by simp)]
  simp
theorem own_sub {a b : Nat} (ha : a < 2147483648) (hb : b < 2147483648) : 0 < Int32.ofNat a - Int32.ofNat b ↔ b < a := by
  rw [Int32.lt_iff_toInt_lt, Int32.toInt_sub, nat_toInt ha, nat_toInt hb, i0_toInt]
  rw [Int.bmod_eq_of_le (by omega) (by omega)]; omega
abbrev own_rSL : Room := { frames := 1, cells := 0, slots := 0, locals := 14 }
abbrev own_rNL : Room := { frames := 1, cells := 0, slots := 0, locals := 16 }
abbrev own_rNC : Room := { frames := 2, cells := 0, slots := 0, locals := 34 }
abbrev own_rCO : Room := { frames := 1, cells := 1, slots := 34, locals := 40 }
abbrev own_rEC : Room := { frames := 3, cells := 1, slots := 34, locals := 60 }
abbrev own_rIF : Room := { frames := 1, cells := 0, slots := 0, locals := 14 }
abbrev own_rGB : Room := { frames := 1, cells := 0, slots := 0, locals := 40 }
abbrev own_rPS : Room := { frames := 2, cells := 0, slots := 0, locals := 60 }
abbrev own_rAA : Room := { frames := 4, cells := 1, slots := 34, locals := 80 }
abbrev own_rSA : Room := { frames := 5, cells := 1, slots := 34, locals := 96 }
abbrev own_rI3 : Room := { frames := 1, cells := 1, slots := 16, locals := 14 }
abbrev own_rI4 : Room := { frames := 2, cells := 1, slots := 16, locals := 30 }
theorem pd_8 : parseMethodDescriptor "()B" = some ⟨[], some .byte⟩ := by decide +kernel
theorem pd_9 : parseMethodDescriptor "()I" = some ⟨[], some .int⟩ := by decide +kernel
theorem pd_10 : parseMethodDescriptor "()Ljava/lang/String;" = some ⟨[], some (.object "java/lang/String")⟩ := by decide +kernel
theorem pd_11 : parseMethodDescriptor "()V" = some ⟨[], none⟩ := by decide +kernel
theorem pd_12 : parseMethodDescriptor "()Z" = some ⟨[], some .boolean⟩ := by decide +kernel
theorem pd_13 : parseMethodDescriptor "()[B" = some ⟨[], some (.array .byte)⟩ := by decide +kernel
theorem pd_14 : parseMethodDescriptor "(I)I" = some ⟨[.int], some .int⟩ := by decide +kernel
theorem pd_15 : parseMethodDescriptor "(I)V" = some ⟨[.int], none⟩ := by decide +kernel
theorem pd_16 : parseMethodDescriptor "(II)I" = some ⟨[.int, .int], some .int⟩ := by decide +kernel
theorem pd_17 : parseMethodDescriptor "(II)V" = some ⟨[.int, .int], none⟩ := by decide +kernel
theorem pd_18 : parseMethodDescriptor "(III)I" = some ⟨[.int, .int, .int], some .int⟩ := by decide +kernel
theorem pd_19 : parseMethodDescriptor "(ILjava/lang/String;)V" = some ⟨[.int, (.object "java/lang/String")], none⟩ := by decide +kernel
theorem pd_20 : parseMethodDescriptor "(Ljava/lang/AbstractStringBuilder;Ljava/lang/Void;)V" = some ⟨[(.object "java/lang/AbstractStringBuilder"), (.object "java/lang/Void")], none⟩ := by decide +kernel
theorem pd_21 : parseMethodDescriptor "(Ljava/lang/Object;)Z" = some ⟨[(.object "java/lang/Object")], some .boolean⟩ := by decide +kernel
theorem pd_22 : parseMethodDescriptor "(Ljava/lang/String;)Lcom/example/legitka/legitka/cli/UsageException;" = some ⟨[(.object "java/lang/String")], some (.object "com/example/legitka/legitka/cli/UsageException")⟩ := by decide +kernel
theorem pd_23 : parseMethodDescriptor "(Ljava/lang/String;)Ljava/lang/AbstractStringBuilder;" = some ⟨[(.object "java/lang/String")], some (.object "java/lang/AbstractStringBuilder")⟩ := by decide +kernel
theorem pd_24 : parseMethodDescriptor "(Ljava/lang/String;)Ljava/lang/StringBuilder;" = some ⟨[(.object "java/lang/String")], some (.object "java/lang/StringBuilder")⟩ := by decide +kernel
theorem pd_25 : parseMethodDescriptor "(Ljava/lang/String;)V" = some ⟨[(.object "java/lang/String")], none⟩ := by decide +kernel
theorem pd_26 : parseMethodDescriptor "(Ljava/lang/StringBuilder;)V" = some ⟨[(.object "java/lang/StringBuilder")], none⟩ := by decide +kernel
theorem pd_27 : parseMethodDescriptor "([BI)[B" = some ⟨[(.array .byte), .int], some (.array .byte)⟩ := by decide +kernel
theorem pd_28 : parseMethodDescriptor "([BIB)V" = some ⟨[(.array .byte), .int, .byte], none⟩ := by decide +kernel
theorem pd_29 : parseMethodDescriptor "([BII)[B" = some ⟨[(.array .byte), .int, .int], some (.array .byte)⟩ := by decide +kernel
theorem pd_30 : parseMethodDescriptor "([C)V" = some ⟨[(.array .char)], none⟩ := by decide +kernel
theorem ef_8 (m : MethodId) (a : Addr) : entryFrame m #[(.ref a)] 1 = mkF m 0 #[.val (.ref a)] [] := by first | (simp [entryFrame, mkF, argsToLocals, Value.category]; done) | rfl
set_option maxRecDepth 65536 in
set_option maxHeartbeats 40000000 in
theorem rm_sc (l : Launch) (Z : State) (a0 : Array Value) (hw : ∀ d ∈ tables_1, d.before a0 Z = true) (ws : List Jvm.Cond) (a : Addr) (us : List Int32) (h0 : Heap) (cs : Int32) (hcs : cs ≠ 0) (SC : Sta Z h0 "java/lang/String" "COMPACT_STRINGS" "Z" (.int cs)) (SS : Strz Z h0 a us) :
    Con l Z (⟨"java/lang/String", "coder", "()B"⟩ : MethodName) jdk_42_method_152_code 1 (some .byte) ws own_r0 #[.ref a] h0 (fun v h L => v = some (.int 0) ∧ L = [] ∧ h = h0) := by
  refine con_of (plainFor_of_name pn_2) ?_
  intro p e s m below meth c T0 X0 hx hZ hby hml hown hret hnm hlk e0
  refine Endz.eq (ef_8 m a) ?_
  obtain ⟨A1, C1, v1, k1, F1, V1, l1⟩ := own_get SS
  refine g_S (n := 3) X0 hx hZ hown (hw _ (List.mem_of_getElem? (i := 22) rfl)) e0 SC (hb hby d13_0) rfl (fun T1 X1 e1 => ?_)
  refine w_ifeq (n1 := 13) (n2 := 6) X1.here hx (hb hby d13_3) (by decide) (by decide) rfl (fun hc3 => absurd hc3 hcs) (fun hc3 => ?_)
  refine w_aloadN (n := 7) X1.here hx (hb hby d13_6) rfl rfl rfl ?_
  refine g_F (n := 10) X1 hx hZ hown (hw _ (List.mem_of_getElem? (i := 21) rfl)) e1 C1 (hb hby d13_7) rfl (fun T2 X2 e2 => ?_)
  refine w_goto (n := 14) X2.here hx (hb hby d13_10) (by decide) (by decide) ?_
  exact fin_Z X2 hx hlk e2 hret (Or.inr (Or.inl rfl)) (hb hby d13_14) (by decide) (by decide) ⟨rfl, rfl, rfl⟩
set_option maxRecDepth 65536 in
set_option maxHeartbeats 40000000 in
theorem rm_sl (l : Launch) (Z : State) (a0 : Array Value) (hw : ∀ d ∈ tables_1, d.before a0 Z = true) (ws : List Jvm.Cond) (a : Addr) (us : List Int32) (h0 : Heap) (cs : Int32) (hcs : cs ≠ 0) (SC : Sta Z h0 "java/lang/String" "COMPACT_STRINGS" "Z" (.int cs)) (SS : Strz Z h0 a us) :
    Con l Z (⟨"java/lang/String", "length", "()I"⟩ : MethodName) jdk_42_method_54_code 1 (some .int) ws own_rSL #[.ref a] h0 (fun v h L => v = some (.int (Int32.ofNat us.length)) ∧ L = [] ∧ h = h0) := by
  refine con_of (plainFor_of_name pn_2) ?_
  intro p e s m below meth c T0 X0 hx hZ hby hml hown hret hnm hlk e0
  refine Endz.eq (ef_8 m a) ?_
  have SS' := SS
  obtain ⟨A1, C1, v1, k1, F1, V1, l1⟩ := own_get SS
  refine w_aloadN (n := 1) X0.here hx (hb hby d12_0) rfl rfl rfl ?_
  refine g_F (n := 4) X0 hx hZ hown (hw _ (List.mem_of_getElem? (i := 20) rfl)) e0 F1 (hb hby d12_1) rfl (fun T1 X1 e1 => ?_)
  refine a_L (n := 5) X1 hx hZ e1 V1 (hb hby d12_4) rfl ?_
  refine w_aloadN (n := 6) X1.here hx (hb hby d12_5) rfl rfl rfl ?_
  refine c_V (n := 9) (b := a) (argsL := []) (rest := [(.int (Int32.ofNat us.length))]) X1 hx hZ hown (rm_sc l Z a0 hw [] a us h0 cs hcs SC SS') e1 A1 (hw _ (List.mem_of_getElem? (i := 73) rfl)) (hw _ (List.mem_of_getElem? (i := 74) rfl)) (notFace_of_selects (args := #[]) (mvT hZ (hw _ (List.mem_of_getElem? (i := 76) rfl)))) (hw _ (List.mem_of_getElem? (i := 76) rfl)) (hw _ (List.mem_of_getElem? (i := 75) rfl)) (hw _ (List.mem_of_getElem? (i := 3) rfl)) (hw _ (List.mem_of_getElem? (i := 77) rfl)) (by decide) 1 (by decide) (by decide) (by decide) (by decide) (by rw [hml]; rfl) pd_8 rfl rfl (Nat.le_of_ble_eq_true rfl) (hb hby d12_6) rfl (fun v2 T2 L2 X2 hQ2 => ?_)
  obtain ⟨rfl, rfl, e9⟩ := hQ2
  show Endz _ _ _ _ T2 (mkF m 9 #[.val (.ref a)] [(.int (0 : Int32)), (.int (Int32.ofNat us.length))])
  refine w_ishr (n := 10) X2.here hx (hb hby d12_9) rfl ?_
  exact fin_I X2 hx hlk e9 hret (hb hby d12_10) (by decide) (by decide) ⟨by rw [own_shr0], rfl, rfl⟩
theorem ef_9 (m : MethodId) (x : Int32) (y : Int32) : entryFrame m #[(.int x), (.int y)] 2 = mkF m 0 #[.val (.int x), .val (.int y)] [] := by first | (simp [entryFrame, mkF, argsToLocals, Value.category]; done) | rfl
set_option maxRecDepth 65536 in
set_option maxHeartbeats 40000000 in
theorem rm_mx (l : Launch) (Z : State) (a0 : Array Value) (hw : ∀ d ∈ tables_1, d.before a0 Z = true) (ws : List Jvm.Cond) (x y : Int32) (h0 : Heap)  :
    Con l Z (⟨"java/lang/Math", "max", "(II)I"⟩ : MethodName) jdk_29_method_65_code 2 (some .int) ws own_r0 #[.int x, .int y] h0 (fun v h L => v = some (.int (if x < y then y else x)) ∧ L = [] ∧ h = h0) := by
  refine con_of (by decide +kernel) ?_
  intro p e s m below meth c T0 X0 hx hZ hby hml hown hret hnm hlk e0
  refine Endz.eq (ef_9 m x y) ?_
  refine w_iloadN (n := 1) X0.here hx (hb hby d20_0) rfl rfl ?_
  refine w_iloadN (n := 2) X0.here hx (hb hby d20_1) rfl rfl ?_
  refine w_icmplt (n1 := 9) (n2 := 5) X0.here hx (hb hby d20_2) (by decide) (by decide) rfl (fun hc2 => ?_) (fun hc2 => ?_)
  · refine w_iloadN (n := 10) X0.here hx (hb hby d20_9) rfl rfl ?_
    exact fin_I X0 hx hlk e0 hret (hb hby d20_10) (by decide) (by decide) ⟨by rw [if_pos hc2], rfl, rfl⟩
  · refine w_iloadN (n := 6) X0.here hx (hb hby d20_5) rfl rfl ?_
    refine w_goto (n := 10) X0.here hx (hb hby d20_6) (by decide) (by decide) ?_
    exact fin_I X0 hx hlk e0 hret (hb hby d20_10) (by decide) (by decide) ⟨by rw [if_neg hc2], rfl, rfl⟩
set_option maxRecDepth 65536 in
set_option maxHeartbeats 40000000 in
theorem rm_mi (l : Launch) (Z : State) (a0 : Array Value) (hw : ∀ d ∈ tables_1, d.before a0 Z = true) (ws : List Jvm.Cond) (x y : Int32) (h0 : Heap)  :
    Con l Z (⟨"java/lang/Math", "min", "(II)I"⟩ : MethodName) jdk_29_method_69_code 2 (some .int) ws own_r0 #[.int x, .int y] h0 (fun v h L => v = some (.int (if y < x then y else x)) ∧ L = [] ∧ h = h0) := by
  refine con_of (by decide +kernel) ?_
  intro p e s m below meth c T0 X0 hx hZ hby hml hown hret hnm hlk e0
  refine Endz.eq (ef_9 m x y) ?_
  refine w_iloadN (n := 1) X0.here hx (hb hby d22_0) rfl rfl ?_
  refine w_iloadN (n := 2) X0.here hx (hb hby d22_1) rfl rfl ?_
  refine w_icmpgt (n1 := 9) (n2 := 5) X0.here hx (hb hby d22_2) (by decide) (by decide) rfl (fun hc2 => ?_) (fun hc2 => ?_)
  · refine w_iloadN (n := 10) X0.here hx (hb hby d22_9) rfl rfl ?_
    exact fin_I X0 hx hlk e0 hret (hb hby d22_10) (by decide) (by decide) ⟨by rw [if_pos hc2], rfl, rfl⟩
  · refine w_iloadN (n := 6) X0.here hx (hb hby d22_5) rfl rfl ?_
    refine w_goto (n := 10) X0.here hx (hb hby d22_6) (by decide) (by decide) ?_
    exact fin_I X0 hx hlk e0 hret (hb hby d22_10) (by decide) (by decide) ⟨by rw [if_neg hc2], rfl, rfl⟩
theorem ef_10 (m : MethodId) (x : Int32) (g : Int32) (q : Int32) : entryFrame m #[(.int x), (.int g), (.int q)] 4 = mkF m 0 #[.val (.int x), .val (.int g), .val (.int q), .unset] [] := by first | (simp [entryFrame, mkF, argsToLocals, Value.category]; done) | rfl
theorem pn_31 : plainName "jdk/internal/util/ArraysSupport" = true := by first | (simp [plainName, overriddenIn]; done) | decide +kernel
set_option maxRecDepth 65536 in
set_option maxHeartbeats 40000000 in
theorem rm_nl (l : Launch) (Z : State) (a0 : Array Value) (hw : ∀ d ∈ tables_1, d.before a0 Z = true) (ws : List Jvm.Cond) (g : Int32) (hg : g = 1 ∨ g = 2 ∨ g = 3) (h0 : Heap)  :
    Con l Z (⟨"jdk/internal/util/ArraysSupport", "newLength", "(III)I"⟩ : MethodName) jdk_48_method_27_code 4 (some .int) ws own_rNL #[.int 16, .int g, .int 18] h0 (fun v h L => v = some (.int 34) ∧ L = [] ∧ h = h0) := by
  refine con_of (plainFor_of_name pn_31) ?_
  intro p e s m below meth c T0 X0 hx hZ hby hml hown hret hnm hlk e0
  refine Endz.eq (ef_10 m 16 g 18) ?_
  refine w_iloadN (n := 1) X0.here hx (hb hby d19_0) rfl rfl ?_
  refine w_iloadN (n := 2) X0.here hx (hb hby d19_1) rfl rfl ?_
  refine w_iloadN (n := 3) X0.here hx (hb hby d19_2) rfl rfl ?_
  refine c_S (n := 6) (argsL := [(.int g), (.int (18 : Int32))]) (rest := [(.int (16 : Int32))]) X0 hx hZ hown (rm_mx l Z a0 hw [] g 18 h0) e0 (hw _ (List.mem_of_getElem? (i := 115) rfl)) (hw _ (List.mem_of_getElem? (i := 116) rfl)) (hw _ (List.mem_of_getElem? (i := 117) rfl)) (hw _ (List.mem_of_getElem? (i := 118) rfl)) (by decide) 1 (by decide) (by decide) (by decide) (by decide) (by rw [hml]; rfl) pd_16 rfl rfl (Nat.le_of_ble_eq_true rfl) (hb hby d19_3) rfl (fun v1 T1 L1 X1 hQ1 => ?_)
  obtain ⟨rfl, rfl, e9⟩ := hQ1
  show Endz _ _ _ _ T1 (mkF m 6 #[.val (.int (16 : Int32)), .val (.int g), .val (.int (18 : Int32)), .unset] [(.int (if g < 18 then 18 else g)), (.int (16 : Int32))])
  refine w_iadd (n := 7) X1.here hx (hb hby d19_6) rfl ?_
  rw [show (16 : Int32) + (if g < 18 then 18 else g) = 34 by rcases hg with rfl | rfl | rfl <;> rfl]
  refine w_istoreN (Ls' := #[.val (.int (16 : Int32)), .val (.int g), .val (.int (18 : Int32)), .val (.int (34 : Int32))]) (n := 8) X1.here hx (hb hby d19_7) rfl rfl ?_
  refine w_iconst (z := (0 : Int32)) (n := 9) X1.here hx (hb hby d19_8) rfl rfl ?_
  refine w_iloadN (n := 10) X1.here hx (hb hby d19_9) rfl rfl ?_
  refine w_icmpge (n1 := 21) (n2 := 13) X1.here hx (hb hby d19_10) (by decide) (by decide) rfl (fun hc10 => absurd (by decide : (0 : Int32) < 34) hc10) (fun hc10 => ?_)
  refine w_iloadN (n := 14) X1.here hx (hb hby d19_13) rfl rfl ?_
  refine k_I (n := 16) X1 hx hZ hown (hw _ (List.mem_of_getElem? (i := 119) rfl)) (hb hby d19_14) rfl ?_
  refine w_icmpgt (n1 := 21) (n2 := 19) X1.here hx (hb hby d19_16) (by decide) (by decide) rfl (fun hc16 => absurd hc16 (by decide)) (fun hc16 => ?_)
  refine w_iloadN (n := 20) X1.here hx (hb hby d19_19) rfl rfl ?_
  exact fin_I X1 hx hlk e9 hret (hb hby d19_20) (by decide) (by decide) ⟨rfl, rfl, rfl⟩
theorem ef_11 (m : MethodId) (sb : Addr) (z : Int32) : entryFrame m #[(.ref sb), (.int z)] 6 = mkF m 0 #[.val (.ref sb), .val (.int z), .unset, .unset, .unset, .unset] [] := by first | (simp [entryFrame, mkF, argsToLocals, Value.category]; done) | rfl
theorem pn_32 : plainName "java/lang/AbstractStringBuilder" = true := by first | (simp [plainName, overriddenIn]; done) | decide +kernel
set_option maxRecDepth 65536 in
set_option maxHeartbeats 40000000 in
theorem rm_nc (l : Launch) (Z : State) (a0 : Array Value) (hw : ∀ d ∈ tables_1, d.before a0 Z = true) (ws : List Jvm.Cond) (sb b : Addr) (kb : ClassId) (us : List Int32) (z : Int32) (hz : z = 17 ∨ z = 18 ∨ z = 19) (h0 : Heap) (B : own_Sb Z h0 sb b kb 16 us) :
    Con l Z (⟨"java/lang/AbstractStringBuilder", "newCapacity", "(I)I"⟩ : MethodName) jdk_68_method_10_code 6 (some .int) ws own_rNC #[.ref sb, .int z] h0 (fun v h L => v = some (.int 34) ∧ L = [] ∧ h = h0) := by
  refine con_of (plainFor_of_name pn_32) ?_
  intro p e s m below meth c T0 X0 hx hZ hby hml hown hret hnm hlk e0
  refine Endz.eq (ef_11 m sb z) ?_
  obtain ⟨A, FV, FC, FN, VB, hle⟩ := B
  have VB : Arv Z h0 b kb .byte 16 _ _ := VB
  refine w_aloadN (n := 1) X0.here hx (hb hby d18_0) rfl rfl rfl ?_
  refine g_F (n := 4) X0 hx hZ hown (hw _ (List.mem_of_getElem? (i := 53) rfl)) e0 FV (hb hby d18_1) rfl (fun T1 X1 e1 => ?_)
  refine a_L (n := 5) X1 hx hZ e1 VB (hb hby d18_4) rfl ?_
  refine w_istoreN (Ls' := #[.val (.ref sb), .val (.int z), .val (.int (16 : Int32)), .unset, .unset, .unset]) (n := 6) X1.here hx (hb hby d18_5) rfl rfl ?_
  refine w_iloadN (n := 7) X1.here hx (hb hby d18_6) rfl rfl ?_
  refine w_aloadN (n := 8) X1.here hx (hb hby d18_7) rfl rfl rfl ?_
  refine g_F (n := 11) X1 hx hZ hown (hw _ (List.mem_of_getElem? (i := 55) rfl)) e1 FC (hb hby d18_8) rfl (fun T2 X2 e2 => ?_)
  refine w_ishl (n := 12) X2.here hx (hb hby d18_11) rfl ?_
  rw [own_shl0]
  refine w_istoreN (Ls' := #[.val (.ref sb), .val (.int z), .val (.int (16 : Int32)), .val (.int z), .unset, .unset]) (n := 13) X2.here hx (hb hby d18_12) rfl rfl ?_
  refine w_iloadN (n := 14) X2.here hx (hb hby d18_13) rfl rfl ?_
  refine w_iloadN (n := 15) X2.here hx (hb hby d18_14) rfl rfl ?_
  refine w_isub (n := 16) X2.here hx (hb hby d18_15) rfl ?_
  refine w_istore (Ls' := #[.val (.ref sb), .val (.int z), .val (.int (16 : Int32)), .val (.int z), .val (.int (z - (16 : Int32))), .unset]) (n := 18) X2.here hx (hb hby d18_16) rfl rfl ?_
  refine w_iloadN (n := 19) X2.here hx (hb hby d18_18) rfl rfl ?_
  refine w_iload (n := 21) X2.here hx (hb hby d18_19) rfl rfl ?_
  refine w_iloadN (n := 22) X2.here hx (hb hby d18_21) rfl rfl ?_
  refine w_iconst (z := (2 : Int32)) (n := 23) X2.here hx (hb hby d18_22) rfl rfl ?_
  refine w_aloadN (n := 24) X2.here hx (hb hby d18_23) rfl rfl rfl ?_
  refine g_F (n := 27) X2 hx hZ hown (hw _ (List.mem_of_getElem? (i := 55) rfl)) e2 FC (hb hby d18_24) rfl (fun T3 X3 e3 => ?_)
  refine w_ishl (n := 28) X3.here hx (hb hby d18_27) rfl ?_
  refine w_iadd (n := 29) X3.here hx (hb hby d18_28) rfl ?_
  have hg : z - 16 = 1 ∨ z - 16 = 2 ∨ z - 16 = 3 := by rcases hz with rfl | rfl | rfl <;> decide
  rw [show (16 : Int32) + ((2 : Int32) <<< ((0 : Int32) &&& 31)) = 18 from rfl]
  refine c_S (n := 32) (argsL := [(.int (16 : Int32)), (.int (z - (16 : Int32))), (.int (18 : Int32))]) (rest := []) X3 hx hZ hown (rm_nl l Z a0 hw [] (z - 16) hg h0) e3 (hw _ (List.mem_of_getElem? (i := 111) rfl)) (hw _ (List.mem_of_getElem? (i := 112) rfl)) (hw _ (List.mem_of_getElem? (i := 113) rfl)) (hw _ (List.mem_of_getElem? (i := 114) rfl)) (by decide) 0 (by decide) (by decide) (by decide) (by decide) (by rw [hml]; rfl) pd_18 rfl rfl (Nat.le_of_ble_eq_true rfl) (hb hby d18_29) rfl (fun v4 T4 L4 X4 hQ4 => ?_)
  obtain ⟨rfl, rfl, e9⟩ := hQ4
  show Endz _ _ _ _ T4 (mkF m 32 #[.val (.ref sb), .val (.int z), .val (.int (16 : Int32)), .val (.int z), .val (.int (z - (16 : Int32))), .unset] [(.int (34 : Int32))])
  refine w_istore (Ls' := #[.val (.ref sb), .val (.int z), .val (.int (16 : Int32)), .val (.int z), .val (.int (z - (16 : Int32))), .val (.int (34 : Int32))]) (n := 34) X4.here hx (hb hby d18_32) rfl rfl ?_
  refine w_iload (n := 36) X4.here hx (hb hby d18_34) rfl rfl ?_
  refine k_I (n := 38) X4 hx hZ hown (hw _ (List.mem_of_getElem? (i := 120) rfl)) (hb hby d18_36) rfl ?_
  refine w_icmpne (n1 := 51) (n2 := 41) X4.here hx (hb hby d18_38) (by decide) (by decide) rfl (fun hc38 => ?_) (fun hc38 => absurd (by decide : ¬ (34 : Int32) = 2147483647) hc38)
  refine w_iload (n := 53) X4.here hx (hb hby d18_51) rfl rfl ?_
  refine w_aloadN (n := 54) X4.here hx (hb hby d18_53) rfl rfl rfl ?_
  refine g_F (n := 57) X4 hx hZ hown (hw _ (List.mem_of_getElem? (i := 55) rfl)) e9 FC (hb hby d18_54) rfl (fun T5 X5 e5 => ?_)
  refine w_ishr (n := 58) X5.here hx (hb hby d18_57) rfl ?_
  exact fin_I X5 hx hlk e5 hret (hb hby d18_58) (by decide) (by decide) ⟨by rw [own_shr0], rfl, rfl⟩
theorem ef_12 (m : MethodId) (b : Addr) (z : Int32) : entryFrame m #[(.ref b), (.int z)] 3 = mkF m 0 #[.val (.ref b), .val (.int z), .unset] [] := by first | (simp [entryFrame, mkF, argsToLocals, Value.category]; done) | rfl
theorem pn_33 : plainName "java/util/Arrays" = true := by first | (simp [plainName, overriddenIn]; done) | decide +kernel
set_option maxRecDepth 65536 in
set_option maxHeartbeats 40000000 in
theorem rm_co (l : Launch) (Z : State) (a0 : Array Value) (hw : ∀ d ∈ tables_1, d.before a0 Z = true) (ws : List Jvm.Cond) (b : Addr) (kb : ClassId) (us : List Int32) (hle : us.length ≤ 16) (h0 : Heap) (VB : Arv Z h0 b kb .byte 16 ((own_pad 16 us).map Value.int) (.int 0)) :
    Con l Z (⟨"java/util/Arrays", "copyOf", "([BI)[B"⟩ : MethodName) jdk_65_method_121_code 3 (some (.array .byte)) ws own_rCO #[.ref b, .int 34] h0 (fun v h L => ∃ b' k', v = some (.ref b') ∧ h0.size ≤ b' ∧ Ext h0 h ∧ Arv Z h b' k' .byte (Int32.ofNat 34) ((own_pad 34 us).map Value.int) (.int 0) ∧ Fr h0.size L) := by
  refine con_of (plainFor_of_name pn_33) ?_
  intro p e s m below meth c T0 X0 hx hZ hby hml hown hret hnm hlk e0
  refine Endz.eq (ef_12 m b 34) ?_
  refine w_iloadN (n := 1) X0.here hx (hb hby d21_0) rfl rfl ?_
  refine w_aloadN (n := 2) X0.here hx (hb hby d21_1) rfl rfl rfl ?_
  refine a_L (n := 3) X0 hx hZ e0 VB (hb hby d21_2) rfl ?_
  refine w_icmpne (n1 := 14) (n2 := 6) X0.here hx (hb hby d21_3) (by decide) (by decide) rfl (fun hc3 => ?_) (fun hc3 => absurd (by decide : ¬ (34 : Int32) = 16) hc3)
  refine w_iloadN (n := 15) X0.here hx (hb hby d21_14) rfl rfl ?_
  refine n_P (n := 17) X0 hx hZ (hw _ (List.mem_of_getElem? (i := 15) rfl)) e0 (hb hby d21_15) rfl (by decide) 34 (by decide) (by decide) (by decide) (by decide) (fun T1 h1 k1 b1 g1 X1 e1 E1 V1 => ?_)
  refine w_astoreN (Ls' := #[.val (.ref b), .val (.int (34 : Int32)), .val (.ref b1)]) (n := 18) X1.here hx (hb hby d21_17) rfl rfl rfl ?_
  refine w_aloadN (n := 19) X1.here hx (hb hby d21_18) rfl rfl rfl ?_
  refine w_iconst (z := (0 : Int32)) (n := 20) X1.here hx (hb hby d21_19) rfl rfl ?_
  refine w_aloadN (n := 21) X1.here hx (hb hby d21_20) rfl rfl rfl ?_
  refine w_iconst (z := (0 : Int32)) (n := 22) X1.here hx (hb hby d21_21) rfl rfl ?_
  refine w_aloadN (n := 23) X1.here hx (hb hby d21_22) rfl rfl rfl ?_
  refine a_L (n := 24) X1 hx hZ e1 (VB.ext E1) (hb hby d21_23) rfl ?_
  refine w_iloadN (n := 25) X1.here hx (hb hby d21_24) rfl rfl ?_
  refine c_S (n := 28) (argsL := [(.int (16 : Int32)), (.int (34 : Int32))]) (rest := [(.int (0 : Int32)), (.ref b1), (.int (0 : Int32)), (.ref b)]) X1 hx hZ hown (rm_mi l Z a0 hw [] 16 34 h1) e1 (hw _ (List.mem_of_getElem? (i := 125) rfl)) (hw _ (List.mem_of_getElem? (i := 126) rfl)) (hw _ (List.mem_of_getElem? (i := 117) rfl)) (hw _ (List.mem_of_getElem? (i := 127) rfl)) (by decide) 4 (by decide) (by decide) (by decide) (by decide) (by rw [hml]; rfl) pd_16 rfl rfl (Nat.le_of_ble_eq_true rfl) (hb hby d21_25) rfl (fun v2 T2 L2 X2 hQ2 => ?_)
  obtain ⟨rfl, rfl, e9⟩ := hQ2
  show Endz _ _ _ _ T2 (mkF m 28 #[.val (.ref b), .val (.int (34 : Int32)), .val (.ref b1)] [(.int (16 : Int32)), (.int (0 : Int32)), (.ref b1), (.int (0 : Int32)), (.ref b)])
  have gb : h0.size ≤ b1 := Nat.le_of_eq g1.symm
  refine c_Y (n := 31) X2 hx hZ hown (hw _ (List.mem_of_getElem? (i := 128) rfl)) (hw _ (List.mem_of_getElem? (i := 104) rfl)) (hw _ (List.mem_of_getElem? (i := 102) rfl)) (hw _ (List.mem_of_getElem? (i := 103) rfl)) e9 (VB.ext E1) (pad0 V1 34) rfl (by decide) (by decide) (by decide) (by decide) (by decide) (us := (((own_pad 16 us).map Value.int).take 16)) (own_range (by rw [List.length_map, own_pad_len hle]; exact Nat.le_refl 16)).symm (Nat.le_of_ble_eq_true rfl) (n0 := h0.size) (Fr.nil _) gb (by rw [hml]; rfl) (hb hby d21_28) rfl 0 (by decide) (Nat.le_of_ble_eq_true rfl) (by decide) (fun T3 h3 L3 X3 e3 N3 K3 V3 => ?_)
  refine w_aloadN (n := 32) X3.here hx (hb hby d21_31) rfl rfl rfl ?_
  exact fin_A X3 hx hlk e3 hret rfl rfl rfl (hb hby d21_32) (by decide) (by decide) ⟨_, _, rfl, gb, Ext.keep1 E1 K3 gb, own_grow hle ▸ V3, N3⟩
theorem own_keep {Z : State} {a0 : Array Value} {h h' : Heap} {a sb : Addr} {us : List Int32} {n : Nat} (F : Strz Z h a us) (K : Keep h h' [sb]) (E : Exa Z h sb "java/lang/StringBuilder") (wi : (Jvm.Cond.instantiable "java/lang/StringBuilder" n).before a0 Z = true) : Strz Z h' a us := by
  obtain ⟨A, F, b, k, z, G, V, r⟩ := F
  have q : a ∉ [sb] := ninS (Exa.ne A E (by decide)) nin0
  exact ⟨A.keep K, F.keep K q, b, k, z, G.keep K q, V.keep K (ninS (Exa.neArv E V wi).symm nin0), r⟩
theorem own_sk {Z : State} {h h' : Heap} {sb : Addr} {C n d : String} {v : Value} (F : Sta Z h C n d v) (K : Keep h h' [sb]) (E : Exa Z h sb "java/lang/StringBuilder") : Sta Z h' C n d v := by
  obtain ⟨cf, i, k, f, st, cell, h1, h2, h3, h4, h5, h6, h7⟩ := F
  have q : st ∉ [sb] := ninS (fun e => by subst e; have := E.nostat cell h5; rw [this] at h6; cases h6) nin0
  exact ⟨cf, i, k, f, st, cell, h1, h2, h3, h4, K.2.1 st cell h5 q, h6, h7⟩
theorem own_add (a b : Nat) : Int32.ofNat a + Int32.ofNat b = Int32.ofNat (a + b) := (Int32.ofNat_add a b).symm
theorem own_more {h h' : Heap} {ws ws' : List Addr} (K : Keep h h' ws) (q : ∀ x ∈ ws, x ∈ ws') : Keep h h' ws' := Keep.trans (Keep.refl h ws') K fun x hx => Or.inl (q x hx)
theorem ef_13 (m : MethodId) (sb : Addr) (z : Int32) : entryFrame m #[(.ref sb), (.int z)] 3 = mkF m 0 #[.val (.ref sb), .val (.int z), .unset] [] := by first | (simp [entryFrame, mkF, argsToLocals, Value.category]; done) | rfl
set_option maxRecDepth 65536 in
set_option maxHeartbeats 40000000 in
theorem rm_ec (l : Launch) (Z : State) (a0 : Array Value) (hw : ∀ d ∈ tables_1, d.before a0 Z = true) (ws : List Jvm.Cond) (sb b : Addr) (kb : ClassId) (cap mn : Nat) (us : List Int32) (hmn : mn ≤ cap ∨ (cap = 16 ∧ 16 < mn ∧ mn ≤ 19)) (hcap : cap ≤ 34) (h0 : Heap) (B : own_Sb Z h0 sb b kb cap us) :
    Con l Z (⟨"java/lang/AbstractStringBuilder", "ensureCapacityInternal", "(I)V"⟩ : MethodName) jdk_68_method_9_code 3 none ws own_rEC #[.ref sb, .int (Int32.ofNat mn)] h0 (fun v h L => v = none ∧ ∃ b' k', own_Sb Z h sb b' k' (own_cap cap mn) us ∧ Keep h0 h [sb] ∧ (b' = b ∨ h0.size ≤ b') ∧ ∀ n0, n0 ≤ sb → n0 ≤ h0.size → Fr n0 L) := by
  refine con_of (plainFor_of_name pn_32) ?_
  intro p e s m below meth c T0 X0 hx hZ hby hml hown hret hnm hlk e0
  refine Endz.eq (ef_13 m sb (Int32.ofNat mn)) ?_
  have B' := B
  obtain ⟨A, FV, FC, FN, VB, hle⟩ := B
  have hm : mn < 2147483648 := by omega
  have hc : cap < 2147483648 := by omega
  refine w_aloadN (n := 1) X0.here hx (hb hby d14_0) rfl rfl rfl ?_
  refine g_F (n := 4) X0 hx hZ hown (hw _ (List.mem_of_getElem? (i := 53) rfl)) e0 FV (hb hby d14_1) rfl (fun T1 X1 e1 => ?_)
  refine a_L (n := 5) X1 hx hZ e1 VB (hb hby d14_4) rfl ?_
  refine w_aloadN (n := 6) X1.here hx (hb hby d14_5) rfl rfl rfl ?_
  refine g_F (n := 9) X1 hx hZ hown (hw _ (List.mem_of_getElem? (i := 55) rfl)) e1 FC (hb hby d14_6) rfl (fun T2 X2 e2 => ?_)
  refine w_ishr (n := 10) X2.here hx (hb hby d14_9) rfl ?_
  rw [own_shr0]
  refine w_istoreN (Ls' := #[.val (.ref sb), .val (.int (Int32.ofNat mn)), .val (.int (Int32.ofNat cap))]) (n := 11) X2.here hx (hb hby d14_10) rfl rfl ?_
  refine w_iloadN (n := 12) X2.here hx (hb hby d14_11) rfl rfl ?_
  refine w_iloadN (n := 13) X2.here hx (hb hby d14_12) rfl rfl ?_
  refine w_isub (n := 14) X2.here hx (hb hby d14_13) rfl ?_
  refine w_ifle (n1 := 38) (n2 := 17) X2.here hx (hb hby d14_14) (by decide) (by decide) rfl (fun hc14 => ?_) (fun hc14 => ?_)
  · have q : mn ≤ cap := Nat.le_of_not_lt fun q => hc14 ((own_sub hm hc).mpr q)
    have qc : own_cap cap mn = cap := if_pos q
    exact fin_V X2 hx hlk e2 hret (hb hby d14_38) (by decide) (by decide) ⟨rfl, b, kb, qc.symm ▸ B', Keep.refl _ _, Or.inl rfl, fun n0 _ _ => Fr.nil n0⟩
  · have q : cap < mn := (own_sub hm hc).mp (Classical.not_not.mp hc14)
    obtain ⟨rfl, g1, g2⟩ : cap = 16 ∧ 16 < mn ∧ mn ≤ 19 := hmn.resolve_left (by omega)
    have qc : own_cap 16 mn = 34 := if_neg (by omega)
    have hz : Int32.ofNat mn = 17 ∨ Int32.ofNat mn = 18 ∨ Int32.ofNat mn = 19 := by
      have : mn = 17 ∨ mn = 18 ∨ mn = 19 := by omega
      rcases this with rfl | rfl | rfl
      · exact Or.inl rfl
      · exact Or.inr (Or.inl rfl)
      · exact Or.inr (Or.inr rfl)
    refine w_aloadN (n := 18) X2.here hx (hb hby d14_17) rfl rfl rfl ?_
    refine w_aloadN (n := 19) X2.here hx (hb hby d14_18) rfl rfl rfl ?_
    refine g_F (n := 22) X2 hx hZ hown (hw _ (List.mem_of_getElem? (i := 53) rfl)) e2 FV (hb hby d14_19) rfl (fun T3 X3 e3 => ?_)
    refine w_aloadN (n := 23) X3.here hx (hb hby d14_22) rfl rfl rfl ?_
    refine w_iloadN (n := 24) X3.here hx (hb hby d14_23) rfl rfl ?_
    refine c_V (n := 27) (b := sb) (argsL := [(.int (Int32.ofNat mn))]) (rest := [(.ref b), (.ref sb)]) X3 hx hZ hown (rm_nc l Z a0 hw [] sb b kb us (Int32.ofNat mn) hz h0 B') e3 A (hw _ (List.mem_of_getElem? (i := 106) rfl)) (declares_of (hw _ (List.mem_of_getElem? (i := 107) rfl)) (hw _ (List.mem_of_getElem? (i := 110) rfl))) (notFace_of_selects (args := #[]) (mvT hZ (hw _ (List.mem_of_getElem? (i := 109) rfl)))) (hw _ (List.mem_of_getElem? (i := 109) rfl)) (hw _ (List.mem_of_getElem? (i := 107) rfl)) (hw _ (List.mem_of_getElem? (i := 49) rfl)) (hw _ (List.mem_of_getElem? (i := 110) rfl)) (by decide) 2 (by decide) (by decide) (by decide) (by decide) (by rw [hml]; rfl) pd_14 rfl rfl (Nat.le_of_ble_eq_true rfl) (hb hby d14_24) rfl (fun v4 T4 L4 X4 hQ4 => ?_)
    obtain ⟨rfl, rfl, e9⟩ := hQ4
    show Endz _ _ _ _ T4 (mkF m 27 #[.val (.ref sb), .val (.int (Int32.ofNat mn)), .val (.int (Int32.ofNat 16))] [(.int (34 : Int32)), (.ref b), (.ref sb)])
    refine w_aloadN (n := 28) X4.here hx (hb hby d14_27) rfl rfl rfl ?_
    refine g_F (n := 31) X4 hx hZ hown (hw _ (List.mem_of_getElem? (i := 55) rfl)) e9 FC (hb hby d14_28) rfl (fun T5 X5 e5 => ?_)
    refine w_ishl (n := 32) X5.here hx (hb hby d14_31) rfl ?_
    rw [own_shl0]
    refine c_S (n := 35) (argsL := [(.ref b), (.int (34 : Int32))]) (rest := [(.ref sb)]) X5 hx hZ hown (rm_co l Z a0 hw [] b kb us hle h0 VB) e5 (hw _ (List.mem_of_getElem? (i := 121) rfl)) (hw _ (List.mem_of_getElem? (i := 122) rfl)) (hw _ (List.mem_of_getElem? (i := 123) rfl)) (hw _ (List.mem_of_getElem? (i := 124) rfl)) (by decide) 1 (by decide) (by decide) (by decide) (by decide) (by rw [hml]; rfl) pd_27 rfl rfl (Nat.le_of_ble_eq_true rfl) (hb hby d14_32) rfl (fun v6 T6 L6 X6 hQ6 => ?_)
    obtain ⟨b', k', rfl, hb2, E1, V2, N1⟩ := hQ6
    show Endz _ _ _ _ T6 (mkF m 35 #[.val (.ref sb), .val (.int (Int32.ofNat mn)), .val (.int (Int32.ofNat 16))] [(.ref b'), (.ref sb)])
    refine p_F (n := 38) (ty := (.array .byte)) X6 hx hZ hown (hw _ (List.mem_of_getElem? (i := 53) rfl)) rfl (FV.ext E1) (A.ext E1) (Or.inl (hw _ (List.mem_of_getElem? (i := 54) rfl))) (hw _ (List.mem_of_getElem? (i := 40) rfl)) (by decide +kernel) rfl rfl (hb hby d14_35) rfl (fun T7 h7 X7 e7 W7 => ?_)
    have hne : b' ≠ sb := fun q => Nat.lt_irrefl _ (Nat.lt_of_lt_of_le A.lt (q ▸ hb2))
    have GC := (FC.ext E1).other W7 (Or.inr (slot_ne (Or.inl (hw _ (List.mem_of_getElem? (i := 56) rfl))) (Or.inl (hw _ (List.mem_of_getElem? (i := 54) rfl))) (by decide) (t := .byte) (t' := (.array .byte)) (by decide +kernel) (by decide +kernel)))
    have GN := (FN.ext E1).other W7 (Or.inr (slot_ne (Or.inl (hw _ (List.mem_of_getElem? (i := 79) rfl))) (Or.inl (hw _ (List.mem_of_getElem? (i := 54) rfl))) (by decide) (t := .int) (t' := (.array .byte)) (by decide +kernel) (by decide +kernel)))
    exact fin_V X7 hx hlk e7 hret (hb hby d14_38) (by decide) (by decide) ⟨rfl, b', k', qc.symm ▸ ⟨(A.ext E1).wr W7, (FV.ext E1).same W7, GC, GN, V2.other W7 hne, Nat.le_trans hle (by decide)⟩, ((Keep.refl h0 [sb]).ext E1).wr W7 (Or.inl (List.mem_singleton.mpr rfl)), Or.inr hb2, fun n0 q1 q2 => Fr.snoc X7 (((Fr.nil n0).app (Fr.nil n0)).app (fun y hy => Nat.le_trans q2 (N1 y hy))) q1⟩
theorem ef_14 (m : MethodId) (sb : Addr) (a : Addr) : entryFrame m #[(.ref sb), (.ref a)] 2 = mkF m 0 #[.val (.ref sb), .val (.ref a)] [] := by first | (simp [entryFrame, mkF, argsToLocals, Value.category]; done) | rfl
set_option maxRecDepth 65536 in
set_option maxHeartbeats 40000000 in
theorem rm_if (l : Launch) (Z : State) (a0 : Array Value) (hw : ∀ d ∈ tables_1, d.before a0 Z = true) (ws : List Jvm.Cond) (sb a : Addr) (us : List Int32) (h0 : Heap) (cs : Int32) (hcs : cs ≠ 0) (SC : Sta Z h0 "java/lang/String" "COMPACT_STRINGS" "Z" (.int cs)) (SS : Strz Z h0 a us) (FC : Fld Z h0 sb "java/lang/AbstractStringBuilder" "coder" "B" (.int 0)) :
    Con l Z (⟨"java/lang/AbstractStringBuilder", "inflateIfNeededFor", "(Ljava/lang/String;)V"⟩ : MethodName) jdk_68_method_71_code 2 none ws own_rIF #[.ref sb, .ref a] h0 (fun v h L => v = none ∧ L = [] ∧ h = h0) := by
  refine con_of (plainFor_of_name pn_32) ?_
  intro p e s m below meth c T0 X0 hx hZ hby hml hown hret hnm hlk e0
  refine Endz.eq (ef_14 m sb a) ?_
  refine g_S (n := 3) X0 hx hZ hown (hw _ (List.mem_of_getElem? (i := 52) rfl)) e0 SC (hb hby d16_0) rfl (fun T1 X1 e1 => ?_)
  refine w_ifeq (n1 := 21) (n2 := 6) X1.here hx (hb hby d16_3) (by decide) (by decide) rfl (fun hc3 => absurd hc3 hcs) (fun hc3 => ?_)
  refine w_aloadN (n := 7) X1.here hx (hb hby d16_6) rfl rfl rfl ?_
  refine g_F (n := 10) X1 hx hZ hown (hw _ (List.mem_of_getElem? (i := 55) rfl)) e1 FC (hb hby d16_7) rfl (fun T2 X2 e2 => ?_)
  refine w_aloadN (n := 11) X2.here hx (hb hby d16_10) rfl rfl rfl ?_
  refine c_V (n := 14) (b := a) (argsL := []) (rest := [(.int (0 : Int32))]) X2 hx hZ hown (rm_sc l Z a0 hw [] a us h0 cs hcs SC SS) e2 (own_get SS).1 (hw _ (List.mem_of_getElem? (i := 95) rfl)) (hw _ (List.mem_of_getElem? (i := 74) rfl)) (notFace_of_selects (args := #[]) (mvT hZ (hw _ (List.mem_of_getElem? (i := 76) rfl)))) (hw _ (List.mem_of_getElem? (i := 76) rfl)) (hw _ (List.mem_of_getElem? (i := 75) rfl)) (hw _ (List.mem_of_getElem? (i := 3) rfl)) (hw _ (List.mem_of_getElem? (i := 77) rfl)) (by decide) 1 (by decide) (by decide) (by decide) (by decide) (by rw [hml]; rfl) pd_8 rfl rfl (Nat.le_of_ble_eq_true rfl) (hb hby d16_11) rfl (fun v3 T3 L3 X3 hQ3 => ?_)
  obtain ⟨rfl, rfl, e9⟩ := hQ3
  show Endz _ _ _ _ T3 (mkF m 14 #[.val (.ref sb), .val (.ref a)] [(.int (0 : Int32)), (.int (0 : Int32))])
  refine w_icmpeq (n1 := 21) (n2 := 17) X3.here hx (hb hby d16_14) (by decide) (by decide) rfl (fun hc14 => ?_) (fun hc14 => absurd rfl hc14)
  exact fin_V X3 hx hlk e9 hret (hb hby d16_21) (by decide) (by decide) ⟨rfl, rfl, rfl⟩
theorem ef_15 (m : MethodId) (a : Addr) (b : Addr) (x : Int32) (y : Int32) : entryFrame m #[(.ref a), (.ref b), (.int x), (.int y)] 4 = mkF m 0 #[.val (.ref a), .val (.ref b), .val (.int x), .val (.int y)] [] := by first | (simp [entryFrame, mkF, argsToLocals, Value.category]; done) | rfl
set_option maxRecDepth 65536 in
set_option maxHeartbeats 40000000 in
theorem rm_gb (l : Launch) (Z : State) (a0 : Array Value) (hw : ∀ d ∈ tables_1, d.before a0 Z = true) (ws : List Jvm.Cond) (a b : Addr) (kb : ClassId) (cap : Nat) (wz us : List Int32) (hle : wz.length + us.length ≤ cap) (hcap : cap ≤ 34) (h0 : Heap) (cs : Int32) (hcs : cs ≠ 0) (SC : Sta Z h0 "java/lang/String" "COMPACT_STRINGS" "Z" (.int cs)) (SS : Strz Z h0 a us) (VB : Arv Z h0 b kb .byte (Int32.ofNat cap) ((own_pad cap wz).map Value.int) (.int 0)) :
    Con l Z (⟨"java/lang/String", "getBytes", "([BIB)V"⟩ : MethodName) jdk_42_method_147_code 4 none ws own_rGB #[.ref a, .ref b, .int (Int32.ofNat wz.length), .int 0] h0 (fun v h L => v = none ∧ Keep h0 h [b] ∧ Arv Z h b kb .byte (Int32.ofNat cap) ((own_pad cap (wz ++ us)).map Value.int) (.int 0) ∧ ∀ n0, n0 ≤ b → Fr n0 L) := by
  refine con_of (plainFor_of_name pn_2) ?_
  intro p e s m below meth c T0 X0 hx hZ hby hml hown hret hnm hlk e0
  refine Endz.eq (ef_15 m a b (Int32.ofNat wz.length) 0) ?_
  have SS' := SS
  obtain ⟨A1, C1, v1, k1, F1, V1, l1⟩ := own_get SS
  have hwl : wz.length < 2147483648 := by omega
  have hcl : cap < 2147483648 := by omega
  refine w_aloadN (n := 1) X0.here hx (hb hby d17_0) rfl rfl rfl ?_
  refine c_V (n := 4) (b := a) (argsL := []) (rest := []) X0 hx hZ hown (rm_sc l Z a0 hw [] a us h0 cs hcs SC SS') e0 A1 (hw _ (List.mem_of_getElem? (i := 73) rfl)) (hw _ (List.mem_of_getElem? (i := 74) rfl)) (notFace_of_selects (args := #[]) (mvT hZ (hw _ (List.mem_of_getElem? (i := 76) rfl)))) (hw _ (List.mem_of_getElem? (i := 76) rfl)) (hw _ (List.mem_of_getElem? (i := 75) rfl)) (hw _ (List.mem_of_getElem? (i := 3) rfl)) (hw _ (List.mem_of_getElem? (i := 77) rfl)) (by decide) 0 (by decide) (by decide) (by decide) (by decide) (by rw [hml]; rfl) pd_8 rfl rfl (Nat.le_of_ble_eq_true rfl) (hb hby d17_1) rfl (fun v1 T1 L1 X1 hQ1 => ?_)
  obtain ⟨rfl, rfl, e9⟩ := hQ1
  show Endz _ _ _ _ T1 (mkF m 4 #[.val (.ref a), .val (.ref b), .val (.int (Int32.ofNat wz.length)), .val (.int (0 : Int32))] [(.int (0 : Int32))])
  refine w_iloadN (n := 5) X1.here hx (hb hby d17_4) rfl rfl ?_
  refine w_icmpne (n1 := 28) (n2 := 8) X1.here hx (hb hby d17_5) (by decide) (by decide) rfl (fun hc5 => absurd rfl hc5) (fun hc5 => ?_)
  refine w_aloadN (n := 9) X1.here hx (hb hby d17_8) rfl rfl rfl ?_
  refine g_F (n := 12) X1 hx hZ hown (hw _ (List.mem_of_getElem? (i := 20) rfl)) e9 F1 (hb hby d17_9) rfl (fun T2 X2 e2 => ?_)
  refine w_iconst (z := (0 : Int32)) (n := 13) X2.here hx (hb hby d17_12) rfl rfl ?_
  refine w_aloadN (n := 14) X2.here hx (hb hby d17_13) rfl rfl rfl ?_
  refine w_iloadN (n := 15) X2.here hx (hb hby d17_14) rfl rfl ?_
  refine w_iloadN (n := 16) X2.here hx (hb hby d17_15) rfl rfl ?_
  refine w_ishl (n := 17) X2.here hx (hb hby d17_16) rfl ?_
  rw [own_shl0]
  refine w_aloadN (n := 18) X2.here hx (hb hby d17_17) rfl rfl rfl ?_
  refine g_F (n := 21) X2 hx hZ hown (hw _ (List.mem_of_getElem? (i := 20) rfl)) e2 F1 (hb hby d17_18) rfl (fun T3 X3 e3 => ?_)
  refine a_L (n := 22) X3 hx hZ e3 V1 (hb hby d17_21) rfl ?_
  refine c_Y (n := 25) X3 hx hZ hown (hw _ (List.mem_of_getElem? (i := 101) rfl)) (hw _ (List.mem_of_getElem? (i := 104) rfl)) (hw _ (List.mem_of_getElem? (i := 102) rfl)) (hw _ (List.mem_of_getElem? (i := 103) rfl)) e3 V1 VB rfl (by decide) (nat_nn hwl) (nat_nn l1) (by rw [show (0 : Int32).toNatClampNeg = 0 from rfl]; omega) (by rw [nat_clamp hwl, nat_clamp l1, nat_clamp hcl]; exact hle) (us := (us.map Value.int)) (by rw [nat_clamp l1]; refine Eq.trans ?_ (own_range (n := us.length) (d := .int 0) (by rw [List.length_map]; exact Nat.le_refl _)).symm; rw [List.take_of_length_le (by rw [List.length_map]; exact Nat.le_refl _)]) (by rw [nat_clamp hwl, nat_clamp l1, List.length_map, own_pad_len (by omega)]; exact hle) (n0 := b) (Fr.nil _) (Nat.le_refl _) (by rw [hml]; rfl) (hb hby d17_22) rfl 0 (by decide) (Nat.le_of_ble_eq_true rfl) (by decide) (fun T4 h4 L4 X4 e4 N4 K4 V4 => ?_)
  refine w_goto (n := 43) X4.here hx (hb hby d17_25) (by decide) (by decide) ?_
  rw [nat_clamp hwl, nat_clamp l1, own_put hle] at V4
  exact fin_V X4 hx hlk e4 hret (hb hby d17_43) (by decide) (by decide) ⟨rfl, K4, V4, fun n0 q y hy => Nat.le_trans q (N4 y hy)⟩
theorem ef_16 (m : MethodId) (sb : Addr) (x : Int32) (a : Addr) : entryFrame m #[(.ref sb), (.int x), (.ref a)] 3 = mkF m 0 #[.val (.ref sb), .val (.int x), .val (.ref a)] [] := by first | (simp [entryFrame, mkF, argsToLocals, Value.category]; done) | rfl
set_option maxRecDepth 65536 in
set_option maxHeartbeats 40000000 in
theorem rm_ps (l : Launch) (Z : State) (a0 : Array Value) (hw : ∀ d ∈ tables_1, d.before a0 Z = true) (ws : List Jvm.Cond) (sb a b : Addr) (kb : ClassId) (cap : Nat) (wz us : List Int32) (hle : wz.length + us.length ≤ cap) (hcap : cap ≤ 34) (h0 : Heap) (cs : Int32) (hcs : cs ≠ 0) (SC : Sta Z h0 "java/lang/String" "COMPACT_STRINGS" "Z" (.int cs)) (SS : Strz Z h0 a us) (B : own_Sb Z h0 sb b kb cap wz) :
    Con l Z (⟨"java/lang/AbstractStringBuilder", "putStringAt", "(ILjava/lang/String;)V"⟩ : MethodName) jdk_68_method_73_code 3 none ws own_rPS #[.ref sb, .int (Int32.ofNat wz.length), .ref a] h0 (fun v h L => v = none ∧ Keep h0 h [b] ∧ Arv Z h b kb .byte (Int32.ofNat cap) ((own_pad cap (wz ++ us)).map Value.int) (.int 0) ∧ ∀ n0, n0 ≤ b → Fr n0 L) := by
  refine con_of (plainFor_of_name pn_32) ?_
  intro p e s m below meth c T0 X0 hx hZ hby hml hown hret hnm hlk e0
  refine Endz.eq (ef_16 m sb (Int32.ofNat wz.length) a) ?_
  obtain ⟨A, FV, FC, FN, VB, hl⟩ := B
  refine w_aloadN (n := 1) X0.here hx (hb hby d15_0) rfl rfl rfl ?_
  refine w_aloadN (n := 2) X0.here hx (hb hby d15_1) rfl rfl rfl ?_
  refine c_V (n := 5) (b := sb) (argsL := [(.ref a)]) (rest := []) X0 hx hZ hown (rm_if l Z a0 hw [] sb a us h0 cs hcs SC SS FC) e0 A (hw _ (List.mem_of_getElem? (i := 90) rfl)) (declares_of (hw _ (List.mem_of_getElem? (i := 91) rfl)) (hw _ (List.mem_of_getElem? (i := 94) rfl))) (notFace_of_selects (args := #[]) (mvT hZ (hw _ (List.mem_of_getElem? (i := 93) rfl)))) (hw _ (List.mem_of_getElem? (i := 93) rfl)) (hw _ (List.mem_of_getElem? (i := 91) rfl)) (hw _ (List.mem_of_getElem? (i := 49) rfl)) (hw _ (List.mem_of_getElem? (i := 94) rfl)) (by decide) 0 (by decide) (by decide) (by decide) (by decide) (by rw [hml]; rfl) pd_25 rfl rfl (Nat.le_of_ble_eq_true rfl) (hb hby d15_2) rfl (fun v1 T1 L1 X1 hQ1 => ?_)
  obtain ⟨rfl, rfl, e9⟩ := hQ1
  show Endz _ _ _ _ T1 (mkF m 5 #[.val (.ref sb), .val (.int (Int32.ofNat wz.length)), .val (.ref a)] [])
  refine w_aloadN (n := 6) X1.here hx (hb hby d15_5) rfl rfl rfl ?_
  refine w_aloadN (n := 7) X1.here hx (hb hby d15_6) rfl rfl rfl ?_
  refine g_F (n := 10) X1 hx hZ hown (hw _ (List.mem_of_getElem? (i := 53) rfl)) e9 FV (hb hby d15_7) rfl (fun T2 X2 e2 => ?_)
  refine w_iloadN (n := 11) X2.here hx (hb hby d15_10) rfl rfl ?_
  refine w_aloadN (n := 12) X2.here hx (hb hby d15_11) rfl rfl rfl ?_
  refine g_F (n := 15) X2 hx hZ hown (hw _ (List.mem_of_getElem? (i := 55) rfl)) e2 FC (hb hby d15_12) rfl (fun T3 X3 e3 => ?_)
  refine c_V (n := 18) (b := a) (argsL := [(.ref b), (.int (Int32.ofNat wz.length)), (.int (0 : Int32))]) (rest := []) X3 hx hZ hown (rm_gb l Z a0 hw [] a b kb cap wz us hle hcap h0 cs hcs SC SS VB) e3 (own_get SS).1 (hw _ (List.mem_of_getElem? (i := 96) rfl)) (hw _ (List.mem_of_getElem? (i := 97) rfl)) (notFace_of_selects (args := #[]) (mvT hZ (hw _ (List.mem_of_getElem? (i := 99) rfl)))) (hw _ (List.mem_of_getElem? (i := 99) rfl)) (hw _ (List.mem_of_getElem? (i := 98) rfl)) (hw _ (List.mem_of_getElem? (i := 3) rfl)) (hw _ (List.mem_of_getElem? (i := 100) rfl)) (by decide) 0 (by decide) (by decide) (by decide) (by decide) (by rw [hml]; rfl) pd_28 rfl rfl (Nat.le_of_ble_eq_true rfl) (hb hby d15_15) rfl (fun v4 T4 L4 X4 hQ4 => ?_)
  obtain ⟨rfl, K1, V1, N1⟩ := hQ4
  show Endz _ _ _ _ T4 (mkF m 18 #[.val (.ref sb), .val (.int (Int32.ofNat wz.length)), .val (.ref a)] [])
  exact fin_V X4 hx hlk rfl hret (hb hby d15_18) (by decide) (by decide) ⟨rfl, K1, V1, fun n0 q => ((Fr.nil n0).app (Fr.nil n0)).app (N1 n0 q)⟩
theorem ef_17 (m : MethodId) (sb : Addr) (a : Addr) : entryFrame m #[(.ref sb), (.ref a)] 3 = mkF m 0 #[.val (.ref sb), .val (.ref a), .unset] [] := by first | (simp [entryFrame, mkF, argsToLocals, Value.category]; done) | rfl
set_option maxRecDepth 65536 in
set_option maxHeartbeats 40000000 in
theorem rm_aa (l : Launch) (Z : State) (a0 : Array Value) (hw : ∀ d ∈ tables_1, d.before a0 Z = true) (ws : List Jvm.Cond) (sb a b : Addr) (kb : ClassId) (cap : Nat) (wz us : List Int32) (hmn : wz.length + us.length ≤ cap ∨ (cap = 16 ∧ 16 < wz.length + us.length ∧ wz.length + us.length ≤ 19)) (hcap : cap ≤ 34) (h0 : Heap) (cs : Int32) (hcs : cs ≠ 0) (SC : Sta Z h0 "java/lang/String" "COMPACT_STRINGS" "Z" (.int cs)) (SS : Strz Z h0 a us) (B : own_Sb Z h0 sb b kb cap wz) :
    Con l Z (⟨"java/lang/AbstractStringBuilder", "append", "(Ljava/lang/String;)Ljava/lang/AbstractStringBuilder;"⟩ : MethodName) jdk_68_method_22_code 3 (some (.object "java/lang/AbstractStringBuilder")) ws own_rAA #[.ref sb, .ref a] h0 (fun v h L => v = some (.ref sb) ∧ ∃ b' k', own_Sb Z h sb b' k' (own_cap cap (wz.length + us.length)) (wz ++ us) ∧ Keep h0 h [sb, b] ∧ (b' = b ∨ h0.size ≤ b') ∧ ∀ n0, n0 ≤ sb → n0 ≤ b → n0 ≤ h0.size → Fr n0 L) := by
  refine con_of (plainFor_of_name pn_32) ?_
  intro p e s m below meth c T0 X0 hx hZ hby hml hown hret hnm hlk e0
  refine Endz.eq (ef_17 m sb a) ?_
  have B0 := B
  obtain ⟨A, FV, FC, FN, VB, hl⟩ := B
  refine w_aloadN (n := 1) X0.here hx (hb hby d11_0) rfl rfl rfl ?_
  have hoc : wz.length + us.length ≤ own_cap cap (wz.length + us.length) ∧ own_cap cap (wz.length + us.length) ≤ 34 := by unfold own_cap; split <;> omega
  refine w_ifnonnull (n1 := 9) (n2 := 4) X0.here hx rfl (hb hby d11_1) (by decide) (by decide) rfl (fun hc1 => ?_) (fun hc1 => nomatch hc1)
  refine w_aloadN (n := 10) X0.here hx (hb hby d11_9) rfl rfl rfl ?_
  refine c_V (n := 13) (b := a) (argsL := []) (rest := []) X0 hx hZ hown (rm_sl l Z a0 hw [] a us h0 cs hcs SC SS) e0 (own_get SS).1 (hw _ (List.mem_of_getElem? (i := 68) rfl)) (hw _ (List.mem_of_getElem? (i := 69) rfl)) (notFace_of_selects (args := #[]) (mvT hZ (hw _ (List.mem_of_getElem? (i := 71) rfl)))) (hw _ (List.mem_of_getElem? (i := 71) rfl)) (hw _ (List.mem_of_getElem? (i := 70) rfl)) (hw _ (List.mem_of_getElem? (i := 3) rfl)) (hw _ (List.mem_of_getElem? (i := 72) rfl)) (by decide) 0 (by decide) (by decide) (by decide) (by decide) (by rw [hml]; rfl) pd_9 rfl rfl (Nat.le_of_ble_eq_true rfl) (hb hby d11_10) rfl (fun v1 T1 L1 X1 hQ1 => ?_)
  obtain ⟨rfl, rfl, e9⟩ := hQ1
  show Endz _ _ _ _ T1 (mkF m 13 #[.val (.ref sb), .val (.ref a), .unset] [(.int (Int32.ofNat us.length))])
  refine w_istoreN (Ls' := #[.val (.ref sb), .val (.ref a), .val (.int (Int32.ofNat us.length))]) (n := 14) X1.here hx (hb hby d11_13) rfl rfl ?_
  refine w_aloadN (n := 15) X1.here hx (hb hby d11_14) rfl rfl rfl ?_
  refine w_aloadN (n := 16) X1.here hx (hb hby d11_15) rfl rfl rfl ?_
  refine g_F (n := 19) X1 hx hZ hown (hw _ (List.mem_of_getElem? (i := 78) rfl)) e9 FN (hb hby d11_16) rfl (fun T2 X2 e2 => ?_)
  refine w_iloadN (n := 20) X2.here hx (hb hby d11_19) rfl rfl ?_
  refine w_iadd (n := 21) X2.here hx (hb hby d11_20) rfl ?_
  rw [own_add]
  refine c_V (n := 24) (b := sb) (argsL := [(.int (Int32.ofNat (wz.length + us.length)))]) (rest := []) X2 hx hZ hown (rm_ec l Z a0 hw [] sb b kb cap (wz.length + us.length) wz hmn hcap h0 B0) e2 A (hw _ (List.mem_of_getElem? (i := 80) rfl)) (declares_of (hw _ (List.mem_of_getElem? (i := 81) rfl)) (hw _ (List.mem_of_getElem? (i := 84) rfl))) (notFace_of_selects (args := #[]) (mvT hZ (hw _ (List.mem_of_getElem? (i := 83) rfl)))) (hw _ (List.mem_of_getElem? (i := 83) rfl)) (hw _ (List.mem_of_getElem? (i := 81) rfl)) (hw _ (List.mem_of_getElem? (i := 49) rfl)) (hw _ (List.mem_of_getElem? (i := 84) rfl)) (by decide) 0 (by decide) (by decide) (by decide) (by decide) (by rw [hml]; rfl) pd_15 rfl rfl (Nat.le_of_ble_eq_true rfl) (hb hby d11_21) rfl (fun v3 T3 L3 X3 hQ3 => ?_)
  obtain ⟨rfl, b', k', B1, K1, hb1, N1⟩ := hQ3
  show Endz _ _ _ _ T3 (mkF m 24 #[.val (.ref sb), .val (.ref a), .val (.int (Int32.ofNat us.length))] [])
  have B1' := B1
  obtain ⟨A1, FV1, FC1, FN1, VB1, hl1⟩ := B1
  have SS1 := own_keep SS K1 A (hw _ (List.mem_of_getElem? (i := 40) rfl))
  have SC1 := own_sk SC K1 A
  refine w_aloadN (n := 25) X3.here hx (hb hby d11_24) rfl rfl rfl ?_
  refine w_aloadN (n := 26) X3.here hx (hb hby d11_25) rfl rfl rfl ?_
  refine g_F (n := 29) X3 hx hZ hown (hw _ (List.mem_of_getElem? (i := 78) rfl)) rfl FN1 (hb hby d11_26) rfl (fun T4 X4 e4 => ?_)
  refine w_aloadN (n := 30) X4.here hx (hb hby d11_29) rfl rfl rfl ?_
  refine c_V (n := 33) (b := sb) (argsL := [(.int (Int32.ofNat wz.length)), (.ref a)]) (rest := []) X4 hx hZ hown (rm_ps l Z a0 hw [] sb a b' k' _ wz us hoc.1 hoc.2 _ cs hcs SC1 SS1 B1') e4 A1 (hw _ (List.mem_of_getElem? (i := 85) rfl)) (declares_of (hw _ (List.mem_of_getElem? (i := 86) rfl)) (hw _ (List.mem_of_getElem? (i := 89) rfl))) (notFace_of_selects (args := #[]) (mvT hZ (hw _ (List.mem_of_getElem? (i := 88) rfl)))) (hw _ (List.mem_of_getElem? (i := 88) rfl)) (hw _ (List.mem_of_getElem? (i := 86) rfl)) (hw _ (List.mem_of_getElem? (i := 49) rfl)) (hw _ (List.mem_of_getElem? (i := 89) rfl)) (by decide) 0 (by decide) (by decide) (by decide) (by decide) (by rw [hml]; rfl) pd_19 rfl rfl (Nat.le_of_ble_eq_true rfl) (hb hby d11_30) rfl (fun v5 T5 L5 X5 hQ5 => ?_)
  obtain ⟨rfl, K2, V2, N2⟩ := hQ5
  show Endz _ _ _ _ T5 (mkF m 33 #[.val (.ref sb), .val (.ref a), .val (.int (Int32.ofNat us.length))] [])
  have hne : sb ≠ b' := Exa.neArv A1 VB1 (hw _ (List.mem_of_getElem? (i := 40) rfl))
  have ni : sb ∉ [b'] := ninS hne nin0
  refine w_aloadN (n := 34) X5.here hx (hb hby d11_33) rfl rfl rfl ?_
  refine w_dup (n := 35) X5.here hx (hb hby d11_34) rfl rfl ?_
  refine g_F (n := 38) X5 hx hZ hown (hw _ (List.mem_of_getElem? (i := 78) rfl)) rfl (FN1.keep K2 ni) (hb hby d11_35) rfl (fun T6 X6 e6 => ?_)
  refine w_iloadN (n := 39) X6.here hx (hb hby d11_38) rfl rfl ?_
  refine w_iadd (n := 40) X6.here hx (hb hby d11_39) rfl ?_
  rw [own_add]
  refine p_F (n := 43) (ty := .int) X6 hx hZ hown (hw _ (List.mem_of_getElem? (i := 78) rfl)) e6 (FN1.keep K2 ni) (A1.keep K2) (Or.inl (hw _ (List.mem_of_getElem? (i := 79) rfl))) (hw _ (List.mem_of_getElem? (i := 40) rfl)) (by decide +kernel) rfl rfl (hb hby d11_40) rfl (fun T7 h7 X7 e7 W7 => ?_)
  refine w_aloadN (n := 44) X7.here hx (hb hby d11_43) rfl rfl rfl ?_
  have GV := (FV1.keep K2 ni).other W7 (Or.inr (slot_ne (Or.inl (hw _ (List.mem_of_getElem? (i := 54) rfl))) (Or.inl (hw _ (List.mem_of_getElem? (i := 79) rfl))) (by decide) (t := (.array .byte)) (t' := .int) (by decide +kernel) (by decide +kernel)))
  have GC := (FC1.keep K2 ni).other W7 (Or.inr (slot_ne (Or.inl (hw _ (List.mem_of_getElem? (i := 56) rfl))) (Or.inl (hw _ (List.mem_of_getElem? (i := 79) rfl))) (by decide) (t := .byte) (t' := .int) (by decide +kernel) (by decide +kernel)))
  have GN := (FN1.keep K2 ni).same W7
  rw [← List.length_append] at GN
  have KK : Keep h0 _ [sb, b] := ((own_more K1 (ws' := [sb, b]) (fun x hx => by cases List.mem_singleton.mp hx; exact List.mem_cons_self)).trans K2 (fun x hx => by cases List.mem_singleton.mp hx; exact hb1.imp (fun q => by rw [q]; exact List.mem_cons_of_mem _ List.mem_cons_self) id)).wr W7 (Or.inl List.mem_cons_self)
  refine fin_A X7 hx hlk e7 hret rfl rfl rfl (hb hby d11_44) (by decide) (by decide) ⟨rfl, b', k', ⟨(A1.keep K2).wr W7, GV, GC, GN, V2.other W7 hne.symm, by rw [List.length_append]; exact hoc.1⟩, KK, hb1, fun n0 q1 q2 q3 => Fr.snoc X7 ((((Fr.nil n0).app (Fr.nil n0)).app (N1 n0 q1 q3)).app (N2 n0 ?_)) q1⟩
  rcases hb1 with rfl | q
  · exact q2
  · exact Nat.le_trans q3 q
theorem pn_34 : plainName "java/lang/StringBuilder" = true := by first | (simp [plainName, overriddenIn]; done) | decide +kernel
set_option maxRecDepth 65536 in
set_option maxHeartbeats 40000000 in
theorem rm_sa (l : Launch) (Z : State) (a0 : Array Value) (hw : ∀ d ∈ tables_1, d.before a0 Z = true) (ws : List Jvm.Cond) (sb a b : Addr) (kb : ClassId) (cap : Nat) (wz us : List Int32) (hmn : wz.length + us.length ≤ cap ∨ (cap = 16 ∧ 16 < wz.length + us.length ∧ wz.length + us.length ≤ 19)) (hcap : cap ≤ 34) (h0 : Heap) (cs : Int32) (hcs : cs ≠ 0) (SC : Sta Z h0 "java/lang/String" "COMPACT_STRINGS" "Z" (.int cs)) (SS : Strz Z h0 a us) (B : own_Sb Z h0 sb b kb cap wz) :
    Con l Z (⟨"java/lang/StringBuilder", "append", "(Ljava/lang/String;)Ljava/lang/StringBuilder;"⟩ : MethodName) jdk_67_method_7_code 2 (some (.object "java/lang/StringBuilder")) ws own_rSA #[.ref sb, .ref a] h0 (fun v h L => v = some (.ref sb) ∧ ∃ b' k', own_Sb Z h sb b' k' (own_cap cap (wz.length + us.length)) (wz ++ us) ∧ Keep h0 h [sb, b] ∧ (b' = b ∨ h0.size ≤ b') ∧ ∀ n0, n0 ≤ sb → n0 ≤ b → n0 ≤ h0.size → Fr n0 L) := by
  refine con_of (plainFor_of_name pn_34) ?_
  intro p e s m below meth c T0 X0 hx hZ hby hml hown hret hnm hlk e0
  refine Endz.eq (ef_14 m sb a) ?_
  refine w_aloadN (n := 1) X0.here hx (hb hby d10_0) rfl rfl rfl ?_
  refine w_aloadN (n := 2) X0.here hx (hb hby d10_1) rfl rfl rfl ?_
  refine c_U (n := 5) (b := sb) (argsL := [(.ref a)]) (rest := []) X0 hx hZ hown (rm_aa l Z a0 hw [] sb a b kb cap wz us hmn hcap h0 cs hcs SC SS B) e0 B.1 (hw _ (List.mem_of_getElem? (i := 63) rfl)) (same_of (hw _ (List.mem_of_getElem? (i := 64) rfl)) (hw _ (List.mem_of_getElem? (i := 144) rfl)) rfl (by decide)) (hw _ (List.mem_of_getElem? (i := 64) rfl)) (hw _ (List.mem_of_getElem? (i := 65) rfl)) (by decide) (hw _ (List.mem_of_getElem? (i := 49) rfl)) (hw _ (List.mem_of_getElem? (i := 67) rfl)) 0 (by decide) (by decide) (by decide) (by decide) (by rw [hml]; rfl) pd_23 rfl rfl (Nat.le_of_ble_eq_true rfl) (hb hby d10_2) rfl (fun v1 T1 L1 X1 hQ1 => ?_)
  obtain ⟨rfl, b', k', B1, K1, hb1, N1⟩ := hQ1
  show Endz _ _ _ _ T1 (mkF m 5 #[.val (.ref sb), .val (.ref a)] [(.ref sb)])
  refine w_pop (n := 6) X1.here hx (hb hby d10_5) rfl rfl ?_
  refine w_aloadN (n := 7) X1.here hx (hb hby d10_6) rfl rfl rfl ?_
  exact fin_A X1 hx hlk rfl hret rfl rfl rfl (hb hby d10_7) (by decide) (by decide) ⟨rfl, b', k', B1, K1, hb1, fun n0 q1 q2 q3 => (Fr.nil n0).app (N1 n0 q1 q2 q3)⟩
theorem ef_18 (m : MethodId) (sb : Addr) (x : Int32) : entryFrame m #[(.ref sb), (.int x)] 2 = mkF m 0 #[.val (.ref sb), .val (.int x)] [] := by first | (simp [entryFrame, mkF, argsToLocals, Value.category]; done) | rfl
set_option maxRecDepth 65536 in
set_option maxHeartbeats 40000000 in
theorem rm_ai (l : Launch) (Z : State) (a0 : Array Value) (hw : ∀ d ∈ tables_1, d.before a0 Z = true) (ws : List Jvm.Cond) (sb : Addr) (h0 : Heap) (cs : Int32) (hcs : cs ≠ 0) (SC : Sta Z h0 "java/lang/String" "COMPACT_STRINGS" "Z" (.int cs)) (A : Exa Z h0 sb "java/lang/StringBuilder") (o1 o2 : Value) (FV : Fld Z h0 sb "java/lang/AbstractStringBuilder" "value" "[B" o1) (FC : Fld Z h0 sb "java/lang/AbstractStringBuilder" "coder" "B" o2) (FN : Fld Z h0 sb "java/lang/AbstractStringBuilder" "count" "I" (.int 0)) :
    Con l Z (⟨"java/lang/AbstractStringBuilder", "<init>", "(I)V"⟩ : MethodName) jdk_68_method_2_code 2 none ws own_rI3 #[.ref sb, .int 16] h0 (fun v h L => v = none ∧ ∃ b' k', own_Sb Z h sb b' k' 16 [] ∧ Keep h0 h [sb] ∧ h0.size ≤ b' ∧ ∀ n0, n0 ≤ sb → Fr n0 L) := by
  refine con_of (plainFor_of_name pn_32) ?_
  intro p e s m below meth c T0 X0 hx hZ hby hml hown hret hnm hlk e0
  refine Endz.eq (ef_18 m sb 16) ?_
  refine w_aloadN (n := 1) X0.here hx (hb hby d9_0) rfl rfl rfl ?_
  refine c_O (n := 4) X0 hx hZ hown (hw _ (List.mem_of_getElem? (i := 51) rfl)) (hw _ (List.mem_of_getElem? (i := 12) rfl)) (hw _ (List.mem_of_getElem? (i := 13) rfl)) e0 (by rw [hml]; rfl) (hb hby d9_1) rfl 0 (by decide) (Nat.le_of_ble_eq_true rfl) (by decide) (fun T1 X1 e1 => ?_)
  refine g_S (n := 7) X1 hx hZ hown (hw _ (List.mem_of_getElem? (i := 52) rfl)) e1 SC (hb hby d9_4) rfl (fun T2 X2 e2 => ?_)
  refine w_ifeq (n1 := 25) (n2 := 10) X2.here hx (hb hby d9_7) (by decide) (by decide) rfl (fun hc7 => absurd hc7 hcs) (fun hc7 => ?_)
  refine w_aloadN (n := 11) X2.here hx (hb hby d9_10) rfl rfl rfl ?_
  refine w_iloadN (n := 12) X2.here hx (hb hby d9_11) rfl rfl ?_
  refine n_P (n := 14) X2 hx hZ (hw _ (List.mem_of_getElem? (i := 15) rfl)) e2 (hb hby d9_12) rfl (by decide) 16 (by decide) (by decide) (by decide) (by decide) (fun T3 h3 k3 b3 g3 X3 e3 E3 V3 => ?_)
  refine p_F (n := 17) (ty := (.array .byte)) X3 hx hZ hown (hw _ (List.mem_of_getElem? (i := 53) rfl)) e3 (FV.ext E3) (A.ext E3) (Or.inl (hw _ (List.mem_of_getElem? (i := 54) rfl))) (hw _ (List.mem_of_getElem? (i := 40) rfl)) (by decide +kernel) rfl rfl (hb hby d9_14) rfl (fun T4 h4 X4 e4 W4 => ?_)
  refine w_aloadN (n := 18) X4.here hx (hb hby d9_17) rfl rfl rfl ?_
  refine w_iconst (z := (0 : Int32)) (n := 19) X4.here hx (hb hby d9_18) rfl rfl ?_
  refine p_F (n := 22) (ty := .byte) X4 hx hZ hown (hw _ (List.mem_of_getElem? (i := 55) rfl)) e4 ((FC.ext E3).other W4 (Or.inr (slot_ne (Or.inl (hw _ (List.mem_of_getElem? (i := 56) rfl))) (Or.inl (hw _ (List.mem_of_getElem? (i := 54) rfl))) (by decide) (t := .byte) (t' := (.array .byte)) (by decide +kernel) (by decide +kernel)))) ((A.ext E3).wr W4) (Or.inl (hw _ (List.mem_of_getElem? (i := 56) rfl))) (hw _ (List.mem_of_getElem? (i := 40) rfl)) (by decide +kernel) rfl rfl (hb hby d9_19) rfl (fun T5 h5 X5 e5 W5 => ?_)
  refine w_goto (n := 38) X5.here hx (hb hby d9_22) (by decide) (by decide) ?_
  have gb : h0.size ≤ b3 := Nat.le_of_eq g3.symm
  have hne : b3 ≠ sb := fun q => Nat.lt_irrefl _ (Nat.lt_of_lt_of_le A.lt (q ▸ gb))
  have GV := ((FV.ext E3).same W4).other W5 (Or.inr (slot_ne (Or.inl (hw _ (List.mem_of_getElem? (i := 54) rfl))) (Or.inl (hw _ (List.mem_of_getElem? (i := 56) rfl))) (by decide) (t := (.array .byte)) (t' := .byte) (by decide +kernel) (by decide +kernel)))
  have GC := ((FC.ext E3).other W4 (Or.inr (slot_ne (Or.inl (hw _ (List.mem_of_getElem? (i := 56) rfl))) (Or.inl (hw _ (List.mem_of_getElem? (i := 54) rfl))) (by decide) (t := .byte) (t' := (.array .byte)) (by decide +kernel) (by decide +kernel)))).same W5
  have GN := ((FN.ext E3).other W4 (Or.inr (slot_ne (Or.inl (hw _ (List.mem_of_getElem? (i := 79) rfl))) (Or.inl (hw _ (List.mem_of_getElem? (i := 54) rfl))) (by decide) (t := .int) (t' := (.array .byte)) (by decide +kernel) (by decide +kernel)))).other W5 (Or.inr (slot_ne (Or.inl (hw _ (List.mem_of_getElem? (i := 79) rfl))) (Or.inl (hw _ (List.mem_of_getElem? (i := 56) rfl))) (by decide) (t := .int) (t' := .byte) (by decide +kernel) (by decide +kernel)))
  have GB := ((pad0 V3 16).other W4 hne).other W5 hne
  exact fin_V X5 hx hlk e5 hret (hb hby d9_38) (by decide) (by decide) ⟨rfl, _, _, ⟨((A.ext E3).wr W4).wr W5, GV, GC, GN, GB, by decide⟩, (((Keep.refl h0 [sb]).ext E3).wr W4 (Or.inl (List.mem_singleton.mpr rfl))).wr W5 (Or.inl (List.mem_singleton.mpr rfl)), gb, fun n0 q => Fr.snoc X5 (Fr.snoc X4 (Fr.nil n0) q) q⟩
set_option maxRecDepth 65536 in
set_option maxHeartbeats 40000000 in
theorem rm_si (l : Launch) (Z : State) (a0 : Array Value) (hw : ∀ d ∈ tables_1, d.before a0 Z = true) (ws : List Jvm.Cond) (sb : Addr) (h0 : Heap) (cs : Int32) (hcs : cs ≠ 0) (SC : Sta Z h0 "java/lang/String" "COMPACT_STRINGS" "Z" (.int cs)) (A : Exa Z h0 sb "java/lang/StringBuilder") (o1 o2 : Value) (FV : Fld Z h0 sb "java/lang/AbstractStringBuilder" "value" "[B" o1) (FC : Fld Z h0 sb "java/lang/AbstractStringBuilder" "coder" "B" o2) (FN : Fld Z h0 sb "java/lang/AbstractStringBuilder" "count" "I" (.int 0)) :
    Con l Z (⟨"java/lang/StringBuilder", "<init>", "()V"⟩ : MethodName) jdk_67_method_1_code 1 none ws own_rI4 #[.ref sb] h0 (fun v h L => v = none ∧ ∃ b' k', own_Sb Z h sb b' k' 16 [] ∧ Keep h0 h [sb] ∧ h0.size ≤ b' ∧ ∀ n0, n0 ≤ sb → Fr n0 L) := by
  refine con_of (plainFor_of_name pn_34) ?_
  intro p e s m below meth c T0 X0 hx hZ hby hml hown hret hnm hlk e0
  refine Endz.eq (ef_8 m sb) ?_
  refine w_aloadN (n := 1) X0.here hx (hb hby d8_0) rfl rfl rfl ?_
  refine w_bipush (z := (16 : Int32)) (n := 3) X0.here hx (hb hby d8_1) rfl rfl ?_
  refine c_N (n := 6) (b := sb) (argsL := [(.int (16 : Int32))]) (rest := []) X0 hx hZ rfl hown (rm_ai l Z a0 hw [] sb h0 cs hcs SC A o1 o2 FV FC FN) e0 (hw _ (List.mem_of_getElem? (i := 45) rfl)) (hw _ (List.mem_of_getElem? (i := 46) rfl)) (hw _ (List.mem_of_getElem? (i := 49) rfl)) (hw _ (List.mem_of_getElem? (i := 50) rfl)) (by decide) 0 (by decide) (by decide) (by decide) (by decide) (by rw [hml]; rfl) pd_15 rfl rfl (Nat.le_of_ble_eq_true rfl) (hb hby d8_3) rfl (fun v1 T1 L1 X1 hQ1 => ?_)
  obtain ⟨rfl, b', k', B1, K1, hb1, N1⟩ := hQ1
  show Endz _ _ _ _ T1 (mkF m 6 #[.val (.ref sb)] [])
  exact fin_V X1 hx hlk rfl hret (hb hby d8_6) (by decide) (by decide) ⟨rfl, b', k', B1, K1, hb1, fun n0 q => (Fr.nil n0).app (N1 n0 q)⟩
set_option maxRecDepth 65536 in
set_option maxHeartbeats 40000000 in
theorem rm_gv (l : Launch) (Z : State) (a0 : Array Value) (hw : ∀ d ∈ tables_1, d.before a0 Z = true) (ws : List Jvm.Cond) (sb b : Addr) (kb : ClassId) (cap : Nat) (wz : List Int32) (h0 : Heap) (cs : Int32) (hcs : cs ≠ 0) (SC : Sta Z h0 "java/lang/String" "COMPACT_STRINGS" "Z" (.int cs)) (B : own_Sb Z h0 sb b kb cap wz) :
    Con l Z (⟨"java/lang/AbstractStringBuilder", "getValue", "()[B"⟩ : MethodName) jdk_68_method_64_code 1 (some (.array .byte)) ws own_r0 #[.ref sb] h0 (fun v h L => v = some (.ref b) ∧ L = [] ∧ h = h0) := by
  refine con_of (plainFor_of_name pn_32) ?_
  intro p e s m below meth c T0 X0 hx hZ hby hml hown hret hnm hlk e0
  refine Endz.eq (ef_8 m sb) ?_
  refine w_aloadN (n := 1) X0.here hx (hb hby d26_0) rfl rfl rfl ?_
  refine g_F (n := 4) X0 hx hZ hown (hw _ (List.mem_of_getElem? (i := 53) rfl)) e0 B.2.1 (hb hby d26_1) rfl (fun T1 X1 e1 => ?_)
  exact fin_A X1 hx hlk e1 hret rfl rfl rfl (hb hby d26_4) (by decide) (by decide) ⟨rfl, rfl, rfl⟩
set_option maxRecDepth 65536 in
set_option maxHeartbeats 40000000 in
theorem rm_al (l : Launch) (Z : State) (a0 : Array Value) (hw : ∀ d ∈ tables_1, d.before a0 Z = true) (ws : List Jvm.Cond) (sb b : Addr) (kb : ClassId) (cap : Nat) (wz : List Int32) (h0 : Heap) (cs : Int32) (hcs : cs ≠ 0) (SC : Sta Z h0 "java/lang/String" "COMPACT_STRINGS" "Z" (.int cs)) (B : own_Sb Z h0 sb b kb cap wz) :
    Con l Z (⟨"java/lang/AbstractStringBuilder", "length", "()I"⟩ : MethodName) jdk_68_method_6_code 1 (some .int) ws own_r0 #[.ref sb] h0 (fun v h L => v = some (.int (Int32.ofNat wz.length)) ∧ L = [] ∧ h = h0) := by
  refine con_of (plainFor_of_name pn_32) ?_
  intro p e s m below meth c T0 X0 hx hZ hby hml hown hret hnm hlk e0
  refine Endz.eq (ef_8 m sb) ?_
  refine w_aloadN (n := 1) X0.here hx (hb hby d28_0) rfl rfl rfl ?_
  refine g_F (n := 4) X0 hx hZ hown (hw _ (List.mem_of_getElem? (i := 78) rfl)) e0 B.2.2.2.1 (hb hby d28_1) rfl (fun T1 X1 e1 => ?_)
  exact fin_I X1 hx hlk e1 hret (hb hby d28_4) (by decide) (by decide) ⟨rfl, rfl, rfl⟩
set_option maxRecDepth 65536 in
set_option maxHeartbeats 40000000 in
theorem rm_bl (l : Launch) (Z : State) (a0 : Array Value) (hw : ∀ d ∈ tables_1, d.before a0 Z = true) (ws : List Jvm.Cond) (sb b : Addr) (kb : ClassId) (cap : Nat) (wz : List Int32) (h0 : Heap) (cs : Int32) (hcs : cs ≠ 0) (SC : Sta Z h0 "java/lang/String" "COMPACT_STRINGS" "Z" (.int cs)) (B : own_Sb Z h0 sb b kb cap wz) :
    Con l Z (⟨"java/lang/StringBuilder", "length", "()I"⟩ : MethodName) jdk_67_method_93_code 1 (some .int) ws own_rSL #[.ref sb] h0 (fun v h L => v = some (.int (Int32.ofNat wz.length)) ∧ L = [] ∧ h = h0) := by
  refine con_of (plainFor_of_name pn_34) ?_
  intro p e s m below meth c T0 X0 hx hZ hby hml hown hret hnm hlk e0
  refine Endz.eq (ef_8 m sb) ?_
  refine w_aloadN (n := 1) X0.here hx (hb hby d27_0) rfl rfl rfl ?_
  refine c_U (n := 4) (b := sb) (argsL := []) (rest := []) X0 hx hZ hown (rm_al l Z a0 hw [] sb b kb cap wz h0 cs hcs SC B) e0 B.1 (hw _ (List.mem_of_getElem? (i := 152) rfl)) (same_of (hw _ (List.mem_of_getElem? (i := 148) rfl)) (hw _ (List.mem_of_getElem? (i := 144) rfl)) rfl (by decide)) (hw _ (List.mem_of_getElem? (i := 148) rfl)) (hw _ (List.mem_of_getElem? (i := 65) rfl)) (by decide) (hw _ (List.mem_of_getElem? (i := 49) rfl)) (hw _ (List.mem_of_getElem? (i := 153) rfl)) 0 (by decide) (by decide) (by decide) (by decide) (by rw [hml]; rfl) pd_9 rfl rfl (Nat.le_of_ble_eq_true rfl) (hb hby d27_1) rfl (fun v1 T1 L1 X1 hQ1 => ?_)
  obtain ⟨rfl, rfl, e9⟩ := hQ1
  show Endz _ _ _ _ T1 (mkF m 4 #[.val (.ref sb)] [(.int (Int32.ofNat wz.length))])
  exact fin_I X1 hx hlk e9 hret (hb hby d27_4) (by decide) (by decide) ⟨rfl, rfl, rfl⟩
set_option maxRecDepth 65536 in
set_option maxHeartbeats 40000000 in
theorem rm_il (l : Launch) (Z : State) (a0 : Array Value) (hw : ∀ d ∈ tables_1, d.before a0 Z = true) (ws : List Jvm.Cond) (sb b : Addr) (kb : ClassId) (cap : Nat) (wz : List Int32) (h0 : Heap) (cs : Int32) (hcs : cs ≠ 0) (SC : Sta Z h0 "java/lang/String" "COMPACT_STRINGS" "Z" (.int cs)) (B : own_Sb Z h0 sb b kb cap wz) :
    Con l Z (⟨"java/lang/AbstractStringBuilder", "isLatin1", "()Z"⟩ : MethodName) jdk_68_method_68_code 1 (some .boolean) ws own_r0 #[.ref sb] h0 (fun v h L => v = some (.int 1) ∧ L = [] ∧ h = h0) := by
  refine con_of (plainFor_of_name pn_32) ?_
  intro p e s m below meth c T0 X0 hx hZ hby hml hown hret hnm hlk e0
  refine Endz.eq (ef_8 m sb) ?_
  refine g_S (n := 3) X0 hx hZ hown (hw _ (List.mem_of_getElem? (i := 52) rfl)) e0 SC (hb hby d29_0) rfl (fun T1 X1 e1 => ?_)
  refine w_ifeq (n1 := 17) (n2 := 6) X1.here hx (hb hby d29_3) (by decide) (by decide) rfl (fun hc3 => absurd hc3 hcs) (fun hc3 => ?_)
  refine w_aloadN (n := 7) X1.here hx (hb hby d29_6) rfl rfl rfl ?_
  refine g_F (n := 10) X1 hx hZ hown (hw _ (List.mem_of_getElem? (i := 55) rfl)) e1 B.2.2.1 (hb hby d29_7) rfl (fun T2 X2 e2 => ?_)
  refine w_ifne (n1 := 17) (n2 := 13) X2.here hx (hb hby d29_10) (by decide) (by decide) rfl (fun hc10 => absurd rfl hc10) (fun hc10 => ?_)
  refine w_iconst (z := (1 : Int32)) (n := 14) X2.here hx (hb hby d29_13) rfl rfl ?_
  refine w_goto (n := 18) X2.here hx (hb hby d29_14) (by decide) (by decide) ?_
  exact fin_Z X2 hx hlk e2 hret (Or.inl rfl) (hb hby d29_18) (by decide) (by decide) ⟨rfl, rfl, rfl⟩
abbrev own_rCB : Room := { frames := 1, cells := 1, slots := 24, locals := 40 }
abbrev own_rCR : Room := { frames := 2, cells := 1, slots := 24, locals := 60 }
abbrev own_rSV : Room := { frames := 3, cells := 1, slots := 24, locals := 80 }
abbrev own_rSW : Room := { frames := 4, cells := 1, slots := 24, locals := 100 }
abbrev own_rTS : Room := { frames := 5, cells := 2, slots := 28, locals := 120 }
set_option maxRecDepth 65536 in
set_option maxHeartbeats 40000000 in
theorem rm_cL (l : Launch) (Z : State) (a0 : Array Value) (hw : ∀ d ∈ tables_1, d.before a0 Z = true) (ws : List Jvm.Cond) (x y : Int32) (hge : ¬ y < x) (h0 : Heap)  :
    Con l Z (⟨"java/util/Arrays", "checkLength", "(II)V"⟩ : MethodName) jdk_65_method_131_code 2 none ws own_r0 #[.int x, .int y] h0 (fun v h L => v = none ∧ L = [] ∧ h = h0) := by
  refine con_of (plainFor_of_name pn_33) ?_
  intro p e s m below meth c T0 X0 hx hZ hby hml hown hret hnm hlk e0
  refine Endz.eq (ef_9 m x y) ?_
  refine w_iloadN (n := 1) X0.here hx (hb hby d32_0) rfl rfl ?_
  refine w_iloadN (n := 2) X0.here hx (hb hby d32_1) rfl rfl ?_
  refine w_icmpge (n1 := 37) (n2 := 5) X0.here hx (hb hby d32_2) (by decide) (by decide) rfl (fun hc2 => ?_) (fun hc2 => absurd (Classical.not_not.mp hc2) hge)
  exact fin_V X0 hx hlk e0 hret (hb hby d32_37) (by decide) (by decide) ⟨rfl, rfl, rfl⟩
theorem ef_19 (m : MethodId) (b : Addr) (x : Int32) (y : Int32) : entryFrame m #[(.ref b), (.int x), (.int y)] 5 = mkF m 0 #[.val (.ref b), .val (.int x), .val (.int y), .unset, .unset] [] := by first | (simp [entryFrame, mkF, argsToLocals, Value.category]; done) | rfl
theorem ef_20 (m : MethodId) (b : Addr) (x : Int32) (y : Int32) : entryFrame m #[(.ref b), (.int x), (.int y)] 3 = mkF m 0 #[.val (.ref b), .val (.int x), .val (.int y)] [] := by first | (simp [entryFrame, mkF, argsToLocals, Value.category]; done) | rfl
set_option maxRecDepth 65536 in
set_option maxHeartbeats 40000000 in
theorem rm_cR (l : Launch) (Z : State) (a0 : Array Value) (hw : ∀ d ∈ tables_1, d.before a0 Z = true) (ws : List Jvm.Cond) (b : Addr) (kb : ClassId) (cap : Nat) (wz : List Int32) (hlt : wz.length < cap) (h24 : wz.length ≤ 24) (hcap : cap ≤ 34) (h0 : Heap) (VB : Arv Z h0 b kb .byte (Int32.ofNat cap) ((own_pad cap wz).map Value.int) (.int 0)) :
    Con l Z (⟨"java/util/Arrays", "copyOfRangeByte", "([BII)[B"⟩ : MethodName) jdk_65_method_133_code 5 (some (.array .byte)) ws own_rCB #[.ref b, .int 0, .int (Int32.ofNat wz.length)] h0 (fun v h L => ∃ b' k', v = some (.ref b') ∧ h0.size ≤ b' ∧ Ext h0 h ∧ Arv Z h b' k' .byte (Int32.ofNat wz.length) (wz.map Value.int) (.int 0) ∧ Fr h0.size L) := by
  refine con_of (plainFor_of_name pn_33) ?_
  intro p e s m below meth c T0 X0 hx hZ hby hml hown hret hnm hlk e0
  refine Endz.eq (ef_19 m b 0 (Int32.ofNat wz.length)) ?_
  have hwl : wz.length < 2147483648 := by omega
  have hcl : cap < 2147483648 := by omega
  refine w_iloadN (n := 1) X0.here hx (hb hby d31_0) rfl rfl ?_
  refine w_iloadN (n := 2) X0.here hx (hb hby d31_1) rfl rfl ?_
  refine c_S (n := 5) (argsL := [(.int (0 : Int32)), (.int (Int32.ofNat wz.length))]) (rest := []) X0 hx hZ hown (rm_cL l Z a0 hw [] 0 (Int32.ofNat wz.length) (nat_nn hwl) h0) e0 (hw _ (List.mem_of_getElem? (i := 165) rfl)) (hw _ (List.mem_of_getElem? (i := 166) rfl)) (hw _ (List.mem_of_getElem? (i := 123) rfl)) (hw _ (List.mem_of_getElem? (i := 167) rfl)) (by decide) 0 (by decide) (by decide) (by decide) (by decide) (by rw [hml]; rfl) pd_17 rfl rfl (Nat.le_of_ble_eq_true rfl) (hb hby d31_2) rfl (fun v1 T1 L1 X1 hQ1 => ?_)
  obtain ⟨rfl, rfl, e9⟩ := hQ1
  show Endz _ _ _ _ T1 (mkF m 5 #[.val (.ref b), .val (.int (0 : Int32)), .val (.int (Int32.ofNat wz.length)), .unset, .unset] [])
  refine w_iloadN (n := 6) X1.here hx (hb hby d31_5) rfl rfl ?_
  refine w_iloadN (n := 7) X1.here hx (hb hby d31_6) rfl rfl ?_
  refine w_isub (n := 8) X1.here hx (hb hby d31_7) rfl ?_
  rw [Int32.sub_zero]
  refine w_istoreN (Ls' := #[.val (.ref b), .val (.int (0 : Int32)), .val (.int (Int32.ofNat wz.length)), .val (.int (Int32.ofNat wz.length)), .unset]) (n := 9) X1.here hx (hb hby d31_8) rfl rfl ?_
  refine w_iloadN (n := 10) X1.here hx (hb hby d31_9) rfl rfl ?_
  refine n_P (n := 12) X1 hx hZ (hw _ (List.mem_of_getElem? (i := 15) rfl)) e9 (hb hby d31_10) rfl (nat_nn hwl) 24 (by rw [nat_clamp hwl]; exact h24) (by decide) (by decide) (by decide) (fun T2 h2 k2 b2 g2 X2 e2 E2 V2 => ?_)
  refine w_astore (Ls' := #[.val (.ref b), .val (.int (0 : Int32)), .val (.int (Int32.ofNat wz.length)), .val (.int (Int32.ofNat wz.length)), .val (.ref b2)]) (n := 14) X2.here hx (hb hby d31_12) rfl rfl rfl ?_
  refine w_aloadN (n := 15) X2.here hx (hb hby d31_14) rfl rfl rfl ?_
  refine w_iloadN (n := 16) X2.here hx (hb hby d31_15) rfl rfl ?_
  refine w_aload (n := 18) X2.here hx (hb hby d31_16) rfl rfl rfl ?_
  refine w_iconst (z := (0 : Int32)) (n := 19) X2.here hx (hb hby d31_18) rfl rfl ?_
  refine w_aloadN (n := 20) X2.here hx (hb hby d31_19) rfl rfl rfl ?_
  refine a_L (n := 21) X2 hx hZ e2 (VB.ext E2) (hb hby d31_20) rfl ?_
  refine w_iloadN (n := 22) X2.here hx (hb hby d31_21) rfl rfl ?_
  refine w_isub (n := 23) X2.here hx (hb hby d31_22) rfl ?_
  rw [Int32.sub_zero]
  refine w_iloadN (n := 24) X2.here hx (hb hby d31_23) rfl rfl ?_
  refine c_S (n := 27) (argsL := [(.int (Int32.ofNat cap)), (.int (Int32.ofNat wz.length))]) (rest := [(.int (0 : Int32)), (.ref b2), (.int (0 : Int32)), (.ref b)]) X2 hx hZ hown (rm_mi l Z a0 hw [] (Int32.ofNat cap) (Int32.ofNat wz.length) h2) e2 (hw _ (List.mem_of_getElem? (i := 125) rfl)) (hw _ (List.mem_of_getElem? (i := 126) rfl)) (hw _ (List.mem_of_getElem? (i := 117) rfl)) (hw _ (List.mem_of_getElem? (i := 127) rfl)) (by decide) 4 (by decide) (by decide) (by decide) (by decide) (by rw [hml]; rfl) pd_16 rfl rfl (Nat.le_of_ble_eq_true rfl) (hb hby d31_24) rfl (fun v3 T3 L3 X3 hQ3 => ?_)
  rw [if_pos ((nat_lt hwl hcl).mpr hlt)] at hQ3
  obtain ⟨rfl, rfl, e8⟩ := hQ3
  show Endz _ _ _ _ T3 (mkF m 27 #[.val (.ref b), .val (.int (0 : Int32)), .val (.int (Int32.ofNat wz.length)), .val (.int (Int32.ofNat wz.length)), .val (.ref b2)] [(.int (Int32.ofNat wz.length)), (.int (0 : Int32)), (.ref b2), (.int (0 : Int32)), (.ref b)])
  have gb : h0.size ≤ b2 := Nat.le_of_eq g2.symm
  refine c_Y (n := 30) X3 hx hZ hown (hw _ (List.mem_of_getElem? (i := 128) rfl)) (hw _ (List.mem_of_getElem? (i := 104) rfl)) (hw _ (List.mem_of_getElem? (i := 102) rfl)) (hw _ (List.mem_of_getElem? (i := 103) rfl)) e8 (VB.ext E2) (pad0 V2 wz.length) rfl (by decide) (by decide) (nat_nn hwl) (by rw [nat_clamp hwl, nat_clamp hcl, show (0 : Int32).toNatClampNeg = 0 from rfl]; omega) (by rw [show (0 : Int32).toNatClampNeg = 0 from rfl]; omega) (us := (((own_pad cap wz).map Value.int).take wz.length)) (by rw [nat_clamp hwl]; exact (own_range (by rw [List.length_map, own_pad_len (Nat.le_of_lt hlt)]; exact Nat.le_of_lt hlt)).symm) (by rw [nat_clamp hwl, List.length_replicate, show (0 : Int32).toNatClampNeg = 0 from rfl]; omega) (n0 := h0.size) ((Fr.nil _).app (Fr.nil _)) gb (by rw [hml]; rfl) (hb hby d31_27) rfl 0 (by decide) (Nat.le_of_ble_eq_true rfl) (by decide) (fun T4 h4 L4 X4 e4 N4 K4 V4 => ?_)
  refine w_aload (n := 32) X4.here hx (hb hby d31_30) rfl rfl rfl ?_
  rw [nat_clamp hwl, show (0 : Int32).toNatClampNeg = 0 from rfl, show (defaultValue (newarray.typeOf .byte)) = Value.int 0 from rfl, own_cut (Nat.le_of_lt hlt)] at V4
  exact fin_A X4 hx hlk e4 hret rfl rfl rfl (hb hby d31_32) (by decide) (by decide) ⟨_, _, rfl, gb, Ext.keep1 E2 K4 gb, V4, N4⟩
set_option maxRecDepth 65536 in
set_option maxHeartbeats 40000000 in
theorem rm_cr (l : Launch) (Z : State) (a0 : Array Value) (hw : ∀ d ∈ tables_1, d.before a0 Z = true) (ws : List Jvm.Cond) (b : Addr) (kb : ClassId) (cap : Nat) (wz : List Int32) (hlt : wz.length < cap) (h24 : wz.length ≤ 24) (hcap : cap ≤ 34) (h0 : Heap) (VB : Arv Z h0 b kb .byte (Int32.ofNat cap) ((own_pad cap wz).map Value.int) (.int 0)) :
    Con l Z (⟨"java/util/Arrays", "copyOfRange", "([BII)[B"⟩ : MethodName) jdk_65_method_132_code 3 (some (.array .byte)) ws own_rCR #[.ref b, .int 0, .int (Int32.ofNat wz.length)] h0 (fun v h L => ∃ b' k', v = some (.ref b') ∧ h0.size ≤ b' ∧ Ext h0 h ∧ Arv Z h b' k' .byte (Int32.ofNat wz.length) (wz.map Value.int) (.int 0) ∧ Fr h0.size L) := by
  refine con_of (plainFor_of_name pn_33) ?_
  intro p e s m below meth c T0 X0 hx hZ hby hml hown hret hnm hlk e0
  refine Endz.eq (ef_20 m b 0 (Int32.ofNat wz.length)) ?_
  have hwl : wz.length < 2147483648 := by omega
  have hcl : cap < 2147483648 := by omega
  refine w_iloadN (n := 1) X0.here hx (hb hby d30_0) rfl rfl ?_
  refine w_ifne (n1 := 10) (n2 := 4) X0.here hx (hb hby d30_1) (by decide) (by decide) rfl (fun hc1 => absurd rfl hc1) (fun hc1 => ?_)
  refine w_iloadN (n := 5) X0.here hx (hb hby d30_4) rfl rfl ?_
  refine w_aloadN (n := 6) X0.here hx (hb hby d30_5) rfl rfl rfl ?_
  refine a_L (n := 7) X0 hx hZ e0 VB (hb hby d30_6) rfl ?_
  refine w_icmpeq (n1 := 17) (n2 := 10) X0.here hx (hb hby d30_7) (by decide) (by decide) rfl (fun hc7 => absurd ((nat_eq hwl hcl).mp hc7) (Nat.ne_of_lt hlt)) (fun hc7 => ?_)
  refine w_aloadN (n := 11) X0.here hx (hb hby d30_10) rfl rfl rfl ?_
  refine w_iloadN (n := 12) X0.here hx (hb hby d30_11) rfl rfl ?_
  refine w_iloadN (n := 13) X0.here hx (hb hby d30_12) rfl rfl ?_
  refine c_S (n := 16) (argsL := [(.ref b), (.int (0 : Int32)), (.int (Int32.ofNat wz.length))]) (rest := []) X0 hx hZ hown (rm_cR l Z a0 hw [] b kb cap wz hlt h24 hcap h0 VB) e0 (hw _ (List.mem_of_getElem? (i := 162) rfl)) (hw _ (List.mem_of_getElem? (i := 163) rfl)) (hw _ (List.mem_of_getElem? (i := 123) rfl)) (hw _ (List.mem_of_getElem? (i := 164) rfl)) (by decide) 0 (by decide) (by decide) (by decide) (by decide) (by rw [hml]; rfl) pd_29 rfl rfl (Nat.le_of_ble_eq_true rfl) (hb hby d30_13) rfl (fun v1 T1 L1 X1 hQ1 => ?_)
  obtain ⟨b', k', rfl, gb, E1, V1, N1⟩ := hQ1
  show Endz _ _ _ _ T1 (mkF m 16 #[.val (.ref b), .val (.int (0 : Int32)), .val (.int (Int32.ofNat wz.length))] [(.ref b')])
  exact fin_A X1 hx hlk rfl hret rfl rfl rfl (hb hby d30_16) (by decide) (by decide) ⟨_, _, rfl, gb, E1, V1, (Fr.nil _).app N1⟩
theorem ef_sv (m : MethodId) (th sb : Addr) : entryFrame m #[.ref th, .ref sb, .null] 5 = mkF m 0 #[.val (.ref th), .val (.ref sb), .val .null, .unset, .unset] [] := by first | (simp [entryFrame, mkF, argsToLocals, Value.category]; done) | rfl
set_option maxRecDepth 65536 in
set_option maxHeartbeats 40000000 in
theorem rm_sv (l : Launch) (Z : State) (a0 : Array Value) (hw : ∀ d ∈ tables_1, d.before a0 Z = true) (ws : List Jvm.Cond) (th sb b : Addr) (kb : ClassId) (cap : Nat) (wz : List Int32) (hlt : wz.length < cap) (h24 : wz.length ≤ 24) (hcap : cap ≤ 34) (h0 : Heap) (cs : Int32) (hcs : cs ≠ 0) (SC : Sta Z h0 "java/lang/String" "COMPACT_STRINGS" "Z" (.int cs)) (B : own_Sb Z h0 sb b kb cap wz) (A : Exa Z h0 th "java/lang/String") (o1 o2 : Value) (FC : Fld Z h0 th "java/lang/String" "coder" "B" o1) (FV : Fld Z h0 th "java/lang/String" "value" "[B" o2) :
    Con l Z (⟨"java/lang/String", "<init>", "(Ljava/lang/AbstractStringBuilder;Ljava/lang/Void;)V"⟩ : MethodName) jdk_42_method_150_code 5 none ws own_rSV #[.ref th, .ref sb, .null] h0 (fun v h L => v = none ∧ Strz Z h th wz ∧ Keep h0 h [th] ∧ ∀ n0, n0 ≤ th → n0 ≤ h0.size → Fr n0 L) := by
  refine con_of (plainFor_of_name pn_2) ?_
  intro p e s m below meth c T0 X0 hx hZ hby hml hown hret hnm hlk e0
  refine Endz.eq (ef_sv m th sb) ?_
  refine w_aloadN (n := 1) X0.here hx (hb hby d25_0) rfl rfl rfl ?_
  refine c_O (n := 4) X0 hx hZ hown (hw _ (List.mem_of_getElem? (i := 11) rfl)) (hw _ (List.mem_of_getElem? (i := 12) rfl)) (hw _ (List.mem_of_getElem? (i := 13) rfl)) e0 (by rw [hml]; rfl) (hb hby d25_1) rfl 0 (by decide) (Nat.le_of_ble_eq_true rfl) (by decide) (fun T1 X1 e1 => ?_)
  refine w_aloadN (n := 5) X1.here hx (hb hby d25_4) rfl rfl rfl ?_
  refine c_V (n := 8) (b := sb) (argsL := []) (rest := []) X1 hx hZ hown (rm_gv l Z a0 hw [] sb b kb cap wz h0 cs hcs SC B) e1 B.1 (hw _ (List.mem_of_getElem? (i := 141) rfl)) (hw _ (List.mem_of_getElem? (i := 142) rfl)) (notFace_of_selects (args := #[]) (mvT hZ (hw _ (List.mem_of_getElem? (i := 144) rfl)))) (hw _ (List.mem_of_getElem? (i := 144) rfl)) (hw _ (List.mem_of_getElem? (i := 143) rfl)) (hw _ (List.mem_of_getElem? (i := 49) rfl)) (hw _ (List.mem_of_getElem? (i := 145) rfl)) (by decide) 0 (by decide) (by decide) (by decide) (by decide) (by rw [hml]; rfl) pd_13 rfl rfl (Nat.le_of_ble_eq_true rfl) (hb hby d25_5) rfl (fun v2 T2 L2 X2 hQ2 => ?_)
  obtain ⟨rfl, rfl, e7⟩ := hQ2
  show Endz _ _ _ _ T2 (mkF m 8 #[.val (.ref th), .val (.ref sb), .val .null, .unset, .unset] [(.ref b)])
  refine w_astoreN (Ls' := #[.val (.ref th), .val (.ref sb), .val .null, .val (.ref b), .unset]) (n := 9) X2.here hx (hb hby d25_8) rfl rfl rfl ?_
  refine w_aloadN (n := 10) X2.here hx (hb hby d25_9) rfl rfl rfl ?_
  refine c_V (n := 13) (b := sb) (argsL := []) (rest := []) X2 hx hZ hown (rm_bl l Z a0 hw [] sb b kb cap wz h0 cs hcs SC B) e7 B.1 (hw _ (List.mem_of_getElem? (i := 146) rfl)) (hw _ (List.mem_of_getElem? (i := 147) rfl)) (notFace_of2 (args := #[]) (mvT hZ (hw _ (List.mem_of_getElem? (i := 144) rfl))) rfl) (hw _ (List.mem_of_getElem? (i := 149) rfl)) (hw _ (List.mem_of_getElem? (i := 150) rfl)) (hw _ (List.mem_of_getElem? (i := 41) rfl)) (hw _ (List.mem_of_getElem? (i := 151) rfl)) (by decide) 0 (by decide) (by decide) (by decide) (by decide) (by rw [hml]; rfl) pd_9 rfl rfl (Nat.le_of_ble_eq_true rfl) (hb hby d25_10) rfl (fun v3 T3 L3 X3 hQ3 => ?_)
  obtain ⟨rfl, rfl, e8⟩ := hQ3
  show Endz _ _ _ _ T3 (mkF m 13 #[.val (.ref th), .val (.ref sb), .val .null, .val (.ref b), .unset] [(.int (Int32.ofNat wz.length))])
  refine w_istore (Ls' := #[.val (.ref th), .val (.ref sb), .val .null, .val (.ref b), .val (.int (Int32.ofNat wz.length))]) (n := 15) X3.here hx (hb hby d25_13) rfl rfl ?_
  refine w_aloadN (n := 16) X3.here hx (hb hby d25_15) rfl rfl rfl ?_
  refine c_V (n := 19) (b := sb) (argsL := []) (rest := []) X3 hx hZ hown (rm_il l Z a0 hw [] sb b kb cap wz h0 cs hcs SC B) e8 B.1 (hw _ (List.mem_of_getElem? (i := 154) rfl)) (hw _ (List.mem_of_getElem? (i := 155) rfl)) (notFace_of_selects (args := #[]) (mvT hZ (hw _ (List.mem_of_getElem? (i := 157) rfl)))) (hw _ (List.mem_of_getElem? (i := 157) rfl)) (hw _ (List.mem_of_getElem? (i := 156) rfl)) (hw _ (List.mem_of_getElem? (i := 49) rfl)) (hw _ (List.mem_of_getElem? (i := 158) rfl)) (by decide) 0 (by decide) (by decide) (by decide) (by decide) (by rw [hml]; rfl) pd_12 rfl rfl (Nat.le_of_ble_eq_true rfl) (hb hby d25_16) rfl (fun v4 T4 L4 X4 hQ4 => ?_)
  obtain ⟨rfl, rfl, e9⟩ := hQ4
  show Endz _ _ _ _ T4 (mkF m 19 #[.val (.ref th), .val (.ref sb), .val .null, .val (.ref b), .val (.int (Int32.ofNat wz.length))] [(.int (1 : Int32))])
  refine w_ifeq (n1 := 41) (n2 := 22) X4.here hx (hb hby d25_19) (by decide) (by decide) rfl (fun hc19 => absurd hc19 (by decide)) (fun hc19 => ?_)
  refine w_aloadN (n := 23) X4.here hx (hb hby d25_22) rfl rfl rfl ?_
  refine w_iconst (z := (0 : Int32)) (n := 24) X4.here hx (hb hby d25_23) rfl rfl ?_
  refine p_F (n := 27) (ty := .byte) X4 hx hZ hown (hw _ (List.mem_of_getElem? (i := 21) rfl)) e9 FC A (Or.inr ⟨(hw _ (List.mem_of_getElem? (i := 17) rfl)), rfl, hnm⟩) (hw _ (List.mem_of_getElem? (i := 2) rfl)) (by decide +kernel) rfl rfl (hb hby d25_24) rfl (fun T5 h5 X5 e5 W5 => ?_)
  refine w_aloadN (n := 28) X5.here hx (hb hby d25_27) rfl rfl rfl ?_
  refine w_aloadN (n := 29) X5.here hx (hb hby d25_28) rfl rfl rfl ?_
  refine w_iconst (z := (0 : Int32)) (n := 30) X5.here hx (hb hby d25_29) rfl rfl ?_
  refine w_iload (n := 32) X5.here hx (hb hby d25_30) rfl rfl ?_
  have hbt : b ≠ th := (Exa.neArv A B.2.2.2.2.1 (hw _ (List.mem_of_getElem? (i := 2) rfl))).symm
  refine c_S (n := 35) (argsL := [(.ref b), (.int (0 : Int32)), (.int (Int32.ofNat wz.length))]) (rest := [(.ref th)]) X5 hx hZ hown (rm_cr l Z a0 hw [] b kb cap wz hlt h24 hcap _ (B.2.2.2.2.1.other W5 hbt)) e5 (hw _ (List.mem_of_getElem? (i := 159) rfl)) (hw _ (List.mem_of_getElem? (i := 160) rfl)) (hw _ (List.mem_of_getElem? (i := 123) rfl)) (hw _ (List.mem_of_getElem? (i := 161) rfl)) (by decide) 1 (by decide) (by decide) (by decide) (by decide) (by rw [hml]; rfl) pd_29 rfl rfl (Nat.le_of_ble_eq_true rfl) (hb hby d25_32) rfl (fun v6 T6 L6 X6 hQ6 => ?_)
  obtain ⟨b', k', rfl, gb, E1, V1, N1⟩ := hQ6
  show Endz _ _ _ _ T6 (mkF m 35 #[.val (.ref th), .val (.ref sb), .val .null, .val (.ref b), .val (.int (Int32.ofNat wz.length))] [(.ref b'), (.ref th)])
  refine p_F (n := 38) (ty := (.array .byte)) X6 hx hZ hown (hw _ (List.mem_of_getElem? (i := 20) rfl)) rfl ((FV.other W5 (Or.inr (slot_ne (Or.inr (hw _ (List.mem_of_getElem? (i := 16) rfl))) (Or.inr (hw _ (List.mem_of_getElem? (i := 17) rfl))) (by decide) (t := (.array .byte)) (t' := .byte) (by decide +kernel) (by decide +kernel)))).ext E1) ((A.wr W5).ext E1) (Or.inr ⟨(hw _ (List.mem_of_getElem? (i := 16) rfl)), rfl, hnm⟩) (hw _ (List.mem_of_getElem? (i := 2) rfl)) (by decide +kernel) rfl rfl (hb hby d25_35) rfl (fun T7 h7 X7 e7 W7 => ?_)
  refine w_goto (n := 97) X7.here hx (hb hby d25_38) (by decide) (by decide) ?_
  have hne : b' ≠ th := fun q => Nat.lt_irrefl _ (Nat.lt_of_lt_of_le (A.wr W5).lt (q ▸ gb))
  have GC := ((FC.same W5).ext E1).other W7 (Or.inr (slot_ne (Or.inr (hw _ (List.mem_of_getElem? (i := 17) rfl))) (Or.inr (hw _ (List.mem_of_getElem? (i := 16) rfl))) (by decide) (t := .byte) (t' := (.array .byte)) (by decide +kernel) (by decide +kernel)))
  have GV := ((FV.other W5 (Or.inr (slot_ne (Or.inr (hw _ (List.mem_of_getElem? (i := 16) rfl))) (Or.inr (hw _ (List.mem_of_getElem? (i := 17) rfl))) (by decide) (t := (.array .byte)) (t' := .byte) (by decide +kernel) (by decide +kernel)))).ext E1).same W7
  exact fin_V X7 hx hlk e7 hret (hb hby d25_97) (by decide) (by decide) ⟨rfl, ⟨((A.wr W5).ext E1).wr W7, GC, b', k', _, GV, V1.other W7 hne, nat_nn (by omega), nat_clamp (by omega)⟩, (((Keep.refl h0 [th]).wr W5 (Or.inl (List.mem_singleton.mpr rfl))).ext E1).wr W7 (Or.inl (List.mem_singleton.mpr rfl)), fun n0 q1 q2 => Fr.snoc X7 ((Fr.snoc X5 (((Fr.nil n0).app (Fr.nil n0)).app (Fr.nil n0)) q1).app (fun y hy => Nat.le_trans q2 (Nat.le_trans (Nat.le_of_eq W5.size.symm) (N1 y hy)))) q1⟩
set_option maxRecDepth 65536 in
set_option maxHeartbeats 40000000 in
theorem rm_sw (l : Launch) (Z : State) (a0 : Array Value) (hw : ∀ d ∈ tables_1, d.before a0 Z = true) (ws : List Jvm.Cond) (th sb b : Addr) (kb : ClassId) (cap : Nat) (wz : List Int32) (hlt : wz.length < cap) (h24 : wz.length ≤ 24) (hcap : cap ≤ 34) (h0 : Heap) (cs : Int32) (hcs : cs ≠ 0) (SC : Sta Z h0 "java/lang/String" "COMPACT_STRINGS" "Z" (.int cs)) (B : own_Sb Z h0 sb b kb cap wz) (A : Exa Z h0 th "java/lang/String") (o1 o2 : Value) (FC : Fld Z h0 th "java/lang/String" "coder" "B" o1) (FV : Fld Z h0 th "java/lang/String" "value" "[B" o2) :
    Con l Z (⟨"java/lang/String", "<init>", "(Ljava/lang/StringBuilder;)V"⟩ : MethodName) jdk_42_method_53_code 2 none ws own_rSW #[.ref th, .ref sb] h0 (fun v h L => v = none ∧ Strz Z h th wz ∧ Keep h0 h [th] ∧ ∀ n0, n0 ≤ th → n0 ≤ h0.size → Fr n0 L) := by
  refine con_of (plainFor_of_name pn_2) ?_
  intro p e s m below meth c T0 X0 hx hZ hby hml hown hret hnm hlk e0
  refine Endz.eq (ef_14 m th sb) ?_
  refine w_aloadN (n := 1) X0.here hx (hb hby d24_0) rfl rfl rfl ?_
  refine w_aloadN (n := 2) X0.here hx (hb hby d24_1) rfl rfl rfl ?_
  refine w_aconstNull (n := 3) X0.here hx (hb hby d24_2) rfl ?_
  refine c_N (n := 6) (b := th) (argsL := [(.ref sb), .null]) (rest := []) X0 hx hZ rfl hown (rm_sv l Z a0 hw [] th sb b kb cap wz hlt h24 hcap h0 cs hcs SC B A o1 o2 FC FV) e0 (hw _ (List.mem_of_getElem? (i := 138) rfl)) (hw _ (List.mem_of_getElem? (i := 139) rfl)) (hw _ (List.mem_of_getElem? (i := 3) rfl)) (hw _ (List.mem_of_getElem? (i := 140) rfl)) (by decide) 0 (by decide) (by decide) (by decide) (by decide) (by rw [hml]; rfl) pd_20 rfl rfl (Nat.le_of_ble_eq_true rfl) (hb hby d24_3) rfl (fun v1 T1 L1 X1 hQ1 => ?_)
  obtain ⟨rfl, S1, K1, N1⟩ := hQ1
  show Endz _ _ _ _ T1 (mkF m 6 #[.val (.ref th), .val (.ref sb)] [])
  exact fin_V X1 hx hlk rfl hret (hb hby d24_6) (by decide) (by decide) ⟨rfl, S1, K1, fun n0 q1 q2 => (Fr.nil n0).app (N1 n0 q1 q2)⟩
set_option maxRecDepth 65536 in
set_option maxHeartbeats 40000000 in
theorem rm_ts (l : Launch) (Z : State) (a0 : Array Value) (hw : ∀ d ∈ tables_1, d.before a0 Z = true) (ws : List Jvm.Cond) (sb b : Addr) (kb : ClassId) (cap : Nat) (wz : List Int32) (hlt : wz.length < cap) (h24 : wz.length ≤ 24) (hcap : cap ≤ 34) (h0 : Heap) (cs : Int32) (hcs : cs ≠ 0) (SC : Sta Z h0 "java/lang/String" "COMPACT_STRINGS" "Z" (.int cs)) (B : own_Sb Z h0 sb b kb cap wz) :
    Con l Z (⟨"java/lang/StringBuilder", "toString", "()Ljava/lang/String;"⟩ : MethodName) jdk_67_method_42_code 1 (some (.object "java/lang/String")) ws own_rTS #[.ref sb] h0 (fun v h L => ∃ th, v = some (.ref th) ∧ Strz Z h th wz ∧ h0.size ≤ th ∧ Ext h0 h ∧ Fr h0.size L) := by
  refine con_of (plainFor_of_name pn_34) ?_
  intro p e s m below meth c T0 X0 hx hZ hby hml hown hret hnm hlk e0
  refine Endz.eq (ef_8 m sb) ?_
  refine n_O (n := 3) X0 hx hZ hown (hw _ (List.mem_of_getElem? (i := 134) rfl)) (hw _ (List.mem_of_getElem? (i := 2) rfl)) (hw _ (List.mem_of_getElem? (i := 3) rfl)) e0 (hb hby d23_0) rfl (by decide) (by decide) (fun T1 h1 b1 g1 X1 e1 E1 A1 D1 U1 => ?_)
  refine w_dup (n := 4) X1.here hx (hb hby d23_3) rfl rfl ?_
  refine w_aloadN (n := 5) X1.here hx (hb hby d23_4) rfl rfl rfl ?_
  have FC := D1 (O := "java/lang/String") (nm := "coder") (d := "B") (ty := .byte) (Or.inr (hw _ (List.mem_of_getElem? (i := 17) rfl))) (by decide +kernel)
  have FV := D1 (O := "java/lang/String") (nm := "value") (d := "[B") (ty := .array .byte) (Or.inr (hw _ (List.mem_of_getElem? (i := 16) rfl))) (by decide +kernel)
  refine c_N (n := 8) (b := b1) (argsL := [(.ref sb)]) (rest := [(.ref b1)]) X1 hx hZ rfl hown (rm_sw l Z a0 hw [] b1 sb b kb cap wz hlt h24 hcap _ cs hcs (SC.ext E1) (own_Sb_ext B E1) A1 _ _ FC FV) e1 (hw _ (List.mem_of_getElem? (i := 135) rfl)) (hw _ (List.mem_of_getElem? (i := 136) rfl)) (hw _ (List.mem_of_getElem? (i := 3) rfl)) (hw _ (List.mem_of_getElem? (i := 137) rfl)) (by decide) 1 (by decide) (by decide) (by decide) (by decide) (by rw [hml]; rfl) pd_26 rfl rfl (Nat.le_of_ble_eq_true rfl) (hb hby d23_5) rfl (fun v2 T2 L2 X2 hQ2 => ?_)
  obtain ⟨rfl, S1, K1, N1⟩ := hQ2
  show Endz _ _ _ _ T2 (mkF m 8 #[.val (.ref sb)] [(.ref b1)])
  have gb : h0.size ≤ b1 := Nat.le_of_eq g1.symm
  exact fin_A X2 hx hlk rfl hret rfl rfl rfl (hb hby d23_8) (by decide) (by decide) ⟨_, rfl, S1, gb, Ext.keep1 E1 K1 gb, (Fr.nil _).app (N1 _ gb E1.1)⟩
theorem pn_35 : plainName "java/lang/Throwable" = true := by first | (simp [plainName, overriddenIn]; done) | decide +kernel
set_option maxRecDepth 65536 in
set_option maxHeartbeats 40000000 in
theorem rm_gm (l : Launch) (Z : State) (a0 : Array Value) (hw : ∀ d ∈ tables_1, d.before a0 Z = true) (ws : List Jvm.Cond) (a mm : Addr) (h0 : Heap) (FM : Fld Z h0 a "java/lang/Throwable" "detailMessage" "Ljava/lang/String;" (.ref mm)) :
    Con l Z (⟨"java/lang/Throwable", "getMessage", "()Ljava/lang/String;"⟩ : MethodName) jdk_78_method_6_code 1 (some (.object "java/lang/String")) ws own_r0 #[.ref a] h0 (fun v h L => v = some (.ref mm) ∧ L = [] ∧ h = h0) := by
  refine con_of (plainFor_of_name pn_35) ?_
  intro p e s m below meth c T0 X0 hx hZ hby hml hown hret hnm hlk e0
  refine Endz.eq (ef_8 m a) ?_
  refine w_aloadN (n := 1) X0.here hx (hb hby d37_0) rfl rfl rfl ?_
  refine g_F (n := 4) X0 hx hZ hown (hw _ (List.mem_of_getElem? (i := 218) rfl)) e0 FM (hb hby d37_1) rfl (fun T1 X1 e1 => ?_)
  exact fin_A X1 hx hlk e1 hret rfl rfl rfl (hb hby d37_4) (by decide) (by decide) ⟨rfl, rfl, rfl⟩
abbrev own_rTI : Room := { frames := 3, cells := 1, slots := 2752, locals := 44 }
abbrev own_rEI : Room := { frames := 4, cells := 1, slots := 2752, locals := 60 }
abbrev own_rUI : Room := { frames := 5, cells := 1, slots := 2752, locals := 76 }
theorem own_tin : ∀ w ∈ (thrW "com/example/legitka/legitka/cli/UsageException" ++ fillW "com/example/legitka/legitka/cli/UsageException"), w ∈ tables_1 := by decide +kernel
set_option maxRecDepth 65536 in
set_option maxHeartbeats 40000000 in
theorem rm_ti (l : Launch) (Z : State) (a0 : Array Value) (hw : ∀ d ∈ tables_1, d.before a0 Z = true) (ws : List Jvm.Cond) (hl : l.stackTraces = true) (a mm : Addr) (h0 : Heap) (hTS : ThS Z h0) (A : Exa Z h0 a "com/example/legitka/legitka/cli/UsageException") (N : Unt h0 a) (o1 o2 o3 o4 : Value) (F1 : Fld Z h0 a "java/lang/Throwable" "cause" "Ljava/lang/Throwable;" o1) (F2 : Fld Z h0 a "java/lang/Throwable" "stackTrace" "[Ljava/lang/StackTraceElement;" o2) (F3 : Fld Z h0 a "java/lang/Throwable" "suppressedExceptions" "Ljava/util/List;" o3) (F4 : Fld Z h0 a "java/lang/Throwable" "detailMessage" "Ljava/lang/String;" o4) (FB : Fld Z h0 a Bundle.tN "backtrace" Jvm.Free.Exc.obD .null) (u v : Value) (hu : u.isRef = true) (hv : v.isRef = true) (SU : Sta Z h0 "java/lang/Throwable" "UNASSIGNED_STACK" "[Ljava/lang/StackTraceElement;" u) (SV : Sta Z h0 "java/lang/Throwable" "SUPPRESSED_SENTINEL" "Ljava/util/List;" v) :
    ConN l Z (⟨"java/lang/Throwable", "<init>", "(Ljava/lang/String;)V"⟩ : MethodName) jdk_78_method_2_code 2 none ws own_rTI #[.ref a, .ref mm] h0 (fun w h L => w = none ∧ Exa Z h a "com/example/legitka/legitka/cli/UsageException" ∧ Fld Z h a "java/lang/Throwable" "detailMessage" "Ljava/lang/String;" (.ref mm) ∧ Keep h0 h [a] ∧ ∀ y ∈ L, y.base = a) := by
  refine conN_of (plainFor_of_name pn_35) ?_
  intro p e s m below meth c T0 X0 hx hZ hby hml hown hret hnm hlk e0 hsh hTK hBel
  refine Endz.eq (ef_14 m a mm) ?_
  refine w_aloadN (n := 1) X0.here hx (hb hby d35_0) rfl rfl rfl ?_
  refine c_O (n := 4) X0 hx hZ hown (hw _ (List.mem_of_getElem? (i := 182) rfl)) (hw _ (List.mem_of_getElem? (i := 12) rfl)) (hw _ (List.mem_of_getElem? (i := 13) rfl)) e0 (by rw [hml]; rfl) (hb hby d35_1) rfl 0 (by decide) (Nat.le_of_ble_eq_true rfl) (by decide) (fun T1 X1 e1 => ?_)
  refine w_aloadN (n := 5) X1.here hx (hb hby d35_4) rfl rfl rfl ?_
  refine w_aloadN (n := 6) X1.here hx (hb hby d35_5) rfl rfl rfl ?_
  refine p_F (n := 9) (ty := (.object "java/lang/Throwable")) X1 hx hZ hown (hw _ (List.mem_of_getElem? (i := 183) rfl)) e1 F1 A (Or.inl (hw _ (List.mem_of_getElem? (i := 184) rfl))) (hw _ (List.mem_of_getElem? (i := 38) rfl)) (by decide +kernel) rfl rfl (hb hby d35_6) rfl (fun T2 h2 X2 e2 W2 => ?_)
  refine w_aloadN (n := 10) X2.here hx (hb hby d35_9) rfl rfl rfl ?_
  refine g_S (n := 13) X2 hx hZ hown (hw _ (List.mem_of_getElem? (i := 185) rfl)) e2 (SU.wr W2) (hb hby d35_10) rfl (fun T3 X3 e3 => ?_)
  refine p_F (n := 16) (ty := (.array (.object "java/lang/StackTraceElement"))) X3 hx hZ hown (hw _ (List.mem_of_getElem? (i := 186) rfl)) e3 (F2.other W2 (Or.inr (slot_ne (Or.inl (hw _ (List.mem_of_getElem? (i := 187) rfl))) (Or.inl (hw _ (List.mem_of_getElem? (i := 184) rfl))) (by decide) (t := (.array (.object "java/lang/StackTraceElement"))) (t' := (.object "java/lang/Throwable")) (by decide +kernel) (by decide +kernel)))) (A.wr W2) (Or.inl (hw _ (List.mem_of_getElem? (i := 187) rfl))) (hw _ (List.mem_of_getElem? (i := 38) rfl)) (by decide +kernel) (by rcases ref_cases hu with rfl | ⟨_, rfl⟩ <;> rfl) (by rcases ref_cases hu with rfl | ⟨_, rfl⟩ <;> rfl) (hb hby d35_13) rfl (fun T4 h4 X4 e4 W4 => ?_)
  refine w_aloadN (n := 17) X4.here hx (hb hby d35_16) rfl rfl rfl ?_
  refine g_S (n := 20) X4 hx hZ hown (hw _ (List.mem_of_getElem? (i := 188) rfl)) e4 ((SV.wr W2).wr W4) (hb hby d35_17) rfl (fun T5 X5 e5 => ?_)
  refine p_F (n := 23) (ty := (.object "java/util/List")) X5 hx hZ hown (hw _ (List.mem_of_getElem? (i := 189) rfl)) e5 ((F3.other W2 (Or.inr (slot_ne (Or.inl (hw _ (List.mem_of_getElem? (i := 190) rfl))) (Or.inl (hw _ (List.mem_of_getElem? (i := 184) rfl))) (by decide) (t := (.object "java/util/List")) (t' := (.object "java/lang/Throwable")) (by decide +kernel) (by decide +kernel)))).other W4 (Or.inr (slot_ne (Or.inl (hw _ (List.mem_of_getElem? (i := 190) rfl))) (Or.inl (hw _ (List.mem_of_getElem? (i := 187) rfl))) (by decide) (t := (.object "java/util/List")) (t' := (.array (.object "java/lang/StackTraceElement"))) (by decide +kernel) (by decide +kernel)))) ((A.wr W2).wr W4) (Or.inl (hw _ (List.mem_of_getElem? (i := 190) rfl))) (hw _ (List.mem_of_getElem? (i := 38) rfl)) (by decide +kernel) (by rcases ref_cases hv with rfl | ⟨_, rfl⟩ <;> rfl) (by rcases ref_cases hv with rfl | ⟨_, rfl⟩ <;> rfl) (hb hby d35_20) rfl (fun T6 h6 X6 e6 W6 => ?_)
  refine w_aloadN (n := 24) X6.here hx (hb hby d35_23) rfl rfl rfl ?_
  have A3 := ((A.wr W2).wr W4).wr W6
  have N3 := ((N.wr W2).wr W4).wr W6
  have FS := ((F2.other W2 (Or.inr (slot_ne (Or.inl (hw _ (List.mem_of_getElem? (i := 187) rfl))) (Or.inl (hw _ (List.mem_of_getElem? (i := 184) rfl))) (by decide) (t := (.array (.object "java/lang/StackTraceElement"))) (t' := (.object "java/lang/Throwable")) (by decide +kernel) (by decide +kernel)))).same W4).other W6 (Or.inr (slot_ne (Or.inl (hw _ (List.mem_of_getElem? (i := 187) rfl))) (Or.inl (hw _ (List.mem_of_getElem? (i := 190) rfl))) (by decide) (t := (.array (.object "java/lang/StackTraceElement"))) (t' := (.object "java/util/List")) (by decide +kernel) (by decide +kernel)))
  have FB3 := ((FB.other W2 (Or.inr (slot_ne (Or.inl (hw _ (List.mem_of_getElem? (i := 215) rfl))) (Or.inl (hw _ (List.mem_of_getElem? (i := 184) rfl))) (by decide) (t := .object "java/lang/Object") (t' := (.object "java/lang/Throwable")) (by decide +kernel) (by decide +kernel)))).other W4 (Or.inr (slot_ne (Or.inl (hw _ (List.mem_of_getElem? (i := 215) rfl))) (Or.inl (hw _ (List.mem_of_getElem? (i := 187) rfl))) (by decide) (t := .object "java/lang/Object") (t' := (.array (.object "java/lang/StackTraceElement"))) (by decide +kernel) (by decide +kernel)))).other W6 (Or.inr (slot_ne (Or.inl (hw _ (List.mem_of_getElem? (i := 215) rfl))) (Or.inl (hw _ (List.mem_of_getElem? (i := 190) rfl))) (by decide) (t := .object "java/lang/Object") (t' := (.object "java/util/List")) (by decide +kernel) (by decide +kernel)))
  have F43 := ((F4.other W2 (Or.inr (slot_ne (Or.inl (hw _ (List.mem_of_getElem? (i := 214) rfl))) (Or.inl (hw _ (List.mem_of_getElem? (i := 184) rfl))) (by decide) (t := (.object "java/lang/String")) (t' := (.object "java/lang/Throwable")) (by decide +kernel) (by decide +kernel)))).other W4 (Or.inr (slot_ne (Or.inl (hw _ (List.mem_of_getElem? (i := 214) rfl))) (Or.inl (hw _ (List.mem_of_getElem? (i := 187) rfl))) (by decide) (t := (.object "java/lang/String")) (t' := (.array (.object "java/lang/StackTraceElement"))) (by decide +kernel) (by decide +kernel)))).other W6 (Or.inr (slot_ne (Or.inl (hw _ (List.mem_of_getElem? (i := 214) rfl))) (Or.inl (hw _ (List.mem_of_getElem? (i := 190) rfl))) (by decide) (t := (.object "java/lang/String")) (t' := (.object "java/util/List")) (by decide +kernel) (by decide +kernel)))
  have SU3 := ((SU.wr W2).wr W4).wr W6
  refine x_F (n := 27) (rc := "com/example/legitka/legitka/cli/UsageException") X6 hx hl hZ hown (fun d hd => hw d (own_tin d hd)) (by rw [hsh]; exact hTS) hTK hBel e6 hu A3 (hw _ (List.mem_of_getElem? (i := 38) rfl)) N3 FS FB3 SU3 (by rw [hml]; rfl) (hb hby d35_24) rfl 0 (Nat.le_of_ble_eq_true rfl) (by decide) (by decide) (by decide) (by decide) (fun T7 h7 L7 X7 e7 B7 G7 => ?_)
  refine w_pop (n := 28) X7.here hx (hb hby d35_27) rfl rfl ?_
  refine w_aloadN (n := 29) X7.here hx (hb hby d35_28) rfl rfl rfl ?_
  refine w_aloadN (n := 30) X7.here hx (hb hby d35_29) rfl rfl rfl ?_
  obtain ⟨C, cell, y1, y2, y3, y4, y5, y6⟩ := G7
  have A4 : Exa Z h7 a "com/example/legitka/legitka/cli/UsageException" := by
    obtain ⟨cx, kx, x1, x2, x3, x4, x5⟩ := A3
    cases x1.symm.trans y1
    exact ⟨C, kx, y2, y3 ▸ x2, y3 ▸ x3, y4 ▸ x4, y5 ▸ x5⟩
  have F44 : Fld Z h7 a "java/lang/Throwable" "detailMessage" "Ljava/lang/String;" o4 := Fld.slotKept F43 y1 y2 y3 y4 (y6 _ (fun q => (slot_ne (Or.inl (hw _ (List.mem_of_getElem? (i := 215) rfl))) (Or.inl (hw _ (List.mem_of_getElem? (i := 214) rfl))) (by decide) (t := .object "java/lang/Object") (t' := (.object "java/lang/String")) (by decide +kernel) (by decide +kernel)) q.symm) (slot_ne (Or.inl (hw _ (List.mem_of_getElem? (i := 214) rfl))) (Or.inl (hw _ (List.mem_of_getElem? (i := 216) rfl))) (by decide) (t := .object "java/lang/String") (t' := .int) (by decide +kernel) (by decide +kernel)) (slot_ne (Or.inl (hw _ (List.mem_of_getElem? (i := 214) rfl))) (Or.inl (hw _ (List.mem_of_getElem? (i := 187) rfl))) (by decide) (t := (.object "java/lang/String")) (t' := (.array (.object "java/lang/StackTraceElement"))) (by decide +kernel) (by decide +kernel)))
  refine p_F (n := 33) (ty := (.object "java/lang/String")) X7 hx hZ hown (hw _ (List.mem_of_getElem? (i := 218) rfl)) e7 F44 A4 (Or.inl (hw _ (List.mem_of_getElem? (i := 214) rfl))) (hw _ (List.mem_of_getElem? (i := 38) rfl)) (by decide +kernel) rfl rfl (hb hby d35_30) rfl (fun T8 h8 X8 e8 W8 => ?_)
  refine fin_V X8 hx hlk e8 hret (hb hby d35_33) (by decide) (by decide) ⟨rfl, A4.wr W8, F44.same W8, ?_, fun y hy => ?_⟩
  · have K := keep_of_stand X8 (a := a) hsh (fun y hy => by
      simp only [List.mem_append, List.mem_singleton, List.not_mem_nil, false_or] at hy
      rcases hy with (((rfl | rfl) | rfl) | hy) | rfl
      · rfl
      · rfl
      · rfl
      · exact B7 y hy
      · rfl)
    rw [e8] at K; exact K
  · simp only [List.mem_append, List.mem_singleton, List.not_mem_nil, false_or] at hy
    rcases hy with (((rfl | rfl) | rfl) | hy) | rfl
    · rfl
    · rfl
    · rfl
    · exact B7 y hy
    · rfl
theorem pn_36 : plainName "java/lang/Exception" = true := by first | (simp [plainName, overriddenIn]; done) | decide +kernel
set_option maxRecDepth 65536 in
set_option maxHeartbeats 40000000 in
theorem rm_ei (l : Launch) (Z : State) (a0 : Array Value) (hw : ∀ d ∈ tables_1, d.before a0 Z = true) (ws : List Jvm.Cond) (hl : l.stackTraces = true) (a mm : Addr) (h0 : Heap) (hTS : ThS Z h0) (A : Exa Z h0 a "com/example/legitka/legitka/cli/UsageException") (N : Unt h0 a) (o1 o2 o3 o4 : Value) (F1 : Fld Z h0 a "java/lang/Throwable" "cause" "Ljava/lang/Throwable;" o1) (F2 : Fld Z h0 a "java/lang/Throwable" "stackTrace" "[Ljava/lang/StackTraceElement;" o2) (F3 : Fld Z h0 a "java/lang/Throwable" "suppressedExceptions" "Ljava/util/List;" o3) (F4 : Fld Z h0 a "java/lang/Throwable" "detailMessage" "Ljava/lang/String;" o4) (FB : Fld Z h0 a Bundle.tN "backtrace" Jvm.Free.Exc.obD .null) (u v : Value) (hu : u.isRef = true) (hv : v.isRef = true) (SU : Sta Z h0 "java/lang/Throwable" "UNASSIGNED_STACK" "[Ljava/lang/StackTraceElement;" u) (SV : Sta Z h0 "java/lang/Throwable" "SUPPRESSED_SENTINEL" "Ljava/util/List;" v) :
    ConN l Z (⟨"java/lang/Exception", "<init>", "(Ljava/lang/String;)V"⟩ : MethodName) jdk_59_method_2_code 2 none ws own_rEI #[.ref a, .ref mm] h0 (fun w h L => w = none ∧ Exa Z h a "com/example/legitka/legitka/cli/UsageException" ∧ Fld Z h a "java/lang/Throwable" "detailMessage" "Ljava/lang/String;" (.ref mm) ∧ Keep h0 h [a] ∧ ∀ y ∈ L, y.base = a) := by
  refine conN_of (plainFor_of_name pn_36) ?_
  intro p e s m below meth c T0 X0 hx hZ hby hml hown hret hnm hlk e0 hsh hTK hBel
  refine Endz.eq (ef_14 m a mm) ?_
  refine w_aloadN (n := 1) X0.here hx (hb hby d34_0) rfl rfl rfl ?_
  refine w_aloadN (n := 2) X0.here hx (hb hby d34_1) rfl rfl rfl ?_
  refine c_NN (n := 5) (b := a) (argsL := [(.ref mm)]) (rest := []) X0 hx hZ rfl hown (rm_ti l Z a0 hw [] hl a mm h0 hTS A N o1 o2 o3 o4 F1 F2 F3 F4 FB u v hu hv SU SV) e0 hTK hBel (hw _ (List.mem_of_getElem? (i := 176) rfl)) (hw _ (List.mem_of_getElem? (i := 177) rfl)) (hw _ (List.mem_of_getElem? (i := 180) rfl)) (hw _ (List.mem_of_getElem? (i := 181) rfl)) (by decide) 0 (by decide) (by decide) (by decide) (by decide) (by rw [hml]; rfl) pd_25 rfl rfl (Nat.le_of_ble_eq_true rfl) (hb hby d34_2) rfl (fun v1 T1 L1 X1 hQ1 => ?_)
  obtain ⟨rfl, A1, G1, K1, B1⟩ := hQ1
  show Endz _ _ _ _ T1 (mkF m 5 #[.val (.ref a), .val (.ref mm)] [])
  exact fin_V X1 hx hlk rfl hret (hb hby d34_5) (by decide) (by decide) ⟨rfl, A1, G1, K1, fun y hy => B1 y ((List.mem_append.mp hy).elim (fun q => nomatch q) id)⟩
theorem pn_37 : plainName "com/example/legitka/legitka/cli/UsageException" = true := by first | (simp [plainName, overriddenIn]; done) | decide +kernel
set_option maxRecDepth 65536 in
set_option maxHeartbeats 40000000 in
theorem rm_ui (l : Launch) (Z : State) (a0 : Array Value) (hw : ∀ d ∈ tables_1, d.before a0 Z = true) (ws : List Jvm.Cond) (hl : l.stackTraces = true) (a mm : Addr) (h0 : Heap) (hTS : ThS Z h0) (A : Exa Z h0 a "com/example/legitka/legitka/cli/UsageException") (N : Unt h0 a) (o1 o2 o3 o4 : Value) (F1 : Fld Z h0 a "java/lang/Throwable" "cause" "Ljava/lang/Throwable;" o1) (F2 : Fld Z h0 a "java/lang/Throwable" "stackTrace" "[Ljava/lang/StackTraceElement;" o2) (F3 : Fld Z h0 a "java/lang/Throwable" "suppressedExceptions" "Ljava/util/List;" o3) (F4 : Fld Z h0 a "java/lang/Throwable" "detailMessage" "Ljava/lang/String;" o4) (FB : Fld Z h0 a Bundle.tN "backtrace" Jvm.Free.Exc.obD .null) (u v : Value) (hu : u.isRef = true) (hv : v.isRef = true) (SU : Sta Z h0 "java/lang/Throwable" "UNASSIGNED_STACK" "[Ljava/lang/StackTraceElement;" u) (SV : Sta Z h0 "java/lang/Throwable" "SUPPRESSED_SENTINEL" "Ljava/util/List;" v) :
    ConN l Z (⟨"com/example/legitka/legitka/cli/UsageException", "<init>", "(Ljava/lang/String;)V"⟩ : MethodName) prog_21_method_1_code 2 none ws own_rUI #[.ref a, .ref mm] h0 (fun w h L => w = none ∧ Exa Z h a "com/example/legitka/legitka/cli/UsageException" ∧ Fld Z h a "java/lang/Throwable" "detailMessage" "Ljava/lang/String;" (.ref mm) ∧ Keep h0 h [a] ∧ ∀ y ∈ L, y.base = a) := by
  refine conN_of (plainFor_of_name pn_37) ?_
  intro p e s m below meth c T0 X0 hx hZ hby hml hown hret hnm hlk e0 hsh hTK hBel
  refine Endz.eq (ef_14 m a mm) ?_
  refine w_aloadN (n := 1) X0.here hx (hb hby d33_0) rfl rfl rfl ?_
  refine w_aloadN (n := 2) X0.here hx (hb hby d33_1) rfl rfl rfl ?_
  refine c_NN (n := 5) (b := a) (argsL := [(.ref mm)]) (rest := []) X0 hx hZ rfl hown (rm_ei l Z a0 hw [] hl a mm h0 hTS A N o1 o2 o3 o4 F1 F2 F3 F4 FB u v hu hv SU SV) e0 hTK hBel (hw _ (List.mem_of_getElem? (i := 171) rfl)) (hw _ (List.mem_of_getElem? (i := 172) rfl)) (hw _ (List.mem_of_getElem? (i := 174) rfl)) (hw _ (List.mem_of_getElem? (i := 175) rfl)) (by decide) 0 (by decide) (by decide) (by decide) (by decide) (by rw [hml]; rfl) pd_25 rfl rfl (Nat.le_of_ble_eq_true rfl) (hb hby d33_2) rfl (fun v1 T1 L1 X1 hQ1 => ?_)
  obtain ⟨rfl, A1, G1, K1, B1⟩ := hQ1
  show Endz _ _ _ _ T1 (mkF m 5 #[.val (.ref a), .val (.ref mm)] [])
  exact fin_V X1 hx hlk rfl hret (hb hby d33_5) (by decide) (by decide) ⟨rfl, A1, G1, K1, fun y hy => B1 y ((List.mem_append.mp hy).elim (fun q => nomatch q) id)⟩
def own_u1 : List Int32 := [117, 110, 107, 110, 111, 119, 110, 32, 111, 112, 116, 105, 111, 110, 32, 39]
theorem own_t1 : (∀ c ∈ "unknown option '".toList, c.toNat < 256) ∧ "unknown option '".toList.map (fun c => Value.int (Jvm.Lit.byteI c.toNat.toUInt16)) = own_u1.map Value.int := ⟨by decide, by rfl⟩
theorem own_t2 : (∀ c ∈ "'".toList, c.toNat < 256) ∧ "'".toList.map (fun c => Value.int (Jvm.Lit.byteI c.toNat.toUInt16)) = ([39] : List Int32).map Value.int := ⟨by decide, by rfl⟩
theorem own_wS {Z : State} {a0 : Array Value} (hw : ∀ d ∈ tables_1, d.before a0 Z = true) : ∀ a ∈ Bundle.stringAtoms, a.before a0 Z = true := fun d hd => by
  simp only [Bundle.stringAtoms, Bundle.sN, List.mem_cons, List.not_mem_nil, or_false] at hd
  rcases hd with rfl | rfl | rfl | rfl | rfl | rfl | rfl
  · exact (hw _ (List.mem_of_getElem? (i := 3) rfl))
  · exact (hw _ (List.mem_of_getElem? (i := 2) rfl))
  · exact (hw _ (List.mem_of_getElem? (i := 15) rfl))
  · exact (hw _ (List.mem_of_getElem? (i := 16) rfl))
  · exact (hw _ (List.mem_of_getElem? (i := 17) rfl))
  · exact (hw _ (List.mem_of_getElem? (i := 18) rfl))
  · exact (hw _ (List.mem_of_getElem? (i := 19) rfl))
theorem own_ek2 {h1 h h' : Heap} {a b : Addr} (E : Ext h1 h) (K : Keep h h' [a, b]) (qa : h1.size ≤ a) (qb : h1.size ≤ b) : Ext h1 h' := ⟨Nat.le_trans E.1 K.1, fun x c z => K.2.1 x c (E.2 x c z) (ninS (fun e => by subst e; exact absurd (Array.getElem?_eq_some_iff.mp z).1 (Nat.not_lt.mpr qa)) (ninS (fun e => by subst e; exact absurd (Array.getElem?_eq_some_iff.mp z).1 (Nat.not_lt.mpr qb)) nin0))⟩
theorem own_keepU {Z : State} {a0 : Array Value} {h h' : Heap} {a u : Addr} {us : List Int32} {n : Nat} {C : String} (F : Strz Z h a us) (K : Keep h h' [u]) (E : Exa Z h u C) (hC : C ≠ "java/lang/String") (wi : (Jvm.Cond.instantiable C n).before a0 Z = true) : Strz Z h' a us := by
  obtain ⟨A, F, b, k, z, G, V, r⟩ := F
  have q : a ∉ [u] := ninS (Exa.ne A E (fun q => hC q.symm)) nin0
  exact ⟨A.keep K, F.keep K q, b, k, z, G.keep K q, V.keep K (ninS (Exa.neArv E V wi).symm nin0), r⟩
theorem own_safe2 {Z : State} {EL : List (String × Nat)} {vm : Vm} {h : Heap} {a b : Addr} (A : Safe Z EL vm h a) (B : Safe Z EL vm h b) : ∀ x ∈ [a, b], Safe Z EL vm h x := sfS A (sfS B sf0)
abbrev own_rUO : Room := { frames := 9, cells := 16, slots := 4200, locals := 180 }
set_option maxRecDepth 65536 in
set_option maxHeartbeats 40000000 in
theorem rm_uo (l : Launch) (Z : State) (a0 : Array Value) (hw : ∀ d ∈ tables_1, d.before a0 Z = true) (ws : List Jvm.Cond) (hl : l.stackTraces = true) (hEL : EW Z a0 own_EL) (vmB : Vm) (a : Addr) (us : List Int32) (h3 : us.length ≤ 3) (h0 : Heap) (hTS : ThS Z h0) (cs : Int32) (hcs : cs ≠ 0) (SC : Sta Z h0 "java/lang/String" "COMPACT_STRINGS" "Z" (.int cs)) (u v : Value) (hu : u.isRef = true) (hv : v.isRef = true) (SU : Sta Z h0 "java/lang/Throwable" "UNASSIGNED_STACK" "[Ljava/lang/StackTraceElement;" u) (SV : Sta Z h0 "java/lang/Throwable" "SUPPRESSED_SENTINEL" "Ljava/util/List;" v) (SS : Strz Z h0 a us) :
    ConK l Z own_EL vmB (⟨"com/example/legitka/legitka/cli/UsageException", "unknownOption", "(Ljava/lang/String;)Lcom/example/legitka/legitka/cli/UsageException;"⟩ : MethodName) prog_21_method_2_code 1 (some (.object "com/example/legitka/legitka/cli/UsageException")) ws own_rUO #[.ref a] h0 (fun v vm h L => ∃ ue mm, v = some (.ref ue) ∧ Exa Z h ue "com/example/legitka/legitka/cli/UsageException" ∧ Fld Z h ue "java/lang/Throwable" "detailMessage" "Ljava/lang/String;" (.ref mm) ∧ Strz Z h mm ((own_u1 ++ us) ++ [39]) ∧ Ext h0 h ∧ Fr h0.size L) := by
  refine conK_of (plainFor_of_name pn_37) ?_
  intro p e s vm0 m below meth c T0 X0 hx hZ hby hml hown hret hnm hlk e0 hS H hsh hTK hBel
  refine Endz.eq (ef_8 m a) ?_
  have wS := own_wS hw
  have hl1 : own_u1.length = 16 := rfl
  refine n_O (n := 3) X0 hx hZ hown (hw _ (List.mem_of_getElem? (i := 37) rfl)) (hw _ (List.mem_of_getElem? (i := 38) rfl)) (hw _ (List.mem_of_getElem? (i := 35) rfl)) e0 (hb hby d7_0) rfl (by decide) (by decide) (fun T1 h1 b1 g1 X1 e1 E1 A1 D1 U1 => ?_)
  refine w_dup (n := 4) X1.here hx (hb hby d7_3) rfl rfl ?_
  refine n_O (n := 7) X1 hx hZ hown (hw _ (List.mem_of_getElem? (i := 39) rfl)) (hw _ (List.mem_of_getElem? (i := 40) rfl)) (hw _ (List.mem_of_getElem? (i := 41) rfl)) e1 (hb hby d7_4) rfl (by decide) (by decide) (fun T2 h2 b2 g2 X2 e2 E2 A2 D2 U2 => ?_)
  refine w_dup (n := 8) X2.here hx (hb hby d7_7) rfl rfl ?_
  have BT := D1 (O := Bundle.tN) (nm := "backtrace") (d := Jvm.Free.Exc.obD) (ty := .object "java/lang/Object") (Or.inl (hw _ (List.mem_of_getElem? (i := 215) rfl))) (by decide +kernel)
  have TF0 := D1 (O := "java/lang/Throwable") (nm := "cause") (d := "Ljava/lang/Throwable;") (ty := (.object "java/lang/Throwable")) (Or.inl (hw _ (List.mem_of_getElem? (i := 184) rfl))) (by decide +kernel)
  have TF1 := D1 (O := "java/lang/Throwable") (nm := "stackTrace") (d := "[Ljava/lang/StackTraceElement;") (ty := (.array (.object "java/lang/StackTraceElement"))) (Or.inl (hw _ (List.mem_of_getElem? (i := 187) rfl))) (by decide +kernel)
  have TF2 := D1 (O := "java/lang/Throwable") (nm := "suppressedExceptions") (d := "Ljava/util/List;") (ty := (.object "java/util/List")) (Or.inl (hw _ (List.mem_of_getElem? (i := 190) rfl))) (by decide +kernel)
  have TF3 := D1 (O := "java/lang/Throwable") (nm := "detailMessage") (d := "Ljava/lang/String;") (ty := (.object "java/lang/String")) (Or.inl (hw _ (List.mem_of_getElem? (i := 214) rfl))) (by decide +kernel)
  have F_value := D2 (O := "java/lang/AbstractStringBuilder") (nm := "value") (d := "[B") (ty := .array .byte) (Or.inl (hw _ (List.mem_of_getElem? (i := 54) rfl))) (by decide +kernel)
  have F_coder := D2 (O := "java/lang/AbstractStringBuilder") (nm := "coder") (d := "B") (ty := .byte) (Or.inl (hw _ (List.mem_of_getElem? (i := 56) rfl))) (by decide +kernel)
  have F_count := D2 (O := "java/lang/AbstractStringBuilder") (nm := "count") (d := "I") (ty := .int) (Or.inl (hw _ (List.mem_of_getElem? (i := 79) rfl))) (by decide +kernel)
  have gu : h0.size ≤ b1 := Nat.le_of_eq g1.symm
  have gs : h1.size ≤ b2 := Nat.le_of_eq g2.symm
  have E02 := Ext.tr E1 E2
  refine c_N (n := 11) (b := b2) (argsL := []) (rest := [(.ref b2), (.ref b1), (.ref b1)]) X2 hx hZ rfl hown (rm_si l Z a0 hw [] b2 h2 cs hcs (SC.ext E02) A2 _ _ F_value F_coder F_count) e2 (hw _ (List.mem_of_getElem? (i := 42) rfl)) (hw _ (List.mem_of_getElem? (i := 43) rfl)) (hw _ (List.mem_of_getElem? (i := 41) rfl)) (hw _ (List.mem_of_getElem? (i := 44) rfl)) (by decide) 3 (by decide) (by decide) (by decide) (by decide) (by rw [hml]; rfl) pd_11 rfl rfl (Nat.le_of_ble_eq_true rfl) (hb hby d7_8) rfl (fun v3 T3 L3 X3 hQ3 => ?_)
  obtain ⟨rfl, b3, kb3, B3, K3, gb3, N3⟩ := hQ3
  show Endz _ _ _ _ T3 (mkF m 11 #[.val (.ref a)] [(.ref b2), (.ref b1), (.ref b1)])
  have EX3 := Ext.keep1 E2 K3 gs
  have E03 := Ext.tr E1 EX3
  have gb3' : h1.size ≤ b3 := Nat.le_trans E2.1 gb3
  have g01 : h0.size ≤ h1.size := E1.1
  have H3 := CHr.ext E03 H.1
  have Sa3 : Safe Z own_EL vm0 _ b2 := Safe.ext E03 H.1 (Safe.new (Nat.le_trans g01 gs))
  have Sb3 : Safe Z own_EL vm0 _ b3 := Safe.ext E03 H.1 (Safe.new (Nat.le_trans g01 gb3'))
  refine k_S (n := 13) X3 hx hZ hown (hw _ (List.mem_of_getElem? (i := 57) rfl)) wS rfl hS E03.1 hEL (List.Mem.head _) (CHr.refl H3.1) own_u1 16 own_t1 (by decide) (by decide) (hb hby d7_11) rfl 64 (by decide) (by decide) (by decide) (by decide) (fun T4 h4 k4 la4 X4 e4 E4 hS hk hZ hown ST4 C4 LT4 nb4 => ?_)
  have Sa4 := C4.safe B3.1.lt Sa3
  have Sb4 := C4.safe B3.2.2.2.2.1.lt Sb3
  have B4 := own_Sb_ext B3 E4
  have E04 := Ext.tr E03 E4
  have EX4 := Ext.tr EX3 E4
  refine c_V (n := 16) (b := b2) (argsL := [(.ref la4)]) (rest := [(.ref b1), (.ref b1)]) X4 hx hZ hown (rm_sa l Z a0 hw [] b2 la4 b3 kb3 16 [] own_u1 (Or.inl (by decide)) (by decide) _ cs hcs (SC.ext E04) ST4 B4) e4 B4.1 (hw _ (List.mem_of_getElem? (i := 58) rfl)) (hw _ (List.mem_of_getElem? (i := 59) rfl)) (notFace_of_selects (args := #[]) (mvT hZ (hw _ (List.mem_of_getElem? (i := 61) rfl)))) (hw _ (List.mem_of_getElem? (i := 61) rfl)) (hw _ (List.mem_of_getElem? (i := 60) rfl)) (hw _ (List.mem_of_getElem? (i := 41) rfl)) (hw _ (List.mem_of_getElem? (i := 62) rfl)) (by decide) 2 (by decide) (by decide) (by decide) (by decide) (by rw [hml]; rfl) pd_24 rfl rfl (Nat.le_of_ble_eq_true rfl) (hb hby d7_13) rfl (fun v5 T5 L5 X5 hQ5 => ?_)
  obtain ⟨rfl, b5, kb5, B5, K5, hb5, N5⟩ := hQ5
  show Endz _ _ _ _ T5 (mkF m 16 #[.val (.ref a)] [(.ref b2), (.ref b1), (.ref b1)])
  have B5 : own_Sb Z _ b2 b5 kb5 16 own_u1 := B5
  have EX5 := own_ek2 EX4 K5 gs gb3'
  have E05 := Ext.tr E1 EX5
  have C5 := CHr.keep K5 (own_safe2 Sa4 Sb4) C4.1
  have Sa5 := Safe.keep K5 (own_safe2 Sa4 Sb4) C4.1 Sa4
  have gb5 : h1.size ≤ b5 := hb5.elim (fun q => by rw [q]; exact gb3') (fun q => Nat.le_trans EX4.1 q)
  have Sb5 := Safe.keep K5 (own_safe2 Sa4 Sb4) C4.1 (hb5.elim (fun q => by rw [q]; exact Sb4) (fun q => Safe.new q))
  refine w_aloadN (n := 17) X5.here hx (hb hby d7_16) rfl rfl rfl ?_
  refine c_V (n := 20) (b := b2) (argsL := [(.ref a)]) (rest := [(.ref b1), (.ref b1)]) X5 hx hZ hown (rm_sa l Z a0 hw [] b2 a b5 kb5 16 own_u1 us (by rw [hl1]; omega) (by decide) _ cs hcs (SC.ext E05) (SS.ext E05) B5) rfl B5.1 (hw _ (List.mem_of_getElem? (i := 58) rfl)) (hw _ (List.mem_of_getElem? (i := 59) rfl)) (notFace_of_selects (args := #[]) (mvT hZ (hw _ (List.mem_of_getElem? (i := 61) rfl)))) (hw _ (List.mem_of_getElem? (i := 61) rfl)) (hw _ (List.mem_of_getElem? (i := 60) rfl)) (hw _ (List.mem_of_getElem? (i := 41) rfl)) (hw _ (List.mem_of_getElem? (i := 62) rfl)) (by decide) 2 (by decide) (by decide) (by decide) (by decide) (by rw [hml]; rfl) pd_24 rfl rfl (Nat.le_of_ble_eq_true rfl) (hb hby d7_17) rfl (fun v6 T6 L6 X6 hQ6 => ?_)
  obtain ⟨rfl, b6, kb6, B6, K6, hb6, N6⟩ := hQ6
  show Endz _ _ _ _ T6 (mkF m 20 #[.val (.ref a)] [(.ref b2), (.ref b1), (.ref b1)])
  have EX6 := own_ek2 EX5 K6 gs gb5
  have E06 := Ext.tr E1 EX6
  have C6 := CHr.keep K6 (own_safe2 Sa5 Sb5) C5.1
  have Sa6 := Safe.keep K6 (own_safe2 Sa5 Sb5) C5.1 Sa5
  have gb6 : h1.size ≤ b6 := hb6.elim (fun q => by rw [q]; exact gb5) (fun q => Nat.le_trans EX5.1 q)
  have Sb6 := Safe.keep K6 (own_safe2 Sa5 Sb5) C5.1 (hb6.elim (fun q => by rw [q]; exact Sb5) (fun q => Safe.new q))
  have hca : own_cap 16 (own_u1.length + us.length) ≤ 34 ∧ (us.length = 0 → own_cap 16 (own_u1.length + us.length) = 16) ∧ (0 < us.length → own_cap 16 (own_u1.length + us.length) = 34) := by rw [hl1]; unfold own_cap; split <;> omega
  generalize own_cap 16 (own_u1.length + us.length) = cp at B6 hca
  refine k_S (n := 22) X6 hx hZ hown (hw _ (List.mem_of_getElem? (i := 105) rfl)) wS rfl hS (Nat.le_trans hk (Nat.le_trans K5.1 K6.1)) hEL (List.Mem.tail _ (List.Mem.head _)) (CHr.refl C6.1) [39] 1 own_t2 (by decide) (by decide) (hb hby d7_20) rfl 4 (by decide) (by decide) (by decide) (by decide) (fun T7 h7 k7 la7 X7 e7 E7 hS hk hZ hown ST7 C7 LT7 nb7 => ?_)
  have Sa7 := C7.safe B6.1.lt Sa6
  have Sb7 := C7.safe B6.2.2.2.2.1.lt Sb6
  have B7 := own_Sb_ext B6 E7
  have E07 := Ext.tr E06 E7
  have EX7 := Ext.tr EX6 E7
  have hl2 : (own_u1 ++ us).length = 16 + us.length := by rw [List.length_append, hl1]
  refine c_V (n := 25) (b := b2) (argsL := [(.ref la7)]) (rest := [(.ref b1), (.ref b1)]) X7 hx hZ hown (rm_sa l Z a0 hw [] b2 la7 b6 kb6 cp (own_u1 ++ us) [39] (by rw [hl2, List.length_singleton]; omega) hca.1 _ cs hcs (SC.ext E07) ST7 B7) e7 B7.1 (hw _ (List.mem_of_getElem? (i := 58) rfl)) (hw _ (List.mem_of_getElem? (i := 59) rfl)) (notFace_of_selects (args := #[]) (mvT hZ (hw _ (List.mem_of_getElem? (i := 61) rfl)))) (hw _ (List.mem_of_getElem? (i := 61) rfl)) (hw _ (List.mem_of_getElem? (i := 60) rfl)) (hw _ (List.mem_of_getElem? (i := 41) rfl)) (hw _ (List.mem_of_getElem? (i := 62) rfl)) (by decide) 2 (by decide) (by decide) (by decide) (by decide) (by rw [hml]; rfl) pd_24 rfl rfl (Nat.le_of_ble_eq_true rfl) (hb hby d7_22) rfl (fun v8 T8 L8 X8 hQ8 => ?_)
  obtain ⟨rfl, b8, kb8, B8, K8, hb8, N8⟩ := hQ8
  show Endz _ _ _ _ T8 (mkF m 25 #[.val (.ref a)] [(.ref b2), (.ref b1), (.ref b1)])
  have hc8 : own_cap cp ((own_u1 ++ us).length + ([39] : List Int32).length) = 34 := by rw [hl2, List.length_singleton]; unfold own_cap; split <;> omega
  rw [hc8] at B8
  have EX8 := own_ek2 EX7 K8 gs gb6
  have E08 := Ext.tr E1 EX8
  have hl3 : ((own_u1 ++ us) ++ [39]).length = 17 + us.length := by rw [List.length_append, hl2, List.length_singleton]; omega
  refine c_V (n := 28) (b := b2) (argsL := []) (rest := [(.ref b1), (.ref b1)]) X8 hx hZ hown (rm_ts l Z a0 hw [] b2 b8 kb8 34 ((own_u1 ++ us) ++ [39]) (by rw [hl3]; omega) (by rw [hl3]; omega) (by decide) _ cs hcs (SC.ext E08) B8) rfl B8.1 (hw _ (List.mem_of_getElem? (i := 129) rfl)) (hw _ (List.mem_of_getElem? (i := 130) rfl)) (notFace_of_selects (args := #[]) (mvT hZ (hw _ (List.mem_of_getElem? (i := 132) rfl)))) (hw _ (List.mem_of_getElem? (i := 132) rfl)) (hw _ (List.mem_of_getElem? (i := 131) rfl)) (hw _ (List.mem_of_getElem? (i := 41) rfl)) (hw _ (List.mem_of_getElem? (i := 133) rfl)) (by decide) 2 (by decide) (by decide) (by decide) (by decide) (by rw [hml]; rfl) pd_10 rfl rfl (Nat.le_of_ble_eq_true rfl) (hb hby d7_25) rfl (fun v9 T9 L9 X9 hQ9 => ?_)
  obtain ⟨th, rfl, S9, gt, E9', N9⟩ := hQ9
  show Endz _ _ _ _ T9 (mkF m 28 #[.val (.ref a)] [(.ref th), (.ref b1), (.ref b1)])
  have EX9 := Ext.tr EX8 E9'
  have E09 := Ext.tr E1 EX9
  refine c_NN (n := 31) (b := b1) (argsL := [(.ref th)]) (rest := [(.ref b1)]) X9 hx hZ rfl hown (rm_ui l Z a0 hw [] hl b1 th _ (hTS.ext E09) (A1.ext EX9) (Unt.ext EX9 U1) _ _ _ _ (TF0.ext EX9) (TF1.ext EX9) (TF2.ext EX9) (TF3.ext EX9) (BT.ext EX9) u v hu hv (SU.ext E09) (SV.ext E09)) rfl (Vm.MethodsKnown.alikeC hS.1.alike hTK) (Vm.FramesKnown.alikeC hS.1.alike hBel) (hw _ (List.mem_of_getElem? (i := 168) rfl)) (hw _ (List.mem_of_getElem? (i := 169) rfl)) (hw _ (List.mem_of_getElem? (i := 35) rfl)) (hw _ (List.mem_of_getElem? (i := 170) rfl)) (by decide) 1 (by decide) (by decide) (by decide) (by decide) (by rw [hml]; rfl) pd_25 rfl rfl (Nat.le_of_ble_eq_true rfl) (hb hby d7_28) rfl (fun v10 T10 L10 X10 hQ10 => ?_)
  obtain ⟨rfl, AX, FX, KE, BX⟩ := hQ10
  show Endz _ _ _ _ T10 (mkF m 31 #[.val (.ref a)] [(.ref b1)])
  have SX := own_keepU S9 KE (A1.ext EX9) (by decide) (hw _ (List.mem_of_getElem? (i := 38) rfl))
  refine finW_A X10 hx hlk rfl hS (Nat.le_trans hk (Nat.le_trans K8.1 (Nat.le_trans E9'.1 KE.1))) hret rfl rfl rfl (hb hby d7_31) (by decide) (by decide) ⟨b1, th, rfl, AX, FX, SX, Ext.keep1 E09 KE gu, Fr.app ?_ (fun y hy => by rw [BX y hy]; exact gu)⟩
  have le3 := E02.1; have le4 := E04.1; have le5 := E05.1; have le7 := E07.1; have le8 := E08.1
  have gs0 := Nat.le_trans g01 gs; have gb30 := Nat.le_trans g01 gb3'; have gb50 := Nat.le_trans g01 gb5; have gb60 := Nat.le_trans g01 gb6
  exact (((((Fr.nil _).app (N3 _ gs0)).app (N5 _ gs0 gb30 le4)).app (N6 _ gs0 gb50 le5)).app (N8 _ gs0 gb60 le7)).app (fun y hy => Nat.le_trans le8 (N9 y hy))
def own_ok (ds : List Int32) : Prop := ∀ j, j < ds.length → ¬ 255 < ds.getD j 0
theorem own_okm {ds : List Int32} (h : ∀ d ∈ ds, ¬ 255 < d) : own_ok ds := fun j hj => by
  have e : ds.getD j 0 = ds[j] := by simp [List.getD_eq_getElem?_getD, hj]
  rw [e]; exact h _ (List.getElem_mem hj)
theorem own_m255 (x : Int32) : ¬ 255 < (x &&& 255) := by
  have h := c_mask x 255 8 (by decide) (by decide)
  have h2 := Int.emod_lt_of_pos x.toInt (show (0 : Int) < ((2 ^ 8 : Nat) : Int) by decide)
  rw [Int32.lt_iff_toInt_lt, h]
  have h3 : (255 : Int32).toInt = 255 := by decide
  have h4 : ((2 ^ 8 : Nat) : Int) = 256 := rfl
  omega
theorem own_narc (x : Int32) : nar .char (x &&& 255) = x &&& 255 := i2c_mask x
def own_es (os : List Int32) : List Int32 := (own_u1 ++ os) ++ [39]
theorem own_es_len (os : List Int32) : (own_es os).length = 17 + os.length := by
  rw [own_es, List.length_append, List.length_append, show own_u1.length = 16 from rfl, List.length_singleton]; omega
theorem own_es_by (os : List Int32) : (own_es os).map own_by = (own_u1 ++ os.map own_by) ++ [39] := by
  rw [own_es, List.map_append, List.map_append]; rfl
theorem own_es_ok {os : List Int32} (h : ∀ d ∈ os, ¬ 255 < d) : own_ok (own_es os) := own_okm fun d hd => by
  rw [own_es, List.mem_append, List.mem_append] at hd
  rcases hd with (q | q) | q
  · revert d; decide
  · exact h d q
  · rw [List.mem_singleton.mp q]; decide
theorem ef_21 (m : MethodId) (i0 : Int32) (i1 : Int32) (i2 : Int32) (i3 : Int32) : entryFrame m #[(.int i0), (.int i1), (.int i2), (.int i3)] maxLocals = mkF m 0 #[.val (.int i0), .val (.int i1), .val (.int i2), .val (.int i3), .unset, .unset, .unset, .unset, .unset, .unset, .unset, .unset, .unset, .unset] [] := by first | (simp [entryFrame, mkF, argsToLocals, Value.category, maxLocals]; done) | rfl
theorem pn_38 : plainName "com/example/legitka/legitka/cli/UsageExceptionUnknownOptionPinLaw" = true := by first | (simp [plainName, overriddenIn]; done) | decide +kernel
set_option maxRecDepth 65536 in
set_option maxHeartbeats 40000000 in
theorem rm0 (l : Launch) (Z : State) (a0 : Array Value) (hw : ∀ d ∈ tables_1, d.before a0 Z = true) (ws : List Jvm.Cond) (hl : l.stackTraces = true) (hEL : EW Z a0 own_EL) (vmB : Vm) (i0 i1 i2 i3 : Int32) (h0 : Heap) (cs : Int32) (hcs : cs ≠ 0) (SC : Sta Z h0 "java/lang/String" "COMPACT_STRINGS" "Z" (.int cs)) (hTS : ThS Z h0) (u v : Value) (hu : u.isRef = true) (hv : v.isRef = true) (SU : Sta Z h0 "java/lang/Throwable" "UNASSIGNED_STACK" "[Ljava/lang/StackTraceElement;" u) (SV : Sta Z h0 "java/lang/Throwable" "SUPPRESSED_SENTINEL" "Ljava/util/List;" v) :
    ConK l Z own_EL vmB x code maxLocals ret ws room_1 #[.int i0, .int i1, .int i2, .int i3] h0 (fun v _ _ L => v = some (.int 1) ∧ Fr h0.size L) := by
  refine conK_of (plainFor_of_name pn_38) ?_
  intro p e s vm0 m below meth c T0 X0 hx hZ hby hml hown hret hnm hlk e0 hS H hsh hTK hBel
  refine Endz.eq (ef_21 m i0 i1 i2 i3) ?_
  have wS := own_wS hw
  have tail2 : ∀ (q4 q5 q6 q7 : Int32) (o ee : Addr) (ke : ClassId) (os : List Int32) (vm1 : Vm) (k1 : Nat) (T : State) (h : Heap) (L : List Loc) (sa : Addr), Stand p l e room_1 (s.setVm vm1) m #[.int i0, .int i1, .int i2, .int i3] below meth c T L 10 200 → T.heap = h → s.Since vm1 k1 → k1 ≤ h.size → Z.Warmed39 (s.setVm vm1).vm → (s.setVm vm1).vm.findClass "com/example/legitka/legitka/cli/UsageExceptionUnknownOptionPinLaw" = some m.cls → CHr Z own_EL vmB h0 vm1 h → Ext h0 h → Fr h0.size L → Strz Z h sa (os.map own_by) → Arv Z h ee ke .char (Int32.ofNat (own_es os).length) ((own_es os).map Value.int) (.int 0) → (∀ d ∈ os, ¬ 255 < d) → os.length ≤ 3 → Endz p.tables e below (FinW s room_1 (fun v _ _ L => v = some (.int 1) ∧ Fr h0.size L)) T (mkF m 558 #[.val (.int i0), .val (.int i1), .val (.int i2), .val (.int i3), .val (.int q4), .val (.int q5), .val (.int q6), .val (.int q7), .val (.ref o), .val (.ref ee), .unset, .unset, .unset, .unset] [.ref sa]) := by
    intro q4 q5 q6 q7 o ee ke os vm1 k1 T h L sa X eT hS hk hZ hown C E N SS VE ok h3
    have hel := own_es_len os
    refine w_astore (Ls' := #[.val (.int i0), .val (.int i1), .val (.int i2), .val (.int i3), .val (.int q4), .val (.int q5), .val (.int q6), .val (.int q7), .val (.ref o), .val (.ref ee), .val (.ref sa), .unset, .unset, .unset]) (n := 560) X.here hx (hb hby at_558) rfl rfl rfl ?_
    refine n_O (n := 563) X hx hZ hown (hw _ (List.mem_of_getElem? (i := 1) rfl)) (hw _ (List.mem_of_getElem? (i := 2) rfl)) (hw _ (List.mem_of_getElem? (i := 3) rfl)) eT (hb hby at_560) rfl (by decide) (by decide) (fun T1 h1 b1 g1 X1 e1 E1 A1 D1 U1 => ?_)
    have FC1 := D1 (O := "java/lang/String") (nm := "coder") (d := "B") (ty := .byte) (Or.inr (hw _ (List.mem_of_getElem? (i := 17) rfl))) (by decide +kernel)
    have FV1 := D1 (O := "java/lang/String") (nm := "value") (d := "[B") (ty := .array .byte) (Or.inr (hw _ (List.mem_of_getElem? (i := 16) rfl))) (by decide +kernel)
    refine w_dup (n := 564) X1.here hx (hb hby at_563) rfl rfl ?_
    refine w_aload (n := 566) X1.here hx (hb hby at_564) rfl rfl rfl ?_
    have gb : h.size ≤ b1 := Nat.le_of_eq g1.symm
    refine c_N (n := 569) (b := b1) (argsL := [(.ref ee)]) (rest := [(.ref b1)]) X1 hx hZ rfl hown (rm_i1 l Z a0 hw [] b1 ee ke (own_es os) _ cs hcs (SC.ext (Ext.tr E E1)) (fun q => by rw [q, List.length_nil] at hel; omega) (by omega) (own_es_ok ok) (VE.ext E1) A1 _ _ FC1 FV1) e1 (hw _ (List.mem_of_getElem? (i := 4) rfl)) (hw _ (List.mem_of_getElem? (i := 5) rfl)) (hw _ (List.mem_of_getElem? (i := 3) rfl)) (hw _ (List.mem_of_getElem? (i := 6) rfl)) (by decide) 1 (by decide) (by decide) (by decide) (by decide) (by rw [hml]; rfl) pd_30 rfl rfl (Nat.le_of_ble_eq_true rfl) (hb hby at_566) rfl (fun v2 T2 L2 X2 hQ2 => ?_)
    obtain ⟨rfl, SE, K9, N9⟩ := hQ2
    show Endz _ _ _ _ T2 (mkF m 569 #[.val (.int i0), .val (.int i1), .val (.int i2), .val (.int i3), .val (.int q4), .val (.int q5), .val (.int q6), .val (.int q7), .val (.ref o), .val (.ref ee), .val (.ref sa), .unset, .unset, .unset] [(.ref b1)])
    rw [own_es_by] at SE
    have EH := Ext.keep1 E1 K9 gb
    have E0 := Ext.tr E EH
    have C9 := CHr.ext EH C.1
    refine w_astore (Ls' := #[.val (.int i0), .val (.int i1), .val (.int i2), .val (.int i3), .val (.int q4), .val (.int q5), .val (.int q6), .val (.int q7), .val (.ref o), .val (.ref ee), .val (.ref sa), .val (.ref b1), .unset, .unset]) (n := 571) X2.here hx (hb hby at_569) rfl rfl rfl ?_
    refine w_aload (n := 573) X2.here hx (hb hby at_571) rfl rfl rfl ?_
    refine c_SK (n := 576) (argsL := [.ref sa]) (rest := []) X2 hx hZ hown (rm_uo l Z a0 hw [] hl hEL _ sa (os.map own_by) (by rw [List.length_map]; exact h3) _ (hTS.ext E0) cs hcs (SC.ext E0) u v hu hv (SU.ext E0) (SV.ext E0) (SS.ext EH)) rfl hS (Nat.le_trans hk EH.1) hEL C9.1 hTK hBel (hw _ (List.mem_of_getElem? (i := 33) rfl)) (hw _ (List.mem_of_getElem? (i := 34) rfl)) (hw _ (List.mem_of_getElem? (i := 35) rfl)) (hw _ (List.mem_of_getElem? (i := 36) rfl)) (by decide) 0 (by decide) (by decide) (by decide) (by decide) (by rw [hml]; rfl) pd_22 rfl rfl (Nat.le_of_ble_eq_true rfl) (hb hby at_573) rfl (fun v3 T3 L3 X3 hS hZ hown hQ3 => ?_)
    obtain ⟨ue, mm, rfl, AX, FX, SX, EX, NX⟩ := hQ3
    show Endz _ _ _ _ T3 (mkF m 576 #[.val (.int i0), .val (.int i1), .val (.int i2), .val (.int i3), .val (.int q4), .val (.int q5), .val (.int q6), .val (.int q7), .val (.ref o), .val (.ref ee), .val (.ref sa), .val (.ref b1), .unset, .unset] [(.ref ue)])
    have EZ := Ext.tr E0 EX
    refine w_astore (Ls' := #[.val (.int i0), .val (.int i1), .val (.int i2), .val (.int i3), .val (.int q4), .val (.int q5), .val (.int q6), .val (.int q7), .val (.ref o), .val (.ref ee), .val (.ref sa), .val (.ref b1), .val (.ref ue), .unset]) (n := 578) X3.here hx (hb hby at_576) rfl rfl rfl ?_
    refine w_aload (n := 580) X3.here hx (hb hby at_578) rfl rfl rfl ?_
    refine w_ifnonnull (n1 := 585) (n2 := 583) X3.here hx rfl (hb hby at_580) (by decide) (by decide) rfl (fun hc580 => ?_) (fun hc580 => nomatch hc580)
    refine w_aload (n := 587) X3.here hx (hb hby at_585) rfl rfl rfl ?_
    refine c_VU (n := 590) (b := ue) (argsL := []) (rest := []) (owner := "java/lang/Throwable") X3 hx hZ hown (rm_gm l Z a0 hw [] ue mm _ FX) rfl AX (hw _ (List.mem_of_getElem? (i := 219) rfl)) (hw _ (List.mem_of_getElem? (i := 220) rfl)) (hw _ (List.mem_of_getElem? (i := 221) rfl)) (by decide) (hw _ (List.mem_of_getElem? (i := 223) rfl)) (hw _ (List.mem_of_getElem? (i := 222) rfl)) (hw _ (List.mem_of_getElem? (i := 180) rfl)) (hw _ (List.mem_of_getElem? (i := 224) rfl)) 0 (by decide) (by decide) (by decide) (by decide) (by rw [hml]; rfl) pd_10 rfl rfl (Nat.le_of_ble_eq_true rfl) (hb hby at_587) rfl (fun v4 T4 L4 X4 hQ4 => ?_)
    obtain ⟨rfl, rfl, eg⟩ := hQ4
    show Endz _ _ _ _ T4 (mkF m 590 #[.val (.int i0), .val (.int i1), .val (.int i2), .val (.int i3), .val (.int q4), .val (.int q5), .val (.int q6), .val (.int q7), .val (.ref o), .val (.ref ee), .val (.ref sa), .val (.ref b1), .val (.ref ue), .unset] [(.ref mm)])
    refine w_astore (Ls' := #[.val (.int i0), .val (.int i1), .val (.int i2), .val (.int i3), .val (.int q4), .val (.int q5), .val (.int q6), .val (.int q7), .val (.ref o), .val (.ref ee), .val (.ref sa), .val (.ref b1), .val (.ref ue), .val (.ref mm)]) (n := 592) X4.here hx (hb hby at_590) rfl rfl rfl ?_
    refine w_aload (n := 594) X4.here hx (hb hby at_592) rfl rfl rfl ?_
    refine w_ifnull (n1 := 611) (n2 := 597) X4.here hx rfl (hb hby at_594) (by decide) (by decide) rfl (fun hc594 => nomatch hc594) (fun hc594 => ?_)
    refine w_aload (n := 599) X4.here hx (hb hby at_597) rfl rfl rfl ?_
    refine w_aload (n := 601) X4.here hx (hb hby at_599) rfl rfl rfl ?_
    refine c_V (n := 604) (b := mm) (argsL := [(.ref b1)]) (rest := []) X4 hx hZ hown (rm_eq l Z a0 hw [] mm b1 _ _ _ cs hcs (SC.ext EZ) SX (SE.ext EX)) eg (own_get SX).1 (hw _ (List.mem_of_getElem? (i := 225) rfl)) (hw _ (List.mem_of_getElem? (i := 226) rfl)) (notFace_of_selects (args := #[]) (mvT hZ (hw _ (List.mem_of_getElem? (i := 228) rfl)))) (hw _ (List.mem_of_getElem? (i := 228) rfl)) (hw _ (List.mem_of_getElem? (i := 227) rfl)) (hw _ (List.mem_of_getElem? (i := 3) rfl)) (hw _ (List.mem_of_getElem? (i := 229) rfl)) (by decide) 0 (by decide) (by decide) (by decide) (by decide) (by rw [hml]; rfl) pd_21 rfl rfl (Nat.le_of_ble_eq_true rfl) (hb hby at_601) rfl (fun v5 T5 L5 X5 hQ5 => ?_)
    obtain ⟨rfl, rfl, eq⟩ := hQ5
    rw [if_pos rfl]
    show Endz _ _ _ _ T5 (mkF m 604 #[.val (.int i0), .val (.int i1), .val (.int i2), .val (.int i3), .val (.int q4), .val (.int q5), .val (.int q6), .val (.int q7), .val (.ref o), .val (.ref ee), .val (.ref sa), .val (.ref b1), .val (.ref ue), .val (.ref mm)] [(.int (1 : Int32))])
    refine w_ifeq (n1 := 611) (n2 := 607) X5.here hx (hb hby at_604) (by decide) (by decide) rfl (fun hc604 => absurd hc604 (by decide)) (fun hc604 => ?_)
    refine w_iconst (z := (1 : Int32)) (n := 608) X5.here hx (hb hby at_607) rfl rfl ?_
    refine w_goto (n := 612) X5.here hx (hb hby at_608) (by decide) (by decide) ?_
    refine finW_Z X5 hx hlk eq hS (Nat.le_refl _) hret (Or.inl rfl) (hb hby at_612) (by decide) (by decide) ⟨rfl, ?_⟩
    exact (((N.app (N9 _ (Nat.le_trans E.1 gb) (Nat.le_trans E.1 E1.1))).app (fun y hy => Nat.le_trans E0.1 (NX y hy))).app (Fr.nil _)).app (Fr.nil _)
  have tail : ∀ (q4 q5 q6 q7 : Int32) (o ee : Addr) (ke : ClassId) (os : List Int32) (ko : ClassId) (T : State) (h : Heap) (L : List Loc), Stand p l e room_1 (s.setVm vm0) m #[.int i0, .int i1, .int i2, .int i3] below meth c T L 2 60 → T.heap = h → Ext h0 h → Fr h0.size L → Arv Z h o ko .char (Int32.ofNat os.length) (os.map Value.int) (.int 0) → Arv Z h ee ke .char (Int32.ofNat (own_es os).length) ((own_es os).map Value.int) (.int 0) → (∀ d ∈ os, ¬ 255 < d) → os.length ≤ 3 → Endz p.tables e below (FinW s room_1 (fun v _ _ L => v = some (.int 1) ∧ Fr h0.size L)) T (mkF m 549 #[.val (.int i0), .val (.int i1), .val (.int i2), .val (.int i3), .val (.int q4), .val (.int q5), .val (.int q6), .val (.int q7), .val (.ref o), .val (.ref ee), .unset, .unset, .unset, .unset] []) := by
    intro q4 q5 q6 q7 o ee ke os ko T h L X eT E N VO VE ok h3
    have CH := H.trans (CHr.ext E H.1)
    refine n_O (n := 552) X hx hZ hown (hw _ (List.mem_of_getElem? (i := 1) rfl)) (hw _ (List.mem_of_getElem? (i := 2) rfl)) (hw _ (List.mem_of_getElem? (i := 3) rfl)) eT (hb hby at_549) rfl (by decide) (by decide) (fun T1 h1 b1 g1 X1 e1 E1 A1 D1 U1 => ?_)
    have FC1 := D1 (O := "java/lang/String") (nm := "coder") (d := "B") (ty := .byte) (Or.inr (hw _ (List.mem_of_getElem? (i := 17) rfl))) (by decide +kernel)
    have FV1 := D1 (O := "java/lang/String") (nm := "value") (d := "[B") (ty := .array .byte) (Or.inr (hw _ (List.mem_of_getElem? (i := 16) rfl))) (by decide +kernel)
    refine w_dup (n := 553) X1.here hx (hb hby at_552) rfl rfl ?_
    refine w_aload (n := 555) X1.here hx (hb hby at_553) rfl rfl rfl ?_
    have gb : h.size ≤ b1 := Nat.le_of_eq g1.symm
    have gb0 := Nat.le_trans E.1 gb
    have EK := Ext.tr E E1
    by_cases q : os = []
    · subst q
      have CK := CHr.ext E1 CH.1
      have Sf := Safe.ext E1 CH.1 (Safe.new (Z := Z) (EL := own_EL) (vm := vm0) gb)
      refine c_NW (n := 558) (b := b1) (argsL := [(.ref o)]) (rest := [(.ref b1)]) X1 hx hZ rfl hown (rm_i1e l Z a0 hw [] hEL wS _ b1 o ko _ _ h1 (VO.ext E1) A1 _ _ FC1 FV1 Sf) e1 hS EK.1 hEL CK.1 (hw _ (List.mem_of_getElem? (i := 4) rfl)) (hw _ (List.mem_of_getElem? (i := 5) rfl)) (hw _ (List.mem_of_getElem? (i := 3) rfl)) (hw _ (List.mem_of_getElem? (i := 6) rfl)) (by decide) 1 (by decide) (by decide) (by decide) (by decide) (by rw [hml]; rfl) pd_30 rfl rfl (Nat.le_of_ble_eq_true rfl) (hb hby at_555) rfl (fun v2 T2 L2 X2 hS hZ hown hQ2 => ?_)
      obtain ⟨rfl, SS, K9, N9, C9⟩ := hQ2
      show Endz _ _ _ _ T2 (mkF m 558 #[.val (.int i0), .val (.int i1), .val (.int i2), .val (.int i3), .val (.int q4), .val (.int q5), .val (.int q6), .val (.int q7), .val (.ref o), .val (.ref ee), .unset, .unset, .unset, .unset] [(.ref b1)])
      exact tail2 q4 q5 q6 q7 o ee ke [] _ _ _ _ _ b1 (X2.mono (by decide) (by decide)) rfl hS (Nat.le_refl _) hZ hown ((CH.trans CK).trans C9) (Ext.tr E (Ext.keep1 E1 K9 gb)) (N.app (N9 _ gb0 EK.1)) SS (VE.ext (Ext.keep1 E1 K9 gb)) ok h3
    · refine c_N (n := 558) (b := b1) (argsL := [(.ref o)]) (rest := [(.ref b1)]) X1 hx hZ rfl hown (rm_i1 l Z a0 hw [] b1 o ko os _ cs hcs (SC.ext EK) q (by omega) (own_okm ok) (VO.ext E1) A1 _ _ FC1 FV1) e1 (hw _ (List.mem_of_getElem? (i := 4) rfl)) (hw _ (List.mem_of_getElem? (i := 5) rfl)) (hw _ (List.mem_of_getElem? (i := 3) rfl)) (hw _ (List.mem_of_getElem? (i := 6) rfl)) (by decide) 1 (by decide) (by decide) (by decide) (by decide) (by rw [hml]; rfl) pd_30 rfl rfl (Nat.le_of_ble_eq_true rfl) (hb hby at_555) rfl (fun v3 T3 L3 X3 hQ3 => ?_)
      obtain ⟨rfl, SS, K9, N9⟩ := hQ3
      show Endz _ _ _ _ T3 (mkF m 558 #[.val (.int i0), .val (.int i1), .val (.int i2), .val (.int i3), .val (.int q4), .val (.int q5), .val (.int q6), .val (.int q7), .val (.ref o), .val (.ref ee), .unset, .unset, .unset, .unset] [(.ref b1)])
      have EH := Ext.keep1 E1 K9 gb
      exact tail2 q4 q5 q6 q7 o ee ke os _ _ _ _ _ b1 (X3.mono (by decide) (by decide)) rfl hS (Ext.tr E EH).1 hZ hown (CH.trans (CHr.ext EH CH.1)) (Ext.tr E EH) (N.app (N9 _ gb0 EK.1)) SS (VE.ext EH) ok h3
  refine w_iloadN (n := 1) X0.here hx (hb hby at_0) rfl rfl ?_
  refine w_iconst (z := (3 : Int32)) (n := 2) X0.here hx (hb hby at_1) rfl rfl ?_
  refine w_iand (n := 3) X0.here hx (hb hby at_2) rfl ?_
  refine w_istore (Ls' := #[.val (.int i0), .val (.int i1), .val (.int i2), .val (.int i3), .val (.int (i0 &&& (3 : Int32))), .unset, .unset, .unset, .unset, .unset, .unset, .unset, .unset, .unset]) (n := 5) X0.here hx (hb hby at_3) rfl rfl ?_
  refine w_iloadN (n := 6) X0.here hx (hb hby at_5) rfl rfl ?_
  refine w_sipush (z := (255 : Int32)) (n := 9) X0.here hx (hb hby at_6) rfl rfl ?_
  refine w_iand (n := 10) X0.here hx (hb hby at_9) rfl ?_
  refine w_i2c (n := 11) X0.here hx (hb hby at_10) rfl ?_
  rw [i2c_mask]
  show Endz _ _ _ _ T0 (mkF m 11 #[.val (.int i0), .val (.int i1), .val (.int i2), .val (.int i3), .val (.int (i0 &&& (3 : Int32))), .unset, .unset, .unset, .unset, .unset, .unset, .unset, .unset, .unset] [(.int (i1 &&& (255 : Int32)))])
  refine w_istore (Ls' := #[.val (.int i0), .val (.int i1), .val (.int i2), .val (.int i3), .val (.int (i0 &&& (3 : Int32))), .val (.int (i1 &&& (255 : Int32))), .unset, .unset, .unset, .unset, .unset, .unset, .unset, .unset]) (n := 13) X0.here hx (hb hby at_11) rfl rfl ?_
  refine w_iloadN (n := 14) X0.here hx (hb hby at_13) rfl rfl ?_
  refine w_sipush (z := (255 : Int32)) (n := 17) X0.here hx (hb hby at_14) rfl rfl ?_
  refine w_iand (n := 18) X0.here hx (hb hby at_17) rfl ?_
  refine w_i2c (n := 19) X0.here hx (hb hby at_18) rfl ?_
  rw [i2c_mask]
  show Endz _ _ _ _ T0 (mkF m 19 #[.val (.int i0), .val (.int i1), .val (.int i2), .val (.int i3), .val (.int (i0 &&& (3 : Int32))), .val (.int (i1 &&& (255 : Int32))), .unset, .unset, .unset, .unset, .unset, .unset, .unset, .unset] [(.int (i2 &&& (255 : Int32)))])
  refine w_istore (Ls' := #[.val (.int i0), .val (.int i1), .val (.int i2), .val (.int i3), .val (.int (i0 &&& (3 : Int32))), .val (.int (i1 &&& (255 : Int32))), .val (.int (i2 &&& (255 : Int32))), .unset, .unset, .unset, .unset, .unset, .unset, .unset]) (n := 21) X0.here hx (hb hby at_19) rfl rfl ?_
  refine w_iloadN (n := 22) X0.here hx (hb hby at_21) rfl rfl ?_
  refine w_sipush (z := (255 : Int32)) (n := 25) X0.here hx (hb hby at_22) rfl rfl ?_
  refine w_iand (n := 26) X0.here hx (hb hby at_25) rfl ?_
  refine w_i2c (n := 27) X0.here hx (hb hby at_26) rfl ?_
  rw [i2c_mask]
  show Endz _ _ _ _ T0 (mkF m 27 #[.val (.int i0), .val (.int i1), .val (.int i2), .val (.int i3), .val (.int (i0 &&& (3 : Int32))), .val (.int (i1 &&& (255 : Int32))), .val (.int (i2 &&& (255 : Int32))), .unset, .unset, .unset, .unset, .unset, .unset, .unset] [(.int (i3 &&& (255 : Int32)))])
  refine w_istore (Ls' := #[.val (.int i0), .val (.int i1), .val (.int i2), .val (.int i3), .val (.int (i0 &&& (3 : Int32))), .val (.int (i1 &&& (255 : Int32))), .val (.int (i2 &&& (255 : Int32))), .val (.int (i3 &&& (255 : Int32))), .unset, .unset, .unset, .unset, .unset, .unset]) (n := 29) X0.here hx (hb hby at_27) rfl rfl ?_
  refine w_iload (n := 31) X0.here hx (hb hby at_29) rfl rfl ?_
  refine w_ifne (n1 := 144) (n2 := 34) X0.here hx (hb hby at_31) (by decide) (by decide) rfl (fun hc31 => ?_) (fun hc31 => ?_)
  · refine w_iload (n := 146) X0.here hx (hb hby at_144) rfl rfl ?_
    refine w_iconst (z := (1 : Int32)) (n := 147) X0.here hx (hb hby at_146) rfl rfl ?_
    refine w_icmpne (n1 := 271) (n2 := 150) X0.here hx (hb hby at_147) (by decide) (by decide) rfl (fun hc147 => ?_) (fun hc147 => ?_)
    · refine w_iload (n := 273) X0.here hx (hb hby at_271) rfl rfl ?_
      refine w_iconst (z := (2 : Int32)) (n := 274) X0.here hx (hb hby at_273) rfl rfl ?_
      refine w_icmpne (n1 := 409) (n2 := 277) X0.here hx (hb hby at_274) (by decide) (by decide) rfl (fun hc274 => ?_) (fun hc274 => ?_)
      · refine w_iconst (z := (3 : Int32)) (n := 410) X0.here hx (hb hby at_409) rfl rfl ?_
        refine n_P (n := 412) X0 hx hZ (hw _ (List.mem_of_getElem? (i := 0) rfl)) e0 (hb hby at_410) rfl (by decide) 3 (by decide) (by decide) (by decide) (by decide) (fun T1 h1 k1 b1 g1 X1 e1 E1 V1 => ?_)
        have Ef1 := E1
        have gb1 : h0.size ≤ b1 := Nat.le_of_eq g1.symm
        have N1 := Fr.nil h0.size
        have Vf1 := pad0 V1 3
        refine w_dup (n := 413) X1.here hx (hb hby at_412) rfl rfl ?_
        refine w_iconst (z := (0 : Int32)) (n := 414) X1.here hx (hb hby at_413) rfl rfl ?_
        refine w_iload (n := 416) X1.here hx (hb hby at_414) rfl rfl ?_
        refine s_C (n := 417) X1 hx hZ e1 Vf1 0 rfl (Nat.le_of_ble_eq_true rfl) (by decide) (by decide) (hb hby at_416) rfl (fun T2 h2 X2 e2 W2 (Vf2 : Arv Z h2 b1 k1 .char (3 : Int32) [.int (nar .char (i1 &&& (255 : Int32))), .int (0 : Int32), .int (0 : Int32)] (.int 0)) => ?_)
        have Ef2 := Ext.wr Ef1 W2 gb1
        have N2 := Fr.snoc X2 N1 gb1
        refine w_dup (n := 418) X2.here hx (hb hby at_417) rfl rfl ?_
        refine w_iconst (z := (1 : Int32)) (n := 419) X2.here hx (hb hby at_418) rfl rfl ?_
        refine w_iload (n := 421) X2.here hx (hb hby at_419) rfl rfl ?_
        refine s_C (n := 422) X2 hx hZ e2 Vf2 1 rfl (Nat.le_of_ble_eq_true rfl) (by decide) (by decide) (hb hby at_421) rfl (fun T3 h3 X3 e3 W3 (Vf3 : Arv Z h3 b1 k1 .char (3 : Int32) [.int (nar .char (i1 &&& (255 : Int32))), .int (nar .char (i2 &&& (255 : Int32))), .int (0 : Int32)] (.int 0)) => ?_)
        have Ef3 := Ext.wr Ef2 W3 gb1
        have N3 := Fr.snoc X3 N2 gb1
        refine w_dup (n := 423) X3.here hx (hb hby at_422) rfl rfl ?_
        refine w_iconst (z := (2 : Int32)) (n := 424) X3.here hx (hb hby at_423) rfl rfl ?_
        refine w_iload (n := 426) X3.here hx (hb hby at_424) rfl rfl ?_
        refine s_C (n := 427) X3 hx hZ e3 Vf3 2 rfl (Nat.le_of_ble_eq_true rfl) (by decide) (by decide) (hb hby at_426) rfl (fun T4 h4 X4 e4 W4 (Vf4 : Arv Z h4 b1 k1 .char (3 : Int32) [.int (nar .char (i1 &&& (255 : Int32))), .int (nar .char (i2 &&& (255 : Int32))), .int (nar .char (i3 &&& (255 : Int32)))] (.int 0)) => ?_)
        have Ef4 := Ext.wr Ef3 W4 gb1
        have N4 := Fr.snoc X4 N3 gb1
        simp only [own_narc] at Vf4
        refine w_astore (Ls' := #[.val (.int i0), .val (.int i1), .val (.int i2), .val (.int i3), .val (.int (i0 &&& (3 : Int32))), .val (.int (i1 &&& (255 : Int32))), .val (.int (i2 &&& (255 : Int32))), .val (.int (i3 &&& (255 : Int32))), .val (.ref b1), .unset, .unset, .unset, .unset, .unset]) (n := 429) X4.here hx (hb hby at_427) rfl rfl rfl ?_
        refine w_bipush (z := (20 : Int32)) (n := 431) X4.here hx (hb hby at_429) rfl rfl ?_
        refine n_P (n := 433) X4 hx hZ (hw _ (List.mem_of_getElem? (i := 0) rfl)) e4 (hb hby at_431) rfl (by decide) 20 (by decide) (by decide) (by decide) (by decide) (fun T5 h5 k5 b5 g5 X5 e5 E5 V5 => ?_)
        have Ef5 := Ext.tr Ef4 E5
        have gb5 : h0.size ≤ b5 := Nat.le_trans Ef4.1 (Nat.le_of_eq g5.symm)
        have N5 := N4
        have Vf5 := pad0 V5 20
        refine w_dup (n := 434) X5.here hx (hb hby at_433) rfl rfl ?_
        refine w_iconst (z := (0 : Int32)) (n := 435) X5.here hx (hb hby at_434) rfl rfl ?_
        refine w_bipush (z := (117 : Int32)) (n := 437) X5.here hx (hb hby at_435) rfl rfl ?_
        refine s_C (n := 438) X5 hx hZ e5 Vf5 0 rfl (Nat.le_of_ble_eq_true rfl) (by decide) (by decide) (hb hby at_437) rfl (fun T6 h6 X6 e6 W6 (Vf6 : Arv Z h6 b5 k5 .char (20 : Int32) [.int (117 : Int32), .int (0 : Int32), .int (0 : Int32), .int (0 : Int32), .int (0 : Int32), .int (0 : Int32), .int (0 : Int32), .int (0 : Int32), .int (0 : Int32), .int (0 : Int32), .int (0 : Int32), .int (0 : Int32), .int (0 : Int32), .int (0 : Int32), .int (0 : Int32), .int (0 : Int32), .int (0 : Int32), .int (0 : Int32), .int (0 : Int32), .int (0 : Int32)] (.int 0)) => ?_)
        have Ef6 := Ext.wr Ef5 W6 gb5
        have N6 := Fr.snoc X6 N5 gb5
        refine w_dup (n := 439) X6.here hx (hb hby at_438) rfl rfl ?_
        refine w_iconst (z := (1 : Int32)) (n := 440) X6.here hx (hb hby at_439) rfl rfl ?_
        refine w_bipush (z := (110 : Int32)) (n := 442) X6.here hx (hb hby at_440) rfl rfl ?_
        refine s_C (n := 443) X6 hx hZ e6 Vf6 1 rfl (Nat.le_of_ble_eq_true rfl) (by decide) (by decide) (hb hby at_442) rfl (fun T7 h7 X7 e7 W7 (Vf7 : Arv Z h7 b5 k5 .char (20 : Int32) [.int (117 : Int32), .int (110 : Int32), .int (0 : Int32), .int (0 : Int32), .int (0 : Int32), .int (0 : Int32), .int (0 : Int32), .int (0 : Int32), .int (0 : Int32), .int (0 : Int32), .int (0 : Int32), .int (0 : Int32), .int (0 : Int32), .int (0 : Int32), .int (0 : Int32), .int (0 : Int32), .int (0 : Int32), .int (0 : Int32), .int (0 : Int32), .int (0 : Int32)] (.int 0)) => ?_)
        have Ef7 := Ext.wr Ef6 W7 gb5
        have N7 := Fr.snoc X7 N6 gb5
        refine w_dup (n := 444) X7.here hx (hb hby at_443) rfl rfl ?_
        refine w_iconst (z := (2 : Int32)) (n := 445) X7.here hx (hb hby at_444) rfl rfl ?_
        refine w_bipush (z := (107 : Int32)) (n := 447) X7.here hx (hb hby at_445) rfl rfl ?_
        refine s_C (n := 448) X7 hx hZ e7 Vf7 2 rfl (Nat.le_of_ble_eq_true rfl) (by decide) (by decide) (hb hby at_447) rfl (fun T8 h8 X8 e8 W8 (Vf8 : Arv Z h8 b5 k5 .char (20 : Int32) [.int (117 : Int32), .int (110 : Int32), .int (107 : Int32), .int (0 : Int32), .int (0 : Int32), .int (0 : Int32), .int (0 : Int32), .int (0 : Int32), .int (0 : Int32), .int (0 : Int32), .int (0 : Int32), .int (0 : Int32), .int (0 : Int32), .int (0 : Int32), .int (0 : Int32), .int (0 : Int32), .int (0 : Int32), .int (0 : Int32), .int (0 : Int32), .int (0 : Int32)] (.int 0)) => ?_)
        have Ef8 := Ext.wr Ef7 W8 gb5
        have N8 := Fr.snoc X8 N7 gb5
        refine w_dup (n := 449) X8.here hx (hb hby at_448) rfl rfl ?_
        refine w_iconst (z := (3 : Int32)) (n := 450) X8.here hx (hb hby at_449) rfl rfl ?_
        refine w_bipush (z := (110 : Int32)) (n := 452) X8.here hx (hb hby at_450) rfl rfl ?_
        refine s_C (n := 453) X8 hx hZ e8 Vf8 3 rfl (Nat.le_of_ble_eq_true rfl) (by decide) (by decide) (hb hby at_452) rfl (fun T9 h9 X9 e9 W9 (Vf9 : Arv Z h9 b5 k5 .char (20 : Int32) [.int (117 : Int32), .int (110 : Int32), .int (107 : Int32), .int (110 : Int32), .int (0 : Int32), .int (0 : Int32), .int (0 : Int32), .int (0 : Int32), .int (0 : Int32), .int (0 : Int32), .int (0 : Int32), .int (0 : Int32), .int (0 : Int32), .int (0 : Int32), .int (0 : Int32), .int (0 : Int32), .int (0 : Int32), .int (0 : Int32), .int (0 : Int32), .int (0 : Int32)] (.int 0)) => ?_)
        have Ef9 := Ext.wr Ef8 W9 gb5
        have N9 := Fr.snoc X9 N8 gb5
        refine w_dup (n := 454) X9.here hx (hb hby at_453) rfl rfl ?_
        refine w_iconst (z := (4 : Int32)) (n := 455) X9.here hx (hb hby at_454) rfl rfl ?_
        refine w_bipush (z := (111 : Int32)) (n := 457) X9.here hx (hb hby at_455) rfl rfl ?_
        refine s_C (n := 458) X9 hx hZ e9 Vf9 4 rfl (Nat.le_of_ble_eq_true rfl) (by decide) (by decide) (hb hby at_457) rfl (fun T10 h10 X10 e10 W10 (Vf10 : Arv Z h10 b5 k5 .char (20 : Int32) [.int (117 : Int32), .int (110 : Int32), .int (107 : Int32), .int (110 : Int32), .int (111 : Int32), .int (0 : Int32), .int (0 : Int32), .int (0 : Int32), .int (0 : Int32), .int (0 : Int32), .int (0 : Int32), .int (0 : Int32), .int (0 : Int32), .int (0 : Int32), .int (0 : Int32), .int (0 : Int32), .int (0 : Int32), .int (0 : Int32), .int (0 : Int32), .int (0 : Int32)] (.int 0)) => ?_)
        have Ef10 := Ext.wr Ef9 W10 gb5
        have N10 := Fr.snoc X10 N9 gb5
        refine w_dup (n := 459) X10.here hx (hb hby at_458) rfl rfl ?_
        refine w_iconst (z := (5 : Int32)) (n := 460) X10.here hx (hb hby at_459) rfl rfl ?_
        refine w_bipush (z := (119 : Int32)) (n := 462) X10.here hx (hb hby at_460) rfl rfl ?_
        refine s_C (n := 463) X10 hx hZ e10 Vf10 5 rfl (Nat.le_of_ble_eq_true rfl) (by decide) (by decide) (hb hby at_462) rfl (fun T11 h11 X11 e11 W11 (Vf11 : Arv Z h11 b5 k5 .char (20 : Int32) [.int (117 : Int32), .int (110 : Int32), .int (107 : Int32), .int (110 : Int32), .int (111 : Int32), .int (119 : Int32), .int (0 : Int32), .int (0 : Int32), .int (0 : Int32), .int (0 : Int32), .int (0 : Int32), .int (0 : Int32), .int (0 : Int32), .int (0 : Int32), .int (0 : Int32), .int (0 : Int32), .int (0 : Int32), .int (0 : Int32), .int (0 : Int32), .int (0 : Int32)] (.int 0)) => ?_)
        have Ef11 := Ext.wr Ef10 W11 gb5
        have N11 := Fr.snoc X11 N10 gb5
        refine w_dup (n := 464) X11.here hx (hb hby at_463) rfl rfl ?_
        refine w_bipush (z := (6 : Int32)) (n := 466) X11.here hx (hb hby at_464) rfl rfl ?_
        refine w_bipush (z := (110 : Int32)) (n := 468) X11.here hx (hb hby at_466) rfl rfl ?_
        refine s_C (n := 469) X11 hx hZ e11 Vf11 6 rfl (Nat.le_of_ble_eq_true rfl) (by decide) (by decide) (hb hby at_468) rfl (fun T12 h12 X12 e12 W12 (Vf12 : Arv Z h12 b5 k5 .char (20 : Int32) [.int (117 : Int32), .int (110 : Int32), .int (107 : Int32), .int (110 : Int32), .int (111 : Int32), .int (119 : Int32), .int (110 : Int32), .int (0 : Int32), .int (0 : Int32), .int (0 : Int32), .int (0 : Int32), .int (0 : Int32), .int (0 : Int32), .int (0 : Int32), .int (0 : Int32), .int (0 : Int32), .int (0 : Int32), .int (0 : Int32), .int (0 : Int32), .int (0 : Int32)] (.int 0)) => ?_)
        have Ef12 := Ext.wr Ef11 W12 gb5
        have N12 := Fr.snoc X12 N11 gb5
        refine w_dup (n := 470) X12.here hx (hb hby at_469) rfl rfl ?_
        refine w_bipush (z := (7 : Int32)) (n := 472) X12.here hx (hb hby at_470) rfl rfl ?_
        refine w_bipush (z := (32 : Int32)) (n := 474) X12.here hx (hb hby at_472) rfl rfl ?_
        refine s_C (n := 475) X12 hx hZ e12 Vf12 7 rfl (Nat.le_of_ble_eq_true rfl) (by decide) (by decide) (hb hby at_474) rfl (fun T13 h13 X13 e13 W13 (Vf13 : Arv Z h13 b5 k5 .char (20 : Int32) [.int (117 : Int32), .int (110 : Int32), .int (107 : Int32), .int (110 : Int32), .int (111 : Int32), .int (119 : Int32), .int (110 : Int32), .int (32 : Int32), .int (0 : Int32), .int (0 : Int32), .int (0 : Int32), .int (0 : Int32), .int (0 : Int32), .int (0 : Int32), .int (0 : Int32), .int (0 : Int32), .int (0 : Int32), .int (0 : Int32), .int (0 : Int32), .int (0 : Int32)] (.int 0)) => ?_)
        have Ef13 := Ext.wr Ef12 W13 gb5
        have N13 := Fr.snoc X13 N12 gb5
        refine w_dup (n := 476) X13.here hx (hb hby at_475) rfl rfl ?_
        refine w_bipush (z := (8 : Int32)) (n := 478) X13.here hx (hb hby at_476) rfl rfl ?_
        refine w_bipush (z := (111 : Int32)) (n := 480) X13.here hx (hb hby at_478) rfl rfl ?_
        refine s_C (n := 481) X13 hx hZ e13 Vf13 8 rfl (Nat.le_of_ble_eq_true rfl) (by decide) (by decide) (hb hby at_480) rfl (fun T14 h14 X14 e14 W14 (Vf14 : Arv Z h14 b5 k5 .char (20 : Int32) [.int (117 : Int32), .int (110 : Int32), .int (107 : Int32), .int (110 : Int32), .int (111 : Int32), .int (119 : Int32), .int (110 : Int32), .int (32 : Int32), .int (111 : Int32), .int (0 : Int32), .int (0 : Int32), .int (0 : Int32), .int (0 : Int32), .int (0 : Int32), .int (0 : Int32), .int (0 : Int32), .int (0 : Int32), .int (0 : Int32), .int (0 : Int32), .int (0 : Int32)] (.int 0)) => ?_)
        have Ef14 := Ext.wr Ef13 W14 gb5
        have N14 := Fr.snoc X14 N13 gb5
        refine w_dup (n := 482) X14.here hx (hb hby at_481) rfl rfl ?_
        refine w_bipush (z := (9 : Int32)) (n := 484) X14.here hx (hb hby at_482) rfl rfl ?_
        refine w_bipush (z := (112 : Int32)) (n := 486) X14.here hx (hb hby at_484) rfl rfl ?_
        refine s_C (n := 487) X14 hx hZ e14 Vf14 9 rfl (Nat.le_of_ble_eq_true rfl) (by decide) (by decide) (hb hby at_486) rfl (fun T15 h15 X15 e15 W15 (Vf15 : Arv Z h15 b5 k5 .char (20 : Int32) [.int (117 : Int32), .int (110 : Int32), .int (107 : Int32), .int (110 : Int32), .int (111 : Int32), .int (119 : Int32), .int (110 : Int32), .int (32 : Int32), .int (111 : Int32), .int (112 : Int32), .int (0 : Int32), .int (0 : Int32), .int (0 : Int32), .int (0 : Int32), .int (0 : Int32), .int (0 : Int32), .int (0 : Int32), .int (0 : Int32), .int (0 : Int32), .int (0 : Int32)] (.int 0)) => ?_)
        have Ef15 := Ext.wr Ef14 W15 gb5
        have N15 := Fr.snoc X15 N14 gb5
        refine w_dup (n := 488) X15.here hx (hb hby at_487) rfl rfl ?_
        refine w_bipush (z := (10 : Int32)) (n := 490) X15.here hx (hb hby at_488) rfl rfl ?_
        refine w_bipush (z := (116 : Int32)) (n := 492) X15.here hx (hb hby at_490) rfl rfl ?_
        refine s_C (n := 493) X15 hx hZ e15 Vf15 10 rfl (Nat.le_of_ble_eq_true rfl) (by decide) (by decide) (hb hby at_492) rfl (fun T16 h16 X16 e16 W16 (Vf16 : Arv Z h16 b5 k5 .char (20 : Int32) [.int (117 : Int32), .int (110 : Int32), .int (107 : Int32), .int (110 : Int32), .int (111 : Int32), .int (119 : Int32), .int (110 : Int32), .int (32 : Int32), .int (111 : Int32), .int (112 : Int32), .int (116 : Int32), .int (0 : Int32), .int (0 : Int32), .int (0 : Int32), .int (0 : Int32), .int (0 : Int32), .int (0 : Int32), .int (0 : Int32), .int (0 : Int32), .int (0 : Int32)] (.int 0)) => ?_)
        have Ef16 := Ext.wr Ef15 W16 gb5
        have N16 := Fr.snoc X16 N15 gb5
        refine w_dup (n := 494) X16.here hx (hb hby at_493) rfl rfl ?_
        refine w_bipush (z := (11 : Int32)) (n := 496) X16.here hx (hb hby at_494) rfl rfl ?_
        refine w_bipush (z := (105 : Int32)) (n := 498) X16.here hx (hb hby at_496) rfl rfl ?_
        refine s_C (n := 499) X16 hx hZ e16 Vf16 11 rfl (Nat.le_of_ble_eq_true rfl) (by decide) (by decide) (hb hby at_498) rfl (fun T17 h17 X17 e17 W17 (Vf17 : Arv Z h17 b5 k5 .char (20 : Int32) [.int (117 : Int32), .int (110 : Int32), .int (107 : Int32), .int (110 : Int32), .int (111 : Int32), .int (119 : Int32), .int (110 : Int32), .int (32 : Int32), .int (111 : Int32), .int (112 : Int32), .int (116 : Int32), .int (105 : Int32), .int (0 : Int32), .int (0 : Int32), .int (0 : Int32), .int (0 : Int32), .int (0 : Int32), .int (0 : Int32), .int (0 : Int32), .int (0 : Int32)] (.int 0)) => ?_)
        have Ef17 := Ext.wr Ef16 W17 gb5
        have N17 := Fr.snoc X17 N16 gb5
        refine w_dup (n := 500) X17.here hx (hb hby at_499) rfl rfl ?_
        refine w_bipush (z := (12 : Int32)) (n := 502) X17.here hx (hb hby at_500) rfl rfl ?_
        refine w_bipush (z := (111 : Int32)) (n := 504) X17.here hx (hb hby at_502) rfl rfl ?_
        refine s_C (n := 505) X17 hx hZ e17 Vf17 12 rfl (Nat.le_of_ble_eq_true rfl) (by decide) (by decide) (hb hby at_504) rfl (fun T18 h18 X18 e18 W18 (Vf18 : Arv Z h18 b5 k5 .char (20 : Int32) [.int (117 : Int32), .int (110 : Int32), .int (107 : Int32), .int (110 : Int32), .int (111 : Int32), .int (119 : Int32), .int (110 : Int32), .int (32 : Int32), .int (111 : Int32), .int (112 : Int32), .int (116 : Int32), .int (105 : Int32), .int (111 : Int32), .int (0 : Int32), .int (0 : Int32), .int (0 : Int32), .int (0 : Int32), .int (0 : Int32), .int (0 : Int32), .int (0 : Int32)] (.int 0)) => ?_)
        have Ef18 := Ext.wr Ef17 W18 gb5
        have N18 := Fr.snoc X18 N17 gb5
        refine w_dup (n := 506) X18.here hx (hb hby at_505) rfl rfl ?_
        refine w_bipush (z := (13 : Int32)) (n := 508) X18.here hx (hb hby at_506) rfl rfl ?_
        refine w_bipush (z := (110 : Int32)) (n := 510) X18.here hx (hb hby at_508) rfl rfl ?_
        refine s_C (n := 511) X18 hx hZ e18 Vf18 13 rfl (Nat.le_of_ble_eq_true rfl) (by decide) (by decide) (hb hby at_510) rfl (fun T19 h19 X19 e19 W19 (Vf19 : Arv Z h19 b5 k5 .char (20 : Int32) [.int (117 : Int32), .int (110 : Int32), .int (107 : Int32), .int (110 : Int32), .int (111 : Int32), .int (119 : Int32), .int (110 : Int32), .int (32 : Int32), .int (111 : Int32), .int (112 : Int32), .int (116 : Int32), .int (105 : Int32), .int (111 : Int32), .int (110 : Int32), .int (0 : Int32), .int (0 : Int32), .int (0 : Int32), .int (0 : Int32), .int (0 : Int32), .int (0 : Int32)] (.int 0)) => ?_)
        have Ef19 := Ext.wr Ef18 W19 gb5
        have N19 := Fr.snoc X19 N18 gb5
        refine w_dup (n := 512) X19.here hx (hb hby at_511) rfl rfl ?_
        refine w_bipush (z := (14 : Int32)) (n := 514) X19.here hx (hb hby at_512) rfl rfl ?_
        refine w_bipush (z := (32 : Int32)) (n := 516) X19.here hx (hb hby at_514) rfl rfl ?_
        refine s_C (n := 517) X19 hx hZ e19 Vf19 14 rfl (Nat.le_of_ble_eq_true rfl) (by decide) (by decide) (hb hby at_516) rfl (fun T20 h20 X20 e20 W20 (Vf20 : Arv Z h20 b5 k5 .char (20 : Int32) [.int (117 : Int32), .int (110 : Int32), .int (107 : Int32), .int (110 : Int32), .int (111 : Int32), .int (119 : Int32), .int (110 : Int32), .int (32 : Int32), .int (111 : Int32), .int (112 : Int32), .int (116 : Int32), .int (105 : Int32), .int (111 : Int32), .int (110 : Int32), .int (32 : Int32), .int (0 : Int32), .int (0 : Int32), .int (0 : Int32), .int (0 : Int32), .int (0 : Int32)] (.int 0)) => ?_)
        have Ef20 := Ext.wr Ef19 W20 gb5
        have N20 := Fr.snoc X20 N19 gb5
        refine w_dup (n := 518) X20.here hx (hb hby at_517) rfl rfl ?_
        refine w_bipush (z := (15 : Int32)) (n := 520) X20.here hx (hb hby at_518) rfl rfl ?_
        refine w_bipush (z := (39 : Int32)) (n := 522) X20.here hx (hb hby at_520) rfl rfl ?_
        refine s_C (n := 523) X20 hx hZ e20 Vf20 15 rfl (Nat.le_of_ble_eq_true rfl) (by decide) (by decide) (hb hby at_522) rfl (fun T21 h21 X21 e21 W21 (Vf21 : Arv Z h21 b5 k5 .char (20 : Int32) [.int (117 : Int32), .int (110 : Int32), .int (107 : Int32), .int (110 : Int32), .int (111 : Int32), .int (119 : Int32), .int (110 : Int32), .int (32 : Int32), .int (111 : Int32), .int (112 : Int32), .int (116 : Int32), .int (105 : Int32), .int (111 : Int32), .int (110 : Int32), .int (32 : Int32), .int (39 : Int32), .int (0 : Int32), .int (0 : Int32), .int (0 : Int32), .int (0 : Int32)] (.int 0)) => ?_)
        have Ef21 := Ext.wr Ef20 W21 gb5
        have N21 := Fr.snoc X21 N20 gb5
        refine w_dup (n := 524) X21.here hx (hb hby at_523) rfl rfl ?_
        refine w_bipush (z := (16 : Int32)) (n := 526) X21.here hx (hb hby at_524) rfl rfl ?_
        refine w_iload (n := 528) X21.here hx (hb hby at_526) rfl rfl ?_
        refine s_C (n := 529) X21 hx hZ e21 Vf21 16 rfl (Nat.le_of_ble_eq_true rfl) (by decide) (by decide) (hb hby at_528) rfl (fun T22 h22 X22 e22 W22 (Vf22 : Arv Z h22 b5 k5 .char (20 : Int32) [.int (117 : Int32), .int (110 : Int32), .int (107 : Int32), .int (110 : Int32), .int (111 : Int32), .int (119 : Int32), .int (110 : Int32), .int (32 : Int32), .int (111 : Int32), .int (112 : Int32), .int (116 : Int32), .int (105 : Int32), .int (111 : Int32), .int (110 : Int32), .int (32 : Int32), .int (39 : Int32), .int (nar .char (i1 &&& (255 : Int32))), .int (0 : Int32), .int (0 : Int32), .int (0 : Int32)] (.int 0)) => ?_)
        have Ef22 := Ext.wr Ef21 W22 gb5
        have N22 := Fr.snoc X22 N21 gb5
        refine w_dup (n := 530) X22.here hx (hb hby at_529) rfl rfl ?_
        refine w_bipush (z := (17 : Int32)) (n := 532) X22.here hx (hb hby at_530) rfl rfl ?_
        refine w_iload (n := 534) X22.here hx (hb hby at_532) rfl rfl ?_
        refine s_C (n := 535) X22 hx hZ e22 Vf22 17 rfl (Nat.le_of_ble_eq_true rfl) (by decide) (by decide) (hb hby at_534) rfl (fun T23 h23 X23 e23 W23 (Vf23 : Arv Z h23 b5 k5 .char (20 : Int32) [.int (117 : Int32), .int (110 : Int32), .int (107 : Int32), .int (110 : Int32), .int (111 : Int32), .int (119 : Int32), .int (110 : Int32), .int (32 : Int32), .int (111 : Int32), .int (112 : Int32), .int (116 : Int32), .int (105 : Int32), .int (111 : Int32), .int (110 : Int32), .int (32 : Int32), .int (39 : Int32), .int (nar .char (i1 &&& (255 : Int32))), .int (nar .char (i2 &&& (255 : Int32))), .int (0 : Int32), .int (0 : Int32)] (.int 0)) => ?_)
        have Ef23 := Ext.wr Ef22 W23 gb5
        have N23 := Fr.snoc X23 N22 gb5
        refine w_dup (n := 536) X23.here hx (hb hby at_535) rfl rfl ?_
        refine w_bipush (z := (18 : Int32)) (n := 538) X23.here hx (hb hby at_536) rfl rfl ?_
        refine w_iload (n := 540) X23.here hx (hb hby at_538) rfl rfl ?_
        refine s_C (n := 541) X23 hx hZ e23 Vf23 18 rfl (Nat.le_of_ble_eq_true rfl) (by decide) (by decide) (hb hby at_540) rfl (fun T24 h24 X24 e24 W24 (Vf24 : Arv Z h24 b5 k5 .char (20 : Int32) [.int (117 : Int32), .int (110 : Int32), .int (107 : Int32), .int (110 : Int32), .int (111 : Int32), .int (119 : Int32), .int (110 : Int32), .int (32 : Int32), .int (111 : Int32), .int (112 : Int32), .int (116 : Int32), .int (105 : Int32), .int (111 : Int32), .int (110 : Int32), .int (32 : Int32), .int (39 : Int32), .int (nar .char (i1 &&& (255 : Int32))), .int (nar .char (i2 &&& (255 : Int32))), .int (nar .char (i3 &&& (255 : Int32))), .int (0 : Int32)] (.int 0)) => ?_)
        have Ef24 := Ext.wr Ef23 W24 gb5
        have N24 := Fr.snoc X24 N23 gb5
        refine w_dup (n := 542) X24.here hx (hb hby at_541) rfl rfl ?_
        refine w_bipush (z := (19 : Int32)) (n := 544) X24.here hx (hb hby at_542) rfl rfl ?_
        refine w_bipush (z := (39 : Int32)) (n := 546) X24.here hx (hb hby at_544) rfl rfl ?_
        refine s_C (n := 547) X24 hx hZ e24 Vf24 19 rfl (Nat.le_of_ble_eq_true rfl) (by decide) (by decide) (hb hby at_546) rfl (fun T25 h25 X25 e25 W25 (Vf25 : Arv Z h25 b5 k5 .char (20 : Int32) [.int (117 : Int32), .int (110 : Int32), .int (107 : Int32), .int (110 : Int32), .int (111 : Int32), .int (119 : Int32), .int (110 : Int32), .int (32 : Int32), .int (111 : Int32), .int (112 : Int32), .int (116 : Int32), .int (105 : Int32), .int (111 : Int32), .int (110 : Int32), .int (32 : Int32), .int (39 : Int32), .int (nar .char (i1 &&& (255 : Int32))), .int (nar .char (i2 &&& (255 : Int32))), .int (nar .char (i3 &&& (255 : Int32))), .int (39 : Int32)] (.int 0)) => ?_)
        have Ef25 := Ext.wr Ef24 W25 gb5
        have N25 := Fr.snoc X25 N24 gb5
        simp only [own_narc] at Vf25
        refine w_astore (Ls' := #[.val (.int i0), .val (.int i1), .val (.int i2), .val (.int i3), .val (.int (i0 &&& (3 : Int32))), .val (.int (i1 &&& (255 : Int32))), .val (.int (i2 &&& (255 : Int32))), .val (.int (i3 &&& (255 : Int32))), .val (.ref b1), .val (.ref b5), .unset, .unset, .unset, .unset]) (n := 549) X25.here hx (hb hby at_547) rfl rfl rfl ?_
        have hne : b1 ≠ b5 := fun q => Nat.lt_irrefl _ (by have := Vf4.lt; rw [q, g5] at this; exact this)
        have VO := (((((((((((((((((((((Vf4.ext E5).other W6 hne).other W7 hne).other W8 hne).other W9 hne).other W10 hne).other W11 hne).other W12 hne).other W13 hne).other W14 hne).other W15 hne).other W16 hne).other W17 hne).other W18 hne).other W19 hne).other W20 hne).other W21 hne).other W22 hne).other W23 hne).other W24 hne).other W25 hne)
        exact tail _ _ _ _ b1 b5 k5 [(i1 &&& (255 : Int32)), (i2 &&& (255 : Int32)), (i3 &&& (255 : Int32))] k1 _ _ _ (X25.mono (by decide) (by decide)) e25 Ef25 N25 VO Vf25 (fun d hd => by simp only [List.mem_cons, List.not_mem_nil, or_false] at hd; rcases hd with rfl | rfl | rfl <;> exact own_m255 _) (Nat.le_of_ble_eq_true rfl)
      · refine w_iconst (z := (2 : Int32)) (n := 278) X0.here hx (hb hby at_277) rfl rfl ?_
        refine n_P (n := 280) X0 hx hZ (hw _ (List.mem_of_getElem? (i := 0) rfl)) e0 (hb hby at_278) rfl (by decide) 2 (by decide) (by decide) (by decide) (by decide) (fun T26 h26 k26 b26 g26 X26 e26 E26 V26 => ?_)
        have Ef26 := E26
        have gb26 : h0.size ≤ b26 := Nat.le_of_eq g26.symm
        have N26 := Fr.nil h0.size
        have Vf26 := pad0 V26 2
        refine w_dup (n := 281) X26.here hx (hb hby at_280) rfl rfl ?_
        refine w_iconst (z := (0 : Int32)) (n := 282) X26.here hx (hb hby at_281) rfl rfl ?_
        refine w_iload (n := 284) X26.here hx (hb hby at_282) rfl rfl ?_
        refine s_C (n := 285) X26 hx hZ e26 Vf26 0 rfl (Nat.le_of_ble_eq_true rfl) (by decide) (by decide) (hb hby at_284) rfl (fun T27 h27 X27 e27 W27 (Vf27 : Arv Z h27 b26 k26 .char (2 : Int32) [.int (nar .char (i1 &&& (255 : Int32))), .int (0 : Int32)] (.int 0)) => ?_)
        have Ef27 := Ext.wr Ef26 W27 gb26
        have N27 := Fr.snoc X27 N26 gb26
        refine w_dup (n := 286) X27.here hx (hb hby at_285) rfl rfl ?_
        refine w_iconst (z := (1 : Int32)) (n := 287) X27.here hx (hb hby at_286) rfl rfl ?_
        refine w_iload (n := 289) X27.here hx (hb hby at_287) rfl rfl ?_
        refine s_C (n := 290) X27 hx hZ e27 Vf27 1 rfl (Nat.le_of_ble_eq_true rfl) (by decide) (by decide) (hb hby at_289) rfl (fun T28 h28 X28 e28 W28 (Vf28 : Arv Z h28 b26 k26 .char (2 : Int32) [.int (nar .char (i1 &&& (255 : Int32))), .int (nar .char (i2 &&& (255 : Int32)))] (.int 0)) => ?_)
        have Ef28 := Ext.wr Ef27 W28 gb26
        have N28 := Fr.snoc X28 N27 gb26
        simp only [own_narc] at Vf28
        refine w_astore (Ls' := #[.val (.int i0), .val (.int i1), .val (.int i2), .val (.int i3), .val (.int (i0 &&& (3 : Int32))), .val (.int (i1 &&& (255 : Int32))), .val (.int (i2 &&& (255 : Int32))), .val (.int (i3 &&& (255 : Int32))), .val (.ref b26), .unset, .unset, .unset, .unset, .unset]) (n := 292) X28.here hx (hb hby at_290) rfl rfl rfl ?_
        refine w_bipush (z := (19 : Int32)) (n := 294) X28.here hx (hb hby at_292) rfl rfl ?_
        refine n_P (n := 296) X28 hx hZ (hw _ (List.mem_of_getElem? (i := 0) rfl)) e28 (hb hby at_294) rfl (by decide) 19 (by decide) (by decide) (by decide) (by decide) (fun T29 h29 k29 b29 g29 X29 e29 E29 V29 => ?_)
        have Ef29 := Ext.tr Ef28 E29
        have gb29 : h0.size ≤ b29 := Nat.le_trans Ef28.1 (Nat.le_of_eq g29.symm)
        have N29 := N28
        have Vf29 := pad0 V29 19
        refine w_dup (n := 297) X29.here hx (hb hby at_296) rfl rfl ?_
        refine w_iconst (z := (0 : Int32)) (n := 298) X29.here hx (hb hby at_297) rfl rfl ?_
        refine w_bipush (z := (117 : Int32)) (n := 300) X29.here hx (hb hby at_298) rfl rfl ?_
        refine s_C (n := 301) X29 hx hZ e29 Vf29 0 rfl (Nat.le_of_ble_eq_true rfl) (by decide) (by decide) (hb hby at_300) rfl (fun T30 h30 X30 e30 W30 (Vf30 : Arv Z h30 b29 k29 .char (19 : Int32) [.int (117 : Int32), .int (0 : Int32), .int (0 : Int32), .int (0 : Int32), .int (0 : Int32), .int (0 : Int32), .int (0 : Int32), .int (0 : Int32), .int (0 : Int32), .int (0 : Int32), .int (0 : Int32), .int (0 : Int32), .int (0 : Int32), .int (0 : Int32), .int (0 : Int32), .int (0 : Int32), .int (0 : Int32), .int (0 : Int32), .int (0 : Int32)] (.int 0)) => ?_)
        have Ef30 := Ext.wr Ef29 W30 gb29
        have N30 := Fr.snoc X30 N29 gb29
        refine w_dup (n := 302) X30.here hx (hb hby at_301) rfl rfl ?_
        refine w_iconst (z := (1 : Int32)) (n := 303) X30.here hx (hb hby at_302) rfl rfl ?_
        refine w_bipush (z := (110 : Int32)) (n := 305) X30.here hx (hb hby at_303) rfl rfl ?_
        refine s_C (n := 306) X30 hx hZ e30 Vf30 1 rfl (Nat.le_of_ble_eq_true rfl) (by decide) (by decide) (hb hby at_305) rfl (fun T31 h31 X31 e31 W31 (Vf31 : Arv Z h31 b29 k29 .char (19 : Int32) [.int (117 : Int32), .int (110 : Int32), .int (0 : Int32), .int (0 : Int32), .int (0 : Int32), .int (0 : Int32), .int (0 : Int32), .int (0 : Int32), .int (0 : Int32), .int (0 : Int32), .int (0 : Int32), .int (0 : Int32), .int (0 : Int32), .int (0 : Int32), .int (0 : Int32), .int (0 : Int32), .int (0 : Int32), .int (0 : Int32), .int (0 : Int32)] (.int 0)) => ?_)
        have Ef31 := Ext.wr Ef30 W31 gb29
        have N31 := Fr.snoc X31 N30 gb29
        refine w_dup (n := 307) X31.here hx (hb hby at_306) rfl rfl ?_
        refine w_iconst (z := (2 : Int32)) (n := 308) X31.here hx (hb hby at_307) rfl rfl ?_
        refine w_bipush (z := (107 : Int32)) (n := 310) X31.here hx (hb hby at_308) rfl rfl ?_
        refine s_C (n := 311) X31 hx hZ e31 Vf31 2 rfl (Nat.le_of_ble_eq_true rfl) (by decide) (by decide) (hb hby at_310) rfl (fun T32 h32 X32 e32 W32 (Vf32 : Arv Z h32 b29 k29 .char (19 : Int32) [.int (117 : Int32), .int (110 : Int32), .int (107 : Int32), .int (0 : Int32), .int (0 : Int32), .int (0 : Int32), .int (0 : Int32), .int (0 : Int32), .int (0 : Int32), .int (0 : Int32), .int (0 : Int32), .int (0 : Int32), .int (0 : Int32), .int (0 : Int32), .int (0 : Int32), .int (0 : Int32), .int (0 : Int32), .int (0 : Int32), .int (0 : Int32)] (.int 0)) => ?_)
        have Ef32 := Ext.wr Ef31 W32 gb29
        have N32 := Fr.snoc X32 N31 gb29
        refine w_dup (n := 312) X32.here hx (hb hby at_311) rfl rfl ?_
        refine w_iconst (z := (3 : Int32)) (n := 313) X32.here hx (hb hby at_312) rfl rfl ?_
        refine w_bipush (z := (110 : Int32)) (n := 315) X32.here hx (hb hby at_313) rfl rfl ?_
        refine s_C (n := 316) X32 hx hZ e32 Vf32 3 rfl (Nat.le_of_ble_eq_true rfl) (by decide) (by decide) (hb hby at_315) rfl (fun T33 h33 X33 e33 W33 (Vf33 : Arv Z h33 b29 k29 .char (19 : Int32) [.int (117 : Int32), .int (110 : Int32), .int (107 : Int32), .int (110 : Int32), .int (0 : Int32), .int (0 : Int32), .int (0 : Int32), .int (0 : Int32), .int (0 : Int32), .int (0 : Int32), .int (0 : Int32), .int (0 : Int32), .int (0 : Int32), .int (0 : Int32), .int (0 : Int32), .int (0 : Int32), .int (0 : Int32), .int (0 : Int32), .int (0 : Int32)] (.int 0)) => ?_)
        have Ef33 := Ext.wr Ef32 W33 gb29
        have N33 := Fr.snoc X33 N32 gb29
        refine w_dup (n := 317) X33.here hx (hb hby at_316) rfl rfl ?_
        refine w_iconst (z := (4 : Int32)) (n := 318) X33.here hx (hb hby at_317) rfl rfl ?_
        refine w_bipush (z := (111 : Int32)) (n := 320) X33.here hx (hb hby at_318) rfl rfl ?_
        refine s_C (n := 321) X33 hx hZ e33 Vf33 4 rfl (Nat.le_of_ble_eq_true rfl) (by decide) (by decide) (hb hby at_320) rfl (fun T34 h34 X34 e34 W34 (Vf34 : Arv Z h34 b29 k29 .char (19 : Int32) [.int (117 : Int32), .int (110 : Int32), .int (107 : Int32), .int (110 : Int32), .int (111 : Int32), .int (0 : Int32), .int (0 : Int32), .int (0 : Int32), .int (0 : Int32), .int (0 : Int32), .int (0 : Int32), .int (0 : Int32), .int (0 : Int32), .int (0 : Int32), .int (0 : Int32), .int (0 : Int32), .int (0 : Int32), .int (0 : Int32), .int (0 : Int32)] (.int 0)) => ?_)
        have Ef34 := Ext.wr Ef33 W34 gb29
        have N34 := Fr.snoc X34 N33 gb29
        refine w_dup (n := 322) X34.here hx (hb hby at_321) rfl rfl ?_
        refine w_iconst (z := (5 : Int32)) (n := 323) X34.here hx (hb hby at_322) rfl rfl ?_
        refine w_bipush (z := (119 : Int32)) (n := 325) X34.here hx (hb hby at_323) rfl rfl ?_
        refine s_C (n := 326) X34 hx hZ e34 Vf34 5 rfl (Nat.le_of_ble_eq_true rfl) (by decide) (by decide) (hb hby at_325) rfl (fun T35 h35 X35 e35 W35 (Vf35 : Arv Z h35 b29 k29 .char (19 : Int32) [.int (117 : Int32), .int (110 : Int32), .int (107 : Int32), .int (110 : Int32), .int (111 : Int32), .int (119 : Int32), .int (0 : Int32), .int (0 : Int32), .int (0 : Int32), .int (0 : Int32), .int (0 : Int32), .int (0 : Int32), .int (0 : Int32), .int (0 : Int32), .int (0 : Int32), .int (0 : Int32), .int (0 : Int32), .int (0 : Int32), .int (0 : Int32)] (.int 0)) => ?_)
        have Ef35 := Ext.wr Ef34 W35 gb29
        have N35 := Fr.snoc X35 N34 gb29
        refine w_dup (n := 327) X35.here hx (hb hby at_326) rfl rfl ?_
        refine w_bipush (z := (6 : Int32)) (n := 329) X35.here hx (hb hby at_327) rfl rfl ?_
        refine w_bipush (z := (110 : Int32)) (n := 331) X35.here hx (hb hby at_329) rfl rfl ?_
        refine s_C (n := 332) X35 hx hZ e35 Vf35 6 rfl (Nat.le_of_ble_eq_true rfl) (by decide) (by decide) (hb hby at_331) rfl (fun T36 h36 X36 e36 W36 (Vf36 : Arv Z h36 b29 k29 .char (19 : Int32) [.int (117 : Int32), .int (110 : Int32), .int (107 : Int32), .int (110 : Int32), .int (111 : Int32), .int (119 : Int32), .int (110 : Int32), .int (0 : Int32), .int (0 : Int32), .int (0 : Int32), .int (0 : Int32), .int (0 : Int32), .int (0 : Int32), .int (0 : Int32), .int (0 : Int32), .int (0 : Int32), .int (0 : Int32), .int (0 : Int32), .int (0 : Int32)] (.int 0)) => ?_)
        have Ef36 := Ext.wr Ef35 W36 gb29
        have N36 := Fr.snoc X36 N35 gb29
        refine w_dup (n := 333) X36.here hx (hb hby at_332) rfl rfl ?_
        refine w_bipush (z := (7 : Int32)) (n := 335) X36.here hx (hb hby at_333) rfl rfl ?_
        refine w_bipush (z := (32 : Int32)) (n := 337) X36.here hx (hb hby at_335) rfl rfl ?_
        refine s_C (n := 338) X36 hx hZ e36 Vf36 7 rfl (Nat.le_of_ble_eq_true rfl) (by decide) (by decide) (hb hby at_337) rfl (fun T37 h37 X37 e37 W37 (Vf37 : Arv Z h37 b29 k29 .char (19 : Int32) [.int (117 : Int32), .int (110 : Int32), .int (107 : Int32), .int (110 : Int32), .int (111 : Int32), .int (119 : Int32), .int (110 : Int32), .int (32 : Int32), .int (0 : Int32), .int (0 : Int32), .int (0 : Int32), .int (0 : Int32), .int (0 : Int32), .int (0 : Int32), .int (0 : Int32), .int (0 : Int32), .int (0 : Int32), .int (0 : Int32), .int (0 : Int32)] (.int 0)) => ?_)
        have Ef37 := Ext.wr Ef36 W37 gb29
        have N37 := Fr.snoc X37 N36 gb29
        refine w_dup (n := 339) X37.here hx (hb hby at_338) rfl rfl ?_
        refine w_bipush (z := (8 : Int32)) (n := 341) X37.here hx (hb hby at_339) rfl rfl ?_
        refine w_bipush (z := (111 : Int32)) (n := 343) X37.here hx (hb hby at_341) rfl rfl ?_
        refine s_C (n := 344) X37 hx hZ e37 Vf37 8 rfl (Nat.le_of_ble_eq_true rfl) (by decide) (by decide) (hb hby at_343) rfl (fun T38 h38 X38 e38 W38 (Vf38 : Arv Z h38 b29 k29 .char (19 : Int32) [.int (117 : Int32), .int (110 : Int32), .int (107 : Int32), .int (110 : Int32), .int (111 : Int32), .int (119 : Int32), .int (110 : Int32), .int (32 : Int32), .int (111 : Int32), .int (0 : Int32), .int (0 : Int32), .int (0 : Int32), .int (0 : Int32), .int (0 : Int32), .int (0 : Int32), .int (0 : Int32), .int (0 : Int32), .int (0 : Int32), .int (0 : Int32)] (.int 0)) => ?_)
        have Ef38 := Ext.wr Ef37 W38 gb29
        have N38 := Fr.snoc X38 N37 gb29
        refine w_dup (n := 345) X38.here hx (hb hby at_344) rfl rfl ?_
        refine w_bipush (z := (9 : Int32)) (n := 347) X38.here hx (hb hby at_345) rfl rfl ?_
        refine w_bipush (z := (112 : Int32)) (n := 349) X38.here hx (hb hby at_347) rfl rfl ?_
        refine s_C (n := 350) X38 hx hZ e38 Vf38 9 rfl (Nat.le_of_ble_eq_true rfl) (by decide) (by decide) (hb hby at_349) rfl (fun T39 h39 X39 e39 W39 (Vf39 : Arv Z h39 b29 k29 .char (19 : Int32) [.int (117 : Int32), .int (110 : Int32), .int (107 : Int32), .int (110 : Int32), .int (111 : Int32), .int (119 : Int32), .int (110 : Int32), .int (32 : Int32), .int (111 : Int32), .int (112 : Int32), .int (0 : Int32), .int (0 : Int32), .int (0 : Int32), .int (0 : Int32), .int (0 : Int32), .int (0 : Int32), .int (0 : Int32), .int (0 : Int32), .int (0 : Int32)] (.int 0)) => ?_)
        have Ef39 := Ext.wr Ef38 W39 gb29
        have N39 := Fr.snoc X39 N38 gb29
        refine w_dup (n := 351) X39.here hx (hb hby at_350) rfl rfl ?_
        refine w_bipush (z := (10 : Int32)) (n := 353) X39.here hx (hb hby at_351) rfl rfl ?_
        refine w_bipush (z := (116 : Int32)) (n := 355) X39.here hx (hb hby at_353) rfl rfl ?_
        refine s_C (n := 356) X39 hx hZ e39 Vf39 10 rfl (Nat.le_of_ble_eq_true rfl) (by decide) (by decide) (hb hby at_355) rfl (fun T40 h40 X40 e40 W40 (Vf40 : Arv Z h40 b29 k29 .char (19 : Int32) [.int (117 : Int32), .int (110 : Int32), .int (107 : Int32), .int (110 : Int32), .int (111 : Int32), .int (119 : Int32), .int (110 : Int32), .int (32 : Int32), .int (111 : Int32), .int (112 : Int32), .int (116 : Int32), .int (0 : Int32), .int (0 : Int32), .int (0 : Int32), .int (0 : Int32), .int (0 : Int32), .int (0 : Int32), .int (0 : Int32), .int (0 : Int32)] (.int 0)) => ?_)
        have Ef40 := Ext.wr Ef39 W40 gb29
        have N40 := Fr.snoc X40 N39 gb29
        refine w_dup (n := 357) X40.here hx (hb hby at_356) rfl rfl ?_
        refine w_bipush (z := (11 : Int32)) (n := 359) X40.here hx (hb hby at_357) rfl rfl ?_
        refine w_bipush (z := (105 : Int32)) (n := 361) X40.here hx (hb hby at_359) rfl rfl ?_
        refine s_C (n := 362) X40 hx hZ e40 Vf40 11 rfl (Nat.le_of_ble_eq_true rfl) (by decide) (by decide) (hb hby at_361) rfl (fun T41 h41 X41 e41 W41 (Vf41 : Arv Z h41 b29 k29 .char (19 : Int32) [.int (117 : Int32), .int (110 : Int32), .int (107 : Int32), .int (110 : Int32), .int (111 : Int32), .int (119 : Int32), .int (110 : Int32), .int (32 : Int32), .int (111 : Int32), .int (112 : Int32), .int (116 : Int32), .int (105 : Int32), .int (0 : Int32), .int (0 : Int32), .int (0 : Int32), .int (0 : Int32), .int (0 : Int32), .int (0 : Int32), .int (0 : Int32)] (.int 0)) => ?_)
        have Ef41 := Ext.wr Ef40 W41 gb29
        have N41 := Fr.snoc X41 N40 gb29
        refine w_dup (n := 363) X41.here hx (hb hby at_362) rfl rfl ?_
        refine w_bipush (z := (12 : Int32)) (n := 365) X41.here hx (hb hby at_363) rfl rfl ?_
        refine w_bipush (z := (111 : Int32)) (n := 367) X41.here hx (hb hby at_365) rfl rfl ?_
        refine s_C (n := 368) X41 hx hZ e41 Vf41 12 rfl (Nat.le_of_ble_eq_true rfl) (by decide) (by decide) (hb hby at_367) rfl (fun T42 h42 X42 e42 W42 (Vf42 : Arv Z h42 b29 k29 .char (19 : Int32) [.int (117 : Int32), .int (110 : Int32), .int (107 : Int32), .int (110 : Int32), .int (111 : Int32), .int (119 : Int32), .int (110 : Int32), .int (32 : Int32), .int (111 : Int32), .int (112 : Int32), .int (116 : Int32), .int (105 : Int32), .int (111 : Int32), .int (0 : Int32), .int (0 : Int32), .int (0 : Int32), .int (0 : Int32), .int (0 : Int32), .int (0 : Int32)] (.int 0)) => ?_)
        have Ef42 := Ext.wr Ef41 W42 gb29
        have N42 := Fr.snoc X42 N41 gb29
        refine w_dup (n := 369) X42.here hx (hb hby at_368) rfl rfl ?_
        refine w_bipush (z := (13 : Int32)) (n := 371) X42.here hx (hb hby at_369) rfl rfl ?_
        refine w_bipush (z := (110 : Int32)) (n := 373) X42.here hx (hb hby at_371) rfl rfl ?_
        refine s_C (n := 374) X42 hx hZ e42 Vf42 13 rfl (Nat.le_of_ble_eq_true rfl) (by decide) (by decide) (hb hby at_373) rfl (fun T43 h43 X43 e43 W43 (Vf43 : Arv Z h43 b29 k29 .char (19 : Int32) [.int (117 : Int32), .int (110 : Int32), .int (107 : Int32), .int (110 : Int32), .int (111 : Int32), .int (119 : Int32), .int (110 : Int32), .int (32 : Int32), .int (111 : Int32), .int (112 : Int32), .int (116 : Int32), .int (105 : Int32), .int (111 : Int32), .int (110 : Int32), .int (0 : Int32), .int (0 : Int32), .int (0 : Int32), .int (0 : Int32), .int (0 : Int32)] (.int 0)) => ?_)
        have Ef43 := Ext.wr Ef42 W43 gb29
        have N43 := Fr.snoc X43 N42 gb29
        refine w_dup (n := 375) X43.here hx (hb hby at_374) rfl rfl ?_
        refine w_bipush (z := (14 : Int32)) (n := 377) X43.here hx (hb hby at_375) rfl rfl ?_
        refine w_bipush (z := (32 : Int32)) (n := 379) X43.here hx (hb hby at_377) rfl rfl ?_
        refine s_C (n := 380) X43 hx hZ e43 Vf43 14 rfl (Nat.le_of_ble_eq_true rfl) (by decide) (by decide) (hb hby at_379) rfl (fun T44 h44 X44 e44 W44 (Vf44 : Arv Z h44 b29 k29 .char (19 : Int32) [.int (117 : Int32), .int (110 : Int32), .int (107 : Int32), .int (110 : Int32), .int (111 : Int32), .int (119 : Int32), .int (110 : Int32), .int (32 : Int32), .int (111 : Int32), .int (112 : Int32), .int (116 : Int32), .int (105 : Int32), .int (111 : Int32), .int (110 : Int32), .int (32 : Int32), .int (0 : Int32), .int (0 : Int32), .int (0 : Int32), .int (0 : Int32)] (.int 0)) => ?_)
        have Ef44 := Ext.wr Ef43 W44 gb29
        have N44 := Fr.snoc X44 N43 gb29
        refine w_dup (n := 381) X44.here hx (hb hby at_380) rfl rfl ?_
        refine w_bipush (z := (15 : Int32)) (n := 383) X44.here hx (hb hby at_381) rfl rfl ?_
        refine w_bipush (z := (39 : Int32)) (n := 385) X44.here hx (hb hby at_383) rfl rfl ?_
        refine s_C (n := 386) X44 hx hZ e44 Vf44 15 rfl (Nat.le_of_ble_eq_true rfl) (by decide) (by decide) (hb hby at_385) rfl (fun T45 h45 X45 e45 W45 (Vf45 : Arv Z h45 b29 k29 .char (19 : Int32) [.int (117 : Int32), .int (110 : Int32), .int (107 : Int32), .int (110 : Int32), .int (111 : Int32), .int (119 : Int32), .int (110 : Int32), .int (32 : Int32), .int (111 : Int32), .int (112 : Int32), .int (116 : Int32), .int (105 : Int32), .int (111 : Int32), .int (110 : Int32), .int (32 : Int32), .int (39 : Int32), .int (0 : Int32), .int (0 : Int32), .int (0 : Int32)] (.int 0)) => ?_)
        have Ef45 := Ext.wr Ef44 W45 gb29
        have N45 := Fr.snoc X45 N44 gb29
        refine w_dup (n := 387) X45.here hx (hb hby at_386) rfl rfl ?_
        refine w_bipush (z := (16 : Int32)) (n := 389) X45.here hx (hb hby at_387) rfl rfl ?_
        refine w_iload (n := 391) X45.here hx (hb hby at_389) rfl rfl ?_
        refine s_C (n := 392) X45 hx hZ e45 Vf45 16 rfl (Nat.le_of_ble_eq_true rfl) (by decide) (by decide) (hb hby at_391) rfl (fun T46 h46 X46 e46 W46 (Vf46 : Arv Z h46 b29 k29 .char (19 : Int32) [.int (117 : Int32), .int (110 : Int32), .int (107 : Int32), .int (110 : Int32), .int (111 : Int32), .int (119 : Int32), .int (110 : Int32), .int (32 : Int32), .int (111 : Int32), .int (112 : Int32), .int (116 : Int32), .int (105 : Int32), .int (111 : Int32), .int (110 : Int32), .int (32 : Int32), .int (39 : Int32), .int (nar .char (i1 &&& (255 : Int32))), .int (0 : Int32), .int (0 : Int32)] (.int 0)) => ?_)
        have Ef46 := Ext.wr Ef45 W46 gb29
        have N46 := Fr.snoc X46 N45 gb29
        refine w_dup (n := 393) X46.here hx (hb hby at_392) rfl rfl ?_
        refine w_bipush (z := (17 : Int32)) (n := 395) X46.here hx (hb hby at_393) rfl rfl ?_
        refine w_iload (n := 397) X46.here hx (hb hby at_395) rfl rfl ?_
        refine s_C (n := 398) X46 hx hZ e46 Vf46 17 rfl (Nat.le_of_ble_eq_true rfl) (by decide) (by decide) (hb hby at_397) rfl (fun T47 h47 X47 e47 W47 (Vf47 : Arv Z h47 b29 k29 .char (19 : Int32) [.int (117 : Int32), .int (110 : Int32), .int (107 : Int32), .int (110 : Int32), .int (111 : Int32), .int (119 : Int32), .int (110 : Int32), .int (32 : Int32), .int (111 : Int32), .int (112 : Int32), .int (116 : Int32), .int (105 : Int32), .int (111 : Int32), .int (110 : Int32), .int (32 : Int32), .int (39 : Int32), .int (nar .char (i1 &&& (255 : Int32))), .int (nar .char (i2 &&& (255 : Int32))), .int (0 : Int32)] (.int 0)) => ?_)
        have Ef47 := Ext.wr Ef46 W47 gb29
        have N47 := Fr.snoc X47 N46 gb29
        refine w_dup (n := 399) X47.here hx (hb hby at_398) rfl rfl ?_
        refine w_bipush (z := (18 : Int32)) (n := 401) X47.here hx (hb hby at_399) rfl rfl ?_
        refine w_bipush (z := (39 : Int32)) (n := 403) X47.here hx (hb hby at_401) rfl rfl ?_
        refine s_C (n := 404) X47 hx hZ e47 Vf47 18 rfl (Nat.le_of_ble_eq_true rfl) (by decide) (by decide) (hb hby at_403) rfl (fun T48 h48 X48 e48 W48 (Vf48 : Arv Z h48 b29 k29 .char (19 : Int32) [.int (117 : Int32), .int (110 : Int32), .int (107 : Int32), .int (110 : Int32), .int (111 : Int32), .int (119 : Int32), .int (110 : Int32), .int (32 : Int32), .int (111 : Int32), .int (112 : Int32), .int (116 : Int32), .int (105 : Int32), .int (111 : Int32), .int (110 : Int32), .int (32 : Int32), .int (39 : Int32), .int (nar .char (i1 &&& (255 : Int32))), .int (nar .char (i2 &&& (255 : Int32))), .int (39 : Int32)] (.int 0)) => ?_)
        have Ef48 := Ext.wr Ef47 W48 gb29
        have N48 := Fr.snoc X48 N47 gb29
        simp only [own_narc] at Vf48
        refine w_astore (Ls' := #[.val (.int i0), .val (.int i1), .val (.int i2), .val (.int i3), .val (.int (i0 &&& (3 : Int32))), .val (.int (i1 &&& (255 : Int32))), .val (.int (i2 &&& (255 : Int32))), .val (.int (i3 &&& (255 : Int32))), .val (.ref b26), .val (.ref b29), .unset, .unset, .unset, .unset]) (n := 406) X48.here hx (hb hby at_404) rfl rfl rfl ?_
        refine w_goto (n := 549) X48.here hx (hb hby at_406) (by decide) (by decide) ?_
        have hne : b26 ≠ b29 := fun q => Nat.lt_irrefl _ (by have := Vf28.lt; rw [q, g29] at this; exact this)
        have VO := ((((((((((((((((((((Vf28.ext E29).other W30 hne).other W31 hne).other W32 hne).other W33 hne).other W34 hne).other W35 hne).other W36 hne).other W37 hne).other W38 hne).other W39 hne).other W40 hne).other W41 hne).other W42 hne).other W43 hne).other W44 hne).other W45 hne).other W46 hne).other W47 hne).other W48 hne)
        exact tail _ _ _ _ b26 b29 k29 [(i1 &&& (255 : Int32)), (i2 &&& (255 : Int32))] k26 _ _ _ (X48.mono (by decide) (by decide)) e48 Ef48 N48 VO Vf48 (fun d hd => by simp only [List.mem_cons, List.not_mem_nil, or_false] at hd; rcases hd with rfl | rfl <;> exact own_m255 _) (Nat.le_of_ble_eq_true rfl)
    · refine w_iconst (z := (1 : Int32)) (n := 151) X0.here hx (hb hby at_150) rfl rfl ?_
      refine n_P (n := 153) X0 hx hZ (hw _ (List.mem_of_getElem? (i := 0) rfl)) e0 (hb hby at_151) rfl (by decide) 1 (by decide) (by decide) (by decide) (by decide) (fun T49 h49 k49 b49 g49 X49 e49 E49 V49 => ?_)
      have Ef49 := E49
      have gb49 : h0.size ≤ b49 := Nat.le_of_eq g49.symm
      have N49 := Fr.nil h0.size
      have Vf49 := pad0 V49 1
      refine w_dup (n := 154) X49.here hx (hb hby at_153) rfl rfl ?_
      refine w_iconst (z := (0 : Int32)) (n := 155) X49.here hx (hb hby at_154) rfl rfl ?_
      refine w_iload (n := 157) X49.here hx (hb hby at_155) rfl rfl ?_
      refine s_C (n := 158) X49 hx hZ e49 Vf49 0 rfl (Nat.le_of_ble_eq_true rfl) (by decide) (by decide) (hb hby at_157) rfl (fun T50 h50 X50 e50 W50 (Vf50 : Arv Z h50 b49 k49 .char (1 : Int32) [.int (nar .char (i1 &&& (255 : Int32)))] (.int 0)) => ?_)
      have Ef50 := Ext.wr Ef49 W50 gb49
      have N50 := Fr.snoc X50 N49 gb49
      simp only [own_narc] at Vf50
      refine w_astore (Ls' := #[.val (.int i0), .val (.int i1), .val (.int i2), .val (.int i3), .val (.int (i0 &&& (3 : Int32))), .val (.int (i1 &&& (255 : Int32))), .val (.int (i2 &&& (255 : Int32))), .val (.int (i3 &&& (255 : Int32))), .val (.ref b49), .unset, .unset, .unset, .unset, .unset]) (n := 160) X50.here hx (hb hby at_158) rfl rfl rfl ?_
      refine w_bipush (z := (18 : Int32)) (n := 162) X50.here hx (hb hby at_160) rfl rfl ?_
      refine n_P (n := 164) X50 hx hZ (hw _ (List.mem_of_getElem? (i := 0) rfl)) e50 (hb hby at_162) rfl (by decide) 18 (by decide) (by decide) (by decide) (by decide) (fun T51 h51 k51 b51 g51 X51 e51 E51 V51 => ?_)
      have Ef51 := Ext.tr Ef50 E51
      have gb51 : h0.size ≤ b51 := Nat.le_trans Ef50.1 (Nat.le_of_eq g51.symm)
      have N51 := N50
      have Vf51 := pad0 V51 18
      refine w_dup (n := 165) X51.here hx (hb hby at_164) rfl rfl ?_
      refine w_iconst (z := (0 : Int32)) (n := 166) X51.here hx (hb hby at_165) rfl rfl ?_
      refine w_bipush (z := (117 : Int32)) (n := 168) X51.here hx (hb hby at_166) rfl rfl ?_
      refine s_C (n := 169) X51 hx hZ e51 Vf51 0 rfl (Nat.le_of_ble_eq_true rfl) (by decide) (by decide) (hb hby at_168) rfl (fun T52 h52 X52 e52 W52 (Vf52 : Arv Z h52 b51 k51 .char (18 : Int32) [.int (117 : Int32), .int (0 : Int32), .int (0 : Int32), .int (0 : Int32), .int (0 : Int32), .int (0 : Int32), .int (0 : Int32), .int (0 : Int32), .int (0 : Int32), .int (0 : Int32), .int (0 : Int32), .int (0 : Int32), .int (0 : Int32), .int (0 : Int32), .int (0 : Int32), .int (0 : Int32), .int (0 : Int32), .int (0 : Int32)] (.int 0)) => ?_)
      have Ef52 := Ext.wr Ef51 W52 gb51
      have N52 := Fr.snoc X52 N51 gb51
      refine w_dup (n := 170) X52.here hx (hb hby at_169) rfl rfl ?_
      refine w_iconst (z := (1 : Int32)) (n := 171) X52.here hx (hb hby at_170) rfl rfl ?_
      refine w_bipush (z := (110 : Int32)) (n := 173) X52.here hx (hb hby at_171) rfl rfl ?_
      refine s_C (n := 174) X52 hx hZ e52 Vf52 1 rfl (Nat.le_of_ble_eq_true rfl) (by decide) (by decide) (hb hby at_173) rfl (fun T53 h53 X53 e53 W53 (Vf53 : Arv Z h53 b51 k51 .char (18 : Int32) [.int (117 : Int32), .int (110 : Int32), .int (0 : Int32), .int (0 : Int32), .int (0 : Int32), .int (0 : Int32), .int (0 : Int32), .int (0 : Int32), .int (0 : Int32), .int (0 : Int32), .int (0 : Int32), .int (0 : Int32), .int (0 : Int32), .int (0 : Int32), .int (0 : Int32), .int (0 : Int32), .int (0 : Int32), .int (0 : Int32)] (.int 0)) => ?_)
      have Ef53 := Ext.wr Ef52 W53 gb51
      have N53 := Fr.snoc X53 N52 gb51
      refine w_dup (n := 175) X53.here hx (hb hby at_174) rfl rfl ?_
      refine w_iconst (z := (2 : Int32)) (n := 176) X53.here hx (hb hby at_175) rfl rfl ?_
      refine w_bipush (z := (107 : Int32)) (n := 178) X53.here hx (hb hby at_176) rfl rfl ?_
      refine s_C (n := 179) X53 hx hZ e53 Vf53 2 rfl (Nat.le_of_ble_eq_true rfl) (by decide) (by decide) (hb hby at_178) rfl (fun T54 h54 X54 e54 W54 (Vf54 : Arv Z h54 b51 k51 .char (18 : Int32) [.int (117 : Int32), .int (110 : Int32), .int (107 : Int32), .int (0 : Int32), .int (0 : Int32), .int (0 : Int32), .int (0 : Int32), .int (0 : Int32), .int (0 : Int32), .int (0 : Int32), .int (0 : Int32), .int (0 : Int32), .int (0 : Int32), .int (0 : Int32), .int (0 : Int32), .int (0 : Int32), .int (0 : Int32), .int (0 : Int32)] (.int 0)) => ?_)
      have Ef54 := Ext.wr Ef53 W54 gb51
      have N54 := Fr.snoc X54 N53 gb51
      refine w_dup (n := 180) X54.here hx (hb hby at_179) rfl rfl ?_
      refine w_iconst (z := (3 : Int32)) (n := 181) X54.here hx (hb hby at_180) rfl rfl ?_
      refine w_bipush (z := (110 : Int32)) (n := 183) X54.here hx (hb hby at_181) rfl rfl ?_
      refine s_C (n := 184) X54 hx hZ e54 Vf54 3 rfl (Nat.le_of_ble_eq_true rfl) (by decide) (by decide) (hb hby at_183) rfl (fun T55 h55 X55 e55 W55 (Vf55 : Arv Z h55 b51 k51 .char (18 : Int32) [.int (117 : Int32), .int (110 : Int32), .int (107 : Int32), .int (110 : Int32), .int (0 : Int32), .int (0 : Int32), .int (0 : Int32), .int (0 : Int32), .int (0 : Int32), .int (0 : Int32), .int (0 : Int32), .int (0 : Int32), .int (0 : Int32), .int (0 : Int32), .int (0 : Int32), .int (0 : Int32), .int (0 : Int32), .int (0 : Int32)] (.int 0)) => ?_)
      have Ef55 := Ext.wr Ef54 W55 gb51
      have N55 := Fr.snoc X55 N54 gb51
      refine w_dup (n := 185) X55.here hx (hb hby at_184) rfl rfl ?_
      refine w_iconst (z := (4 : Int32)) (n := 186) X55.here hx (hb hby at_185) rfl rfl ?_
      refine w_bipush (z := (111 : Int32)) (n := 188) X55.here hx (hb hby at_186) rfl rfl ?_
      refine s_C (n := 189) X55 hx hZ e55 Vf55 4 rfl (Nat.le_of_ble_eq_true rfl) (by decide) (by decide) (hb hby at_188) rfl (fun T56 h56 X56 e56 W56 (Vf56 : Arv Z h56 b51 k51 .char (18 : Int32) [.int (117 : Int32), .int (110 : Int32), .int (107 : Int32), .int (110 : Int32), .int (111 : Int32), .int (0 : Int32), .int (0 : Int32), .int (0 : Int32), .int (0 : Int32), .int (0 : Int32), .int (0 : Int32), .int (0 : Int32), .int (0 : Int32), .int (0 : Int32), .int (0 : Int32), .int (0 : Int32), .int (0 : Int32), .int (0 : Int32)] (.int 0)) => ?_)
      have Ef56 := Ext.wr Ef55 W56 gb51
      have N56 := Fr.snoc X56 N55 gb51
      refine w_dup (n := 190) X56.here hx (hb hby at_189) rfl rfl ?_
      refine w_iconst (z := (5 : Int32)) (n := 191) X56.here hx (hb hby at_190) rfl rfl ?_
      refine w_bipush (z := (119 : Int32)) (n := 193) X56.here hx (hb hby at_191) rfl rfl ?_
      refine s_C (n := 194) X56 hx hZ e56 Vf56 5 rfl (Nat.le_of_ble_eq_true rfl) (by decide) (by decide) (hb hby at_193) rfl (fun T57 h57 X57 e57 W57 (Vf57 : Arv Z h57 b51 k51 .char (18 : Int32) [.int (117 : Int32), .int (110 : Int32), .int (107 : Int32), .int (110 : Int32), .int (111 : Int32), .int (119 : Int32), .int (0 : Int32), .int (0 : Int32), .int (0 : Int32), .int (0 : Int32), .int (0 : Int32), .int (0 : Int32), .int (0 : Int32), .int (0 : Int32), .int (0 : Int32), .int (0 : Int32), .int (0 : Int32), .int (0 : Int32)] (.int 0)) => ?_)
      have Ef57 := Ext.wr Ef56 W57 gb51
      have N57 := Fr.snoc X57 N56 gb51
      refine w_dup (n := 195) X57.here hx (hb hby at_194) rfl rfl ?_
      refine w_bipush (z := (6 : Int32)) (n := 197) X57.here hx (hb hby at_195) rfl rfl ?_
      refine w_bipush (z := (110 : Int32)) (n := 199) X57.here hx (hb hby at_197) rfl rfl ?_
      refine s_C (n := 200) X57 hx hZ e57 Vf57 6 rfl (Nat.le_of_ble_eq_true rfl) (by decide) (by decide) (hb hby at_199) rfl (fun T58 h58 X58 e58 W58 (Vf58 : Arv Z h58 b51 k51 .char (18 : Int32) [.int (117 : Int32), .int (110 : Int32), .int (107 : Int32), .int (110 : Int32), .int (111 : Int32), .int (119 : Int32), .int (110 : Int32), .int (0 : Int32), .int (0 : Int32), .int (0 : Int32), .int (0 : Int32), .int (0 : Int32), .int (0 : Int32), .int (0 : Int32), .int (0 : Int32), .int (0 : Int32), .int (0 : Int32), .int (0 : Int32)] (.int 0)) => ?_)
      have Ef58 := Ext.wr Ef57 W58 gb51
      have N58 := Fr.snoc X58 N57 gb51
      refine w_dup (n := 201) X58.here hx (hb hby at_200) rfl rfl ?_
      refine w_bipush (z := (7 : Int32)) (n := 203) X58.here hx (hb hby at_201) rfl rfl ?_
      refine w_bipush (z := (32 : Int32)) (n := 205) X58.here hx (hb hby at_203) rfl rfl ?_
      refine s_C (n := 206) X58 hx hZ e58 Vf58 7 rfl (Nat.le_of_ble_eq_true rfl) (by decide) (by decide) (hb hby at_205) rfl (fun T59 h59 X59 e59 W59 (Vf59 : Arv Z h59 b51 k51 .char (18 : Int32) [.int (117 : Int32), .int (110 : Int32), .int (107 : Int32), .int (110 : Int32), .int (111 : Int32), .int (119 : Int32), .int (110 : Int32), .int (32 : Int32), .int (0 : Int32), .int (0 : Int32), .int (0 : Int32), .int (0 : Int32), .int (0 : Int32), .int (0 : Int32), .int (0 : Int32), .int (0 : Int32), .int (0 : Int32), .int (0 : Int32)] (.int 0)) => ?_)
      have Ef59 := Ext.wr Ef58 W59 gb51
      have N59 := Fr.snoc X59 N58 gb51
      refine w_dup (n := 207) X59.here hx (hb hby at_206) rfl rfl ?_
      refine w_bipush (z := (8 : Int32)) (n := 209) X59.here hx (hb hby at_207) rfl rfl ?_
      refine w_bipush (z := (111 : Int32)) (n := 211) X59.here hx (hb hby at_209) rfl rfl ?_
      refine s_C (n := 212) X59 hx hZ e59 Vf59 8 rfl (Nat.le_of_ble_eq_true rfl) (by decide) (by decide) (hb hby at_211) rfl (fun T60 h60 X60 e60 W60 (Vf60 : Arv Z h60 b51 k51 .char (18 : Int32) [.int (117 : Int32), .int (110 : Int32), .int (107 : Int32), .int (110 : Int32), .int (111 : Int32), .int (119 : Int32), .int (110 : Int32), .int (32 : Int32), .int (111 : Int32), .int (0 : Int32), .int (0 : Int32), .int (0 : Int32), .int (0 : Int32), .int (0 : Int32), .int (0 : Int32), .int (0 : Int32), .int (0 : Int32), .int (0 : Int32)] (.int 0)) => ?_)
      have Ef60 := Ext.wr Ef59 W60 gb51
      have N60 := Fr.snoc X60 N59 gb51
      refine w_dup (n := 213) X60.here hx (hb hby at_212) rfl rfl ?_
      refine w_bipush (z := (9 : Int32)) (n := 215) X60.here hx (hb hby at_213) rfl rfl ?_
      refine w_bipush (z := (112 : Int32)) (n := 217) X60.here hx (hb hby at_215) rfl rfl ?_
      refine s_C (n := 218) X60 hx hZ e60 Vf60 9 rfl (Nat.le_of_ble_eq_true rfl) (by decide) (by decide) (hb hby at_217) rfl (fun T61 h61 X61 e61 W61 (Vf61 : Arv Z h61 b51 k51 .char (18 : Int32) [.int (117 : Int32), .int (110 : Int32), .int (107 : Int32), .int (110 : Int32), .int (111 : Int32), .int (119 : Int32), .int (110 : Int32), .int (32 : Int32), .int (111 : Int32), .int (112 : Int32), .int (0 : Int32), .int (0 : Int32), .int (0 : Int32), .int (0 : Int32), .int (0 : Int32), .int (0 : Int32), .int (0 : Int32), .int (0 : Int32)] (.int 0)) => ?_)
      have Ef61 := Ext.wr Ef60 W61 gb51
      have N61 := Fr.snoc X61 N60 gb51
      refine w_dup (n := 219) X61.here hx (hb hby at_218) rfl rfl ?_
      refine w_bipush (z := (10 : Int32)) (n := 221) X61.here hx (hb hby at_219) rfl rfl ?_
      refine w_bipush (z := (116 : Int32)) (n := 223) X61.here hx (hb hby at_221) rfl rfl ?_
      refine s_C (n := 224) X61 hx hZ e61 Vf61 10 rfl (Nat.le_of_ble_eq_true rfl) (by decide) (by decide) (hb hby at_223) rfl (fun T62 h62 X62 e62 W62 (Vf62 : Arv Z h62 b51 k51 .char (18 : Int32) [.int (117 : Int32), .int (110 : Int32), .int (107 : Int32), .int (110 : Int32), .int (111 : Int32), .int (119 : Int32), .int (110 : Int32), .int (32 : Int32), .int (111 : Int32), .int (112 : Int32), .int (116 : Int32), .int (0 : Int32), .int (0 : Int32), .int (0 : Int32), .int (0 : Int32), .int (0 : Int32), .int (0 : Int32), .int (0 : Int32)] (.int 0)) => ?_)
      have Ef62 := Ext.wr Ef61 W62 gb51
      have N62 := Fr.snoc X62 N61 gb51
      refine w_dup (n := 225) X62.here hx (hb hby at_224) rfl rfl ?_
      refine w_bipush (z := (11 : Int32)) (n := 227) X62.here hx (hb hby at_225) rfl rfl ?_
      refine w_bipush (z := (105 : Int32)) (n := 229) X62.here hx (hb hby at_227) rfl rfl ?_
      refine s_C (n := 230) X62 hx hZ e62 Vf62 11 rfl (Nat.le_of_ble_eq_true rfl) (by decide) (by decide) (hb hby at_229) rfl (fun T63 h63 X63 e63 W63 (Vf63 : Arv Z h63 b51 k51 .char (18 : Int32) [.int (117 : Int32), .int (110 : Int32), .int (107 : Int32), .int (110 : Int32), .int (111 : Int32), .int (119 : Int32), .int (110 : Int32), .int (32 : Int32), .int (111 : Int32), .int (112 : Int32), .int (116 : Int32), .int (105 : Int32), .int (0 : Int32), .int (0 : Int32), .int (0 : Int32), .int (0 : Int32), .int (0 : Int32), .int (0 : Int32)] (.int 0)) => ?_)
      have Ef63 := Ext.wr Ef62 W63 gb51
      have N63 := Fr.snoc X63 N62 gb51
      refine w_dup (n := 231) X63.here hx (hb hby at_230) rfl rfl ?_
      refine w_bipush (z := (12 : Int32)) (n := 233) X63.here hx (hb hby at_231) rfl rfl ?_
      refine w_bipush (z := (111 : Int32)) (n := 235) X63.here hx (hb hby at_233) rfl rfl ?_
      refine s_C (n := 236) X63 hx hZ e63 Vf63 12 rfl (Nat.le_of_ble_eq_true rfl) (by decide) (by decide) (hb hby at_235) rfl (fun T64 h64 X64 e64 W64 (Vf64 : Arv Z h64 b51 k51 .char (18 : Int32) [.int (117 : Int32), .int (110 : Int32), .int (107 : Int32), .int (110 : Int32), .int (111 : Int32), .int (119 : Int32), .int (110 : Int32), .int (32 : Int32), .int (111 : Int32), .int (112 : Int32), .int (116 : Int32), .int (105 : Int32), .int (111 : Int32), .int (0 : Int32), .int (0 : Int32), .int (0 : Int32), .int (0 : Int32), .int (0 : Int32)] (.int 0)) => ?_)
      have Ef64 := Ext.wr Ef63 W64 gb51
      have N64 := Fr.snoc X64 N63 gb51
      refine w_dup (n := 237) X64.here hx (hb hby at_236) rfl rfl ?_
      refine w_bipush (z := (13 : Int32)) (n := 239) X64.here hx (hb hby at_237) rfl rfl ?_
      refine w_bipush (z := (110 : Int32)) (n := 241) X64.here hx (hb hby at_239) rfl rfl ?_
      refine s_C (n := 242) X64 hx hZ e64 Vf64 13 rfl (Nat.le_of_ble_eq_true rfl) (by decide) (by decide) (hb hby at_241) rfl (fun T65 h65 X65 e65 W65 (Vf65 : Arv Z h65 b51 k51 .char (18 : Int32) [.int (117 : Int32), .int (110 : Int32), .int (107 : Int32), .int (110 : Int32), .int (111 : Int32), .int (119 : Int32), .int (110 : Int32), .int (32 : Int32), .int (111 : Int32), .int (112 : Int32), .int (116 : Int32), .int (105 : Int32), .int (111 : Int32), .int (110 : Int32), .int (0 : Int32), .int (0 : Int32), .int (0 : Int32), .int (0 : Int32)] (.int 0)) => ?_)
      have Ef65 := Ext.wr Ef64 W65 gb51
      have N65 := Fr.snoc X65 N64 gb51
      refine w_dup (n := 243) X65.here hx (hb hby at_242) rfl rfl ?_
      refine w_bipush (z := (14 : Int32)) (n := 245) X65.here hx (hb hby at_243) rfl rfl ?_
      refine w_bipush (z := (32 : Int32)) (n := 247) X65.here hx (hb hby at_245) rfl rfl ?_
      refine s_C (n := 248) X65 hx hZ e65 Vf65 14 rfl (Nat.le_of_ble_eq_true rfl) (by decide) (by decide) (hb hby at_247) rfl (fun T66 h66 X66 e66 W66 (Vf66 : Arv Z h66 b51 k51 .char (18 : Int32) [.int (117 : Int32), .int (110 : Int32), .int (107 : Int32), .int (110 : Int32), .int (111 : Int32), .int (119 : Int32), .int (110 : Int32), .int (32 : Int32), .int (111 : Int32), .int (112 : Int32), .int (116 : Int32), .int (105 : Int32), .int (111 : Int32), .int (110 : Int32), .int (32 : Int32), .int (0 : Int32), .int (0 : Int32), .int (0 : Int32)] (.int 0)) => ?_)
      have Ef66 := Ext.wr Ef65 W66 gb51
      have N66 := Fr.snoc X66 N65 gb51
      refine w_dup (n := 249) X66.here hx (hb hby at_248) rfl rfl ?_
      refine w_bipush (z := (15 : Int32)) (n := 251) X66.here hx (hb hby at_249) rfl rfl ?_
      refine w_bipush (z := (39 : Int32)) (n := 253) X66.here hx (hb hby at_251) rfl rfl ?_
      refine s_C (n := 254) X66 hx hZ e66 Vf66 15 rfl (Nat.le_of_ble_eq_true rfl) (by decide) (by decide) (hb hby at_253) rfl (fun T67 h67 X67 e67 W67 (Vf67 : Arv Z h67 b51 k51 .char (18 : Int32) [.int (117 : Int32), .int (110 : Int32), .int (107 : Int32), .int (110 : Int32), .int (111 : Int32), .int (119 : Int32), .int (110 : Int32), .int (32 : Int32), .int (111 : Int32), .int (112 : Int32), .int (116 : Int32), .int (105 : Int32), .int (111 : Int32), .int (110 : Int32), .int (32 : Int32), .int (39 : Int32), .int (0 : Int32), .int (0 : Int32)] (.int 0)) => ?_)
      have Ef67 := Ext.wr Ef66 W67 gb51
      have N67 := Fr.snoc X67 N66 gb51
      refine w_dup (n := 255) X67.here hx (hb hby at_254) rfl rfl ?_
      refine w_bipush (z := (16 : Int32)) (n := 257) X67.here hx (hb hby at_255) rfl rfl ?_
      refine w_iload (n := 259) X67.here hx (hb hby at_257) rfl rfl ?_
      refine s_C (n := 260) X67 hx hZ e67 Vf67 16 rfl (Nat.le_of_ble_eq_true rfl) (by decide) (by decide) (hb hby at_259) rfl (fun T68 h68 X68 e68 W68 (Vf68 : Arv Z h68 b51 k51 .char (18 : Int32) [.int (117 : Int32), .int (110 : Int32), .int (107 : Int32), .int (110 : Int32), .int (111 : Int32), .int (119 : Int32), .int (110 : Int32), .int (32 : Int32), .int (111 : Int32), .int (112 : Int32), .int (116 : Int32), .int (105 : Int32), .int (111 : Int32), .int (110 : Int32), .int (32 : Int32), .int (39 : Int32), .int (nar .char (i1 &&& (255 : Int32))), .int (0 : Int32)] (.int 0)) => ?_)
      have Ef68 := Ext.wr Ef67 W68 gb51
      have N68 := Fr.snoc X68 N67 gb51
      refine w_dup (n := 261) X68.here hx (hb hby at_260) rfl rfl ?_
      refine w_bipush (z := (17 : Int32)) (n := 263) X68.here hx (hb hby at_261) rfl rfl ?_
      refine w_bipush (z := (39 : Int32)) (n := 265) X68.here hx (hb hby at_263) rfl rfl ?_
      refine s_C (n := 266) X68 hx hZ e68 Vf68 17 rfl (Nat.le_of_ble_eq_true rfl) (by decide) (by decide) (hb hby at_265) rfl (fun T69 h69 X69 e69 W69 (Vf69 : Arv Z h69 b51 k51 .char (18 : Int32) [.int (117 : Int32), .int (110 : Int32), .int (107 : Int32), .int (110 : Int32), .int (111 : Int32), .int (119 : Int32), .int (110 : Int32), .int (32 : Int32), .int (111 : Int32), .int (112 : Int32), .int (116 : Int32), .int (105 : Int32), .int (111 : Int32), .int (110 : Int32), .int (32 : Int32), .int (39 : Int32), .int (nar .char (i1 &&& (255 : Int32))), .int (39 : Int32)] (.int 0)) => ?_)
      have Ef69 := Ext.wr Ef68 W69 gb51
      have N69 := Fr.snoc X69 N68 gb51
      simp only [own_narc] at Vf69
      refine w_astore (Ls' := #[.val (.int i0), .val (.int i1), .val (.int i2), .val (.int i3), .val (.int (i0 &&& (3 : Int32))), .val (.int (i1 &&& (255 : Int32))), .val (.int (i2 &&& (255 : Int32))), .val (.int (i3 &&& (255 : Int32))), .val (.ref b49), .val (.ref b51), .unset, .unset, .unset, .unset]) (n := 268) X69.here hx (hb hby at_266) rfl rfl rfl ?_
      refine w_goto (n := 549) X69.here hx (hb hby at_268) (by decide) (by decide) ?_
      have hne : b49 ≠ b51 := fun q => Nat.lt_irrefl _ (by have := Vf50.lt; rw [q, g51] at this; exact this)
      have VO := (((((((((((((((((((Vf50.ext E51).other W52 hne).other W53 hne).other W54 hne).other W55 hne).other W56 hne).other W57 hne).other W58 hne).other W59 hne).other W60 hne).other W61 hne).other W62 hne).other W63 hne).other W64 hne).other W65 hne).other W66 hne).other W67 hne).other W68 hne).other W69 hne)
      exact tail _ _ _ _ b49 b51 k51 [(i1 &&& (255 : Int32))] k49 _ _ _ (X69.mono (by decide) (by decide)) e69 Ef69 N69 VO Vf69 (fun d hd => by simp only [List.mem_cons, List.not_mem_nil, or_false] at hd; rcases hd with rfl <;> exact own_m255 _) (Nat.le_of_ble_eq_true rfl)
  · refine w_iconst (z := (0 : Int32)) (n := 35) X0.here hx (hb hby at_34) rfl rfl ?_
    refine n_P (n := 37) X0 hx hZ (hw _ (List.mem_of_getElem? (i := 0) rfl)) e0 (hb hby at_35) rfl (by decide) 0 (by decide) (by decide) (by decide) (by decide) (fun T70 h70 k70 b70 g70 X70 e70 E70 V70 => ?_)
    have Ef70 := E70
    have gb70 : h0.size ≤ b70 := Nat.le_of_eq g70.symm
    have N70 := Fr.nil h0.size
    have Vf70 := pad0 V70 0
    refine w_astore (Ls' := #[.val (.int i0), .val (.int i1), .val (.int i2), .val (.int i3), .val (.int (i0 &&& (3 : Int32))), .val (.int (i1 &&& (255 : Int32))), .val (.int (i2 &&& (255 : Int32))), .val (.int (i3 &&& (255 : Int32))), .val (.ref b70), .unset, .unset, .unset, .unset, .unset]) (n := 39) X70.here hx (hb hby at_37) rfl rfl rfl ?_
    refine w_bipush (z := (17 : Int32)) (n := 41) X70.here hx (hb hby at_39) rfl rfl ?_
    refine n_P (n := 43) X70 hx hZ (hw _ (List.mem_of_getElem? (i := 0) rfl)) e70 (hb hby at_41) rfl (by decide) 17 (by decide) (by decide) (by decide) (by decide) (fun T71 h71 k71 b71 g71 X71 e71 E71 V71 => ?_)
    have Ef71 := Ext.tr Ef70 E71
    have gb71 : h0.size ≤ b71 := Nat.le_trans Ef70.1 (Nat.le_of_eq g71.symm)
    have N71 := N70
    have Vf71 := pad0 V71 17
    refine w_dup (n := 44) X71.here hx (hb hby at_43) rfl rfl ?_
    refine w_iconst (z := (0 : Int32)) (n := 45) X71.here hx (hb hby at_44) rfl rfl ?_
    refine w_bipush (z := (117 : Int32)) (n := 47) X71.here hx (hb hby at_45) rfl rfl ?_
    refine s_C (n := 48) X71 hx hZ e71 Vf71 0 rfl (Nat.le_of_ble_eq_true rfl) (by decide) (by decide) (hb hby at_47) rfl (fun T72 h72 X72 e72 W72 (Vf72 : Arv Z h72 b71 k71 .char (17 : Int32) [.int (117 : Int32), .int (0 : Int32), .int (0 : Int32), .int (0 : Int32), .int (0 : Int32), .int (0 : Int32), .int (0 : Int32), .int (0 : Int32), .int (0 : Int32), .int (0 : Int32), .int (0 : Int32), .int (0 : Int32), .int (0 : Int32), .int (0 : Int32), .int (0 : Int32), .int (0 : Int32), .int (0 : Int32)] (.int 0)) => ?_)
    have Ef72 := Ext.wr Ef71 W72 gb71
    have N72 := Fr.snoc X72 N71 gb71
    refine w_dup (n := 49) X72.here hx (hb hby at_48) rfl rfl ?_
    refine w_iconst (z := (1 : Int32)) (n := 50) X72.here hx (hb hby at_49) rfl rfl ?_
    refine w_bipush (z := (110 : Int32)) (n := 52) X72.here hx (hb hby at_50) rfl rfl ?_
    refine s_C (n := 53) X72 hx hZ e72 Vf72 1 rfl (Nat.le_of_ble_eq_true rfl) (by decide) (by decide) (hb hby at_52) rfl (fun T73 h73 X73 e73 W73 (Vf73 : Arv Z h73 b71 k71 .char (17 : Int32) [.int (117 : Int32), .int (110 : Int32), .int (0 : Int32), .int (0 : Int32), .int (0 : Int32), .int (0 : Int32), .int (0 : Int32), .int (0 : Int32), .int (0 : Int32), .int (0 : Int32), .int (0 : Int32), .int (0 : Int32), .int (0 : Int32), .int (0 : Int32), .int (0 : Int32), .int (0 : Int32), .int (0 : Int32)] (.int 0)) => ?_)
    have Ef73 := Ext.wr Ef72 W73 gb71
    have N73 := Fr.snoc X73 N72 gb71
    refine w_dup (n := 54) X73.here hx (hb hby at_53) rfl rfl ?_
    refine w_iconst (z := (2 : Int32)) (n := 55) X73.here hx (hb hby at_54) rfl rfl ?_
    refine w_bipush (z := (107 : Int32)) (n := 57) X73.here hx (hb hby at_55) rfl rfl ?_
    refine s_C (n := 58) X73 hx hZ e73 Vf73 2 rfl (Nat.le_of_ble_eq_true rfl) (by decide) (by decide) (hb hby at_57) rfl (fun T74 h74 X74 e74 W74 (Vf74 : Arv Z h74 b71 k71 .char (17 : Int32) [.int (117 : Int32), .int (110 : Int32), .int (107 : Int32), .int (0 : Int32), .int (0 : Int32), .int (0 : Int32), .int (0 : Int32), .int (0 : Int32), .int (0 : Int32), .int (0 : Int32), .int (0 : Int32), .int (0 : Int32), .int (0 : Int32), .int (0 : Int32), .int (0 : Int32), .int (0 : Int32), .int (0 : Int32)] (.int 0)) => ?_)
    have Ef74 := Ext.wr Ef73 W74 gb71
    have N74 := Fr.snoc X74 N73 gb71
    refine w_dup (n := 59) X74.here hx (hb hby at_58) rfl rfl ?_
    refine w_iconst (z := (3 : Int32)) (n := 60) X74.here hx (hb hby at_59) rfl rfl ?_
    refine w_bipush (z := (110 : Int32)) (n := 62) X74.here hx (hb hby at_60) rfl rfl ?_
    refine s_C (n := 63) X74 hx hZ e74 Vf74 3 rfl (Nat.le_of_ble_eq_true rfl) (by decide) (by decide) (hb hby at_62) rfl (fun T75 h75 X75 e75 W75 (Vf75 : Arv Z h75 b71 k71 .char (17 : Int32) [.int (117 : Int32), .int (110 : Int32), .int (107 : Int32), .int (110 : Int32), .int (0 : Int32), .int (0 : Int32), .int (0 : Int32), .int (0 : Int32), .int (0 : Int32), .int (0 : Int32), .int (0 : Int32), .int (0 : Int32), .int (0 : Int32), .int (0 : Int32), .int (0 : Int32), .int (0 : Int32), .int (0 : Int32)] (.int 0)) => ?_)
    have Ef75 := Ext.wr Ef74 W75 gb71
    have N75 := Fr.snoc X75 N74 gb71
    refine w_dup (n := 64) X75.here hx (hb hby at_63) rfl rfl ?_
    refine w_iconst (z := (4 : Int32)) (n := 65) X75.here hx (hb hby at_64) rfl rfl ?_
    refine w_bipush (z := (111 : Int32)) (n := 67) X75.here hx (hb hby at_65) rfl rfl ?_
    refine s_C (n := 68) X75 hx hZ e75 Vf75 4 rfl (Nat.le_of_ble_eq_true rfl) (by decide) (by decide) (hb hby at_67) rfl (fun T76 h76 X76 e76 W76 (Vf76 : Arv Z h76 b71 k71 .char (17 : Int32) [.int (117 : Int32), .int (110 : Int32), .int (107 : Int32), .int (110 : Int32), .int (111 : Int32), .int (0 : Int32), .int (0 : Int32), .int (0 : Int32), .int (0 : Int32), .int (0 : Int32), .int (0 : Int32), .int (0 : Int32), .int (0 : Int32), .int (0 : Int32), .int (0 : Int32), .int (0 : Int32), .int (0 : Int32)] (.int 0)) => ?_)
    have Ef76 := Ext.wr Ef75 W76 gb71
    have N76 := Fr.snoc X76 N75 gb71
    refine w_dup (n := 69) X76.here hx (hb hby at_68) rfl rfl ?_
    refine w_iconst (z := (5 : Int32)) (n := 70) X76.here hx (hb hby at_69) rfl rfl ?_
    refine w_bipush (z := (119 : Int32)) (n := 72) X76.here hx (hb hby at_70) rfl rfl ?_
    refine s_C (n := 73) X76 hx hZ e76 Vf76 5 rfl (Nat.le_of_ble_eq_true rfl) (by decide) (by decide) (hb hby at_72) rfl (fun T77 h77 X77 e77 W77 (Vf77 : Arv Z h77 b71 k71 .char (17 : Int32) [.int (117 : Int32), .int (110 : Int32), .int (107 : Int32), .int (110 : Int32), .int (111 : Int32), .int (119 : Int32), .int (0 : Int32), .int (0 : Int32), .int (0 : Int32), .int (0 : Int32), .int (0 : Int32), .int (0 : Int32), .int (0 : Int32), .int (0 : Int32), .int (0 : Int32), .int (0 : Int32), .int (0 : Int32)] (.int 0)) => ?_)
    have Ef77 := Ext.wr Ef76 W77 gb71
    have N77 := Fr.snoc X77 N76 gb71
    refine w_dup (n := 74) X77.here hx (hb hby at_73) rfl rfl ?_
    refine w_bipush (z := (6 : Int32)) (n := 76) X77.here hx (hb hby at_74) rfl rfl ?_
    refine w_bipush (z := (110 : Int32)) (n := 78) X77.here hx (hb hby at_76) rfl rfl ?_
    refine s_C (n := 79) X77 hx hZ e77 Vf77 6 rfl (Nat.le_of_ble_eq_true rfl) (by decide) (by decide) (hb hby at_78) rfl (fun T78 h78 X78 e78 W78 (Vf78 : Arv Z h78 b71 k71 .char (17 : Int32) [.int (117 : Int32), .int (110 : Int32), .int (107 : Int32), .int (110 : Int32), .int (111 : Int32), .int (119 : Int32), .int (110 : Int32), .int (0 : Int32), .int (0 : Int32), .int (0 : Int32), .int (0 : Int32), .int (0 : Int32), .int (0 : Int32), .int (0 : Int32), .int (0 : Int32), .int (0 : Int32), .int (0 : Int32)] (.int 0)) => ?_)
    have Ef78 := Ext.wr Ef77 W78 gb71
    have N78 := Fr.snoc X78 N77 gb71
    refine w_dup (n := 80) X78.here hx (hb hby at_79) rfl rfl ?_
    refine w_bipush (z := (7 : Int32)) (n := 82) X78.here hx (hb hby at_80) rfl rfl ?_
    refine w_bipush (z := (32 : Int32)) (n := 84) X78.here hx (hb hby at_82) rfl rfl ?_
    refine s_C (n := 85) X78 hx hZ e78 Vf78 7 rfl (Nat.le_of_ble_eq_true rfl) (by decide) (by decide) (hb hby at_84) rfl (fun T79 h79 X79 e79 W79 (Vf79 : Arv Z h79 b71 k71 .char (17 : Int32) [.int (117 : Int32), .int (110 : Int32), .int (107 : Int32), .int (110 : Int32), .int (111 : Int32), .int (119 : Int32), .int (110 : Int32), .int (32 : Int32), .int (0 : Int32), .int (0 : Int32), .int (0 : Int32), .int (0 : Int32), .int (0 : Int32), .int (0 : Int32), .int (0 : Int32), .int (0 : Int32), .int (0 : Int32)] (.int 0)) => ?_)
    have Ef79 := Ext.wr Ef78 W79 gb71
    have N79 := Fr.snoc X79 N78 gb71
    refine w_dup (n := 86) X79.here hx (hb hby at_85) rfl rfl ?_
    refine w_bipush (z := (8 : Int32)) (n := 88) X79.here hx (hb hby at_86) rfl rfl ?_
    refine w_bipush (z := (111 : Int32)) (n := 90) X79.here hx (hb hby at_88) rfl rfl ?_
    refine s_C (n := 91) X79 hx hZ e79 Vf79 8 rfl (Nat.le_of_ble_eq_true rfl) (by decide) (by decide) (hb hby at_90) rfl (fun T80 h80 X80 e80 W80 (Vf80 : Arv Z h80 b71 k71 .char (17 : Int32) [.int (117 : Int32), .int (110 : Int32), .int (107 : Int32), .int (110 : Int32), .int (111 : Int32), .int (119 : Int32), .int (110 : Int32), .int (32 : Int32), .int (111 : Int32), .int (0 : Int32), .int (0 : Int32), .int (0 : Int32), .int (0 : Int32), .int (0 : Int32), .int (0 : Int32), .int (0 : Int32), .int (0 : Int32)] (.int 0)) => ?_)
    have Ef80 := Ext.wr Ef79 W80 gb71
    have N80 := Fr.snoc X80 N79 gb71
    refine w_dup (n := 92) X80.here hx (hb hby at_91) rfl rfl ?_
    refine w_bipush (z := (9 : Int32)) (n := 94) X80.here hx (hb hby at_92) rfl rfl ?_
    refine w_bipush (z := (112 : Int32)) (n := 96) X80.here hx (hb hby at_94) rfl rfl ?_
    refine s_C (n := 97) X80 hx hZ e80 Vf80 9 rfl (Nat.le_of_ble_eq_true rfl) (by decide) (by decide) (hb hby at_96) rfl (fun T81 h81 X81 e81 W81 (Vf81 : Arv Z h81 b71 k71 .char (17 : Int32) [.int (117 : Int32), .int (110 : Int32), .int (107 : Int32), .int (110 : Int32), .int (111 : Int32), .int (119 : Int32), .int (110 : Int32), .int (32 : Int32), .int (111 : Int32), .int (112 : Int32), .int (0 : Int32), .int (0 : Int32), .int (0 : Int32), .int (0 : Int32), .int (0 : Int32), .int (0 : Int32), .int (0 : Int32)] (.int 0)) => ?_)
    have Ef81 := Ext.wr Ef80 W81 gb71
    have N81 := Fr.snoc X81 N80 gb71
    refine w_dup (n := 98) X81.here hx (hb hby at_97) rfl rfl ?_
    refine w_bipush (z := (10 : Int32)) (n := 100) X81.here hx (hb hby at_98) rfl rfl ?_
    refine w_bipush (z := (116 : Int32)) (n := 102) X81.here hx (hb hby at_100) rfl rfl ?_
    refine s_C (n := 103) X81 hx hZ e81 Vf81 10 rfl (Nat.le_of_ble_eq_true rfl) (by decide) (by decide) (hb hby at_102) rfl (fun T82 h82 X82 e82 W82 (Vf82 : Arv Z h82 b71 k71 .char (17 : Int32) [.int (117 : Int32), .int (110 : Int32), .int (107 : Int32), .int (110 : Int32), .int (111 : Int32), .int (119 : Int32), .int (110 : Int32), .int (32 : Int32), .int (111 : Int32), .int (112 : Int32), .int (116 : Int32), .int (0 : Int32), .int (0 : Int32), .int (0 : Int32), .int (0 : Int32), .int (0 : Int32), .int (0 : Int32)] (.int 0)) => ?_)
    have Ef82 := Ext.wr Ef81 W82 gb71
    have N82 := Fr.snoc X82 N81 gb71
    refine w_dup (n := 104) X82.here hx (hb hby at_103) rfl rfl ?_
    refine w_bipush (z := (11 : Int32)) (n := 106) X82.here hx (hb hby at_104) rfl rfl ?_
    refine w_bipush (z := (105 : Int32)) (n := 108) X82.here hx (hb hby at_106) rfl rfl ?_
    refine s_C (n := 109) X82 hx hZ e82 Vf82 11 rfl (Nat.le_of_ble_eq_true rfl) (by decide) (by decide) (hb hby at_108) rfl (fun T83 h83 X83 e83 W83 (Vf83 : Arv Z h83 b71 k71 .char (17 : Int32) [.int (117 : Int32), .int (110 : Int32), .int (107 : Int32), .int (110 : Int32), .int (111 : Int32), .int (119 : Int32), .int (110 : Int32), .int (32 : Int32), .int (111 : Int32), .int (112 : Int32), .int (116 : Int32), .int (105 : Int32), .int (0 : Int32), .int (0 : Int32), .int (0 : Int32), .int (0 : Int32), .int (0 : Int32)] (.int 0)) => ?_)
    have Ef83 := Ext.wr Ef82 W83 gb71
    have N83 := Fr.snoc X83 N82 gb71
    refine w_dup (n := 110) X83.here hx (hb hby at_109) rfl rfl ?_
    refine w_bipush (z := (12 : Int32)) (n := 112) X83.here hx (hb hby at_110) rfl rfl ?_
    refine w_bipush (z := (111 : Int32)) (n := 114) X83.here hx (hb hby at_112) rfl rfl ?_
    refine s_C (n := 115) X83 hx hZ e83 Vf83 12 rfl (Nat.le_of_ble_eq_true rfl) (by decide) (by decide) (hb hby at_114) rfl (fun T84 h84 X84 e84 W84 (Vf84 : Arv Z h84 b71 k71 .char (17 : Int32) [.int (117 : Int32), .int (110 : Int32), .int (107 : Int32), .int (110 : Int32), .int (111 : Int32), .int (119 : Int32), .int (110 : Int32), .int (32 : Int32), .int (111 : Int32), .int (112 : Int32), .int (116 : Int32), .int (105 : Int32), .int (111 : Int32), .int (0 : Int32), .int (0 : Int32), .int (0 : Int32), .int (0 : Int32)] (.int 0)) => ?_)
    have Ef84 := Ext.wr Ef83 W84 gb71
    have N84 := Fr.snoc X84 N83 gb71
    refine w_dup (n := 116) X84.here hx (hb hby at_115) rfl rfl ?_
    refine w_bipush (z := (13 : Int32)) (n := 118) X84.here hx (hb hby at_116) rfl rfl ?_
    refine w_bipush (z := (110 : Int32)) (n := 120) X84.here hx (hb hby at_118) rfl rfl ?_
    refine s_C (n := 121) X84 hx hZ e84 Vf84 13 rfl (Nat.le_of_ble_eq_true rfl) (by decide) (by decide) (hb hby at_120) rfl (fun T85 h85 X85 e85 W85 (Vf85 : Arv Z h85 b71 k71 .char (17 : Int32) [.int (117 : Int32), .int (110 : Int32), .int (107 : Int32), .int (110 : Int32), .int (111 : Int32), .int (119 : Int32), .int (110 : Int32), .int (32 : Int32), .int (111 : Int32), .int (112 : Int32), .int (116 : Int32), .int (105 : Int32), .int (111 : Int32), .int (110 : Int32), .int (0 : Int32), .int (0 : Int32), .int (0 : Int32)] (.int 0)) => ?_)
    have Ef85 := Ext.wr Ef84 W85 gb71
    have N85 := Fr.snoc X85 N84 gb71
    refine w_dup (n := 122) X85.here hx (hb hby at_121) rfl rfl ?_
    refine w_bipush (z := (14 : Int32)) (n := 124) X85.here hx (hb hby at_122) rfl rfl ?_
    refine w_bipush (z := (32 : Int32)) (n := 126) X85.here hx (hb hby at_124) rfl rfl ?_
    refine s_C (n := 127) X85 hx hZ e85 Vf85 14 rfl (Nat.le_of_ble_eq_true rfl) (by decide) (by decide) (hb hby at_126) rfl (fun T86 h86 X86 e86 W86 (Vf86 : Arv Z h86 b71 k71 .char (17 : Int32) [.int (117 : Int32), .int (110 : Int32), .int (107 : Int32), .int (110 : Int32), .int (111 : Int32), .int (119 : Int32), .int (110 : Int32), .int (32 : Int32), .int (111 : Int32), .int (112 : Int32), .int (116 : Int32), .int (105 : Int32), .int (111 : Int32), .int (110 : Int32), .int (32 : Int32), .int (0 : Int32), .int (0 : Int32)] (.int 0)) => ?_)
    have Ef86 := Ext.wr Ef85 W86 gb71
    have N86 := Fr.snoc X86 N85 gb71
    refine w_dup (n := 128) X86.here hx (hb hby at_127) rfl rfl ?_
    refine w_bipush (z := (15 : Int32)) (n := 130) X86.here hx (hb hby at_128) rfl rfl ?_
    refine w_bipush (z := (39 : Int32)) (n := 132) X86.here hx (hb hby at_130) rfl rfl ?_
    refine s_C (n := 133) X86 hx hZ e86 Vf86 15 rfl (Nat.le_of_ble_eq_true rfl) (by decide) (by decide) (hb hby at_132) rfl (fun T87 h87 X87 e87 W87 (Vf87 : Arv Z h87 b71 k71 .char (17 : Int32) [.int (117 : Int32), .int (110 : Int32), .int (107 : Int32), .int (110 : Int32), .int (111 : Int32), .int (119 : Int32), .int (110 : Int32), .int (32 : Int32), .int (111 : Int32), .int (112 : Int32), .int (116 : Int32), .int (105 : Int32), .int (111 : Int32), .int (110 : Int32), .int (32 : Int32), .int (39 : Int32), .int (0 : Int32)] (.int 0)) => ?_)
    have Ef87 := Ext.wr Ef86 W87 gb71
    have N87 := Fr.snoc X87 N86 gb71
    refine w_dup (n := 134) X87.here hx (hb hby at_133) rfl rfl ?_
    refine w_bipush (z := (16 : Int32)) (n := 136) X87.here hx (hb hby at_134) rfl rfl ?_
    refine w_bipush (z := (39 : Int32)) (n := 138) X87.here hx (hb hby at_136) rfl rfl ?_
    refine s_C (n := 139) X87 hx hZ e87 Vf87 16 rfl (Nat.le_of_ble_eq_true rfl) (by decide) (by decide) (hb hby at_138) rfl (fun T88 h88 X88 e88 W88 (Vf88 : Arv Z h88 b71 k71 .char (17 : Int32) [.int (117 : Int32), .int (110 : Int32), .int (107 : Int32), .int (110 : Int32), .int (111 : Int32), .int (119 : Int32), .int (110 : Int32), .int (32 : Int32), .int (111 : Int32), .int (112 : Int32), .int (116 : Int32), .int (105 : Int32), .int (111 : Int32), .int (110 : Int32), .int (32 : Int32), .int (39 : Int32), .int (39 : Int32)] (.int 0)) => ?_)
    have Ef88 := Ext.wr Ef87 W88 gb71
    have N88 := Fr.snoc X88 N87 gb71
    refine w_astore (Ls' := #[.val (.int i0), .val (.int i1), .val (.int i2), .val (.int i3), .val (.int (i0 &&& (3 : Int32))), .val (.int (i1 &&& (255 : Int32))), .val (.int (i2 &&& (255 : Int32))), .val (.int (i3 &&& (255 : Int32))), .val (.ref b70), .val (.ref b71), .unset, .unset, .unset, .unset]) (n := 141) X88.here hx (hb hby at_139) rfl rfl rfl ?_
    refine w_goto (n := 549) X88.here hx (hb hby at_141) (by decide) (by decide) ?_
    have hne : b70 ≠ b71 := fun q => Nat.lt_irrefl _ (by have := Vf70.lt; rw [q, g71] at this; exact this)
    have VO := ((((((((((((((((((Vf70.ext E71).other W72 hne).other W73 hne).other W74 hne).other W75 hne).other W76 hne).other W77 hne).other W78 hne).other W79 hne).other W80 hne).other W81 hne).other W82 hne).other W83 hne).other W84 hne).other W85 hne).other W86 hne).other W87 hne).other W88 hne)
    exact tail _ _ _ _ b70 b71 k71 [] k70 _ _ _ (X88.mono (by decide) (by decide)) e88 Ef88 N88 VO Vf88 (fun d hd => nomatch hd) (Nat.le_of_ble_eq_true rfl)
set_option maxRecDepth 65536 in
set_option maxHeartbeats 40000000 in
theorem comes_1 {Post : Tables → Env → Array Value → State → Outcome → State → Prop} (hpost : ∀ tb e args s v u, (limb_1_1.after args s (.returned v) u = true ∧ limb_1_2.after args s (.returned v) u = true ∧ True) → FramedW s (.returned v) u (Jvm.fieldLocs frame_1_writes args s ++ Jvm.arrayLocs frame_1_arrays args s ++ Jvm.staticLocs frame_1_statics s) 40 8960 → Post tb e args s (.returned v) u) :
    ArmFor flags0 classFile x code maxLocals ret World_1 tables_1 room_1 Calls_1 rest_1 Pre_1 Post := by
  intro l hfl _ _ p e ha hc hk s m args below hf hA hF happ hP
  obtain ⟨hcalls, hrest, hpre⟩ := hP
  obtain ⟨-, -, -, hnamed, -, -, -, hat⟩ := (Spec.applies_iff hf).mp happ
  obtain ⟨hg, hn⟩ := and_e (Cond.before_iff.mp (show (Jvm.Cond.and given_1 narrow_1).before args s = true from hpre))
  obtain ⟨q1, q2⟩ := and_e hg
  obtain ⟨q3, q4⟩ := and_e q2
  obtain ⟨q5, q6⟩ := and_e q4
  obtain ⟨q7, q8⟩ := and_e q6
  obtain ⟨w0, w1, w2, w3, rfl⟩ : ∃ w0 w1 w2 w3 : Value, args = #[w0, w1, w2, w3] := by
    have hs : args.size = 4 := by simpa [Cond.value, given_1] using q1
    obtain ⟨L⟩ := args
    match L, hs with
    | [w0, w1, w2, w3], _ => exact ⟨w0, w1, w2, w3, rfl⟩
  have hw := fun d (hd : d ∈ tables_1) => atoms_spec (ws := Jvm.Cond.code x code maxLocals ret :: tables_1) hat d (List.mem_cons_of_mem _ hd)
  have hfit : Fit s := fun {y c} hc i hi => by
    obtain ⟨ha, rfl⟩ := Array.getElem?_eq_some_iff.mp hc
    have q := List.all_eq_true.mp ((Array.all_eq_true_iff_forall_mem.mp hF) _ (Array.getElem_mem ha)) i (List.mem_range.mpr hi)
    simpa [Array.getElem?_eq_getElem hi] using q
  obtain ⟨hsets, hown0⟩ := atoms_of _ (rest_1_c_eq ▸ (show rest_1_c.before _ s = true from hrest))
  have hr0 := Cond.before_iff.mp hown0
  obtain ⟨i0, ei0⟩ := is_v q3
  obtain rfl : w0 = (.int i0) := Option.some.inj ei0
  obtain ⟨i1, ei1⟩ := is_v q5
  obtain rfl : w1 = (.int i1) := Option.some.inj ei1
  obtain ⟨i2, ei2⟩ := is_v q7
  obtain rfl : w2 = (.int i2) := Option.some.inj ei2
  obtain ⟨i3, ei3⟩ := is_v q8
  obtain rfl : w3 = (.int i3) := Option.some.inj ei3
  obtain ⟨cs, ecs⟩ := is_v (Cond.before_iff.mp (hsets _ (List.mem_of_getElem? (i := 1) rfl)))
  have SC := Sta.start ecs (Or.inl (hsets _ (List.mem_of_getElem? (i := 0) rfl)))
  have hcs : cs ≠ 0 := gotF (Cond.eq_ints ecs (Term.int_eval 0)) (not_v (Cond.before_iff.mp (hsets _ (List.mem_of_getElem? (i := 2) rfl))))
  obtain ⟨u, eu, hu⟩ := Cond.isRef_spec (hsets _ (List.mem_of_getElem? (i := 16) rfl))
  have SU := Sta.start eu (Or.inl (hsets _ (List.mem_of_getElem? (i := 15) rfl)))
  obtain ⟨v, ev, hv⟩ := Cond.isRef_spec (hsets _ (List.mem_of_getElem? (i := 21) rfl))
  have SV := Sta.start ev (Or.inl (hsets _ (List.mem_of_getElem? (i := 20) rfl)))
  have hl : l.stackTraces = true := by unfold Launch.stackTraces; rw [hfl]; decide
  have hEL : EW s _ own_EL := EW.cons (hw _ (List.mem_of_getElem? (i := 57) rfl)) own_t1.1 (EW.cons (hw _ (List.mem_of_getElem? (i := 105) rfl)) own_t2.1 (EW.cons (hw _ (List.mem_of_getElem? (i := 14) rfl)) (fun c hc => nomatch hc) EW.nil))
  have hC0 : CHv s own_EL s.vm s.heap := CHv.start hEL (fun p hp => hcalls.2.2.1 p hp) (hsets _ (List.mem_of_getElem? (i := 2) rfl)) (hw _ (List.mem_of_getElem? (i := 15) rfl)) (hw _ (List.mem_of_getElem? (i := 2) rfl))
  have hTK := MethodsKnown_of_tablesKnown hcalls.2.1
  have hBel := FramesKnown_of_framesKnown hcalls.1 hf
  obtain ⟨n, o, h1, h2, h3, _, L, rfl, ⟨rfl, N⟩, hq⟩ := rm0 l s _ hw tables_1 hl hEL s.vm i0 i1 i2 i3 s.heap cs hcs SC ThS.start u v hu hv SU SV p e ha hc hk s m _ below hf ((Spec.applies_iff_loose hf).mp happ).1 ⟨rfl, State.Warmed39.refl s, rfl, CHr.refl hC0⟩ ⟨hTK, hBel⟩
  exact ⟨n, _, h1, h2, h3, hpost _ _ _ _ _ _ ⟨Cond.after_iff.mpr rfl, Cond.after_iff.mpr (eq_i res_at (Term.int_eval (1)) rfl), trivial⟩ ⟨hq.1, hq.2.1, hq.2.2.1, (hq.2.2.2.sift fun y hy => Or.inr (N y hy)).mono (by decide) (by decide)⟩⟩
theorem main_1_1 : Claimed_1_1 := comes_1 fun _ _ _ _ _ _ h hF => ⟨h.1, hF⟩
theorem main_1_2 : Claimed_1_2 := comes_1 fun _ _ _ _ _ _ h hF => ⟨h.2.1, hF⟩
end Jvm.Pilot.@@N@@
namespace Jvm.Pilot.@@N@@
open Jvm Jvm.ClassFile Sem Op Lib Jvm.Free Jvm.Stand Jvm.Pilot.@@N@@.Jvm.D
/-! MADE BY PROGRAM (witnessworld.py) out of the Statement's table words and the real class files: 41 classes; the members and pool entries that the words name. The judged class is class 1, her method 1. -/
namespace start1
open Jvm.ClassFile
def u (s : String) : CpInfo := .utf8 (stringToUtf16 s)
/-- a pool by its gaps: so many unusable entries, then the entry; so many at the end -/
def gap : Nat → List CpInfo → List CpInfo
  | 0, r => r
  | n + 1, r => .unusable :: gap n r
def poolList (es : List (Nat × CpInfo)) (last : Nat) : List CpInfo := es.foldr (fun e r => gap e.1 (e.2 :: r)) (gap last [])
def pool (es : List (Nat × CpInfo)) (last : Nat) : Array CpInfo := ⟨poolList es last⟩
def fileOf (pool : Array CpInfo) (this : Nat) (attrs : Array Attribute := #[]) (ms : Array MethodInfo := #[]) (fl : Nat := 33) (sup : Nat := 0) (ifs : Array Nat := #[]) (fds : Array FieldInfo := #[]) : ClassFile where
  minorVersion := 0
  majorVersion := 65
  constantPool := pool
  accessFlags := fl
  thisClass := this
  superClass := sup
  interfaces := ifs
  fields := fds
  methods := ms
  attributes := attrs
def plain (name : String) (sup : Option ClassId) : Class where
  name := name
  kind := .ordinary
  loader := none
  accessFlags := 33
  super := sup
  interfaces := #[]
  cf := none
  fields := #[]
  methods := #[]
  instanceTypes := #[]
  staticTypes := #[]
  resolved := #[]
  callSites := []
  init := .initialized
  statics := none
  mirror := none

def pool0 : Array CpInfo := pool [(5, u "<init>"), (0, u "()V"), (1, .class_ 10), (1, u "java/lang/Object")] 113

def k0c0 : Code := { maxStack := 0, maxLocals := 1, code := object_method_1_code, exceptionTable := #[], attributes := #[] }
def k0m0 : Method := { name := "<init>", desc := "()V", sig := { parameters := [], returnType := none }, accessFlags := 1, code := some k0c0 }
/-- java/lang/Object -/
def k0 : Class := { plain "java/lang/Object" none with
  accessFlags := 33
  interfaces := #[]
  cf := some (fileOf pool0 8 #[] #[{ accessFlags := 1, nameIndex := 5, descriptorIndex := 6, attributes := #[] }] 33 0 #[] #[])
  fields := #[]
  methods := #[k0m0]
  instanceTypes := #[]
  staticTypes := #[]
  resolved := Array.replicate 124 none
  statics := none }

def pool1 : Array CpInfo := pool [(2, .class_ 4), (1, u "java/lang/Object"), (0, u "<init>"), (0, u "()V"), (0, .class_ 8), (0, u "java/lang/String"), (0, .methodref 7 10), (0, .nameAndType 5 11), (0, u "([C)V"), (0, .methodref 13 14), (0, .class_ 15), (0, .nameAndType 16 17), (0, u "com/example/legitka/legitka/cli/UsageException"), (0, u "unknownOption"), (0, u "(Ljava/lang/String;)Lcom/example/legitka/legitka/cli/UsageException;"), (0, .methodref 13 19), (0, .nameAndType 20 21), (0, u "getMessage"), (0, u "()Ljava/lang/String;"), (0, .methodref 7 23), (0, .nameAndType 24 25), (0, u "equals"), (0, u "(Ljava/lang/Object;)Z"), (0, .class_ 27), (0, u "com/example/legitka/legitka/cli/UsageExceptionUnknownOptionPinLaw"), (2, u "law"), (0, u "(IIII)Z")] 5

def k1m0 : Method := { name := "<init>", desc := "()V", sig := { parameters := [], returnType := none }, accessFlags := 1, code := none }
def k1c1 : Code := { maxStack := 4, maxLocals := 14, code := code, exceptionTable := #[], attributes := #[] }
def k1m1 : Method := { name := "law", desc := "(IIII)Z", sig := { parameters := [.int, .int, .int, .int], returnType := some .boolean }, accessFlags := 9, code := some k1c1 }
/-- com/example/legitka/legitka/cli/UsageExceptionUnknownOptionPinLaw -/
def k1 : Class := { plain "com/example/legitka/legitka/cli/UsageExceptionUnknownOptionPinLaw" (some 0) with
  accessFlags := 49
  interfaces := #[]
  cf := some (fileOf pool1 26 #[] #[{ accessFlags := 1, nameIndex := 5, descriptorIndex := 6, attributes := #[] }, { accessFlags := 9, nameIndex := 30, descriptorIndex := 31, attributes := #[] }] 49 2 #[] #[])
  fields := #[]
  methods := #[k1m0, k1m1]
  instanceTypes := #[]
  staticTypes := #[]
  resolved := Array.replicate 37 none
  statics := none }

def pool2 : Array CpInfo := pool [(1, .class_ 2), (0, u "java/io/Serializable"), (0, .class_ 4), (0, u "java/lang/Object")] 2

/-- java/io/Serializable -/
def k2 : Class := { plain "java/io/Serializable" (some 0) with
  accessFlags := 1537
  interfaces := #[]
  cf := some (fileOf pool2 1 #[] #[] 1537 3 #[] #[])
  fields := #[]
  methods := #[]
  instanceTypes := #[]
  staticTypes := #[]
  resolved := Array.replicate 7 none
  statics := none }

def pool3 : Array CpInfo := pool [(1, .class_ 2), (0, u "java/lang/Comparable"), (0, .class_ 4), (0, u "java/lang/Object")] 7

/-- java/lang/Comparable -/
def k3 : Class := { plain "java/lang/Comparable" (some 0) with
  accessFlags := 1537
  interfaces := #[]
  cf := some (fileOf pool3 1 #[] #[] 1537 3 #[] #[])
  fields := #[]
  methods := #[]
  instanceTypes := #[]
  staticTypes := #[]
  resolved := Array.replicate 12 none
  statics := none }

def pool4 : Array CpInfo := pool [(2, .class_ 4), (1, u "java/lang/CharSequence"), (42, .class_ 48), (0, u "java/lang/CharSequence$1CodePointIterator"), (10, .class_ 60), (0, u "java/lang/CharSequence$1CharIterator"), (5, .class_ 67), (0, u "java/lang/Object")] 63

/-- java/lang/CharSequence -/
def k4 : Class := { plain "java/lang/CharSequence" (some 0) with
  accessFlags := 1537
  interfaces := #[]
  cf := some (fileOf pool4 2 #[.nestMembers #[47, 59]] #[] 1537 66 #[] #[])
  fields := #[]
  methods := #[]
  instanceTypes := #[]
  staticTypes := #[]
  resolved := Array.replicate 131 none
  statics := none }

def pool5 : Array CpInfo := pool [(1, .class_ 2), (0, u "java/lang/constant/Constable"), (0, .class_ 4), (0, u "java/lang/Object")] 6

/-- java/lang/constant/Constable -/
def k5 : Class := { plain "java/lang/constant/Constable" (some 0) with
  accessFlags := 1537
  interfaces := #[]
  cf := some (fileOf pool5 1 #[] #[] 1537 3 #[] #[])
  fields := #[]
  methods := #[]
  instanceTypes := #[]
  staticTypes := #[]
  resolved := Array.replicate 11 none
  statics := none }

def pool6 : Array CpInfo := pool [(1, .class_ 2), (0, u "java/lang/constant/ConstantDesc"), (0, .class_ 4), (0, u "java/lang/Object")] 32

/-- java/lang/constant/ConstantDesc -/
def k6 : Class := { plain "java/lang/constant/ConstantDesc" (some 0) with
  accessFlags := 1537
  interfaces := #[]
  cf := some (fileOf pool6 1 #[] #[] 1537 3 #[] #[])
  fields := #[]
  methods := #[]
  instanceTypes := #[]
  staticTypes := #[]
  resolved := Array.replicate 37 none
  statics := none }

def pool7 : Array CpInfo := pool [(1, .methodref 2 3), (0, .class_ 4), (0, .nameAndType 5 6), (0, u "java/lang/Object"), (0, u "<init>"), (0, u "()V"), (0, .string 8), (0, u ""), (0, .fieldref 10 11), (0, .class_ 12), (0, .nameAndType 13 14), (0, u "java/lang/String"), (0, u "value"), (0, u "[B"), (0, .fieldref 10 16), (0, .nameAndType 17 18), (0, u "coder"), (0, u "B"), (2, u "hash"), (0, u "I"), (2, u "hashIsZero"), (0, u "Z"), (0, .methodref 10 28), (0, .nameAndType 5 29), (0, u "([CIILjava/lang/Void;)V"), (8, .fieldref 10 39), (0, .nameAndType 40 26), (0, u "COMPACT_STRINGS"), (1, .class_ 44), (1, u "java/lang/StringUTF16"), (0, u "compress"), (1, .methodref 42 48), (0, .nameAndType 49 50), (0, u "coderFromArrayLen"), (0, u "([BI)B"), (3, .methodref 55 56), (0, .class_ 57), (0, .nameAndType 58 59), (0, u "java/util/Arrays"), (0, u "copyOfRange"), (0, u "([BII)[B"), (47, .class_ 109), (1, u "java/lang/StringLatin1"), (32, u "()Z"), (34, .methodref 42 178), (0, .nameAndType 45 179), (0, u "([CII)[B"), (13, .class_ 195), (1, u "java/lang/System"), (16, .methodref 193 213), (0, .nameAndType 214 215), (0, u "arraycopy"), (0, u "(Ljava/lang/Object;ILjava/lang/Object;II)V"), (118, u "()I"), (0, .methodref 10 336), (0, .nameAndType 17 337), (0, u "()B"), (2, u "()[B"), (148, .methodref 10 490), (0, .nameAndType 5 491), (0, u "(Ljava/lang/AbstractStringBuilder;Ljava/lang/Void;)V"), (1, .nameAndType 494 142), (0, u "isLatin1"), (11, .nameAndType 507 334), (0, u "length"), (24, u "getBytes"), (8, .methodref 107 542), (0, .nameAndType 543 544), (0, u "equals"), (0, u "([B[B)Z"), (4, .methodref 550 506), (0, .class_ 551), (0, u "java/lang/AbstractStringBuilder"), (0, .methodref 550 553), (0, .nameAndType 554 340), (0, u "getValue"), (18, u "(Ljava/lang/Object;)Z"), (1, .class_ 576), (0, u "java/lang/CharSequence"), (22, u "CASE_INSENSITIVE_ORDER"), (0, u "Ljava/util/Comparator;"), (220, u "([BIB)V"), (188, u "([C)V"), (36, .methodref 550 493), (53, u "serialPersistentFields"), (0, u "[Ljava/io/ObjectStreamField;"), (0, .class_ 1104), (0, u "java/lang/String$CaseInsensitiveComparator"), (1, .class_ 1107), (0, u "java/io/Serializable"), (0, .class_ 1109), (0, u "java/lang/Comparable"), (0, .class_ 1111), (0, u "java/lang/constant/Constable"), (0, .class_ 1113), (0, u "java/lang/constant/ConstantDesc"), (2, u "serialVersionUID"), (0, u "J"), (3, u "REPL"), (0, u "C"), (2, u "LATIN1"), (1, u "UTF16"), (105, u "(Ljava/lang/StringBuilder;)V")] 217

def k7m0 : Method := { name := "<init>", desc := "()V", sig := { parameters := [], returnType := none }, accessFlags := 1, code := none }
def k7c1 : Code := { maxStack := 5, maxLocals := 2, code := jdk_42_method_3_code, exceptionTable := #[], attributes := #[] }
def k7m1 : Method := { name := "<init>", desc := "([C)V", sig := { parameters := [(.array .char)], returnType := none }, accessFlags := 1, code := some k7c1 }
def k7c2 : Code := { maxStack := 3, maxLocals := 2, code := jdk_42_method_53_code, exceptionTable := #[], attributes := #[] }
def k7m2 : Method := { name := "<init>", desc := "(Ljava/lang/StringBuilder;)V", sig := { parameters := [(.object "java/lang/StringBuilder")], returnType := none }, accessFlags := 1, code := some k7c2 }
def k7c3 : Code := { maxStack := 2, maxLocals := 1, code := jdk_42_method_54_code, exceptionTable := #[], attributes := #[] }
def k7m3 : Method := { name := "length", desc := "()I", sig := { parameters := [], returnType := some .int }, accessFlags := 1, code := some k7c3 }
def k7c4 : Code := { maxStack := 2, maxLocals := 3, code := jdk_42_method_66_code, exceptionTable := #[], attributes := #[] }
def k7m4 : Method := { name := "equals", desc := "(Ljava/lang/Object;)Z", sig := { parameters := [(.object "java/lang/Object")], returnType := some .boolean }, accessFlags := 1, code := some k7c4 }
def k7c5 : Code := { maxStack := 5, maxLocals := 4, code := jdk_42_method_147_code, exceptionTable := #[], attributes := #[] }
def k7m5 : Method := { name := "getBytes", desc := "([BIB)V", sig := { parameters := [(.array .byte), .int, .byte], returnType := none }, accessFlags := 0, code := some k7c5 }
def k7c6 : Code := { maxStack := 4, maxLocals := 6, code := jdk_42_method_149_code, exceptionTable := #[], attributes := #[] }
def k7m6 : Method := { name := "<init>", desc := "([CIILjava/lang/Void;)V", sig := { parameters := [(.array .char), .int, .int, (.object "java/lang/Void")], returnType := none }, accessFlags := 2, code := some k7c6 }
def k7c7 : Code := { maxStack := 5, maxLocals := 5, code := jdk_42_method_150_code, exceptionTable := #[], attributes := #[] }
def k7m7 : Method := { name := "<init>", desc := "(Ljava/lang/AbstractStringBuilder;Ljava/lang/Void;)V", sig := { parameters := [(.object "java/lang/AbstractStringBuilder"), (.object "java/lang/Void")], returnType := none }, accessFlags := 0, code := some k7c7 }
def k7c8 : Code := { maxStack := 1, maxLocals := 1, code := jdk_42_method_152_code, exceptionTable := #[], attributes := #[] }
def k7m8 : Method := { name := "coder", desc := "()B", sig := { parameters := [], returnType := some .byte }, accessFlags := 0, code := some k7c8 }
/-- java/lang/String -/
def k7 : Class := { plain "java/lang/String" (some 0) with
  accessFlags := 49
  interfaces := #[2, 3, 4, 5, 6]
  cf := some (fileOf pool7 10 #[.nestMembers #[1103]] #[{ accessFlags := 1, nameIndex := 5, descriptorIndex := 6, attributes := #[] }, { accessFlags := 1, nameIndex := 5, descriptorIndex := 1010, attributes := #[] }, { accessFlags := 1, nameIndex := 5, descriptorIndex := 1233, attributes := #[] }, { accessFlags := 1, nameIndex := 507, descriptorIndex := 334, attributes := #[] }, { accessFlags := 1, nameIndex := 543, descriptorIndex := 573, attributes := #[] }, { accessFlags := 0, nameIndex := 532, descriptorIndex := 821, attributes := #[] }, { accessFlags := 2, nameIndex := 5, descriptorIndex := 29, attributes := #[] }, { accessFlags := 0, nameIndex := 5, descriptorIndex := 491, attributes := #[] }, { accessFlags := 0, nameIndex := 17, descriptorIndex := 337, attributes := #[] }] 49 2 #[1106, 1108, 575, 1110, 1112] #[{ accessFlags := 18, nameIndex := 13, descriptorIndex := 14, attributes := #[] }, { accessFlags := 18, nameIndex := 17, descriptorIndex := 18, attributes := #[] }, { accessFlags := 2, nameIndex := 21, descriptorIndex := 22, attributes := #[] }, { accessFlags := 2, nameIndex := 25, descriptorIndex := 26, attributes := #[] }, { accessFlags := 26, nameIndex := 1116, descriptorIndex := 1117, attributes := #[] }, { accessFlags := 24, nameIndex := 40, descriptorIndex := 26, attributes := #[] }, { accessFlags := 26, nameIndex := 1101, descriptorIndex := 1102, attributes := #[] }, { accessFlags := 26, nameIndex := 1121, descriptorIndex := 1122, attributes := #[] }, { accessFlags := 25, nameIndex := 599, descriptorIndex := 600, attributes := #[] }, { accessFlags := 24, nameIndex := 1125, descriptorIndex := 18, attributes := #[] }, { accessFlags := 24, nameIndex := 1127, descriptorIndex := 18, attributes := #[] }])
  fields := #[{ name := "value", type := (.array .byte), accessFlags := 18, slot := 0, constantValue := 0 }, { name := "coder", type := .byte, accessFlags := 18, slot := 1, constantValue := 0 }, { name := "hash", type := .int, accessFlags := 2, slot := 2, constantValue := 0 }, { name := "hashIsZero", type := .boolean, accessFlags := 2, slot := 3, constantValue := 0 }, { name := "serialVersionUID", type := .long, accessFlags := 26, slot := 0, constantValue := 0 }, { name := "COMPACT_STRINGS", type := .boolean, accessFlags := 24, slot := 1, constantValue := 0 }, { name := "serialPersistentFields", type := (.array (.object "java/io/ObjectStreamField")), accessFlags := 26, slot := 2, constantValue := 0 }, { name := "REPL", type := .char, accessFlags := 26, slot := 3, constantValue := 0 }, { name := "CASE_INSENSITIVE_ORDER", type := (.object "java/util/Comparator"), accessFlags := 25, slot := 4, constantValue := 0 }, { name := "LATIN1", type := .byte, accessFlags := 24, slot := 5, constantValue := 0 }, { name := "UTF16", type := .byte, accessFlags := 24, slot := 6, constantValue := 0 }]
  methods := #[k7m0, k7m1, k7m2, k7m3, k7m4, k7m5, k7m6, k7m7, k7m8]
  instanceTypes := #[(.array .byte), .byte, .int, .boolean]
  staticTypes := #[.long, .boolean, (.array (.object "java/io/ObjectStreamField")), .char, (.object "java/util/Comparator"), .byte, .byte]
  resolved := Array.replicate 1451 none
  statics := some 0 }

def pool8 : Array CpInfo := pool [(6, .class_ 8), (1, u "java/lang/Object"), (0, u "<init>"), (0, u "()V"), (1, .class_ 14), (1, u "java/lang/StringUTF16"), (31, u "$assertionsDisabled"), (0, u "Z"), (13, u "HI_BYTE_SHIFT"), (0, u "I"), (2, u "LO_BYTE_SHIFT"), (49, .methodref 12 116), (0, .nameAndType 117 118), (0, u "compress"), (0, u "([CI[BII)I"), (3, u "([CII)[B"), (138, u "coderFromArrayLen"), (0, u "([BI)B"), (106, .class_ 371), (1, u "java/lang/StringUTF16$LinesSpliterator"), (58, u "MAX_LENGTH"), (196, .class_ 628), (0, u "java/lang/StringUTF16$CodePointsSpliterator"), (0, .class_ 630), (0, u "java/lang/StringUTF16$CharsSpliterator")] 4

def k8m0 : Method := { name := "<init>", desc := "()V", sig := { parameters := [], returnType := none }, accessFlags := 0, code := none }
def k8c1 : Code := { maxStack := 2, maxLocals := 2, code := jdk_52_method_15_code, exceptionTable := #[], attributes := #[] }
def k8m1 : Method := { name := "coderFromArrayLen", desc := "([BI)B", sig := { parameters := [(.array .byte), .int], returnType := some .byte }, accessFlags := 8, code := some k8c1 }
def k8c2 : Code := { maxStack := 5, maxLocals := 6, code := jdk_52_method_16_code, exceptionTable := #[], attributes := #[] }
def k8m2 : Method := { name := "compress", desc := "([CII)[B", sig := { parameters := [(.array .char), .int, .int], returnType := some (.array .byte) }, accessFlags := 9, code := some k8c2 }
def k8c3 : Code := { maxStack := 3, maxLocals := 7, code := jdk_52_method_21_code, exceptionTable := #[], attributes := #[] }
def k8m3 : Method := { name := "compress", desc := "([CI[BII)I", sig := { parameters := [(.array .char), .int, (.array .byte), .int, .int], returnType := some .int }, accessFlags := 9, code := some k8c3 }
/-- java/lang/StringUTF16 -/
def k8 : Class := { plain "java/lang/StringUTF16" (some 0) with
  accessFlags := 48
  interfaces := #[]
  cf := some (fileOf pool8 12 #[.nestMembers #[627, 629, 369]] #[{ accessFlags := 0, nameIndex := 9, descriptorIndex := 10, attributes := #[] }, { accessFlags := 8, nameIndex := 261, descriptorIndex := 262, attributes := #[] }, { accessFlags := 9, nameIndex := 117, descriptorIndex := 122, attributes := #[] }, { accessFlags := 9, nameIndex := 117, descriptorIndex := 118, attributes := #[] }] 48 6 #[] #[{ accessFlags := 26, nameIndex := 61, descriptorIndex := 62, attributes := #[] }, { accessFlags := 26, nameIndex := 65, descriptorIndex := 62, attributes := #[] }, { accessFlags := 24, nameIndex := 430, descriptorIndex := 62, attributes := #[] }, { accessFlags := 4120, nameIndex := 46, descriptorIndex := 47, attributes := #[] }])
  fields := #[{ name := "HI_BYTE_SHIFT", type := .int, accessFlags := 26, slot := 0, constantValue := 0 }, { name := "LO_BYTE_SHIFT", type := .int, accessFlags := 26, slot := 1, constantValue := 0 }, { name := "MAX_LENGTH", type := .int, accessFlags := 24, slot := 2, constantValue := 0 }, { name := "$assertionsDisabled", type := .boolean, accessFlags := 4120, slot := 3, constantValue := 0 }]
  methods := #[k8m0, k8m1, k8m2, k8m3]
  instanceTypes := #[]
  staticTypes := #[.int, .int, .int, .boolean]
  resolved := Array.replicate 635 none
  statics := none }

def pool9 : Array CpInfo := pool [(1, .methodref 2 3), (0, .class_ 4), (0, .nameAndType 5 6), (0, u "java/lang/Object"), (0, u "<init>"), (0, u "()V"), (0, .fieldref 8 9), (0, .class_ 10), (0, .nameAndType 11 12), (0, u "java/lang/Throwable"), (0, u "cause"), (0, u "Ljava/lang/Throwable;"), (0, .fieldref 8 14), (0, .nameAndType 15 16), (0, u "UNASSIGNED_STACK"), (0, u "[Ljava/lang/StackTraceElement;"), (0, .fieldref 8 18), (0, .nameAndType 19 16), (0, u "stackTrace"), (0, .fieldref 8 21), (0, .nameAndType 22 23), (0, u "SUPPRESSED_SENTINEL"), (0, u "Ljava/util/List;"), (0, .fieldref 8 25), (0, .nameAndType 26 23), (0, u "suppressedExceptions"), (0, .methodref 8 28), (0, .nameAndType 29 30), (0, u "fillInStackTrace"), (0, u "()Ljava/lang/Throwable;"), (0, .fieldref 8 32), (0, .nameAndType 33 34), (0, u "detailMessage"), (0, u "Ljava/lang/String;"), (3, u "()Ljava/lang/String;"), (2, u "getMessage"), (51, .class_ 94), (0, u "java/lang/Throwable$WrappedPrintStream"), (6, .class_ 103), (1, u "java/lang/Throwable$PrintStreamOrWriter"), (61, u "$assertionsDisabled"), (0, u "Z"), (26, .class_ 194), (0, u "java/lang/Throwable$WrappedPrintWriter"), (3, .fieldref 8 199), (0, .nameAndType 200 201), (0, u "backtrace"), (0, u "Ljava/lang/Object;"), (0, .methodref 8 203), (0, .nameAndType 29 204), (0, u "(I)Ljava/lang/Throwable;"), (6, u "depth"), (0, u "I"), (10, u "(Ljava/lang/String;)V"), (45, .class_ 271), (1, u "java/lang/Throwable$SentinelHolder"), (32, u "EMPTY_THROWABLE_ARRAY"), (0, u "[Ljava/lang/Throwable;"), (12, .class_ 319), (0, u "java/io/Serializable"), (0, u "serialVersionUID"), (0, u "J"), (5, u "NULL_CAUSE_MESSAGE"), (0, u "SELF_SUPPRESSION_MESSAGE"), (0, u "CAUSE_CAPTION"), (0, u "SUPPRESSED_CAPTION")] 73

def k9c0 : Code := { maxStack := 2, maxLocals := 1, code := jdk_78_method_1_code, exceptionTable := #[], attributes := #[] }
def k9m0 : Method := { name := "<init>", desc := "()V", sig := { parameters := [], returnType := none }, accessFlags := 1, code := some k9c0 }
def k9c1 : Code := { maxStack := 2, maxLocals := 2, code := jdk_78_method_2_code, exceptionTable := #[], attributes := #[] }
def k9m1 : Method := { name := "<init>", desc := "(Ljava/lang/String;)V", sig := { parameters := [(.object "java/lang/String")], returnType := none }, accessFlags := 1, code := some k9c1 }
def k9c2 : Code := { maxStack := 1, maxLocals := 1, code := jdk_78_method_6_code, exceptionTable := #[], attributes := #[] }
def k9m2 : Method := { name := "getMessage", desc := "()Ljava/lang/String;", sig := { parameters := [], returnType := some (.object "java/lang/String") }, accessFlags := 1, code := some k9c2 }
def k9c3 : Code := { maxStack := 2, maxLocals := 1, code := ⟨#[0x2a, 0xb4, 0x00, 0x11, 0xc7, 0x00, 0x0a, 0x2a, 0xb4, 0x00, 0xc6, 0xc6, 0x00, 0x10, 0x2a, 0x03, 0xb6, 0x00, 0xca, 0x57, 0x2a, 0xb2, 0x00, 0x0d, 0xb5, 0x00, 0x11, 0x2a, 0xb0]⟩, exceptionTable := #[], attributes := #[] }
def k9m3 : Method := { name := "fillInStackTrace", desc := "()Ljava/lang/Throwable;", sig := { parameters := [], returnType := some (.object "java/lang/Throwable") }, accessFlags := 33, code := some k9c3 }
def k9m4 : Method := { name := "fillInStackTrace", desc := "(I)Ljava/lang/Throwable;", sig := { parameters := [.int], returnType := some (.object "java/lang/Throwable") }, accessFlags := 258, code := none }
/-- java/lang/Throwable -/
def k9 : Class := { plain "java/lang/Throwable" (some 0) with
  accessFlags := 33
  interfaces := #[2]
  cf := some (fileOf pool9 8 #[.nestMembers #[193, 93, 101, 269]] #[{ accessFlags := 1, nameIndex := 5, descriptorIndex := 6, attributes := #[] }, { accessFlags := 1, nameIndex := 5, descriptorIndex := 223, attributes := #[] }, { accessFlags := 1, nameIndex := 41, descriptorIndex := 38, attributes := #[] }, { accessFlags := 33, nameIndex := 29, descriptorIndex := 30, attributes := #[] }, { accessFlags := 258, nameIndex := 29, descriptorIndex := 204, attributes := #[] }] 33 2 #[318] #[{ accessFlags := 26, nameIndex := 320, descriptorIndex := 321, attributes := #[] }, { accessFlags := 130, nameIndex := 200, descriptorIndex := 201, attributes := #[] }, { accessFlags := 2, nameIndex := 33, descriptorIndex := 34, attributes := #[] }, { accessFlags := 26, nameIndex := 15, descriptorIndex := 16, attributes := #[] }, { accessFlags := 2, nameIndex := 11, descriptorIndex := 12, attributes := #[] }, { accessFlags := 2, nameIndex := 19, descriptorIndex := 16, attributes := #[] }, { accessFlags := 130, nameIndex := 211, descriptorIndex := 212, attributes := #[] }, { accessFlags := 26, nameIndex := 22, descriptorIndex := 23, attributes := #[] }, { accessFlags := 2, nameIndex := 26, descriptorIndex := 23, attributes := #[] }, { accessFlags := 26, nameIndex := 327, descriptorIndex := 34, attributes := #[] }, { accessFlags := 26, nameIndex := 328, descriptorIndex := 34, attributes := #[] }, { accessFlags := 26, nameIndex := 329, descriptorIndex := 34, attributes := #[] }, { accessFlags := 26, nameIndex := 330, descriptorIndex := 34, attributes := #[] }, { accessFlags := 26, nameIndex := 304, descriptorIndex := 305, attributes := #[] }, { accessFlags := 4120, nameIndex := 165, descriptorIndex := 166, attributes := #[] }])
  fields := #[{ name := "serialVersionUID", type := .long, accessFlags := 26, slot := 0, constantValue := 0 }, { name := "backtrace", type := (.object "java/lang/Object"), accessFlags := 130, slot := 0, constantValue := 0 }, { name := "detailMessage", type := (.object "java/lang/String"), accessFlags := 2, slot := 1, constantValue := 0 }, { name := "UNASSIGNED_STACK", type := (.array (.object "java/lang/StackTraceElement")), accessFlags := 26, slot := 1, constantValue := 0 }, { name := "cause", type := (.object "java/lang/Throwable"), accessFlags := 2, slot := 2, constantValue := 0 }, { name := "stackTrace", type := (.array (.object "java/lang/StackTraceElement")), accessFlags := 2, slot := 3, constantValue := 0 }, { name := "depth", type := .int, accessFlags := 130, slot := 4, constantValue := 0 }, { name := "SUPPRESSED_SENTINEL", type := (.object "java/util/List"), accessFlags := 26, slot := 2, constantValue := 0 }, { name := "suppressedExceptions", type := (.object "java/util/List"), accessFlags := 2, slot := 5, constantValue := 0 }, { name := "NULL_CAUSE_MESSAGE", type := (.object "java/lang/String"), accessFlags := 26, slot := 3, constantValue := 0 }, { name := "SELF_SUPPRESSION_MESSAGE", type := (.object "java/lang/String"), accessFlags := 26, slot := 4, constantValue := 0 }, { name := "CAUSE_CAPTION", type := (.object "java/lang/String"), accessFlags := 26, slot := 5, constantValue := 0 }, { name := "SUPPRESSED_CAPTION", type := (.object "java/lang/String"), accessFlags := 26, slot := 6, constantValue := 0 }, { name := "EMPTY_THROWABLE_ARRAY", type := (.array (.object "java/lang/Throwable")), accessFlags := 26, slot := 7, constantValue := 0 }, { name := "$assertionsDisabled", type := .boolean, accessFlags := 4120, slot := 8, constantValue := 0 }]
  methods := #[k9m0, k9m1, k9m2, k9m3, k9m4]
  instanceTypes := #[(.object "java/lang/Object"), (.object "java/lang/String"), (.object "java/lang/Throwable"), (.array (.object "java/lang/StackTraceElement")), .int, (.object "java/util/List")]
  staticTypes := #[.long, (.array (.object "java/lang/StackTraceElement")), (.object "java/util/List"), (.object "java/lang/String"), (.object "java/lang/String"), (.object "java/lang/String"), (.object "java/lang/String"), (.array (.object "java/lang/Throwable")), .boolean]
  resolved := Array.replicate 404 none
  statics := some 1 }

def pool10 : Array CpInfo := pool [(2, .class_ 4), (1, u "java/lang/Throwable"), (0, u "<init>"), (0, u "()V"), (0, .methodref 2 8), (0, .nameAndType 5 9), (0, u "(Ljava/lang/String;)V"), (9, .class_ 20), (0, u "java/lang/Exception"), (0, u "serialVersionUID"), (0, u "J")] 17

def k10m0 : Method := { name := "<init>", desc := "()V", sig := { parameters := [], returnType := none }, accessFlags := 1, code := none }
def k10c1 : Code := { maxStack := 2, maxLocals := 2, code := jdk_59_method_2_code, exceptionTable := #[], attributes := #[] }
def k10m1 : Method := { name := "<init>", desc := "(Ljava/lang/String;)V", sig := { parameters := [(.object "java/lang/String")], returnType := none }, accessFlags := 1, code := some k10c1 }
/-- java/lang/Exception -/
def k10 : Class := { plain "java/lang/Exception" (some 9) with
  accessFlags := 33
  interfaces := #[]
  cf := some (fileOf pool10 19 #[] #[{ accessFlags := 1, nameIndex := 5, descriptorIndex := 6, attributes := #[] }, { accessFlags := 1, nameIndex := 5, descriptorIndex := 9, attributes := #[] }] 33 2 #[] #[{ accessFlags := 24, nameIndex := 21, descriptorIndex := 22, attributes := #[] }])
  fields := #[{ name := "serialVersionUID", type := .long, accessFlags := 24, slot := 0, constantValue := 0 }]
  methods := #[k10m0, k10m1]
  instanceTypes := #[(.object "java/lang/Object"), (.object "java/lang/String"), (.object "java/lang/Throwable"), (.array (.object "java/lang/StackTraceElement")), .int, (.object "java/util/List")]
  staticTypes := #[.long]
  resolved := Array.replicate 40 none
  statics := none }

def pool11 : Array CpInfo := pool [(1, .methodref 2 3), (0, .class_ 4), (0, .nameAndType 5 6), (0, u "java/lang/Exception"), (0, u "<init>"), (0, u "(Ljava/lang/String;)V"), (0, .class_ 8), (0, u "com/example/legitka/legitka/cli/UsageException"), (0, .class_ 10), (0, u "java/lang/StringBuilder"), (0, .methodref 9 12), (0, .nameAndType 5 13), (0, u "()V"), (0, .string 15), (0, u "unknown option '"), (0, .methodref 9 17), (0, .nameAndType 18 19), (0, u "append"), (0, u "(Ljava/lang/String;)Ljava/lang/StringBuilder;"), (0, .string 21), (0, u "'"), (0, .methodref 9 23), (0, .nameAndType 24 25), (0, u "toString"), (0, u "()Ljava/lang/String;"), (0, .methodref 7 3), (0, u "serialVersionUID"), (0, u "J"), (5, u "unknownOption"), (0, u "(Ljava/lang/String;)Lcom/example/legitka/legitka/cli/UsageException;")] 2

def k11c0 : Code := { maxStack := 2, maxLocals := 2, code := prog_21_method_1_code, exceptionTable := #[], attributes := #[] }
def k11m0 : Method := { name := "<init>", desc := "(Ljava/lang/String;)V", sig := { parameters := [(.object "java/lang/String")], returnType := none }, accessFlags := 0, code := some k11c0 }
def k11c1 : Code := { maxStack := 4, maxLocals := 1, code := prog_21_method_2_code, exceptionTable := #[], attributes := #[] }
def k11m1 : Method := { name := "unknownOption", desc := "(Ljava/lang/String;)Lcom/example/legitka/legitka/cli/UsageException;", sig := { parameters := [(.object "java/lang/String")], returnType := some (.object "com/example/legitka/legitka/cli/UsageException") }, accessFlags := 8, code := some k11c1 }
/-- com/example/legitka/legitka/cli/UsageException -/
def k11 : Class := { plain "com/example/legitka/legitka/cli/UsageException" (some 10) with
  accessFlags := 48
  interfaces := #[]
  cf := some (fileOf pool11 7 #[] #[{ accessFlags := 0, nameIndex := 5, descriptorIndex := 6, attributes := #[] }, { accessFlags := 8, nameIndex := 34, descriptorIndex := 35, attributes := #[] }] 48 2 #[] #[{ accessFlags := 26, nameIndex := 27, descriptorIndex := 28, attributes := #[] }])
  fields := #[{ name := "serialVersionUID", type := .long, accessFlags := 26, slot := 0, constantValue := 0 }]
  methods := #[k11m0, k11m1]
  instanceTypes := #[(.object "java/lang/Object"), (.object "java/lang/String"), (.object "java/lang/Throwable"), (.array (.object "java/lang/StackTraceElement")), .int, (.object "java/util/List")]
  staticTypes := #[.long]
  resolved := Array.replicate 38 none
  statics := none }

def pool12 : Array CpInfo := pool [(1, .class_ 2), (0, u "java/lang/Appendable"), (0, .class_ 4), (0, u "java/lang/Object")] 9

/-- java/lang/Appendable -/
def k12 : Class := { plain "java/lang/Appendable" (some 0) with
  accessFlags := 1537
  interfaces := #[]
  cf := some (fileOf pool12 1 #[] #[] 1537 3 #[] #[])
  fields := #[]
  methods := #[]
  instanceTypes := #[]
  staticTypes := #[]
  resolved := Array.replicate 14 none
  statics := none }

def pool13 : Array CpInfo := pool [(1, .class_ 2), (0, u "java/lang/String"), (0, .methodref 4 5), (0, .class_ 6), (0, .nameAndType 7 8), (0, u "java/lang/Object"), (0, u "<init>"), (0, u "()V"), (1, .class_ 12), (1, u "java/lang/AbstractStringBuilder"), (0, u "EMPTYVALUE"), (0, u "[B"), (0, .fieldref 10 16), (0, .nameAndType 17 14), (0, u "value"), (0, .fieldref 1 19), (0, .nameAndType 20 21), (0, u "COMPACT_STRINGS"), (0, u "Z"), (0, .fieldref 10 23), (0, .nameAndType 24 25), (0, u "coder"), (0, u "B"), (6, .methodref 1 33), (0, .nameAndType 34 35), (0, u "length"), (0, u "()I"), (3, .integer 2147483647), (0, .methodref 1 41), (0, .nameAndType 24 42), (0, u "()B"), (2, u "append"), (0, u "(Ljava/lang/String;)Ljava/lang/AbstractStringBuilder;"), (1, .class_ 49), (0, u "java/lang/CharSequence"), (19, u "(Ljava/lang/String;)V"), (5, u "maybeLatin1"), (3, .fieldref 10 80), (0, .nameAndType 81 82), (0, u "count"), (0, u "I"), (2, u "isLatin1"), (0, u "()Z"), (13, .methodref 10 101), (0, .nameAndType 102 103), (0, u "ensureCapacityInternal"), (0, u "(I)V"), (0, .methodref 10 105), (0, .nameAndType 106 107), (0, u "newCapacity"), (0, u "(I)I"), (0, .methodref 109 110), (0, .class_ 111), (0, .nameAndType 112 113), (0, u "java/util/Arrays"), (0, u "copyOf"), (0, u "([BI)[B"), (0, .methodref 115 116), (0, .class_ 117), (0, .nameAndType 118 119), (0, u "jdk/internal/util/ArraysSupport"), (0, u "newLength"), (0, u "(III)I"), (88, .methodref 10 209), (0, .nameAndType 210 211), (0, u "putStringAt"), (0, u "(ILjava/lang/String;)V"), (5, u "inflateIfNeededFor"), (2, .nameAndType 221 222), (0, u "getBytes"), (0, u "([BIB)V"), (174, .methodref 10 398), (0, .nameAndType 217 69), (0, .methodref 1 220), (3, u "()[B"), (40, .class_ 445), (0, u "java/lang/Appendable"), (106, u "getValue")] 56

def k13m0 : Method := { name := "<init>", desc := "()V", sig := { parameters := [], returnType := none }, accessFlags := 0, code := none }
def k13c1 : Code := { maxStack := 2, maxLocals := 2, code := jdk_68_method_2_code, exceptionTable := #[], attributes := #[] }
def k13m1 : Method := { name := "<init>", desc := "(I)V", sig := { parameters := [.int], returnType := none }, accessFlags := 0, code := some k13c1 }
def k13c2 : Code := { maxStack := 1, maxLocals := 1, code := jdk_68_method_6_code, exceptionTable := #[], attributes := #[] }
def k13m2 : Method := { name := "length", desc := "()I", sig := { parameters := [], returnType := some .int }, accessFlags := 1, code := some k13c2 }
def k13c3 : Code := { maxStack := 4, maxLocals := 3, code := jdk_68_method_9_code, exceptionTable := #[], attributes := #[] }
def k13m3 : Method := { name := "ensureCapacityInternal", desc := "(I)V", sig := { parameters := [.int], returnType := none }, accessFlags := 2, code := some k13c3 }
def k13c4 : Code := { maxStack := 5, maxLocals := 6, code := jdk_68_method_10_code, exceptionTable := #[], attributes := #[] }
def k13m4 : Method := { name := "newCapacity", desc := "(I)I", sig := { parameters := [.int], returnType := some .int }, accessFlags := 2, code := some k13c4 }
def k13c5 : Code := { maxStack := 3, maxLocals := 3, code := jdk_68_method_22_code, exceptionTable := #[], attributes := #[] }
def k13m5 : Method := { name := "append", desc := "(Ljava/lang/String;)Ljava/lang/AbstractStringBuilder;", sig := { parameters := [(.object "java/lang/String")], returnType := some (.object "java/lang/AbstractStringBuilder") }, accessFlags := 1, code := some k13c5 }
def k13c6 : Code := { maxStack := 1, maxLocals := 1, code := jdk_68_method_64_code, exceptionTable := #[], attributes := #[] }
def k13m6 : Method := { name := "getValue", desc := "()[B", sig := { parameters := [], returnType := some (.array .byte) }, accessFlags := 16, code := some k13c6 }
def k13c7 : Code := { maxStack := 1, maxLocals := 1, code := jdk_68_method_68_code, exceptionTable := #[], attributes := #[] }
def k13m7 : Method := { name := "isLatin1", desc := "()Z", sig := { parameters := [], returnType := some .boolean }, accessFlags := 16, code := some k13c7 }
def k13c8 : Code := { maxStack := 2, maxLocals := 2, code := jdk_68_method_71_code, exceptionTable := #[], attributes := #[] }
def k13m8 : Method := { name := "inflateIfNeededFor", desc := "(Ljava/lang/String;)V", sig := { parameters := [(.object "java/lang/String")], returnType := none }, accessFlags := 2, code := some k13c8 }
def k13c9 : Code := { maxStack := 4, maxLocals := 3, code := jdk_68_method_73_code, exceptionTable := #[], attributes := #[] }
def k13m9 : Method := { name := "putStringAt", desc := "(ILjava/lang/String;)V", sig := { parameters := [.int, (.object "java/lang/String")], returnType := none }, accessFlags := 2, code := some k13c9 }
/-- java/lang/AbstractStringBuilder -/
def k13 : Class := { plain "java/lang/AbstractStringBuilder" (some 0) with
  accessFlags := 1056
  interfaces := #[12, 4]
  cf := some (fileOf pool13 10 #[] #[{ accessFlags := 0, nameIndex := 7, descriptorIndex := 8, attributes := #[] }, { accessFlags := 0, nameIndex := 7, descriptorIndex := 103, attributes := #[] }, { accessFlags := 1, nameIndex := 34, descriptorIndex := 35, attributes := #[] }, { accessFlags := 2, nameIndex := 102, descriptorIndex := 103, attributes := #[] }, { accessFlags := 2, nameIndex := 106, descriptorIndex := 107, attributes := #[] }, { accessFlags := 1, nameIndex := 45, descriptorIndex := 46, attributes := #[] }, { accessFlags := 16, nameIndex := 552, descriptorIndex := 403, attributes := #[] }, { accessFlags := 16, nameIndex := 85, descriptorIndex := 86, attributes := #[] }, { accessFlags := 2, nameIndex := 217, descriptorIndex := 69, attributes := #[] }, { accessFlags := 2, nameIndex := 210, descriptorIndex := 211, attributes := #[] }] 1056 4 #[444, 48] #[{ accessFlags := 0, nameIndex := 17, descriptorIndex := 14, attributes := #[] }, { accessFlags := 0, nameIndex := 24, descriptorIndex := 25, attributes := #[] }, { accessFlags := 0, nameIndex := 75, descriptorIndex := 21, attributes := #[] }, { accessFlags := 0, nameIndex := 81, descriptorIndex := 82, attributes := #[] }, { accessFlags := 26, nameIndex := 13, descriptorIndex := 14, attributes := #[] }])
  fields := #[{ name := "value", type := (.array .byte), accessFlags := 0, slot := 0, constantValue := 0 }, { name := "coder", type := .byte, accessFlags := 0, slot := 1, constantValue := 0 }, { name := "maybeLatin1", type := .boolean, accessFlags := 0, slot := 2, constantValue := 0 }, { name := "count", type := .int, accessFlags := 0, slot := 3, constantValue := 0 }, { name := "EMPTYVALUE", type := (.array .byte), accessFlags := 26, slot := 0, constantValue := 0 }]
  methods := #[k13m0, k13m1, k13m2, k13m3, k13m4, k13m5, k13m6, k13m7, k13m8, k13m9]
  instanceTypes := #[(.array .byte), .byte, .boolean, .int]
  staticTypes := #[(.array .byte)]
  resolved := Array.replicate 609 none
  statics := none }

def pool14 : Array CpInfo := pool [(1, .methodref 2 3), (0, .class_ 4), (0, .nameAndType 5 6), (0, u "java/lang/AbstractStringBuilder"), (0, u "<init>"), (0, u "(I)V"), (11, .class_ 20), (1, u "java/lang/String"), (3, .class_ 26), (1, u "java/lang/StringBuilder"), (0, u "append"), (0, u "(Ljava/lang/String;)Ljava/lang/StringBuilder;"), (0, .methodref 2 30), (0, .nameAndType 27 31), (0, u "(Ljava/lang/String;)Ljava/lang/AbstractStringBuilder;"), (105, .methodref 18 138), (0, .nameAndType 5 139), (0, u "(Ljava/lang/StringBuilder;)V"), (5, u "()V"), (10, u "()I"), (186, .methodref 2 344), (0, .nameAndType 345 156), (0, u "length"), (3, .class_ 350), (0, u "java/lang/Appendable"), (0, .class_ 352), (0, u "java/io/Serializable"), (0, .class_ 354), (0, u "java/lang/Comparable"), (0, .class_ 356), (0, u "java/lang/CharSequence"), (0, u "serialVersionUID"), (0, u "J"), (40, u "toString"), (0, u "()Ljava/lang/String;")] 21

def k14c0 : Code := { maxStack := 2, maxLocals := 1, code := jdk_67_method_1_code, exceptionTable := #[], attributes := #[] }
def k14m0 : Method := { name := "<init>", desc := "()V", sig := { parameters := [], returnType := none }, accessFlags := 1, code := some k14c0 }
def k14c1 : Code := { maxStack := 2, maxLocals := 2, code := jdk_67_method_7_code, exceptionTable := #[], attributes := #[] }
def k14m1 : Method := { name := "append", desc := "(Ljava/lang/String;)Ljava/lang/StringBuilder;", sig := { parameters := [(.object "java/lang/String")], returnType := some (.object "java/lang/StringBuilder") }, accessFlags := 1, code := some k14c1 }
def k14c2 : Code := { maxStack := 3, maxLocals := 1, code := jdk_67_method_42_code, exceptionTable := #[], attributes := #[] }
def k14m2 : Method := { name := "toString", desc := "()Ljava/lang/String;", sig := { parameters := [], returnType := some (.object "java/lang/String") }, accessFlags := 1, code := some k14c2 }
def k14c3 : Code := { maxStack := 1, maxLocals := 1, code := jdk_67_method_93_code, exceptionTable := #[], attributes := #[] }
def k14m3 : Method := { name := "length", desc := "()I", sig := { parameters := [], returnType := some .int }, accessFlags := 4161, code := some k14c3 }
/-- java/lang/StringBuilder -/
def k14 : Class := { plain "java/lang/StringBuilder" (some 13) with
  accessFlags := 49
  interfaces := #[12, 2, 3, 4]
  cf := some (fileOf pool14 24 #[] #[{ accessFlags := 1, nameIndex := 5, descriptorIndex := 145, attributes := #[] }, { accessFlags := 1, nameIndex := 27, descriptorIndex := 28, attributes := #[] }, { accessFlags := 1, nameIndex := 399, descriptorIndex := 400, attributes := #[] }, { accessFlags := 4161, nameIndex := 345, descriptorIndex := 156, attributes := #[] }] 49 2 #[349, 351, 353, 355] #[{ accessFlags := 24, nameIndex := 357, descriptorIndex := 358, attributes := #[] }])
  fields := #[{ name := "serialVersionUID", type := .long, accessFlags := 24, slot := 0, constantValue := 0 }]
  methods := #[k14m0, k14m1, k14m2, k14m3]
  instanceTypes := #[(.array .byte), .byte, .boolean, .int]
  staticTypes := #[.long]
  resolved := Array.replicate 422 none
  statics := none }

def pool15 : Array CpInfo := pool [(2, .class_ 4), (1, u "java/lang/Object"), (0, u "<init>"), (0, u "()V"), (1, .class_ 10), (1, u "java/lang/System"), (0, u "allowSecurityManager"), (0, u "I"), (16, u "cons"), (0, u "Ljava/io/Console;"), (77, .class_ 110), (1, u "java/lang/System$CallersHolder"), (43, u "initialErrStream"), (0, u "Ljava/io/PrintStream;"), (19, u "security"), (0, u "Ljava/lang/SecurityManager;"), (31, .class_ 209), (0, u "java/lang/System$1"), (7, u "props"), (0, u "Ljava/util/Properties;"), (2, u "lineSeparator"), (0, u "Ljava/lang/String;"), (96, .class_ 321), (1, u "java/lang/System$LoggerFinder"), (5, .class_ 328), (0, u "java/lang/System$Logger"), (67, u "err"), (2, u "out"), (91, u "notSupportedJnuEncoding"), (15, u "in"), (17, u "initialIn"), (0, u "Ljava/io/InputStream;"), (35, u "bootLayer"), (0, u "Ljava/lang/ModuleLayer;"), (99, .class_ 664), (0, u "java/lang/System$2"), (9, u "NEVER"), (2, u "MAYBE"), (49, u "arraycopy"), (0, u "(Ljava/lang/Object;ILjava/lang/Object;II)V"), (72, .class_ 802), (0, u "java/lang/System$Logger$Level")] 31

def k15m0 : Method := { name := "<init>", desc := "()V", sig := { parameters := [], returnType := none }, accessFlags := 2, code := none }
def k15m1 : Method := { name := "arraycopy", desc := "(Ljava/lang/Object;ILjava/lang/Object;II)V", sig := { parameters := [(.object "java/lang/Object"), .int, (.object "java/lang/Object"), .int, .int], returnType := none }, accessFlags := 265, code := none }
/-- java/lang/System -/
def k15 : Class := { plain "java/lang/System" (some 0) with
  accessFlags := 49
  interfaces := #[]
  cf := some (fileOf pool15 8 #[.nestMembers #[319, 327, 801, 108, 663, 208]] #[{ accessFlags := 2, nameIndex := 5, descriptorIndex := 6, attributes := #[] }, { accessFlags := 265, nameIndex := 727, descriptorIndex := 728, attributes := #[] }] 49 2 #[] #[{ accessFlags := 25, nameIndex := 507, descriptorIndex := 526, attributes := #[] }, { accessFlags := 25, nameIndex := 399, descriptorIndex := 155, attributes := #[] }, { accessFlags := 25, nameIndex := 396, descriptorIndex := 155, attributes := #[] }, { accessFlags := 10, nameIndex := 525, descriptorIndex := 526, attributes := #[] }, { accessFlags := 26, nameIndex := 674, descriptorIndex := 12, attributes := #[] }, { accessFlags := 26, nameIndex := 677, descriptorIndex := 12, attributes := #[] }, { accessFlags := 10, nameIndex := 11, descriptorIndex := 12, attributes := #[] }, { accessFlags := 74, nameIndex := 175, descriptorIndex := 176, attributes := #[] }, { accessFlags := 10, nameIndex := 491, descriptorIndex := 222, attributes := #[] }, { accessFlags := 74, nameIndex := 29, descriptorIndex := 30, attributes := #[] }, { accessFlags := 74, nameIndex := 154, descriptorIndex := 155, attributes := #[] }, { accessFlags := 10, nameIndex := 217, descriptorIndex := 218, attributes := #[] }, { accessFlags := 10, nameIndex := 221, descriptorIndex := 222, attributes := #[] }, { accessFlags := 8, nameIndex := 562, descriptorIndex := 563, attributes := #[] }])
  fields := #[{ name := "in", type := (.object "java/io/InputStream"), accessFlags := 25, slot := 0, constantValue := 0 }, { name := "out", type := (.object "java/io/PrintStream"), accessFlags := 25, slot := 1, constantValue := 0 }, { name := "err", type := (.object "java/io/PrintStream"), accessFlags := 25, slot := 2, constantValue := 0 }, { name := "initialIn", type := (.object "java/io/InputStream"), accessFlags := 10, slot := 3, constantValue := 0 }, { name := "NEVER", type := .int, accessFlags := 26, slot := 4, constantValue := 0 }, { name := "MAYBE", type := .int, accessFlags := 26, slot := 5, constantValue := 0 }, { name := "allowSecurityManager", type := .int, accessFlags := 10, slot := 6, constantValue := 0 }, { name := "security", type := (.object "java/lang/SecurityManager"), accessFlags := 74, slot := 7, constantValue := 0 }, { name := "notSupportedJnuEncoding", type := (.object "java/lang/String"), accessFlags := 10, slot := 8, constantValue := 0 }, { name := "cons", type := (.object "java/io/Console"), accessFlags := 74, slot := 9, constantValue := 0 }, { name := "initialErrStream", type := (.object "java/io/PrintStream"), accessFlags := 74, slot := 10, constantValue := 0 }, { name := "props", type := (.object "java/util/Properties"), accessFlags := 10, slot := 11, constantValue := 0 }, { name := "lineSeparator", type := (.object "java/lang/String"), accessFlags := 10, slot := 12, constantValue := 0 }, { name := "bootLayer", type := (.object "java/lang/ModuleLayer"), accessFlags := 8, slot := 13, constantValue := 0 }]
  methods := #[k15m0, k15m1]
  instanceTypes := #[]
  staticTypes := #[(.object "java/io/InputStream"), (.object "java/io/PrintStream"), (.object "java/io/PrintStream"), (.object "java/io/InputStream"), .int, .int, .int, (.object "java/lang/SecurityManager"), (.object "java/lang/String"), (.object "java/io/Console"), (.object "java/io/PrintStream"), (.object "java/util/Properties"), (.object "java/lang/String"), (.object "java/lang/ModuleLayer")]
  resolved := Array.replicate 834 none
  statics := none }

def pool16 : Array CpInfo := pool [(9, u "<init>"), (6, .class_ 18), (1, u "java/lang/Object"), (0, u "()V"), (1, .class_ 23), (1, u "jdk/internal/util/ArraysSupport"), (0, u "LOG2_ARRAY_LONG_INDEX_SCALE"), (0, u "I"), (2, u "U"), (0, u "Ljdk/internal/misc/Unsafe;"), (8, u "BIG_ENDIAN"), (0, u "Z"), (8, u "LOG2_BYTE_BIT_SIZE"), (4, u "LOG2_ARRAY_INT_INDEX_SCALE"), (54, u "JLA"), (0, u "Ljdk/internal/access/JavaLangAccess;"), (11, u "LOG2_ARRAY_BOOLEAN_INDEX_SCALE"), (9, u "LOG2_ARRAY_BYTE_INDEX_SCALE"), (5, u "LOG2_ARRAY_CHAR_INDEX_SCALE"), (5, u "LOG2_ARRAY_SHORT_INDEX_SCALE"), (18, u "LOG2_ARRAY_FLOAT_INDEX_SCALE"), (24, u "LOG2_ARRAY_DOUBLE_INDEX_SCALE"), (6, .methodref 195 196), (0, .class_ 197), (0, .nameAndType 198 199), (0, u "java/lang/Math"), (0, u "max"), (0, u "(II)I"), (0, .integer 2147483639), (76, u "T_BOOLEAN"), (2, u "T_CHAR"), (1, u "T_FLOAT"), (1, u "T_DOUBLE"), (1, u "T_BYTE"), (1, u "T_SHORT"), (1, u "T_INT"), (1, u "T_LONG"), (1, u "SOFT_MAX_ARRAY_LENGTH"), (56, u "newLength"), (0, u "(III)I")] 25

def k16m0 : Method := { name := "<init>", desc := "()V", sig := { parameters := [], returnType := none }, accessFlags := 2, code := none }
def k16c1 : Code := { maxStack := 3, maxLocals := 4, code := jdk_48_method_27_code, exceptionTable := #[], attributes := #[] }
def k16m1 : Method := { name := "newLength", desc := "(III)I", sig := { parameters := [.int, .int, .int], returnType := some .int }, accessFlags := 9, code := some k16c1 }
/-- jdk/internal/util/ArraysSupport -/
def k16 : Class := { plain "jdk/internal/util/ArraysSupport" (some 0) with
  accessFlags := 33
  interfaces := #[]
  cf := some (fileOf pool16 21 #[] #[{ accessFlags := 2, nameIndex := 9, descriptorIndex := 19, attributes := #[] }, { accessFlags := 9, nameIndex := 351, descriptorIndex := 352, attributes := #[] }] 33 16 #[] #[{ accessFlags := 24, nameIndex := 28, descriptorIndex := 29, attributes := #[] }, { accessFlags := 26, nameIndex := 38, descriptorIndex := 39, attributes := #[] }, { accessFlags := 25, nameIndex := 121, descriptorIndex := 25, attributes := #[] }, { accessFlags := 25, nameIndex := 131, descriptorIndex := 25, attributes := #[] }, { accessFlags := 25, nameIndex := 137, descriptorIndex := 25, attributes := #[] }, { accessFlags := 25, nameIndex := 143, descriptorIndex := 25, attributes := #[] }, { accessFlags := 25, nameIndex := 53, descriptorIndex := 25, attributes := #[] }, { accessFlags := 25, nameIndex := 24, descriptorIndex := 25, attributes := #[] }, { accessFlags := 25, nameIndex := 162, descriptorIndex := 25, attributes := #[] }, { accessFlags := 25, nameIndex := 187, descriptorIndex := 25, attributes := #[] }, { accessFlags := 26, nameIndex := 48, descriptorIndex := 25, attributes := #[] }, { accessFlags := 25, nameIndex := 277, descriptorIndex := 25, attributes := #[] }, { accessFlags := 25, nameIndex := 280, descriptorIndex := 25, attributes := #[] }, { accessFlags := 25, nameIndex := 282, descriptorIndex := 25, attributes := #[] }, { accessFlags := 25, nameIndex := 284, descriptorIndex := 25, attributes := #[] }, { accessFlags := 25, nameIndex := 286, descriptorIndex := 25, attributes := #[] }, { accessFlags := 25, nameIndex := 288, descriptorIndex := 25, attributes := #[] }, { accessFlags := 25, nameIndex := 290, descriptorIndex := 25, attributes := #[] }, { accessFlags := 25, nameIndex := 292, descriptorIndex := 25, attributes := #[] }, { accessFlags := 26, nameIndex := 108, descriptorIndex := 109, attributes := #[] }, { accessFlags := 25, nameIndex := 294, descriptorIndex := 25, attributes := #[] }])
  fields := #[{ name := "U", type := (.object "jdk/internal/misc/Unsafe"), accessFlags := 24, slot := 0, constantValue := 0 }, { name := "BIG_ENDIAN", type := .boolean, accessFlags := 26, slot := 1, constantValue := 0 }, { name := "LOG2_ARRAY_BOOLEAN_INDEX_SCALE", type := .int, accessFlags := 25, slot := 2, constantValue := 0 }, { name := "LOG2_ARRAY_BYTE_INDEX_SCALE", type := .int, accessFlags := 25, slot := 3, constantValue := 0 }, { name := "LOG2_ARRAY_CHAR_INDEX_SCALE", type := .int, accessFlags := 25, slot := 4, constantValue := 0 }, { name := "LOG2_ARRAY_SHORT_INDEX_SCALE", type := .int, accessFlags := 25, slot := 5, constantValue := 0 }, { name := "LOG2_ARRAY_INT_INDEX_SCALE", type := .int, accessFlags := 25, slot := 6, constantValue := 0 }, { name := "LOG2_ARRAY_LONG_INDEX_SCALE", type := .int, accessFlags := 25, slot := 7, constantValue := 0 }, { name := "LOG2_ARRAY_FLOAT_INDEX_SCALE", type := .int, accessFlags := 25, slot := 8, constantValue := 0 }, { name := "LOG2_ARRAY_DOUBLE_INDEX_SCALE", type := .int, accessFlags := 25, slot := 9, constantValue := 0 }, { name := "LOG2_BYTE_BIT_SIZE", type := .int, accessFlags := 26, slot := 10, constantValue := 0 }, { name := "T_BOOLEAN", type := .int, accessFlags := 25, slot := 11, constantValue := 0 }, { name := "T_CHAR", type := .int, accessFlags := 25, slot := 12, constantValue := 0 }, { name := "T_FLOAT", type := .int, accessFlags := 25, slot := 13, constantValue := 0 }, { name := "T_DOUBLE", type := .int, accessFlags := 25, slot := 14, constantValue := 0 }, { name := "T_BYTE", type := .int, accessFlags := 25, slot := 15, constantValue := 0 }, { name := "T_SHORT", type := .int, accessFlags := 25, slot := 16, constantValue := 0 }, { name := "T_INT", type := .int, accessFlags := 25, slot := 17, constantValue := 0 }, { name := "T_LONG", type := .int, accessFlags := 25, slot := 18, constantValue := 0 }, { name := "JLA", type := (.object "jdk/internal/access/JavaLangAccess"), accessFlags := 26, slot := 19, constantValue := 0 }, { name := "SOFT_MAX_ARRAY_LENGTH", type := .int, accessFlags := 25, slot := 20, constantValue := 0 }]
  methods := #[k16m0, k16m1]
  instanceTypes := #[]
  staticTypes := #[(.object "jdk/internal/misc/Unsafe"), .boolean, .int, .int, .int, .int, .int, .int, .int, .int, .int, .int, .int, .int, .int, .int, .int, .int, .int, (.object "jdk/internal/access/JavaLangAccess"), .int]
  resolved := Array.replicate 378 none
  statics := none }

def pool17 : Array CpInfo := pool [(1, .class_ 2), (0, u "java/lang/Math"), (1, .class_ 6), (1, u "java/lang/Object"), (0, u "<init>"), (0, u "()V"), (89, .class_ 100), (1, u "java/lang/Math$RandomNumberGeneratorHolder"), (71, u "negativeZeroFloatBits"), (0, u "J"), (2, u "negativeZeroDoubleBits"), (21, u "max"), (2, u "min"), (43, u "$assertionsDisabled"), (0, u "Z"), (88, u "(II)I"), (2, u "twoToTheDoubleScaleDown"), (0, u "D"), (4, u "twoToTheDoubleScaleUp"), (9, u "E"), (3, u "PI"), (2, u "TAU"), (2, u "DEGREES_TO_RADIANS"), (0, u "RADIANS_TO_DEGREES")] 94

def k17m0 : Method := { name := "<init>", desc := "()V", sig := { parameters := [], returnType := none }, accessFlags := 2, code := none }
def k17c1 : Code := { maxStack := 2, maxLocals := 2, code := jdk_29_method_65_code, exceptionTable := #[], attributes := #[] }
def k17m1 : Method := { name := "max", desc := "(II)I", sig := { parameters := [.int, .int], returnType := some .int }, accessFlags := 9, code := some k17c1 }
def k17c2 : Code := { maxStack := 2, maxLocals := 2, code := jdk_29_method_69_code, exceptionTable := #[], attributes := #[] }
def k17m2 : Method := { name := "min", desc := "(II)I", sig := { parameters := [.int, .int], returnType := some .int }, accessFlags := 9, code := some k17c2 }
/-- java/lang/Math -/
def k17 : Class := { plain "java/lang/Math" (some 0) with
  accessFlags := 49
  interfaces := #[]
  cf := some (fileOf pool17 1 #[.nestMembers #[98]] #[{ accessFlags := 2, nameIndex := 7, descriptorIndex := 8, attributes := #[] }, { accessFlags := 9, nameIndex := 198, descriptorIndex := 335, attributes := #[] }, { accessFlags := 9, nameIndex := 201, descriptorIndex := 335, attributes := #[] }] 49 4 #[] #[{ accessFlags := 25, nameIndex := 354, descriptorIndex := 339, attributes := #[] }, { accessFlags := 25, nameIndex := 358, descriptorIndex := 339, attributes := #[] }, { accessFlags := 25, nameIndex := 361, descriptorIndex := 339, attributes := #[] }, { accessFlags := 26, nameIndex := 364, descriptorIndex := 339, attributes := #[] }, { accessFlags := 26, nameIndex := 365, descriptorIndex := 339, attributes := #[] }, { accessFlags := 26, nameIndex := 172, descriptorIndex := 173, attributes := #[] }, { accessFlags := 26, nameIndex := 176, descriptorIndex := 173, attributes := #[] }, { accessFlags := 8, nameIndex := 344, descriptorIndex := 339, attributes := #[] }, { accessFlags := 8, nameIndex := 338, descriptorIndex := 339, attributes := #[] }, { accessFlags := 4120, nameIndex := 245, descriptorIndex := 246, attributes := #[] }])
  fields := #[{ name := "E", type := .double, accessFlags := 25, slot := 0, constantValue := 0 }, { name := "PI", type := .double, accessFlags := 25, slot := 1, constantValue := 0 }, { name := "TAU", type := .double, accessFlags := 25, slot := 2, constantValue := 0 }, { name := "DEGREES_TO_RADIANS", type := .double, accessFlags := 26, slot := 3, constantValue := 0 }, { name := "RADIANS_TO_DEGREES", type := .double, accessFlags := 26, slot := 4, constantValue := 0 }, { name := "negativeZeroFloatBits", type := .long, accessFlags := 26, slot := 5, constantValue := 0 }, { name := "negativeZeroDoubleBits", type := .long, accessFlags := 26, slot := 6, constantValue := 0 }, { name := "twoToTheDoubleScaleUp", type := .double, accessFlags := 8, slot := 7, constantValue := 0 }, { name := "twoToTheDoubleScaleDown", type := .double, accessFlags := 8, slot := 8, constantValue := 0 }, { name := "$assertionsDisabled", type := .boolean, accessFlags := 4120, slot := 9, constantValue := 0 }]
  methods := #[k17m0, k17m1, k17m2]
  instanceTypes := #[]
  staticTypes := #[.double, .double, .double, .double, .double, .long, .long, .double, .double, .boolean]
  resolved := Array.replicate 460 none
  statics := none }

def pool18 : Array CpInfo := pool [(2, .class_ 4), (1, u "java/lang/Object"), (0, u "<init>"), (0, u "()V"), (7, .class_ 16), (1, u "java/util/Arrays"), (57, .class_ 76), (1, u "java/util/Arrays$NaturalOrder"), (36, .class_ 115), (1, u "java/util/Arrays$LegacyMergeSort"), (1, u "Z"), (21, u "copyOfRange"), (10, .methodref 151 152), (0, .class_ 153), (0, .nameAndType 154 155), (0, u "java/lang/System"), (0, u "arraycopy"), (0, u "(Ljava/lang/Object;ILjava/lang/Object;II)V"), (146, u "copyOf"), (1, .methodref 305 306), (0, .class_ 307), (0, .nameAndType 308 309), (0, u "java/lang/Math"), (0, u "min"), (0, u "(II)I"), (29, .methodref 14 340), (0, .nameAndType 341 342), (0, u "copyOfRangeByte"), (0, u "([BII)[B"), (0, .methodref 14 344), (0, .nameAndType 345 346), (0, u "checkLength"), (0, u "(II)V"), (28, .class_ 376), (0, u "java/util/Arrays$ArrayList"), (68, u "$assertionsDisabled"), (269, u "MIN_ARRAY_SORT_GRAN"), (0, u "I"), (2, u "INSERTIONSORT_THRESHOLD"), (149, u "([BI)[B"), (105, .class_ 976), (0, u "java/util/Arrays$ArrayItr")] 52

def k18m0 : Method := { name := "<init>", desc := "()V", sig := { parameters := [], returnType := none }, accessFlags := 2, code := none }
def k18c1 : Code := { maxStack := 6, maxLocals := 3, code := jdk_65_method_121_code, exceptionTable := #[], attributes := #[] }
def k18m1 : Method := { name := "copyOf", desc := "([BI)[B", sig := { parameters := [(.array .byte), .int], returnType := some (.array .byte) }, accessFlags := 9, code := some k18c1 }
def k18c2 : Code := { maxStack := 4, maxLocals := 2, code := jdk_65_method_131_code, exceptionTable := #[], attributes := #[] }
def k18m2 : Method := { name := "checkLength", desc := "(II)V", sig := { parameters := [.int, .int], returnType := none }, accessFlags := 10, code := some k18c2 }
def k18c3 : Code := { maxStack := 3, maxLocals := 3, code := jdk_65_method_132_code, exceptionTable := #[], attributes := #[] }
def k18m3 : Method := { name := "copyOfRange", desc := "([BII)[B", sig := { parameters := [(.array .byte), .int, .int], returnType := some (.array .byte) }, accessFlags := 9, code := some k18c3 }
def k18c4 : Code := { maxStack := 6, maxLocals := 5, code := jdk_65_method_133_code, exceptionTable := #[], attributes := #[] }
def k18m4 : Method := { name := "copyOfRangeByte", desc := "([BII)[B", sig := { parameters := [(.array .byte), .int, .int], returnType := some (.array .byte) }, accessFlags := 10, code := some k18c4 }
/-- java/util/Arrays -/
def k18 : Class := { plain "java/util/Arrays" (some 0) with
  accessFlags := 49
  interfaces := #[]
  cf := some (fileOf pool18 14 #[.nestMembers #[975, 375, 113, 74]] #[{ accessFlags := 2, nameIndex := 5, descriptorIndex := 6, attributes := #[] }, { accessFlags := 9, nameIndex := 302, descriptorIndex := 869, attributes := #[] }, { accessFlags := 10, nameIndex := 345, descriptorIndex := 346, attributes := #[] }, { accessFlags := 9, nameIndex := 139, descriptorIndex := 342, attributes := #[] }, { accessFlags := 10, nameIndex := 341, descriptorIndex := 342, attributes := #[] }] 49 2 #[] #[{ accessFlags := 26, nameIndex := 715, descriptorIndex := 716, attributes := #[] }, { accessFlags := 26, nameIndex := 719, descriptorIndex := 716, attributes := #[] }, { accessFlags := 4120, nameIndex := 445, descriptorIndex := 117, attributes := #[] }])
  fields := #[{ name := "MIN_ARRAY_SORT_GRAN", type := .int, accessFlags := 26, slot := 0, constantValue := 0 }, { name := "INSERTIONSORT_THRESHOLD", type := .int, accessFlags := 26, slot := 1, constantValue := 0 }, { name := "$assertionsDisabled", type := .boolean, accessFlags := 4120, slot := 2, constantValue := 0 }]
  methods := #[k18m0, k18m1, k18m2, k18m3, k18m4]
  instanceTypes := #[]
  staticTypes := #[.int, .int, .boolean]
  resolved := Array.replicate 1029 none
  statics := none }

def pool19 : Array CpInfo := pool [(4, .class_ 6), (1, u "java/lang/Object"), (0, u "<init>"), (0, u "()V"), (5, .class_ 16), (1, u "java/lang/StringLatin1"), (104, u "$assertionsDisabled"), (0, u "Z"), (98, .class_ 223), (1, u "java/lang/StringLatin1$LinesSpliterator"), (57, u "equals"), (0, u "([B[B)Z"), (107, .class_ 391), (0, u "java/lang/StringLatin1$CharsSpliterator")] 3

def k19m0 : Method := { name := "<init>", desc := "()V", sig := { parameters := [], returnType := none }, accessFlags := 0, code := none }
def k19c1 : Code := { maxStack := 3, maxLocals := 3, code := jdk_43_method_13_code, exceptionTable := #[], attributes := #[] }
def k19m1 : Method := { name := "equals", desc := "([B[B)Z", sig := { parameters := [(.array .byte), (.array .byte)], returnType := some .boolean }, accessFlags := 9, code := some k19c1 }
/-- java/lang/StringLatin1 -/
def k19 : Class := { plain "java/lang/StringLatin1" (some 0) with
  accessFlags := 48
  interfaces := #[]
  cf := some (fileOf pool19 14 #[.nestMembers #[390, 221]] #[{ accessFlags := 0, nameIndex := 7, descriptorIndex := 8, attributes := #[] }, { accessFlags := 9, nameIndex := 281, descriptorIndex := 282, attributes := #[] }] 48 4 #[] #[{ accessFlags := 4120, nameIndex := 121, descriptorIndex := 122, attributes := #[] }])
  fields := #[{ name := "$assertionsDisabled", type := .boolean, accessFlags := 4120, slot := 0, constantValue := 0 }]
  methods := #[k19m0, k19m1]
  instanceTypes := #[]
  staticTypes := #[.boolean]
  resolved := Array.replicate 395 none
  statics := none }

def pool20 : Array CpInfo := pool [(2, .class_ 4), (1, u "java/lang/Object"), (0, u "<init>"), (0, u "()V"), (17, .class_ 26), (1, u "jdk/internal/util/Preconditions"), (28, .class_ 56), (0, u "jdk/internal/util/Preconditions$4"), (57, .class_ 115), (0, u "jdk/internal/util/Preconditions$1"), (7, u "SIOOBE_FORMATTER"), (0, u "Ljava/util/function/BiFunction;"), (0, .class_ 126), (0, u "jdk/internal/util/Preconditions$2"), (3, u "AIOOBE_FORMATTER"), (0, .class_ 132), (0, u "jdk/internal/util/Preconditions$3"), (3, u "IOOBE_FORMATTER")] 57

def k20m0 : Method := { name := "<init>", desc := "()V", sig := { parameters := [], returnType := none }, accessFlags := 1, code := none }
/-- jdk/internal/util/Preconditions -/
def k20 : Class := { plain "jdk/internal/util/Preconditions" (some 0) with
  accessFlags := 33
  interfaces := #[]
  cf := some (fileOf pool20 24 #[.nestMembers #[55, 131, 125, 114]] #[{ accessFlags := 1, nameIndex := 5, descriptorIndex := 6, attributes := #[] }] 33 2 #[] #[{ accessFlags := 25, nameIndex := 123, descriptorIndex := 124, attributes := #[] }, { accessFlags := 25, nameIndex := 130, descriptorIndex := 124, attributes := #[] }, { accessFlags := 25, nameIndex := 136, descriptorIndex := 124, attributes := #[] }])
  fields := #[{ name := "SIOOBE_FORMATTER", type := (.object "java/util/function/BiFunction"), accessFlags := 25, slot := 0, constantValue := 0 }, { name := "AIOOBE_FORMATTER", type := (.object "java/util/function/BiFunction"), accessFlags := 25, slot := 1, constantValue := 0 }, { name := "IOOBE_FORMATTER", type := (.object "java/util/function/BiFunction"), accessFlags := 25, slot := 2, constantValue := 0 }]
  methods := #[k20m0]
  instanceTypes := #[]
  staticTypes := #[(.object "java/util/function/BiFunction"), (.object "java/util/function/BiFunction"), (.object "java/util/function/BiFunction")]
  resolved := Array.replicate 194 none
  statics := some 2 }

def pool21 : Array CpInfo := pool [(2, .class_ 4), (1, u "java/lang/Object"), (0, u "<init>"), (0, u "()V"), (12, .class_ 20), (0, u "java/util/Collections"), (63, u "r"), (0, u "Ljava/util/Random;"), (80, .class_ 167), (0, u "java/util/Collections$UnmodifiableCollection"), (6, .class_ 175), (0, u "java/util/Collections$UnmodifiableSequencedCollection"), (6, .class_ 183), (0, u "java/util/Collections$UnmodifiableSet"), (6, .class_ 191), (0, u "java/util/Collections$UnmodifiableSequencedSet"), (6, .class_ 199), (0, u "java/util/Collections$UnmodifiableSortedSet"), (6, .class_ 207), (0, u "java/util/Collections$UnmodifiableNavigableSet"), (4, .class_ 213), (0, u "java/util/Collections$UnmodifiableList"), (1, .class_ 216), (0, u "java/util/Collections$UnmodifiableRandomAccessList"), (6, .class_ 224), (0, u "java/util/Collections$UnmodifiableMap"), (6, .class_ 232), (0, u "java/util/Collections$UnmodifiableSequencedMap"), (4, .class_ 238), (0, u "java/util/Collections$UnmodifiableSortedMap"), (6, .class_ 246), (0, u "java/util/Collections$UnmodifiableNavigableMap"), (3, .class_ 251), (0, u "java/util/Collections$SynchronizedCollection"), (4, .class_ 257), (0, u "java/util/Collections$SynchronizedSet"), (4, .class_ 263), (0, u "java/util/Collections$SynchronizedSortedSet"), (1, .class_ 266), (0, u "java/util/Collections$SynchronizedNavigableSet"), (1, .class_ 269), (0, u "java/util/Collections$SynchronizedRandomAccessList"), (1, .class_ 272), (0, u "java/util/Collections$SynchronizedList"), (5, .class_ 279), (0, u "java/util/Collections$SynchronizedMap"), (1, .class_ 282), (0, u "java/util/Collections$SynchronizedSortedMap"), (1, .class_ 285), (0, u "java/util/Collections$SynchronizedNavigableMap"), (1, .class_ 288), (0, u "java/util/Collections$CheckedCollection"), (11, .class_ 301), (0, u "java/util/Collections$CheckedQueue"), (3, .class_ 306), (0, u "java/util/Collections$CheckedSet"), (3, .class_ 311), (0, u "java/util/Collections$CheckedSortedSet"), (3, .class_ 316), (0, u "java/util/Collections$CheckedNavigableSet"), (3, .class_ 321), (0, u "java/util/Collections$CheckedRandomAccessList"), (3, .class_ 326), (0, u "java/util/Collections$CheckedList"), (1, .class_ 329), (0, u "java/util/Collections$CheckedMap"), (3, .class_ 334), (0, u "java/util/Collections$CheckedSortedMap"), (3, .class_ 339), (0, u "java/util/Collections$CheckedNavigableMap"), (4, .class_ 346), (1, u "java/util/Collections$EmptyIterator"), (3, .class_ 352), (1, u "java/util/Collections$EmptyListIterator"), (2, .class_ 357), (1, u "java/util/Collections$EmptyEnumeration"), (4, u "EMPTY_SET"), (0, u "Ljava/util/Set;"), (6, u "EMPTY_LIST"), (0, u "Ljava/util/List;"), (2, u "EMPTY_MAP"), (0, u "Ljava/util/Map;"), (4, .class_ 381), (0, u "java/util/Collections$SingletonSet"), (2, .class_ 385), (0, u "java/util/Collections$1"), (1, .class_ 388), (0, u "java/util/Collections$2"), (1, .class_ 391), (0, u "java/util/Collections$SingletonList"), (1, .class_ 394), (0, u "java/util/Collections$SingletonMap"), (22, .class_ 418), (0, u "java/util/Collections$CopiesList"), (4, .class_ 425), (1, u "java/util/Collections$ReverseComparator"), (8, .class_ 435), (0, u "java/util/Collections$ReverseComparator2"), (6, .class_ 443), (0, u "java/util/Collections$3"), (25, .class_ 470), (0, u "java/util/Collections$SetFromMap"), (2, .class_ 474), (0, u "java/util/Collections$SequencedSetFromMap"), (3, .class_ 479), (0, u "java/util/Collections$AsLIFOQueue"), (11, .class_ 492), (0, u "java/util/Collections$EmptySet"), (1, .class_ 495), (0, u "java/util/Collections$EmptyList"), (1, .class_ 498), (0, u "java/util/Collections$EmptyMap"), (1, u "BINARYSEARCH_THRESHOLD"), (0, u "I"), (2, u "REVERSE_THRESHOLD"), (1, u "SHUFFLE_THRESHOLD"), (1, u "FILL_THRESHOLD"), (1, u "ROTATE_THRESHOLD"), (1, u "COPY_THRESHOLD"), (1, u "REPLACEALL_THRESHOLD"), (1, u "INDEXOFSUBLIST_THRESHOLD"), (333, .class_ 851), (0, u "java/util/Collections$CheckedMap$CheckedEntrySet"), (0, .class_ 853), (0, u "java/util/Collections$CheckedMap$CheckedEntrySet$CheckedEntry"), (0, .class_ 855), (0, u "java/util/Collections$CheckedMap$CheckedEntrySet$1"), (0, .class_ 857), (0, u "java/util/Collections$CheckedList$1"), (0, .class_ 859), (0, u "java/util/Collections$CheckedCollection$1"), (0, .class_ 861), (0, u "java/util/Collections$UnmodifiableNavigableMap$EmptyNavigableMap"), (0, .class_ 863), (0, u "java/util/Collections$UnmodifiableMap$UnmodifiableEntrySet"), (0, .class_ 865), (0, u "java/util/Collections$UnmodifiableMap$UnmodifiableEntrySet$UnmodifiableEntry"), (0, .class_ 867), (0, u "java/util/Collections$UnmodifiableMap$UnmodifiableEntrySet$UnmodifiableEntrySetSpliterator"), (0, .class_ 869), (0, u "java/util/Collections$UnmodifiableMap$UnmodifiableEntrySet$1"), (0, .class_ 871), (0, u "java/util/Collections$UnmodifiableList$1"), (0, .class_ 873), (0, u "java/util/Collections$UnmodifiableNavigableSet$EmptyNavigableSet"), (0, .class_ 875), (0, u "java/util/Collections$UnmodifiableCollection$1")] 57

def k21m0 : Method := { name := "<init>", desc := "()V", sig := { parameters := [], returnType := none }, accessFlags := 2, code := none }
/-- java/util/Collections -/
def k21 : Class := { plain "java/util/Collections" (some 0) with
  accessFlags := 33
  interfaces := #[]
  cf := some (fileOf pool21 19 #[.nestMembers #[478, 473, 469, 434, 423, 417, 393, 390, 380, 497, 494, 491, 355, 350, 344, 338, 333, 328, 850, 852, 854, 320, 325, 856, 315, 310, 305, 300, 287, 858, 284, 281, 278, 268, 271, 265, 262, 256, 250, 245, 860, 237, 231, 223, 862, 864, 866, 868, 215, 212, 870, 206, 872, 198, 190, 182, 174, 166, 874, 442, 387, 384]] #[{ accessFlags := 2, nameIndex := 5, descriptorIndex := 6, attributes := #[] }] 33 2 #[] #[{ accessFlags := 26, nameIndex := 500, descriptorIndex := 501, attributes := #[] }, { accessFlags := 26, nameIndex := 504, descriptorIndex := 501, attributes := #[] }, { accessFlags := 26, nameIndex := 506, descriptorIndex := 501, attributes := #[] }, { accessFlags := 26, nameIndex := 508, descriptorIndex := 501, attributes := #[] }, { accessFlags := 26, nameIndex := 510, descriptorIndex := 501, attributes := #[] }, { accessFlags := 26, nameIndex := 512, descriptorIndex := 501, attributes := #[] }, { accessFlags := 26, nameIndex := 514, descriptorIndex := 501, attributes := #[] }, { accessFlags := 26, nameIndex := 516, descriptorIndex := 501, attributes := #[] }, { accessFlags := 10, nameIndex := 84, descriptorIndex := 85, attributes := #[] }, { accessFlags := 25, nameIndex := 362, descriptorIndex := 363, attributes := #[] }, { accessFlags := 25, nameIndex := 370, descriptorIndex := 371, attributes := #[] }, { accessFlags := 25, nameIndex := 374, descriptorIndex := 375, attributes := #[] }])
  fields := #[{ name := "BINARYSEARCH_THRESHOLD", type := .int, accessFlags := 26, slot := 0, constantValue := 0 }, { name := "REVERSE_THRESHOLD", type := .int, accessFlags := 26, slot := 1, constantValue := 0 }, { name := "SHUFFLE_THRESHOLD", type := .int, accessFlags := 26, slot := 2, constantValue := 0 }, { name := "FILL_THRESHOLD", type := .int, accessFlags := 26, slot := 3, constantValue := 0 }, { name := "ROTATE_THRESHOLD", type := .int, accessFlags := 26, slot := 4, constantValue := 0 }, { name := "COPY_THRESHOLD", type := .int, accessFlags := 26, slot := 5, constantValue := 0 }, { name := "REPLACEALL_THRESHOLD", type := .int, accessFlags := 26, slot := 6, constantValue := 0 }, { name := "INDEXOFSUBLIST_THRESHOLD", type := .int, accessFlags := 26, slot := 7, constantValue := 0 }, { name := "r", type := (.object "java/util/Random"), accessFlags := 10, slot := 8, constantValue := 0 }, { name := "EMPTY_SET", type := (.object "java/util/Set"), accessFlags := 25, slot := 9, constantValue := 0 }, { name := "EMPTY_LIST", type := (.object "java/util/List"), accessFlags := 25, slot := 10, constantValue := 0 }, { name := "EMPTY_MAP", type := (.object "java/util/Map"), accessFlags := 25, slot := 11, constantValue := 0 }]
  methods := #[k21m0]
  instanceTypes := #[]
  staticTypes := #[.int, .int, .int, .int, .int, .int, .int, .int, (.object "java/util/Random"), (.object "java/util/Set"), (.object "java/util/List"), (.object "java/util/Map")]
  resolved := Array.replicate 933 none
  statics := some 3 }

def pool22 : Array CpInfo := pool [(8, .class_ 10), (1, u "java/lang/Iterable"), (24, .class_ 36), (0, u "java/lang/Object")] 25

/-- java/lang/Iterable -/
def k22 : Class := { plain "java/lang/Iterable" (some 0) with
  accessFlags := 1537
  interfaces := #[]
  cf := some (fileOf pool22 8 #[] #[] 1537 35 #[] #[])
  fields := #[]
  methods := #[]
  instanceTypes := #[]
  staticTypes := #[]
  resolved := Array.replicate 62 none
  statics := none }

def pool23 : Array CpInfo := pool [(10, .class_ 12), (1, u "java/util/Collection"), (47, .class_ 61), (0, u "java/lang/Object"), (0, .class_ 63), (0, u "java/lang/Iterable")] 51

/-- java/util/Collection -/
def k23 : Class := { plain "java/util/Collection" (some 0) with
  accessFlags := 1537
  interfaces := #[22]
  cf := some (fileOf pool23 10 #[] #[] 1537 60 #[62] #[])
  fields := #[]
  methods := #[]
  instanceTypes := #[]
  staticTypes := #[]
  resolved := Array.replicate 115 none
  statics := none }

def pool24 : Array CpInfo := pool [(2, .class_ 4), (1, u "java/lang/Object"), (0, u "<init>"), (0, u "()V"), (1, .class_ 10), (1, u "java/util/AbstractCollection"), (66, .class_ 78), (0, u "java/util/Collection")] 81

def k24m0 : Method := { name := "<init>", desc := "()V", sig := { parameters := [], returnType := none }, accessFlags := 4, code := none }
/-- java/util/AbstractCollection -/
def k24 : Class := { plain "java/util/AbstractCollection" (some 0) with
  accessFlags := 1057
  interfaces := #[23]
  cf := some (fileOf pool24 8 #[] #[{ accessFlags := 4, nameIndex := 5, descriptorIndex := 6, attributes := #[] }] 1057 2 #[77] #[])
  fields := #[]
  methods := #[k24m0]
  instanceTypes := #[]
  staticTypes := #[]
  resolved := Array.replicate 160 none
  statics := none }

def pool25 : Array CpInfo := pool [(8, .class_ 10), (1, u "java/util/SequencedCollection"), (15, .class_ 27), (0, u "java/lang/Object"), (0, .class_ 29), (0, u "java/util/Collection")] 27

/-- java/util/SequencedCollection -/
def k25 : Class := { plain "java/util/SequencedCollection" (some 0) with
  accessFlags := 1537
  interfaces := #[23]
  cf := some (fileOf pool25 8 #[] #[] 1537 26 #[28] #[])
  fields := #[]
  methods := #[]
  instanceTypes := #[]
  staticTypes := #[]
  resolved := Array.replicate 57 none
  statics := none }

def pool26 : Array CpInfo := pool [(8, .class_ 10), (1, u "java/util/List"), (92, .class_ 104), (0, u "java/lang/Object"), (15, .class_ 121), (0, u "java/util/SequencedCollection")] 129

/-- java/util/List -/
def k26 : Class := { plain "java/util/List" (some 0) with
  accessFlags := 1537
  interfaces := #[25]
  cf := some (fileOf pool26 8 #[] #[] 1537 103 #[120] #[])
  fields := #[]
  methods := #[]
  instanceTypes := #[]
  staticTypes := #[]
  resolved := Array.replicate 251 none
  statics := none }

def pool27 : Array CpInfo := pool [(2, .class_ 4), (1, u "java/util/AbstractCollection"), (0, u "<init>"), (0, u "()V"), (1, .class_ 10), (1, u "java/util/AbstractList"), (0, u "modCount"), (0, u "I"), (64, .class_ 78), (0, u "java/util/AbstractList$Itr"), (3, .class_ 83), (0, u "java/util/AbstractList$ListItr"), (9, .class_ 94), (0, u "java/util/AbstractList$RandomAccessSubList"), (3, .class_ 99), (0, u "java/util/AbstractList$SubList"), (33, .class_ 134), (0, u "java/util/List"), (73, .class_ 209), (0, u "java/util/AbstractList$SubList$1"), (0, .class_ 211), (0, u "java/util/AbstractList$RandomAccessSpliterator")] 6

def k27m0 : Method := { name := "<init>", desc := "()V", sig := { parameters := [], returnType := none }, accessFlags := 4, code := none }
/-- java/util/AbstractList -/
def k27 : Class := { plain "java/util/AbstractList" (some 24) with
  accessFlags := 1057
  interfaces := #[26]
  cf := some (fileOf pool27 8 #[.nestMembers #[93, 98, 208, 210, 82, 77]] #[{ accessFlags := 4, nameIndex := 5, descriptorIndex := 6, attributes := #[] }] 1057 2 #[133] #[{ accessFlags := 132, nameIndex := 11, descriptorIndex := 12, attributes := #[] }])
  fields := #[{ name := "modCount", type := .int, accessFlags := 132, slot := 0, constantValue := 0 }]
  methods := #[k27m0]
  instanceTypes := #[.int]
  staticTypes := #[]
  resolved := Array.replicate 218 none
  statics := none }

def pool28 : Array CpInfo := pool [(1, .class_ 2), (0, u "java/util/RandomAccess"), (0, .class_ 4), (0, u "java/lang/Object")] 2

/-- java/util/RandomAccess -/
def k28 : Class := { plain "java/util/RandomAccess" (some 0) with
  accessFlags := 1537
  interfaces := #[]
  cf := some (fileOf pool28 1 #[] #[] 1537 3 #[] #[])
  fields := #[]
  methods := #[]
  instanceTypes := #[]
  staticTypes := #[]
  resolved := Array.replicate 7 none
  statics := none }

def pool29 : Array CpInfo := pool [(2, .class_ 4), (1, u "java/util/AbstractList"), (0, u "<init>"), (0, u "()V"), (1, .class_ 10), (1, u "java/util/Collections"), (54, .class_ 66), (0, u "java/util/Collections$EmptyList"), (0, .class_ 68), (0, u "java/util/RandomAccess"), (0, .class_ 70), (0, u "java/io/Serializable"), (0, u "serialVersionUID"), (0, u "J")] 77

def k29m0 : Method := { name := "<init>", desc := "()V", sig := { parameters := [], returnType := none }, accessFlags := 2, code := none }
/-- java/util/Collections$EmptyList -/
def k29 : Class := { plain "java/util/Collections$EmptyList" (some 27) with
  accessFlags := 32
  interfaces := #[28, 2]
  cf := some (fileOf pool29 65 #[.nestHost 8] #[{ accessFlags := 2, nameIndex := 5, descriptorIndex := 6, attributes := #[] }] 32 2 #[67, 69] #[{ accessFlags := 26, nameIndex := 71, descriptorIndex := 72, attributes := #[] }])
  fields := #[{ name := "serialVersionUID", type := .long, accessFlags := 26, slot := 0, constantValue := 0 }]
  methods := #[k29m0]
  instanceTypes := #[.int]
  staticTypes := #[.long]
  resolved := Array.replicate 150 none
  statics := none }

def pool30 : Array CpInfo := pool [(2, .class_ 4), (1, u "java/lang/StackTraceElement"), (0, u "<init>"), (2, .class_ 10), (1, u "java/lang/Object"), (0, u "()V"), (2, u "format"), (0, u "B"), (2, u "classLoaderName"), (0, u "Ljava/lang/String;"), (2, u "moduleName"), (2, u "moduleVersion"), (12, u "declaringClass"), (4, u "methodName"), (2, u "fileName"), (2, u "lineNumber"), (0, u "I"), (65, u "declaringClassObject"), (0, u "Ljava/lang/Class;"), (33, .class_ 153), (1, u "java/lang/StackTraceElement$HashedModules"), (17, .class_ 172), (0, u "java/io/Serializable"), (0, u "NATIVE_METHOD"), (1, u "UNKNOWN_SOURCE"), (2, u "BUILTIN_CLASS_LOADER"), (1, u "JDK_NON_UPGRADEABLE_MODULE"), (1, u "serialVersionUID"), (0, u "J")] 51

def k30m0 : Method := { name := "<init>", desc := "()V", sig := { parameters := [], returnType := none }, accessFlags := 2, code := none }
/-- java/lang/StackTraceElement -/
def k30 : Class := { plain "java/lang/StackTraceElement" (some 0) with
  accessFlags := 49
  interfaces := #[2]
  cf := some (fileOf pool30 2 #[.nestMembers #[151]] #[{ accessFlags := 2, nameIndex := 5, descriptorIndex := 11, attributes := #[] }] 49 8 #[171] #[{ accessFlags := 26, nameIndex := 173, descriptorIndex := 19, attributes := #[] }, { accessFlags := 26, nameIndex := 175, descriptorIndex := 19, attributes := #[] }, { accessFlags := 130, nameIndex := 116, descriptorIndex := 117, attributes := #[] }, { accessFlags := 2, nameIndex := 18, descriptorIndex := 19, attributes := #[] }, { accessFlags := 2, nameIndex := 22, descriptorIndex := 19, attributes := #[] }, { accessFlags := 2, nameIndex := 25, descriptorIndex := 19, attributes := #[] }, { accessFlags := 2, nameIndex := 38, descriptorIndex := 19, attributes := #[] }, { accessFlags := 2, nameIndex := 43, descriptorIndex := 19, attributes := #[] }, { accessFlags := 2, nameIndex := 46, descriptorIndex := 19, attributes := #[] }, { accessFlags := 2, nameIndex := 49, descriptorIndex := 50, attributes := #[] }, { accessFlags := 2, nameIndex := 14, descriptorIndex := 15, attributes := #[] }, { accessFlags := 26, nameIndex := 178, descriptorIndex := 15, attributes := #[] }, { accessFlags := 26, nameIndex := 180, descriptorIndex := 15, attributes := #[] }, { accessFlags := 26, nameIndex := 182, descriptorIndex := 183, attributes := #[] }])
  fields := #[{ name := "NATIVE_METHOD", type := (.object "java/lang/String"), accessFlags := 26, slot := 0, constantValue := 0 }, { name := "UNKNOWN_SOURCE", type := (.object "java/lang/String"), accessFlags := 26, slot := 1, constantValue := 0 }, { name := "declaringClassObject", type := (.object "java/lang/Class"), accessFlags := 130, slot := 0, constantValue := 0 }, { name := "classLoaderName", type := (.object "java/lang/String"), accessFlags := 2, slot := 1, constantValue := 0 }, { name := "moduleName", type := (.object "java/lang/String"), accessFlags := 2, slot := 2, constantValue := 0 }, { name := "moduleVersion", type := (.object "java/lang/String"), accessFlags := 2, slot := 3, constantValue := 0 }, { name := "declaringClass", type := (.object "java/lang/String"), accessFlags := 2, slot := 4, constantValue := 0 }, { name := "methodName", type := (.object "java/lang/String"), accessFlags := 2, slot := 5, constantValue := 0 }, { name := "fileName", type := (.object "java/lang/String"), accessFlags := 2, slot := 6, constantValue := 0 }, { name := "lineNumber", type := .int, accessFlags := 2, slot := 7, constantValue := 0 }, { name := "format", type := .byte, accessFlags := 2, slot := 8, constantValue := 0 }, { name := "BUILTIN_CLASS_LOADER", type := .byte, accessFlags := 26, slot := 2, constantValue := 0 }, { name := "JDK_NON_UPGRADEABLE_MODULE", type := .byte, accessFlags := 26, slot := 3, constantValue := 0 }, { name := "serialVersionUID", type := .long, accessFlags := 26, slot := 4, constantValue := 0 }]
  methods := #[k30m0]
  instanceTypes := #[(.object "java/lang/Class"), (.object "java/lang/String"), (.object "java/lang/String"), (.object "java/lang/String"), (.object "java/lang/String"), (.object "java/lang/String"), (.object "java/lang/String"), .int, .byte]
  staticTypes := #[(.object "java/lang/String"), (.object "java/lang/String"), .byte, .byte, .long]
  resolved := Array.replicate 235 none
  statics := none }

def pool31 : Array CpInfo := pool [(1, u "java/lang/Cloneable"), (0, .class_ 1), (0, u "java/lang/Object"), (0, .class_ 3)] 3

/-- java/lang/Cloneable -/
def k31 : Class := { plain "java/lang/Cloneable" (some 0) with
  accessFlags := 1537
  interfaces := #[]
  cf := some (fileOf pool31 2 #[] #[] 1537 4 #[] #[])
  fields := #[]
  methods := #[]
  instanceTypes := #[]
  staticTypes := #[]
  resolved := Array.replicate 8 none
  statics := none }

/-- the primitive byte -/
def k32 : Class := { plain "byte" none with kind := .primitive 'B', accessFlags := 0x411 }
/-- [B -/
def k33 : Class := { plain "[B" (some 0) with kind := .array 32 .byte, interfaces := #[31, 2], accessFlags := 1041 }

/-- the primitive char -/
def k34 : Class := { plain "char" none with kind := .primitive 'C', accessFlags := 0x411 }
/-- [C -/
def k35 : Class := { plain "[C" (some 0) with kind := .array 34 .char, interfaces := #[31, 2], accessFlags := 1041 }

/-- the primitive int -/
def k36 : Class := { plain "int" none with kind := .primitive 'I', accessFlags := 0x411 }
/-- [I -/
def k37 : Class := { plain "[I" (some 0) with kind := .array 36 .int, interfaces := #[31, 2], accessFlags := 1041 }

/-- [Ljava/lang/Object; -/
def k38 : Class := { plain "[Ljava/lang/Object;" (some 0) with kind := .array 0 (.object "java/lang/Object"), interfaces := #[31, 2], accessFlags := 1041 }

/-- [Ljava/lang/StackTraceElement; -/
def k39 : Class := { plain "[Ljava/lang/StackTraceElement;" (some 0) with kind := .array 30 (.object "java/lang/StackTraceElement"), interfaces := #[31, 2], accessFlags := 1041 }

/-- [Ljava/lang/Throwable; -/
def k40 : Class := { plain "[Ljava/lang/Throwable;" (some 0) with kind := .array 9 (.object "java/lang/Throwable"), interfaces := #[31, 2], accessFlags := 1041 }

def heap : Heap := #[{ cls := 7, slots := #[.long 0, .int 1, .null, .int 0, .null, .int 0, .int 0], vm := .statics 7 },
  { cls := 9, slots := #[.long 0, .ref 4, .ref 5, .null, .null, .null, .null, .ref 6, .int 1], vm := .statics 9 },
  { cls := 20, slots := #[.null, .null, .null], vm := .statics 20 },
  { cls := 21, slots := #[.int 0, .int 0, .int 0, .int 0, .int 0, .int 0, .int 0, .int 0, .null, .null, .ref 5, .null], vm := .statics 21 },
  { cls := 39, slots := #[], vm := .none },
  { cls := 29, slots := #[.int 0], vm := .none },
  { cls := 40, slots := #[], vm := .none }]
def classes : Array Class := #[k0, k1, k2, k3, k4, k5, k6, k7, k8, k9, k10, k11, k12, k13, k14, k15, k16, k17, k18, k19, k20, k21, k22, k23, k24, k25, k26, k27, k28, k29, k30, k31, k32, k33, k34, k35, k36, k37, k38, k39, k40]
def interned : List (Array UInt16 × Addr) := []
def slotsUsed : Nat := 32
def theMethod : MethodId := ⟨1, 1⟩
def args0 : Array Value := #[.int 3, .int 65, .int 200, .int 39]
def aboutOver (below : List Frame) : State where
  vm := { classes := classes, interned := interned.toArray }
  heap := heap
  slotsUsed := slotsUsed
  threads := #[{ frames := .invoking theMethod args0 :: below }]
def below0 : List Frame := [.native { method := ⟨0, 0⟩, args := #[] }]
def about1 : State := aboutOver below0
def p0 : Program := .bare "" "" ""
def e0 : Env := launch0.env 0 0 0
theorem w_frames : about1.frames = Frame.invoking theMethod args0 :: below0 := rfl
set_option maxRecDepth 65536 in
theorem w_args : argsFit about1.vm theMethod args0 = true := by decide +kernel
set_option maxRecDepth 65536 in
theorem w_heap : heapFits about1 = true := by decide +kernel
set_option maxRecDepth 65536 in
theorem w_runnable : about1.curStatus? = some .runnable := by decide +kernel
set_option maxRecDepth 65536 in
theorem w_alone : about1.alone = true := by decide +kernel
set_option maxRecDepth 65536 in
theorem w_named : about1.methodNamed? x = some theMethod := by decide +kernel
set_option maxRecDepth 65536 in
theorem w_hears : about1.hears theMethod below0 = true := by decide +kernel
set_option maxRecDepth 65536 in
theorem w_ripe : about1.ripe theMethod args0 below0 = true := by decide +kernel
theorem w_running : about1.status = .running := rfl
set_option maxRecDepth 65536 in
theorem w_room : about1.hasRoom e0.platform room_1 = true :=
  launch0.hasRoom_least _ room_1 (by decide +kernel) (by decide +kernel) (by decide +kernel) (by decide +kernel) (by decide +kernel) (by decide +kernel)
theorem allAtoms_all (ts : List Jvm.Cond) (a : Array Jvm.Value) (st : Jvm.State) : (allAtoms ts).before a st = ts.all (fun c => c.before a st) := by
  induction ts with
  | nil => rfl
  | cons c t ih =>
    show (Jvm.Cond.and c (allAtoms t)).before a st = _
    rw [Jvm.Cond.before_and, ih, List.all_cons]
def words1 : List Jvm.Cond := Jvm.Cond.code x code maxLocals ret :: tables_1
/-- a 'code' word, met by the world's own term for the bytes: nothing is compared byte by byte -/
theorem code_word {y : MethodName} {bytes : ByteArray} {mx : Nat} {rt : Option FieldType} {a : Array Value} {s : State} {m : MethodId} {meth : Method} {c : Code} (h1 : s.methodNamed? y = some m) (h2 : s.vm.method? m = some meth) (h3 : meth.code = some c) (h4 : c.code = bytes)
    (h5 : (c.maxLocals == mx && c.exceptionTable.isEmpty && decide (c.maxStack ≤ mostOperands) && decide (meth.sig.returnType = rt) && !meth.locks && decide (parseMethodDescriptor y.desc = some meth.sig)) = true) : (Jvm.Cond.code y bytes mx rt).before a s = true := by
  simp only [Bool.and_eq_true, beq_iff_eq, Bool.not_eq_true', decide_eq_true_eq] at h5
  obtain ⟨⟨⟨⟨⟨g1, g2⟩, g3⟩, g4⟩, g5⟩, g6⟩ := h5
  simp [Cond.before, Cond.holds, Cond.value, h1, h2, h3, h4, g1, g2, g3, g4, g5, g6]
def isCode : Jvm.Cond → Bool
  | .code _ _ _ _ => true
  | _ => false
theorem all_split {L : List Jvm.Cond} {P : Jvm.Cond → Bool} (h1 : L.all (fun c => isCode c || P c) = true) (h2 : ∀ c ∈ L.filter isCode, P c = true) : L.all P = true := by
  refine List.all_eq_true.mpr fun c hc => ?_
  have h := List.all_eq_true.mp h1 c hc
  rcases Bool.eq_false_or_eq_true (isCode c) with hi | hi
  · exact h2 c (List.mem_filter.mpr ⟨hc, hi⟩)
  · simpa [hi] using h
set_option maxRecDepth 65536 in
theorem w_c0 : (Jvm.Cond.code x code maxLocals ret).before args0 about1 = true := code_word (m := ⟨1, 1⟩) (meth := k1m1) (c := k1c1) (by decide +kernel) rfl rfl rfl (by decide +kernel)
set_option maxRecDepth 65536 in
theorem w_c1 : (Jvm.Cond.code ({ cls := "java/lang/String", name := "<init>", desc := "([C)V" } : Jvm.MethodName) jdk_42_method_3_code (2 : Nat) (Option.none : Option Jvm.ClassFile.FieldType)).before args0 about1 = true := code_word (m := ⟨7, 1⟩) (meth := k7m1) (c := k7c1) (by decide +kernel) rfl rfl rfl (by decide +kernel)
set_option maxRecDepth 65536 in
theorem w_c2 : (Jvm.Cond.code ({ cls := "java/lang/String", name := "<init>", desc := "([CIILjava/lang/Void;)V" } : Jvm.MethodName) jdk_42_method_149_code (6 : Nat) (Option.none : Option Jvm.ClassFile.FieldType)).before args0 about1 = true := code_word (m := ⟨7, 6⟩) (meth := k7m6) (c := k7c6) (by decide +kernel) rfl rfl rfl (by decide +kernel)
set_option maxRecDepth 65536 in
theorem w_c3 : (Jvm.Cond.code ({ cls := "java/lang/Object", name := "<init>", desc := "()V" } : Jvm.MethodName) object_method_1_code (1 : Nat) (Option.none : Option Jvm.ClassFile.FieldType)).before args0 about1 = true := code_word (m := ⟨0, 0⟩) (meth := k0m0) (c := k0c0) (by decide +kernel) rfl rfl rfl (by decide +kernel)
set_option maxRecDepth 65536 in
theorem w_c4 : (Jvm.Cond.code ({ cls := "java/lang/StringUTF16", name := "compress", desc := "([CII)[B" } : Jvm.MethodName) jdk_52_method_16_code (6 : Nat) (Option.some (Jvm.ClassFile.FieldType.array Jvm.ClassFile.FieldType.byte))).before args0 about1 = true := code_word (m := ⟨8, 2⟩) (meth := k8m2) (c := k8c2) (by decide +kernel) rfl rfl rfl (by decide +kernel)
set_option maxRecDepth 65536 in
theorem w_c5 : (Jvm.Cond.code ({ cls := "java/lang/StringUTF16", name := "compress", desc := "([CI[BII)I" } : Jvm.MethodName) jdk_52_method_21_code (7 : Nat) (Option.some Jvm.ClassFile.FieldType.int)).before args0 about1 = true := code_word (m := ⟨8, 3⟩) (meth := k8m3) (c := k8c3) (by decide +kernel) rfl rfl rfl (by decide +kernel)
set_option maxRecDepth 65536 in
theorem w_c6 : (Jvm.Cond.code ({ cls := "java/lang/StringUTF16", name := "coderFromArrayLen", desc := "([BI)B" } : Jvm.MethodName) jdk_52_method_15_code (2 : Nat) (Option.some Jvm.ClassFile.FieldType.byte)).before args0 about1 = true := code_word (m := ⟨8, 1⟩) (meth := k8m1) (c := k8c1) (by decide +kernel) rfl rfl rfl (by decide +kernel)
set_option maxRecDepth 65536 in
theorem w_c7 : (Jvm.Cond.code ({ cls := "com/example/legitka/legitka/cli/UsageException", name := "unknownOption", desc := "(Ljava/lang/String;)Lcom/example/legitka/legitka/cli/UsageException;" } : Jvm.MethodName) prog_21_method_2_code (1 : Nat) (Option.some (Jvm.ClassFile.FieldType.object "com/example/legitka/legitka/cli/UsageException"))).before args0 about1 = true := code_word (m := ⟨11, 1⟩) (meth := k11m1) (c := k11c1) (by decide +kernel) rfl rfl rfl (by decide +kernel)
set_option maxRecDepth 65536 in
theorem w_c8 : (Jvm.Cond.code ({ cls := "java/lang/StringBuilder", name := "<init>", desc := "()V" } : Jvm.MethodName) jdk_67_method_1_code (1 : Nat) (Option.none : Option Jvm.ClassFile.FieldType)).before args0 about1 = true := code_word (m := ⟨14, 0⟩) (meth := k14m0) (c := k14c0) (by decide +kernel) rfl rfl rfl (by decide +kernel)
set_option maxRecDepth 65536 in
theorem w_c9 : (Jvm.Cond.code ({ cls := "java/lang/AbstractStringBuilder", name := "<init>", desc := "(I)V" } : Jvm.MethodName) jdk_68_method_2_code (2 : Nat) (Option.none : Option Jvm.ClassFile.FieldType)).before args0 about1 = true := code_word (m := ⟨13, 1⟩) (meth := k13m1) (c := k13c1) (by decide +kernel) rfl rfl rfl (by decide +kernel)
set_option maxRecDepth 65536 in
theorem w_c10 : (Jvm.Cond.code ({ cls := "java/lang/StringBuilder", name := "append", desc := "(Ljava/lang/String;)Ljava/lang/StringBuilder;" } : Jvm.MethodName) jdk_67_method_7_code (2 : Nat) (Option.some (Jvm.ClassFile.FieldType.object "java/lang/StringBuilder"))).before args0 about1 = true := code_word (m := ⟨14, 1⟩) (meth := k14m1) (c := k14c1) (by decide +kernel) rfl rfl rfl (by decide +kernel)
set_option maxRecDepth 65536 in
theorem w_c11 : (Jvm.Cond.code ({ cls := "java/lang/AbstractStringBuilder", name := "append", desc := "(Ljava/lang/String;)Ljava/lang/AbstractStringBuilder;" } : Jvm.MethodName) jdk_68_method_22_code (3 : Nat) (Option.some (Jvm.ClassFile.FieldType.object "java/lang/AbstractStringBuilder"))).before args0 about1 = true := code_word (m := ⟨13, 5⟩) (meth := k13m5) (c := k13c5) (by decide +kernel) rfl rfl rfl (by decide +kernel)
set_option maxRecDepth 65536 in
theorem w_c12 : (Jvm.Cond.code ({ cls := "java/lang/String", name := "length", desc := "()I" } : Jvm.MethodName) jdk_42_method_54_code (1 : Nat) (Option.some Jvm.ClassFile.FieldType.int)).before args0 about1 = true := code_word (m := ⟨7, 3⟩) (meth := k7m3) (c := k7c3) (by decide +kernel) rfl rfl rfl (by decide +kernel)
set_option maxRecDepth 65536 in
theorem w_c13 : (Jvm.Cond.code ({ cls := "java/lang/String", name := "coder", desc := "()B" } : Jvm.MethodName) jdk_42_method_152_code (1 : Nat) (Option.some Jvm.ClassFile.FieldType.byte)).before args0 about1 = true := code_word (m := ⟨7, 8⟩) (meth := k7m8) (c := k7c8) (by decide +kernel) rfl rfl rfl (by decide +kernel)
set_option maxRecDepth 65536 in
theorem w_c14 : (Jvm.Cond.code ({ cls := "java/lang/AbstractStringBuilder", name := "ensureCapacityInternal", desc := "(I)V" } : Jvm.MethodName) jdk_68_method_9_code (3 : Nat) (Option.none : Option Jvm.ClassFile.FieldType)).before args0 about1 = true := code_word (m := ⟨13, 3⟩) (meth := k13m3) (c := k13c3) (by decide +kernel) rfl rfl rfl (by decide +kernel)
set_option maxRecDepth 65536 in
theorem w_c15 : (Jvm.Cond.code ({ cls := "java/lang/AbstractStringBuilder", name := "putStringAt", desc := "(ILjava/lang/String;)V" } : Jvm.MethodName) jdk_68_method_73_code (3 : Nat) (Option.none : Option Jvm.ClassFile.FieldType)).before args0 about1 = true := code_word (m := ⟨13, 9⟩) (meth := k13m9) (c := k13c9) (by decide +kernel) rfl rfl rfl (by decide +kernel)
set_option maxRecDepth 65536 in
theorem w_c16 : (Jvm.Cond.code ({ cls := "java/lang/AbstractStringBuilder", name := "inflateIfNeededFor", desc := "(Ljava/lang/String;)V" } : Jvm.MethodName) jdk_68_method_71_code (2 : Nat) (Option.none : Option Jvm.ClassFile.FieldType)).before args0 about1 = true := code_word (m := ⟨13, 8⟩) (meth := k13m8) (c := k13c8) (by decide +kernel) rfl rfl rfl (by decide +kernel)
set_option maxRecDepth 65536 in
theorem w_c17 : (Jvm.Cond.code ({ cls := "java/lang/String", name := "getBytes", desc := "([BIB)V" } : Jvm.MethodName) jdk_42_method_147_code (4 : Nat) (Option.none : Option Jvm.ClassFile.FieldType)).before args0 about1 = true := code_word (m := ⟨7, 5⟩) (meth := k7m5) (c := k7c5) (by decide +kernel) rfl rfl rfl (by decide +kernel)
set_option maxRecDepth 65536 in
theorem w_c18 : (Jvm.Cond.code ({ cls := "java/lang/AbstractStringBuilder", name := "newCapacity", desc := "(I)I" } : Jvm.MethodName) jdk_68_method_10_code (6 : Nat) (Option.some Jvm.ClassFile.FieldType.int)).before args0 about1 = true := code_word (m := ⟨13, 4⟩) (meth := k13m4) (c := k13c4) (by decide +kernel) rfl rfl rfl (by decide +kernel)
set_option maxRecDepth 65536 in
theorem w_c19 : (Jvm.Cond.code ({ cls := "jdk/internal/util/ArraysSupport", name := "newLength", desc := "(III)I" } : Jvm.MethodName) jdk_48_method_27_code (4 : Nat) (Option.some Jvm.ClassFile.FieldType.int)).before args0 about1 = true := code_word (m := ⟨16, 1⟩) (meth := k16m1) (c := k16c1) (by decide +kernel) rfl rfl rfl (by decide +kernel)
set_option maxRecDepth 65536 in
theorem w_c20 : (Jvm.Cond.code ({ cls := "java/lang/Math", name := "max", desc := "(II)I" } : Jvm.MethodName) jdk_29_method_65_code (2 : Nat) (Option.some Jvm.ClassFile.FieldType.int)).before args0 about1 = true := code_word (m := ⟨17, 1⟩) (meth := k17m1) (c := k17c1) (by decide +kernel) rfl rfl rfl (by decide +kernel)
set_option maxRecDepth 65536 in
theorem w_c21 : (Jvm.Cond.code ({ cls := "java/util/Arrays", name := "copyOf", desc := "([BI)[B" } : Jvm.MethodName) jdk_65_method_121_code (3 : Nat) (Option.some (Jvm.ClassFile.FieldType.array Jvm.ClassFile.FieldType.byte))).before args0 about1 = true := code_word (m := ⟨18, 1⟩) (meth := k18m1) (c := k18c1) (by decide +kernel) rfl rfl rfl (by decide +kernel)
set_option maxRecDepth 65536 in
theorem w_c22 : (Jvm.Cond.code ({ cls := "java/lang/Math", name := "min", desc := "(II)I" } : Jvm.MethodName) jdk_29_method_69_code (2 : Nat) (Option.some Jvm.ClassFile.FieldType.int)).before args0 about1 = true := code_word (m := ⟨17, 2⟩) (meth := k17m2) (c := k17c2) (by decide +kernel) rfl rfl rfl (by decide +kernel)
set_option maxRecDepth 65536 in
theorem w_c23 : (Jvm.Cond.code ({ cls := "java/lang/StringBuilder", name := "toString", desc := "()Ljava/lang/String;" } : Jvm.MethodName) jdk_67_method_42_code (1 : Nat) (Option.some (Jvm.ClassFile.FieldType.object "java/lang/String"))).before args0 about1 = true := code_word (m := ⟨14, 2⟩) (meth := k14m2) (c := k14c2) (by decide +kernel) rfl rfl rfl (by decide +kernel)
set_option maxRecDepth 65536 in
theorem w_c24 : (Jvm.Cond.code ({ cls := "java/lang/String", name := "<init>", desc := "(Ljava/lang/StringBuilder;)V" } : Jvm.MethodName) jdk_42_method_53_code (2 : Nat) (Option.none : Option Jvm.ClassFile.FieldType)).before args0 about1 = true := code_word (m := ⟨7, 2⟩) (meth := k7m2) (c := k7c2) (by decide +kernel) rfl rfl rfl (by decide +kernel)
set_option maxRecDepth 65536 in
theorem w_c25 : (Jvm.Cond.code ({ cls := "java/lang/String", name := "<init>", desc := "(Ljava/lang/AbstractStringBuilder;Ljava/lang/Void;)V" } : Jvm.MethodName) jdk_42_method_150_code (5 : Nat) (Option.none : Option Jvm.ClassFile.FieldType)).before args0 about1 = true := code_word (m := ⟨7, 7⟩) (meth := k7m7) (c := k7c7) (by decide +kernel) rfl rfl rfl (by decide +kernel)
set_option maxRecDepth 65536 in
theorem w_c26 : (Jvm.Cond.code ({ cls := "java/lang/AbstractStringBuilder", name := "getValue", desc := "()[B" } : Jvm.MethodName) jdk_68_method_64_code (1 : Nat) (Option.some (Jvm.ClassFile.FieldType.array Jvm.ClassFile.FieldType.byte))).before args0 about1 = true := code_word (m := ⟨13, 6⟩) (meth := k13m6) (c := k13c6) (by decide +kernel) rfl rfl rfl (by decide +kernel)
set_option maxRecDepth 65536 in
theorem w_c27 : (Jvm.Cond.code ({ cls := "java/lang/StringBuilder", name := "length", desc := "()I" } : Jvm.MethodName) jdk_67_method_93_code (1 : Nat) (Option.some Jvm.ClassFile.FieldType.int)).before args0 about1 = true := code_word (m := ⟨14, 3⟩) (meth := k14m3) (c := k14c3) (by decide +kernel) rfl rfl rfl (by decide +kernel)
set_option maxRecDepth 65536 in
theorem w_c28 : (Jvm.Cond.code ({ cls := "java/lang/AbstractStringBuilder", name := "length", desc := "()I" } : Jvm.MethodName) jdk_68_method_6_code (1 : Nat) (Option.some Jvm.ClassFile.FieldType.int)).before args0 about1 = true := code_word (m := ⟨13, 2⟩) (meth := k13m2) (c := k13c2) (by decide +kernel) rfl rfl rfl (by decide +kernel)
set_option maxRecDepth 65536 in
theorem w_c29 : (Jvm.Cond.code ({ cls := "java/lang/AbstractStringBuilder", name := "isLatin1", desc := "()Z" } : Jvm.MethodName) jdk_68_method_68_code (1 : Nat) (Option.some Jvm.ClassFile.FieldType.boolean)).before args0 about1 = true := code_word (m := ⟨13, 7⟩) (meth := k13m7) (c := k13c7) (by decide +kernel) rfl rfl rfl (by decide +kernel)
set_option maxRecDepth 65536 in
theorem w_c30 : (Jvm.Cond.code ({ cls := "java/util/Arrays", name := "copyOfRange", desc := "([BII)[B" } : Jvm.MethodName) jdk_65_method_132_code (3 : Nat) (Option.some (Jvm.ClassFile.FieldType.array Jvm.ClassFile.FieldType.byte))).before args0 about1 = true := code_word (m := ⟨18, 3⟩) (meth := k18m3) (c := k18c3) (by decide +kernel) rfl rfl rfl (by decide +kernel)
set_option maxRecDepth 65536 in
theorem w_c31 : (Jvm.Cond.code ({ cls := "java/util/Arrays", name := "copyOfRangeByte", desc := "([BII)[B" } : Jvm.MethodName) jdk_65_method_133_code (5 : Nat) (Option.some (Jvm.ClassFile.FieldType.array Jvm.ClassFile.FieldType.byte))).before args0 about1 = true := code_word (m := ⟨18, 4⟩) (meth := k18m4) (c := k18c4) (by decide +kernel) rfl rfl rfl (by decide +kernel)
set_option maxRecDepth 65536 in
theorem w_c32 : (Jvm.Cond.code ({ cls := "java/util/Arrays", name := "checkLength", desc := "(II)V" } : Jvm.MethodName) jdk_65_method_131_code (2 : Nat) (Option.none : Option Jvm.ClassFile.FieldType)).before args0 about1 = true := code_word (m := ⟨18, 2⟩) (meth := k18m2) (c := k18c2) (by decide +kernel) rfl rfl rfl (by decide +kernel)
set_option maxRecDepth 65536 in
theorem w_c33 : (Jvm.Cond.code ({ cls := "com/example/legitka/legitka/cli/UsageException", name := "<init>", desc := "(Ljava/lang/String;)V" } : Jvm.MethodName) prog_21_method_1_code (2 : Nat) (Option.none : Option Jvm.ClassFile.FieldType)).before args0 about1 = true := code_word (m := ⟨11, 0⟩) (meth := k11m0) (c := k11c0) (by decide +kernel) rfl rfl rfl (by decide +kernel)
set_option maxRecDepth 65536 in
theorem w_c34 : (Jvm.Cond.code ({ cls := "java/lang/Exception", name := "<init>", desc := "(Ljava/lang/String;)V" } : Jvm.MethodName) jdk_59_method_2_code (2 : Nat) (Option.none : Option Jvm.ClassFile.FieldType)).before args0 about1 = true := code_word (m := ⟨10, 1⟩) (meth := k10m1) (c := k10c1) (by decide +kernel) rfl rfl rfl (by decide +kernel)
set_option maxRecDepth 65536 in
theorem w_c35 : (Jvm.Cond.code ({ cls := "java/lang/Throwable", name := "<init>", desc := "(Ljava/lang/String;)V" } : Jvm.MethodName) jdk_78_method_2_code (2 : Nat) (Option.none : Option Jvm.ClassFile.FieldType)).before args0 about1 = true := code_word (m := ⟨9, 1⟩) (meth := k9m1) (c := k9c1) (by decide +kernel) rfl rfl rfl (by decide +kernel)
set_option maxRecDepth 65536 in
theorem w_c36 : (Jvm.Cond.code ({ cls := "java/lang/Throwable", name := "<init>", desc := "()V" } : Jvm.MethodName) jdk_78_method_1_code (1 : Nat) (Option.none : Option Jvm.ClassFile.FieldType)).before args0 about1 = true := code_word (m := ⟨9, 0⟩) (meth := k9m0) (c := k9c0) (by decide +kernel) rfl rfl rfl (by decide +kernel)
set_option maxRecDepth 65536 in
theorem w_c37 : (Jvm.Cond.code ({ cls := "java/lang/Throwable", name := "getMessage", desc := "()Ljava/lang/String;" } : Jvm.MethodName) jdk_78_method_6_code (1 : Nat) (Option.some (Jvm.ClassFile.FieldType.object "java/lang/String"))).before args0 about1 = true := code_word (m := ⟨9, 2⟩) (meth := k9m2) (c := k9c2) (by decide +kernel) rfl rfl rfl (by decide +kernel)
set_option maxRecDepth 65536 in
theorem w_c38 : (Jvm.Cond.code ({ cls := "java/lang/String", name := "equals", desc := "(Ljava/lang/Object;)Z" } : Jvm.MethodName) jdk_42_method_66_code (3 : Nat) (Option.some Jvm.ClassFile.FieldType.boolean)).before args0 about1 = true := code_word (m := ⟨7, 4⟩) (meth := k7m4) (c := k7c4) (by decide +kernel) rfl rfl rfl (by decide +kernel)
set_option maxRecDepth 65536 in
theorem w_c39 : (Jvm.Cond.code ({ cls := "java/lang/StringLatin1", name := "equals", desc := "([B[B)Z" } : Jvm.MethodName) jdk_43_method_13_code (3 : Nat) (Option.some Jvm.ClassFile.FieldType.boolean)).before args0 about1 = true := code_word (m := ⟨19, 1⟩) (meth := k19m1) (c := k19c1) (by decide +kernel) rfl rfl rfl (by decide +kernel)
def codes1 : List Jvm.Cond := [Jvm.Cond.code x code maxLocals ret, Jvm.Cond.code ({ cls := "java/lang/String", name := "<init>", desc := "([C)V" } : Jvm.MethodName) jdk_42_method_3_code (2 : Nat) (Option.none : Option Jvm.ClassFile.FieldType), Jvm.Cond.code ({ cls := "java/lang/String", name := "<init>", desc := "([CIILjava/lang/Void;)V" } : Jvm.MethodName) jdk_42_method_149_code (6 : Nat) (Option.none : Option Jvm.ClassFile.FieldType), Jvm.Cond.code ({ cls := "java/lang/Object", name := "<init>", desc := "()V" } : Jvm.MethodName) object_method_1_code (1 : Nat) (Option.none : Option Jvm.ClassFile.FieldType), Jvm.Cond.code ({ cls := "java/lang/StringUTF16", name := "compress", desc := "([CII)[B" } : Jvm.MethodName) jdk_52_method_16_code (6 : Nat) (Option.some (Jvm.ClassFile.FieldType.array Jvm.ClassFile.FieldType.byte)), Jvm.Cond.code ({ cls := "java/lang/StringUTF16", name := "compress", desc := "([CI[BII)I" } : Jvm.MethodName) jdk_52_method_21_code (7 : Nat) (Option.some Jvm.ClassFile.FieldType.int), Jvm.Cond.code ({ cls := "java/lang/StringUTF16", name := "coderFromArrayLen", desc := "([BI)B" } : Jvm.MethodName) jdk_52_method_15_code (2 : Nat) (Option.some Jvm.ClassFile.FieldType.byte), Jvm.Cond.code ({ cls := "com/example/legitka/legitka/cli/UsageException", name := "unknownOption", desc := "(Ljava/lang/String;)Lcom/example/legitka/legitka/cli/UsageException;" } : Jvm.MethodName) prog_21_method_2_code (1 : Nat) (Option.some (Jvm.ClassFile.FieldType.object "com/example/legitka/legitka/cli/UsageException")), Jvm.Cond.code ({ cls := "java/lang/StringBuilder", name := "<init>", desc := "()V" } : Jvm.MethodName) jdk_67_method_1_code (1 : Nat) (Option.none : Option Jvm.ClassFile.FieldType), Jvm.Cond.code ({ cls := "java/lang/AbstractStringBuilder", name := "<init>", desc := "(I)V" } : Jvm.MethodName) jdk_68_method_2_code (2 : Nat) (Option.none : Option Jvm.ClassFile.FieldType), Jvm.Cond.code ({ cls := "java/lang/StringBuilder", name := "append", desc := "(Ljava/lang/String;)Ljava/lang/StringBuilder;" } : Jvm.MethodName) jdk_67_method_7_code (2 : Nat) (Option.some (Jvm.ClassFile.FieldType.object "java/lang/StringBuilder")), Jvm.Cond.code ({ cls := "java/lang/AbstractStringBuilder", name := "append", desc := "(Ljava/lang/String;)Ljava/lang/AbstractStringBuilder;" } : Jvm.MethodName) jdk_68_method_22_code (3 : Nat) (Option.some (Jvm.ClassFile.FieldType.object "java/lang/AbstractStringBuilder")), Jvm.Cond.code ({ cls := "java/lang/String", name := "length", desc := "()I" } : Jvm.MethodName) jdk_42_method_54_code (1 : Nat) (Option.some Jvm.ClassFile.FieldType.int), Jvm.Cond.code ({ cls := "java/lang/String", name := "coder", desc := "()B" } : Jvm.MethodName) jdk_42_method_152_code (1 : Nat) (Option.some Jvm.ClassFile.FieldType.byte), Jvm.Cond.code ({ cls := "java/lang/AbstractStringBuilder", name := "ensureCapacityInternal", desc := "(I)V" } : Jvm.MethodName) jdk_68_method_9_code (3 : Nat) (Option.none : Option Jvm.ClassFile.FieldType), Jvm.Cond.code ({ cls := "java/lang/AbstractStringBuilder", name := "putStringAt", desc := "(ILjava/lang/String;)V" } : Jvm.MethodName) jdk_68_method_73_code (3 : Nat) (Option.none : Option Jvm.ClassFile.FieldType), Jvm.Cond.code ({ cls := "java/lang/AbstractStringBuilder", name := "inflateIfNeededFor", desc := "(Ljava/lang/String;)V" } : Jvm.MethodName) jdk_68_method_71_code (2 : Nat) (Option.none : Option Jvm.ClassFile.FieldType), Jvm.Cond.code ({ cls := "java/lang/String", name := "getBytes", desc := "([BIB)V" } : Jvm.MethodName) jdk_42_method_147_code (4 : Nat) (Option.none : Option Jvm.ClassFile.FieldType), Jvm.Cond.code ({ cls := "java/lang/AbstractStringBuilder", name := "newCapacity", desc := "(I)I" } : Jvm.MethodName) jdk_68_method_10_code (6 : Nat) (Option.some Jvm.ClassFile.FieldType.int), Jvm.Cond.code ({ cls := "jdk/internal/util/ArraysSupport", name := "newLength", desc := "(III)I" } : Jvm.MethodName) jdk_48_method_27_code (4 : Nat) (Option.some Jvm.ClassFile.FieldType.int), Jvm.Cond.code ({ cls := "java/lang/Math", name := "max", desc := "(II)I" } : Jvm.MethodName) jdk_29_method_65_code (2 : Nat) (Option.some Jvm.ClassFile.FieldType.int), Jvm.Cond.code ({ cls := "java/util/Arrays", name := "copyOf", desc := "([BI)[B" } : Jvm.MethodName) jdk_65_method_121_code (3 : Nat) (Option.some (Jvm.ClassFile.FieldType.array Jvm.ClassFile.FieldType.byte)), Jvm.Cond.code ({ cls := "java/lang/Math", name := "min", desc := "(II)I" } : Jvm.MethodName) jdk_29_method_69_code (2 : Nat) (Option.some Jvm.ClassFile.FieldType.int), Jvm.Cond.code ({ cls := "java/lang/StringBuilder", name := "toString", desc := "()Ljava/lang/String;" } : Jvm.MethodName) jdk_67_method_42_code (1 : Nat) (Option.some (Jvm.ClassFile.FieldType.object "java/lang/String")), Jvm.Cond.code ({ cls := "java/lang/String", name := "<init>", desc := "(Ljava/lang/StringBuilder;)V" } : Jvm.MethodName) jdk_42_method_53_code (2 : Nat) (Option.none : Option Jvm.ClassFile.FieldType), Jvm.Cond.code ({ cls := "java/lang/String", name := "<init>", desc := "(Ljava/lang/AbstractStringBuilder;Ljava/lang/Void;)V" } : Jvm.MethodName) jdk_42_method_150_code (5 : Nat) (Option.none : Option Jvm.ClassFile.FieldType), Jvm.Cond.code ({ cls := "java/lang/AbstractStringBuilder", name := "getValue", desc := "()[B" } : Jvm.MethodName) jdk_68_method_64_code (1 : Nat) (Option.some (Jvm.ClassFile.FieldType.array Jvm.ClassFile.FieldType.byte)), Jvm.Cond.code ({ cls := "java/lang/StringBuilder", name := "length", desc := "()I" } : Jvm.MethodName) jdk_67_method_93_code (1 : Nat) (Option.some Jvm.ClassFile.FieldType.int), Jvm.Cond.code ({ cls := "java/lang/AbstractStringBuilder", name := "length", desc := "()I" } : Jvm.MethodName) jdk_68_method_6_code (1 : Nat) (Option.some Jvm.ClassFile.FieldType.int), Jvm.Cond.code ({ cls := "java/lang/AbstractStringBuilder", name := "isLatin1", desc := "()Z" } : Jvm.MethodName) jdk_68_method_68_code (1 : Nat) (Option.some Jvm.ClassFile.FieldType.boolean), Jvm.Cond.code ({ cls := "java/util/Arrays", name := "copyOfRange", desc := "([BII)[B" } : Jvm.MethodName) jdk_65_method_132_code (3 : Nat) (Option.some (Jvm.ClassFile.FieldType.array Jvm.ClassFile.FieldType.byte)), Jvm.Cond.code ({ cls := "java/util/Arrays", name := "copyOfRangeByte", desc := "([BII)[B" } : Jvm.MethodName) jdk_65_method_133_code (5 : Nat) (Option.some (Jvm.ClassFile.FieldType.array Jvm.ClassFile.FieldType.byte)), Jvm.Cond.code ({ cls := "java/util/Arrays", name := "checkLength", desc := "(II)V" } : Jvm.MethodName) jdk_65_method_131_code (2 : Nat) (Option.none : Option Jvm.ClassFile.FieldType), Jvm.Cond.code ({ cls := "com/example/legitka/legitka/cli/UsageException", name := "<init>", desc := "(Ljava/lang/String;)V" } : Jvm.MethodName) prog_21_method_1_code (2 : Nat) (Option.none : Option Jvm.ClassFile.FieldType), Jvm.Cond.code ({ cls := "java/lang/Exception", name := "<init>", desc := "(Ljava/lang/String;)V" } : Jvm.MethodName) jdk_59_method_2_code (2 : Nat) (Option.none : Option Jvm.ClassFile.FieldType), Jvm.Cond.code ({ cls := "java/lang/Throwable", name := "<init>", desc := "(Ljava/lang/String;)V" } : Jvm.MethodName) jdk_78_method_2_code (2 : Nat) (Option.none : Option Jvm.ClassFile.FieldType), Jvm.Cond.code ({ cls := "java/lang/Throwable", name := "<init>", desc := "()V" } : Jvm.MethodName) jdk_78_method_1_code (1 : Nat) (Option.none : Option Jvm.ClassFile.FieldType), Jvm.Cond.code ({ cls := "java/lang/Throwable", name := "getMessage", desc := "()Ljava/lang/String;" } : Jvm.MethodName) jdk_78_method_6_code (1 : Nat) (Option.some (Jvm.ClassFile.FieldType.object "java/lang/String")), Jvm.Cond.code ({ cls := "java/lang/String", name := "equals", desc := "(Ljava/lang/Object;)Z" } : Jvm.MethodName) jdk_42_method_66_code (3 : Nat) (Option.some Jvm.ClassFile.FieldType.boolean), Jvm.Cond.code ({ cls := "java/lang/StringLatin1", name := "equals", desc := "([B[B)Z" } : Jvm.MethodName) jdk_43_method_13_code (3 : Nat) (Option.some Jvm.ClassFile.FieldType.boolean)]
set_option maxRecDepth 65536 in
theorem codes_eq : words1.filter isCode = codes1 := rfl
theorem w_codes : ∀ c ∈ words1.filter isCode, c.before args0 about1 = true := by
  rw [codes_eq]
  intro c hc
  simp only [codes1, List.mem_cons, List.not_mem_nil, or_false] at hc
  rcases hc with rfl | rfl | rfl | rfl | rfl | rfl | rfl | rfl | rfl | rfl | rfl | rfl | rfl | rfl | rfl | rfl | rfl | rfl | rfl | rfl | rfl | rfl | rfl | rfl | rfl | rfl | rfl | rfl | rfl | rfl | rfl | rfl | rfl | rfl | rfl | rfl | rfl | rfl | rfl | rfl
  · exact w_c0
  · exact w_c1
  · exact w_c2
  · exact w_c3
  · exact w_c4
  · exact w_c5
  · exact w_c6
  · exact w_c7
  · exact w_c8
  · exact w_c9
  · exact w_c10
  · exact w_c11
  · exact w_c12
  · exact w_c13
  · exact w_c14
  · exact w_c15
  · exact w_c16
  · exact w_c17
  · exact w_c18
  · exact w_c19
  · exact w_c20
  · exact w_c21
  · exact w_c22
  · exact w_c23
  · exact w_c24
  · exact w_c25
  · exact w_c26
  · exact w_c27
  · exact w_c28
  · exact w_c29
  · exact w_c30
  · exact w_c31
  · exact w_c32
  · exact w_c33
  · exact w_c34
  · exact w_c35
  · exact w_c36
  · exact w_c37
  · exact w_c38
  · exact w_c39
set_option maxRecDepth 65536 in
theorem w_t1 : (words1.take 24).all (fun c => isCode c || c.before args0 about1) = true := by decide +kernel
set_option maxRecDepth 65536 in
theorem w_t2 : ((words1.drop 24).take 24).all (fun c => isCode c || c.before args0 about1) = true := by decide +kernel
set_option maxRecDepth 65536 in
theorem w_t3 : (((words1.drop 24).drop 24).take 24).all (fun c => isCode c || c.before args0 about1) = true := by decide +kernel
set_option maxRecDepth 65536 in
theorem w_t4 : ((((words1.drop 24).drop 24).drop 24).take 24).all (fun c => isCode c || c.before args0 about1) = true := by decide +kernel
set_option maxRecDepth 65536 in
theorem w_t5 : (((((words1.drop 24).drop 24).drop 24).drop 24).take 24).all (fun c => isCode c || c.before args0 about1) = true := by decide +kernel
set_option maxRecDepth 65536 in
theorem w_t6 : ((((((words1.drop 24).drop 24).drop 24).drop 24).drop 24).take 24).all (fun c => isCode c || c.before args0 about1) = true := by decide +kernel
set_option maxRecDepth 65536 in
theorem w_t7 : (((((((words1.drop 24).drop 24).drop 24).drop 24).drop 24).drop 24).take 24).all (fun c => isCode c || c.before args0 about1) = true := by decide +kernel
set_option maxRecDepth 65536 in
theorem w_t8 : ((((((((words1.drop 24).drop 24).drop 24).drop 24).drop 24).drop 24).drop 24).take 24).all (fun c => isCode c || c.before args0 about1) = true := by decide +kernel
set_option maxRecDepth 65536 in
theorem w_t9 : (((((((((words1.drop 24).drop 24).drop 24).drop 24).drop 24).drop 24).drop 24).drop 24).take 24).all (fun c => isCode c || c.before args0 about1) = true := by decide +kernel
set_option maxRecDepth 65536 in
theorem w_t10 : (((((((((words1.drop 24).drop 24).drop 24).drop 24).drop 24).drop 24).drop 24).drop 24).drop 24).all (fun c => isCode c || c.before args0 about1) = true := by decide +kernel
theorem w_tables : (allAtoms (Jvm.Cond.code x code maxLocals ret :: tables_1)).before args0 about1 = true := by
  rw [allAtoms_all]
  show words1.all (fun c => c.before args0 about1) = true
  refine all_split ?_ w_codes
  rw [← List.take_append_drop 24 words1, List.all_append, w_t1, ← List.take_append_drop 24 (words1.drop 24), List.all_append, w_t2, ← List.take_append_drop 24 ((words1.drop 24).drop 24), List.all_append, w_t3, ← List.take_append_drop 24 (((words1.drop 24).drop 24).drop 24), List.all_append, w_t4, ← List.take_append_drop 24 ((((words1.drop 24).drop 24).drop 24).drop 24), List.all_append, w_t5, ← List.take_append_drop 24 (((((words1.drop 24).drop 24).drop 24).drop 24).drop 24), List.all_append, w_t6, ← List.take_append_drop 24 ((((((words1.drop 24).drop 24).drop 24).drop 24).drop 24).drop 24), List.all_append, w_t7, ← List.take_append_drop 24 (((((((words1.drop 24).drop 24).drop 24).drop 24).drop 24).drop 24).drop 24), List.all_append, w_t8, ← List.take_append_drop 24 ((((((((words1.drop 24).drop 24).drop 24).drop 24).drop 24).drop 24).drop 24).drop 24), List.all_append, w_t9, w_t10]
  rfl
set_option maxRecDepth 65536 in
theorem w_rest : rest_1_c.before args0 about1 = true := by decide +kernel
set_option maxRecDepth 65536 in
theorem w_case : (Jvm.Cond.and given_1 narrow_1).before args0 about1 = true := by decide +kernel
set_option maxRecDepth 65536 in
theorem w_consts : constsHeld consts_1 about1 := Jvm.Lit.constsHeldB_iff.mp (by decide +kernel)
theorem w_applies : (headSpec (Jvm.Cond.code x code maxLocals ret :: tables_1) room_1).applies x e0.platform about1 = true :=
  (Spec.applies_iff w_frames).mpr ⟨w_running, w_runnable, w_alone, w_named, w_hears, w_ripe, w_room, w_tables⟩
theorem atStart : AtStart classFile x code maxLocals ret World_1 tables_1 room_1 Calls_1 rest_1 Pre_1 launch0 p0 e0 about1 theMethod args0 below0 :=
  ⟨lists_1, trivial, launch0.admits_env _ _ _, launch0.least_env, fairChoices_fair.cas, fairChoices_fair.clock, w_frames, w_args, w_heap, w_applies, ⟨(by decide +kernel : framesKnown about1 = true), ⟨(by decide +kernel : tablesKnown about1 = true), ⟨w_consts, trivial⟩⟩⟩, w_rest, w_case⟩
end start1
theorem witness_1 : WitnessClaimed_1 := ⟨start1.p0, start1.e0, start1.about1, start1.theMethod, start1.args0, start1.below0, start1.atStart⟩
end Jvm.Pilot.@@N@@
