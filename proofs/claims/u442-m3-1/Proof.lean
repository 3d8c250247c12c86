import JvmDerived
import JvmDerived.Pilot.@@N@@Statement
import JvmDerived.Pilot.@@N@@Code
set_option linter.unusedVariables false
set_option linter.unusedSimpArgs false
namespace Jvm.OwnKit
open Sem ClassFile Op Lib Jvm.Stand Jvm.Free Jvm.LawKit Jvm.RoadKit
/-- from this frame the run ends, and the end is as Q says -/
def Endz (tb : Tables) (e : Env) (below : List Frame) (Q : Outcome → State → Prop) (T : State) (g : JFrame) : Prop :=
  ∃ s₂ o, Steps tb e below (T.setTop g) s₂ ∧ s₂.status = .running ∧ Ended s₂ below o ∧ Q o s₂
theorem Endz.by {tb : Tables} {e : Env} {below : List Frame} {Q : Outcome → State → Prop} {T T' : State} {g g' : JFrame} (st : ∀ t, Steps tb e below (T'.setTop g') t → Steps tb e below (T.setTop g) t) (h : Endz tb e below Q T' g') : Endz tb e below Q T g := by
  obtain ⟨s₂, o, h1, h2⟩ := h; exact ⟨s₂, o, st _ h1, h2⟩
theorem Endz.tr {tb : Tables} {e : Env} {below : List Frame} {Q : Outcome → State → Prop} {T T' : State} {g g' : JFrame} (st : Steps tb e below (T.setTop g) (T'.setTop g')) (h : Endz tb e below Q T' g') : Endz tb e below Q T g := by
  obtain ⟨s₂, o, h1, h2⟩ := h; exact ⟨s₂, o, st.trans h1, h2⟩
theorem Endz.eq {tb : Tables} {e : Env} {below : List Frame} {Q : Outcome → State → Prop} {T : State} {g g' : JFrame} (q : g = g') (h : Endz tb e below Q T g') : Endz tb e below Q T g := q ▸ h
section Plain
variable {tb : Tables} [Ours tb] {e : Env} {below : List Frame} {Q : Outcome → State → Prop} {T : State} {m : MethodId} {c : Code} {pc n n1 n2 : Nat} {Ls Ls' : Array Slot} {st : List Value}
theorem w_iloadN (h : At T m c below) (hx : tb.exec = Jvm.exec) {k : Fin 4} {v : Int32} (hd : decode c.code pc = .ok (.iload_n k, 1)) (hn : pc + 1 = n) (hl : Ls[k.val]? = some (.val (.int v))) (hr : Endz tb e below Q T (mkF m n Ls (.int v :: st))) : Endz tb e below Q T (mkF m pc Ls (st)) := by
  subst hn; exact Endz.by (fun _ k => XS.iloadN h hx rfl hd hl k) hr
theorem w_iload (h : At T m c below) (hx : tb.exec = Jvm.exec) {k : Nat} {v : Int32} (hd : decode c.code pc = .ok (.iload k, 2)) (hn : pc + 2 = n) (hl : Ls[k]? = some (.val (.int v))) (hr : Endz tb e below Q T (mkF m n Ls (.int v :: st))) : Endz tb e below Q T (mkF m pc Ls (st)) := by
  subst hn; exact Endz.by (fun _ k => XS.iload h hx rfl hd hl k) hr
theorem w_lloadN (h : At T m c below) (hx : tb.exec = Jvm.exec) {k : Fin 4} {v : Int64} (hd : decode c.code pc = .ok (.lload_n k, 1)) (hn : pc + 1 = n) (hl : Ls[k.val]? = some (.val (.long v))) (hr : Endz tb e below Q T (mkF m n Ls (.long v :: st))) : Endz tb e below Q T (mkF m pc Ls (st)) := by
  subst hn; exact Endz.by (fun _ k => XS.lloadN h hx rfl hd hl k) hr
theorem w_lload (h : At T m c below) (hx : tb.exec = Jvm.exec) {k : Nat} {v : Int64} (hd : decode c.code pc = .ok (.lload k, 2)) (hn : pc + 2 = n) (hl : Ls[k]? = some (.val (.long v))) (hr : Endz tb e below Q T (mkF m n Ls (.long v :: st))) : Endz tb e below Q T (mkF m pc Ls (st)) := by
  subst hn; exact Endz.by (fun _ k => XS.lload h hx rfl hd hl k) hr
theorem w_aloadN (h : At T m c below) (hx : tb.exec = Jvm.exec) {k : Fin 4} {v : Value} (hd : decode c.code pc = .ok (.aload_n k, 1)) (hn : pc + 1 = n) (hl : Ls[k.val]? = some (.val v)) (hv : v.isRef = true) (hr : Endz tb e below Q T (mkF m n Ls (v :: st))) : Endz tb e below Q T (mkF m pc Ls (st)) := by
  subst hn; exact Endz.by (fun _ k => XS.aloadN h hx rfl hd hl hv k) hr
theorem w_aload (h : At T m c below) (hx : tb.exec = Jvm.exec) {k : Nat} {v : Value} (hd : decode c.code pc = .ok (.aload k, 2)) (hn : pc + 2 = n) (hl : Ls[k]? = some (.val v)) (hv : v.isRef = true) (hr : Endz tb e below Q T (mkF m n Ls (v :: st))) : Endz tb e below Q T (mkF m pc Ls (st)) := by
  subst hn; exact Endz.by (fun _ k => XS.aload h hx rfl hd hl hv k) hr
theorem w_istoreN (h : At T m c below) (hx : tb.exec = Jvm.exec) {k : Fin 4} {x : Int32} (hd : decode c.code pc = .ok (.istore_n k, 1)) (hn : pc + 1 = n) (hl : storeLocals Ls k.val (.int x) = some Ls') (hr : Endz tb e below Q T (mkF m n Ls' (st))) : Endz tb e below Q T (mkF m pc Ls (.int x :: st)) := by
  subst hn; exact Endz.by (fun _ k => XS.istoreN h hx rfl hd rfl hl k) hr
theorem w_istore (h : At T m c below) (hx : tb.exec = Jvm.exec) {k : Nat} {x : Int32} (hd : decode c.code pc = .ok (.istore k, 2)) (hn : pc + 2 = n) (hl : storeLocals Ls k (.int x) = some Ls') (hr : Endz tb e below Q T (mkF m n Ls' (st))) : Endz tb e below Q T (mkF m pc Ls (.int x :: st)) := by
  subst hn; exact Endz.by (fun _ k => XS.istore h hx rfl hd rfl hl k) hr
theorem w_lstoreN (h : At T m c below) (hx : tb.exec = Jvm.exec) {k : Fin 4} {x : Int64} (hd : decode c.code pc = .ok (.lstore_n k, 1)) (hn : pc + 1 = n) (hl : storeLocals Ls k.val (.long x) = some Ls') (hr : Endz tb e below Q T (mkF m n Ls' (st))) : Endz tb e below Q T (mkF m pc Ls (.long x :: st)) := by
  subst hn; exact Endz.by (fun _ k => XS.lstoreN h hx rfl hd rfl hl k) hr
theorem w_lstore (h : At T m c below) (hx : tb.exec = Jvm.exec) {k : Nat} {x : Int64} (hd : decode c.code pc = .ok (.lstore k, 2)) (hn : pc + 2 = n) (hl : storeLocals Ls k (.long x) = some Ls') (hr : Endz tb e below Q T (mkF m n Ls' (st))) : Endz tb e below Q T (mkF m pc Ls (.long x :: st)) := by
  subst hn; exact Endz.by (fun _ k => XS.lstore h hx rfl hd rfl hl k) hr
theorem w_astoreN (h : At T m c below) (hx : tb.exec = Jvm.exec) {k : Fin 4} {x : Value} (hd : decode c.code pc = .ok (.astore_n k, 1)) (hn : pc + 1 = n) (hv : x.isRef = true) (hl : storeLocals Ls k.val x = some Ls') (hr : Endz tb e below Q T (mkF m n Ls' (st))) : Endz tb e below Q T (mkF m pc Ls (x :: st)) := by
  subst hn; exact Endz.by (fun _ k => XS.astoreN h hx rfl hd rfl hv hl k) hr
theorem w_astore (h : At T m c below) (hx : tb.exec = Jvm.exec) {k : Nat} {x : Value} (hd : decode c.code pc = .ok (.astore k, 2)) (hn : pc + 2 = n) (hv : x.isRef = true) (hl : storeLocals Ls k x = some Ls') (hr : Endz tb e below Q T (mkF m n Ls' (st))) : Endz tb e below Q T (mkF m pc Ls (x :: st)) := by
  subst hn; exact Endz.by (fun _ k => XS.astore h hx rfl hd rfl hv hl k) hr
theorem w_iinc (h : At T m c below) (hx : tb.exec = Jvm.exec) {k : Nat} {i : Int} {x : Int32} (hd : decode c.code pc = .ok (.iinc k i, 3)) (hn : pc + 3 = n) (hl : Ls[k]? = some (.val (.int x))) (hl' : storeLocals Ls k (.int (x + Int32.ofInt i)) = some Ls') (hr : Endz tb e below Q T (mkF m n Ls' (st))) : Endz tb e below Q T (mkF m pc Ls (st)) := by
  subst hn; exact Endz.by (fun _ k => XS.iinc h hx rfl hd hl hl' k) hr
theorem w_iconst (h : At T m c below) (hx : tb.exec = Jvm.exec) {i : Int} {z : Int32} (hd : decode c.code pc = .ok (.iconst i, 1)) (hn : pc + 1 = n) (hz : Int32.ofInt i = z) (hr : Endz tb e below Q T (mkF m n Ls (.int z :: st))) : Endz tb e below Q T (mkF m pc Ls (st)) := by
  subst hn; exact Endz.by (fun _ k => XS.iconst h hx rfl hd (hz ▸ k)) hr
theorem w_bipush (h : At T m c below) (hx : tb.exec = Jvm.exec) {i : Int} {z : Int32} (hd : decode c.code pc = .ok (.bipush i, 2)) (hn : pc + 2 = n) (hz : (Int8.ofInt i).toInt32 = z) (hr : Endz tb e below Q T (mkF m n Ls (.int z :: st))) : Endz tb e below Q T (mkF m pc Ls (st)) := by
  subst hn; exact Endz.by (fun _ k => XS.bipush h hx rfl hd (hz ▸ k)) hr
theorem w_sipush (h : At T m c below) (hx : tb.exec = Jvm.exec) {i : Int} {z : Int32} (hd : decode c.code pc = .ok (.sipush i, 3)) (hn : pc + 3 = n) (hz : (Int16.ofInt i).toInt32 = z) (hr : Endz tb e below Q T (mkF m n Ls (.int z :: st))) : Endz tb e below Q T (mkF m pc Ls (st)) := by
  subst hn; exact Endz.by (fun _ k => XS.sipush h hx rfl hd (hz ▸ k)) hr
theorem w_lconst (h : At T m c below) (hx : tb.exec = Jvm.exec) {i : Fin 2} {z : Int64} (hd : decode c.code pc = .ok (.lconst i, 1)) (hn : pc + 1 = n) (hz : Int64.ofNat i = z) (hr : Endz tb e below Q T (mkF m n Ls (.long z :: st))) : Endz tb e below Q T (mkF m pc Ls (st)) := by
  subst hn; exact Endz.by (fun _ k => XS.lconst h hx rfl hd (hz ▸ k)) hr
theorem w_aconstNull (h : At T m c below) (hx : tb.exec = Jvm.exec)  (hd : decode c.code pc = .ok (.aconst_null, 1)) (hn : pc + 1 = n) (hr : Endz tb e below Q T (mkF m n Ls (.null :: st))) : Endz tb e below Q T (mkF m pc Ls (st)) := by
  subst hn; exact Endz.by (fun _ k => XS.aconstNull h hx rfl hd k) hr
theorem w_iadd (h : At T m c below) (hx : tb.exec = Jvm.exec) {x y : Int32} (hd : decode c.code pc = .ok (.iadd, 1)) (hn : pc + 1 = n) (hr : Endz tb e below Q T (mkF m n Ls (.int (x + y) :: st))) : Endz tb e below Q T (mkF m pc Ls (.int y :: .int x :: st)) := by
  subst hn; exact Endz.by (fun _ k => XS.iadd h hx rfl hd rfl k) hr
theorem w_isub (h : At T m c below) (hx : tb.exec = Jvm.exec) {x y : Int32} (hd : decode c.code pc = .ok (.isub, 1)) (hn : pc + 1 = n) (hr : Endz tb e below Q T (mkF m n Ls (.int (x - y) :: st))) : Endz tb e below Q T (mkF m pc Ls (.int y :: .int x :: st)) := by
  subst hn; exact Endz.by (fun _ k => XS.isub h hx rfl hd rfl k) hr
theorem w_imul (h : At T m c below) (hx : tb.exec = Jvm.exec) {x y : Int32} (hd : decode c.code pc = .ok (.imul, 1)) (hn : pc + 1 = n) (hr : Endz tb e below Q T (mkF m n Ls (.int (x * y) :: st))) : Endz tb e below Q T (mkF m pc Ls (.int y :: .int x :: st)) := by
  subst hn; exact Endz.by (fun _ k => XS.imul h hx rfl hd rfl k) hr
theorem w_iand (h : At T m c below) (hx : tb.exec = Jvm.exec) {x y : Int32} (hd : decode c.code pc = .ok (.iand, 1)) (hn : pc + 1 = n) (hr : Endz tb e below Q T (mkF m n Ls (.int (x &&& y) :: st))) : Endz tb e below Q T (mkF m pc Ls (.int y :: .int x :: st)) := by
  subst hn; exact Endz.by (fun _ k => XS.iand h hx rfl hd rfl k) hr
theorem w_ior (h : At T m c below) (hx : tb.exec = Jvm.exec) {x y : Int32} (hd : decode c.code pc = .ok (.ior, 1)) (hn : pc + 1 = n) (hr : Endz tb e below Q T (mkF m n Ls (.int (x ||| y) :: st))) : Endz tb e below Q T (mkF m pc Ls (.int y :: .int x :: st)) := by
  subst hn; exact Endz.by (fun _ k => XS.ior h hx rfl hd rfl k) hr
theorem w_ixor (h : At T m c below) (hx : tb.exec = Jvm.exec) {x y : Int32} (hd : decode c.code pc = .ok (.ixor, 1)) (hn : pc + 1 = n) (hr : Endz tb e below Q T (mkF m n Ls (.int (x ^^^ y) :: st))) : Endz tb e below Q T (mkF m pc Ls (.int y :: .int x :: st)) := by
  subst hn; exact Endz.by (fun _ k => XS.ixor h hx rfl hd rfl k) hr
theorem w_ishl (h : At T m c below) (hx : tb.exec = Jvm.exec) {x y : Int32} (hd : decode c.code pc = .ok (.ishl, 1)) (hn : pc + 1 = n) (hr : Endz tb e below Q T (mkF m n Ls (.int (x <<< (y &&& 31)) :: st))) : Endz tb e below Q T (mkF m pc Ls (.int y :: .int x :: st)) := by
  subst hn; exact Endz.by (fun _ k => XS.ishl h hx rfl hd rfl k) hr
theorem w_ishr (h : At T m c below) (hx : tb.exec = Jvm.exec) {x y : Int32} (hd : decode c.code pc = .ok (.ishr, 1)) (hn : pc + 1 = n) (hr : Endz tb e below Q T (mkF m n Ls (.int (x >>> (y &&& 31)) :: st))) : Endz tb e below Q T (mkF m pc Ls (.int y :: .int x :: st)) := by
  subst hn; exact Endz.by (fun _ k => XS.ishr h hx rfl hd rfl k) hr
theorem w_iushr (h : At T m c below) (hx : tb.exec = Jvm.exec) {x y : Int32} (hd : decode c.code pc = .ok (.iushr, 1)) (hn : pc + 1 = n) (hr : Endz tb e below Q T (mkF m n Ls (.int ((x.toUInt32 >>> (y &&& 31).toUInt32).toInt32) :: st))) : Endz tb e below Q T (mkF m pc Ls (.int y :: .int x :: st)) := by
  subst hn; exact Endz.by (fun _ k => XS.iushr h hx rfl hd rfl k) hr
theorem w_ladd (h : At T m c below) (hx : tb.exec = Jvm.exec) {x y : Int64} (hd : decode c.code pc = .ok (.ladd, 1)) (hn : pc + 1 = n) (hr : Endz tb e below Q T (mkF m n Ls (.long (x + y) :: st))) : Endz tb e below Q T (mkF m pc Ls (.long y :: .long x :: st)) := by
  subst hn; exact Endz.by (fun _ k => XS.ladd h hx rfl hd rfl k) hr
theorem w_lsub (h : At T m c below) (hx : tb.exec = Jvm.exec) {x y : Int64} (hd : decode c.code pc = .ok (.lsub, 1)) (hn : pc + 1 = n) (hr : Endz tb e below Q T (mkF m n Ls (.long (x - y) :: st))) : Endz tb e below Q T (mkF m pc Ls (.long y :: .long x :: st)) := by
  subst hn; exact Endz.by (fun _ k => XS.lsub h hx rfl hd rfl k) hr
theorem w_lmul (h : At T m c below) (hx : tb.exec = Jvm.exec) {x y : Int64} (hd : decode c.code pc = .ok (.lmul, 1)) (hn : pc + 1 = n) (hr : Endz tb e below Q T (mkF m n Ls (.long (x * y) :: st))) : Endz tb e below Q T (mkF m pc Ls (.long y :: .long x :: st)) := by
  subst hn; exact Endz.by (fun _ k => XS.lmul h hx rfl hd rfl k) hr
theorem w_land (h : At T m c below) (hx : tb.exec = Jvm.exec) {x y : Int64} (hd : decode c.code pc = .ok (.land, 1)) (hn : pc + 1 = n) (hr : Endz tb e below Q T (mkF m n Ls (.long (x &&& y) :: st))) : Endz tb e below Q T (mkF m pc Ls (.long y :: .long x :: st)) := by
  subst hn; exact Endz.by (fun _ k => XS.land h hx rfl hd rfl k) hr
theorem w_lor (h : At T m c below) (hx : tb.exec = Jvm.exec) {x y : Int64} (hd : decode c.code pc = .ok (.lor, 1)) (hn : pc + 1 = n) (hr : Endz tb e below Q T (mkF m n Ls (.long (x ||| y) :: st))) : Endz tb e below Q T (mkF m pc Ls (.long y :: .long x :: st)) := by
  subst hn; exact Endz.by (fun _ k => XS.lor h hx rfl hd rfl k) hr
theorem w_lxor (h : At T m c below) (hx : tb.exec = Jvm.exec) {x y : Int64} (hd : decode c.code pc = .ok (.lxor, 1)) (hn : pc + 1 = n) (hr : Endz tb e below Q T (mkF m n Ls (.long (x ^^^ y) :: st))) : Endz tb e below Q T (mkF m pc Ls (.long y :: .long x :: st)) := by
  subst hn; exact Endz.by (fun _ k => XS.lxor h hx rfl hd rfl k) hr
theorem w_idiv (h : At T m c below) (hx : tb.exec = Jvm.exec) {x y : Int32} (hd : decode c.code pc = .ok (.idiv, 1)) (hn : pc + 1 = n) (hy : y ≠ 0) (hr : Endz tb e below Q T (mkF m n Ls (.int (x / y) :: st))) : Endz tb e below Q T (mkF m pc Ls (.int y :: .int x :: st)) := by
  subst hn; exact Endz.by (fun _ k => XS.idiv h hx rfl hd rfl hy k) hr
theorem w_irem (h : At T m c below) (hx : tb.exec = Jvm.exec) {x y : Int32} (hd : decode c.code pc = .ok (.irem, 1)) (hn : pc + 1 = n) (hy : y ≠ 0) (hr : Endz tb e below Q T (mkF m n Ls (.int (x % y) :: st))) : Endz tb e below Q T (mkF m pc Ls (.int y :: .int x :: st)) := by
  subst hn; exact Endz.by (fun _ k => XS.irem h hx rfl hd rfl hy (by rw [show x - x / y * y = x % y from irem_eq_mod x y]; exact k)) hr
theorem w_ldiv (h : At T m c below) (hx : tb.exec = Jvm.exec) {x y : Int64} (hd : decode c.code pc = .ok (.ldiv, 1)) (hn : pc + 1 = n) (hy : y ≠ 0) (hr : Endz tb e below Q T (mkF m n Ls (.long (x / y) :: st))) : Endz tb e below Q T (mkF m pc Ls (.long y :: .long x :: st)) := by
  subst hn; exact Endz.by (fun _ k => XS.ldiv h hx rfl hd rfl hy k) hr
theorem w_lrem (h : At T m c below) (hx : tb.exec = Jvm.exec) {x y : Int64} (hd : decode c.code pc = .ok (.lrem, 1)) (hn : pc + 1 = n) (hy : y ≠ 0) (hr : Endz tb e below Q T (mkF m n Ls (.long (x % y) :: st))) : Endz tb e below Q T (mkF m pc Ls (.long y :: .long x :: st)) := by
  subst hn; exact Endz.by (fun _ k => XS.lrem h hx rfl hd rfl hy (by rw [show x - x / y * y = x % y from lrem_mod x y]; exact k)) hr
theorem w_ineg (h : At T m c below) (hx : tb.exec = Jvm.exec) {x : Int32} (hd : decode c.code pc = .ok (.ineg, 1)) (hn : pc + 1 = n) (hr : Endz tb e below Q T (mkF m n Ls (.int (-x) :: st))) : Endz tb e below Q T (mkF m pc Ls (.int x :: st)) := by
  subst hn; exact Endz.by (fun _ k => XS.ineg h hx rfl hd rfl k) hr
theorem w_lneg (h : At T m c below) (hx : tb.exec = Jvm.exec) {x : Int64} (hd : decode c.code pc = .ok (.lneg, 1)) (hn : pc + 1 = n) (hr : Endz tb e below Q T (mkF m n Ls (.long (-x) :: st))) : Endz tb e below Q T (mkF m pc Ls (.long x :: st)) := by
  subst hn; exact Endz.by (fun _ k => XS.lneg h hx rfl hd rfl k) hr
theorem w_i2l (h : At T m c below) (hx : tb.exec = Jvm.exec) {x : Int32} (hd : decode c.code pc = .ok (.i2l, 1)) (hn : pc + 1 = n) (hr : Endz tb e below Q T (mkF m n Ls (.long x.toInt64 :: st))) : Endz tb e below Q T (mkF m pc Ls (.int x :: st)) := by
  subst hn; exact Endz.by (fun _ k => XS.i2l h hx rfl hd rfl k) hr
theorem w_l2i (h : At T m c below) (hx : tb.exec = Jvm.exec) {x : Int64} (hd : decode c.code pc = .ok (.l2i, 1)) (hn : pc + 1 = n) (hr : Endz tb e below Q T (mkF m n Ls (.int x.toInt32 :: st))) : Endz tb e below Q T (mkF m pc Ls (.long x :: st)) := by
  subst hn; exact Endz.by (fun _ k => XS.l2i h hx rfl hd rfl k) hr
theorem w_i2b (h : At T m c below) (hx : tb.exec = Jvm.exec) {x : Int32} (hd : decode c.code pc = .ok (.i2b, 1)) (hn : pc + 1 = n) (hr : Endz tb e below Q T (mkF m n Ls (.int x.toInt8.toInt32 :: st))) : Endz tb e below Q T (mkF m pc Ls (.int x :: st)) := by
  subst hn; exact Endz.by (fun _ k => XS.i2b h hx rfl hd rfl k) hr
theorem w_i2c (h : At T m c below) (hx : tb.exec = Jvm.exec) {x : Int32} (hd : decode c.code pc = .ok (.i2c, 1)) (hn : pc + 1 = n) (hr : Endz tb e below Q T (mkF m n Ls (.int x.toUInt32.toUInt16.toUInt32.toInt32 :: st))) : Endz tb e below Q T (mkF m pc Ls (.int x :: st)) := by
  subst hn; exact Endz.by (fun _ k => XS.i2c h hx rfl hd rfl k) hr
theorem w_i2s (h : At T m c below) (hx : tb.exec = Jvm.exec) {x : Int32} (hd : decode c.code pc = .ok (.i2s, 1)) (hn : pc + 1 = n) (hr : Endz tb e below Q T (mkF m n Ls (.int x.toInt16.toInt32 :: st))) : Endz tb e below Q T (mkF m pc Ls (.int x :: st)) := by
  subst hn; exact Endz.by (fun _ k => XS.i2s h hx rfl hd rfl k) hr
theorem w_lcmp (h : At T m c below) (hx : tb.exec = Jvm.exec) {x y : Int64} (hd : decode c.code pc = .ok (.lcmp, 1)) (hn : pc + 1 = n) (hr : Endz tb e below Q T (mkF m n Ls (.int (lcmpW x y) :: st))) : Endz tb e below Q T (mkF m pc Ls (.long y :: .long x :: st)) := by
  subst hn; exact Endz.by (fun _ k => XS.lcmp h hx rfl hd rfl k) hr
theorem w_dup (h : At T m c below) (hx : tb.exec = Jvm.exec) {x : Value} (hd : decode c.code pc = .ok (.dup, 1)) (hn : pc + 1 = n) (hc : x.category = 1) (hr : Endz tb e below Q T (mkF m n Ls (x :: x :: st))) : Endz tb e below Q T (mkF m pc Ls (x :: st)) := by
  subst hn; exact Endz.by (fun _ k => XS.dup h hx rfl hd rfl hc k) hr
theorem w_dupX1 (h : At T m c below) (hx : tb.exec = Jvm.exec) {x y : Value} (hd : decode c.code pc = .ok (.dup_x1, 1)) (hn : pc + 1 = n) (hc : x.category = 1) (hc' : y.category = 1) (hr : Endz tb e below Q T (mkF m n Ls (x :: y :: x :: st))) : Endz tb e below Q T (mkF m pc Ls (x :: y :: st)) := by
  subst hn; exact Endz.by (fun _ k => XS.dupX1 h hx rfl hd rfl hc hc' k) hr
theorem w_pop (h : At T m c below) (hx : tb.exec = Jvm.exec) {x : Value} (hd : decode c.code pc = .ok (.pop, 1)) (hn : pc + 1 = n) (hc : x.category = 1) (hr : Endz tb e below Q T (mkF m n Ls (st))) : Endz tb e below Q T (mkF m pc Ls (x :: st)) := by
  subst hn; exact Endz.by (fun _ k => XS.pop h hx rfl hd rfl hc k) hr
theorem w_dup2 (h : At T m c below) (hx : tb.exec = Jvm.exec) {x y : Value} (hd : decode c.code pc = .ok (.dup2, 1)) (hn : pc + 1 = n) (hc : x.category = 1) (hc' : y.category = 1) (hr : Endz tb e below Q T (mkF m n Ls (x :: y :: x :: y :: st))) : Endz tb e below Q T (mkF m pc Ls (x :: y :: st)) := by
  subst hn; exact Endz.by (fun _ k => Jvm.Free.XT.dup2 h hx rfl hd rfl hc hc' k) hr
theorem w_goto (h : At T m c below) (hx : tb.exec = Jvm.exec) {o : Int} (hd : decode c.code pc = .ok (.goto o, 3)) (ho : 0 ≤ (pc : Int) + o) (hp : ((pc : Int) + o).toNat = n) (hr : Endz tb e below Q T (mkF m n Ls (st))) : Endz tb e below Q T (mkF m pc Ls (st)) :=
  Endz.by (fun _ k => XS.goto h hx rfl rfl hd ho hp k) hr
theorem w_ifeq (h : At T m c below) (hx : tb.exec = Jvm.exec) {x : Int32} {o : Int} (hd : decode c.code pc = .ok (.ifCond .eq o, 3)) (ho : 0 ≤ (pc : Int) + o) (hp : ((pc : Int) + o).toNat = n1) (hn : pc + 3 = n2) (h1 : x = 0 → Endz tb e below Q T (mkF m n1 Ls (st))) (h2 : ¬ (x = 0) → Endz tb e below Q T (mkF m n2 Ls (st))) : Endz tb e below Q T (mkF m pc Ls (.int x :: st)) := by
  subst hn
  by_cases q : x = 0
  · exact Endz.by (fun _ k => XS.ifYes h hx rfl rfl hd rfl ((if0 _ _).trans (teq q).1) ho hp k) (h1 q)
  · exact Endz.by (fun _ k => XS.ifNo h hx rfl hd rfl ((if0 _ _).trans (feq q).1) k) (h2 q)
theorem w_ifne (h : At T m c below) (hx : tb.exec = Jvm.exec) {x : Int32} {o : Int} (hd : decode c.code pc = .ok (.ifCond .ne o, 3)) (ho : 0 ≤ (pc : Int) + o) (hp : ((pc : Int) + o).toNat = n1) (hn : pc + 3 = n2) (h1 : ¬ x = 0 → Endz tb e below Q T (mkF m n1 Ls (st))) (h2 : ¬ (¬ x = 0) → Endz tb e below Q T (mkF m n2 Ls (st))) : Endz tb e below Q T (mkF m pc Ls (.int x :: st)) := by
  subst hn
  by_cases q : ¬ x = 0
  · exact Endz.by (fun _ k => XS.ifYes h hx rfl rfl hd rfl ((if0 _ _).trans (feq q).2) ho hp k) (h1 q)
  · exact Endz.by (fun _ k => XS.ifNo h hx rfl hd rfl ((if0 _ _).trans (teq (Classical.not_not.mp q)).2) k) (h2 q)
theorem w_iflt (h : At T m c below) (hx : tb.exec = Jvm.exec) {x : Int32} {o : Int} (hd : decode c.code pc = .ok (.ifCond .lt o, 3)) (ho : 0 ≤ (pc : Int) + o) (hp : ((pc : Int) + o).toNat = n1) (hn : pc + 3 = n2) (h1 : x < 0 → Endz tb e below Q T (mkF m n1 Ls (st))) (h2 : ¬ (x < 0) → Endz tb e below Q T (mkF m n2 Ls (st))) : Endz tb e below Q T (mkF m pc Ls (.int x :: st)) := by
  subst hn
  by_cases q : x < 0
  · exact Endz.by (fun _ k => XS.ifYes h hx rfl rfl hd rfl ((if0 _ _).trans (tlt q).1) ho hp k) (h1 q)
  · exact Endz.by (fun _ k => XS.ifNo h hx rfl hd rfl ((if0 _ _).trans (flt q).1) k) (h2 q)
theorem w_ifge (h : At T m c below) (hx : tb.exec = Jvm.exec) {x : Int32} {o : Int} (hd : decode c.code pc = .ok (.ifCond .ge o, 3)) (ho : 0 ≤ (pc : Int) + o) (hp : ((pc : Int) + o).toNat = n1) (hn : pc + 3 = n2) (h1 : ¬ x < 0 → Endz tb e below Q T (mkF m n1 Ls (st))) (h2 : ¬ (¬ x < 0) → Endz tb e below Q T (mkF m n2 Ls (st))) : Endz tb e below Q T (mkF m pc Ls (.int x :: st)) := by
  subst hn
  by_cases q : ¬ x < 0
  · exact Endz.by (fun _ k => XS.ifYes h hx rfl rfl hd rfl ((if0 _ _).trans (flt q).2.1) ho hp k) (h1 q)
  · exact Endz.by (fun _ k => XS.ifNo h hx rfl hd rfl ((if0 _ _).trans (tlt (Classical.not_not.mp q)).2.1) k) (h2 q)
theorem w_ifgt (h : At T m c below) (hx : tb.exec = Jvm.exec) {x : Int32} {o : Int} (hd : decode c.code pc = .ok (.ifCond .gt o, 3)) (ho : 0 ≤ (pc : Int) + o) (hp : ((pc : Int) + o).toNat = n1) (hn : pc + 3 = n2) (h1 : 0 < x → Endz tb e below Q T (mkF m n1 Ls (st))) (h2 : ¬ (0 < x) → Endz tb e below Q T (mkF m n2 Ls (st))) : Endz tb e below Q T (mkF m pc Ls (.int x :: st)) := by
  subst hn
  by_cases q : 0 < x
  · exact Endz.by (fun _ k => XS.ifYes h hx rfl rfl hd rfl ((if0 _ _).trans (tlt q).2.2.1) ho hp k) (h1 q)
  · exact Endz.by (fun _ k => XS.ifNo h hx rfl hd rfl ((if0 _ _).trans (flt q).2.2.1) k) (h2 q)
theorem w_ifle (h : At T m c below) (hx : tb.exec = Jvm.exec) {x : Int32} {o : Int} (hd : decode c.code pc = .ok (.ifCond .le o, 3)) (ho : 0 ≤ (pc : Int) + o) (hp : ((pc : Int) + o).toNat = n1) (hn : pc + 3 = n2) (h1 : ¬ 0 < x → Endz tb e below Q T (mkF m n1 Ls (st))) (h2 : ¬ (¬ 0 < x) → Endz tb e below Q T (mkF m n2 Ls (st))) : Endz tb e below Q T (mkF m pc Ls (.int x :: st)) := by
  subst hn
  by_cases q : ¬ 0 < x
  · exact Endz.by (fun _ k => XS.ifYes h hx rfl rfl hd rfl ((if0 _ _).trans (flt q).2.2.2) ho hp k) (h1 q)
  · exact Endz.by (fun _ k => XS.ifNo h hx rfl hd rfl ((if0 _ _).trans (tlt (Classical.not_not.mp q)).2.2.2) k) (h2 q)
theorem w_icmpeq (h : At T m c below) (hx : tb.exec = Jvm.exec) {x y : Int32} {o : Int} (hd : decode c.code pc = .ok (.if_icmp .eq o, 3)) (ho : 0 ≤ (pc : Int) + o) (hp : ((pc : Int) + o).toNat = n1) (hn : pc + 3 = n2) (h1 : x = y → Endz tb e below Q T (mkF m n1 Ls (st))) (h2 : ¬ (x = y) → Endz tb e below Q T (mkF m n2 Ls (st))) : Endz tb e below Q T (mkF m pc Ls (.int y :: .int x :: st)) := by
  subst hn
  by_cases q : x = y
  · exact Endz.by (fun _ k => XS.icmpYes h hx rfl rfl hd rfl ((teq q).1) ho hp k) (h1 q)
  · exact Endz.by (fun _ k => XS.icmpNo h hx rfl hd rfl ((feq q).1) k) (h2 q)
theorem w_icmpne (h : At T m c below) (hx : tb.exec = Jvm.exec) {x y : Int32} {o : Int} (hd : decode c.code pc = .ok (.if_icmp .ne o, 3)) (ho : 0 ≤ (pc : Int) + o) (hp : ((pc : Int) + o).toNat = n1) (hn : pc + 3 = n2) (h1 : ¬ x = y → Endz tb e below Q T (mkF m n1 Ls (st))) (h2 : ¬ (¬ x = y) → Endz tb e below Q T (mkF m n2 Ls (st))) : Endz tb e below Q T (mkF m pc Ls (.int y :: .int x :: st)) := by
  subst hn
  by_cases q : ¬ x = y
  · exact Endz.by (fun _ k => XS.icmpYes h hx rfl rfl hd rfl ((feq q).2) ho hp k) (h1 q)
  · exact Endz.by (fun _ k => XS.icmpNo h hx rfl hd rfl ((teq (Classical.not_not.mp q)).2) k) (h2 q)
theorem w_icmplt (h : At T m c below) (hx : tb.exec = Jvm.exec) {x y : Int32} {o : Int} (hd : decode c.code pc = .ok (.if_icmp .lt o, 3)) (ho : 0 ≤ (pc : Int) + o) (hp : ((pc : Int) + o).toNat = n1) (hn : pc + 3 = n2) (h1 : x < y → Endz tb e below Q T (mkF m n1 Ls (st))) (h2 : ¬ (x < y) → Endz tb e below Q T (mkF m n2 Ls (st))) : Endz tb e below Q T (mkF m pc Ls (.int y :: .int x :: st)) := by
  subst hn
  by_cases q : x < y
  · exact Endz.by (fun _ k => XS.icmpYes h hx rfl rfl hd rfl ((tlt q).1) ho hp k) (h1 q)
  · exact Endz.by (fun _ k => XS.icmpNo h hx rfl hd rfl ((flt q).1) k) (h2 q)
theorem w_icmpge (h : At T m c below) (hx : tb.exec = Jvm.exec) {x y : Int32} {o : Int} (hd : decode c.code pc = .ok (.if_icmp .ge o, 3)) (ho : 0 ≤ (pc : Int) + o) (hp : ((pc : Int) + o).toNat = n1) (hn : pc + 3 = n2) (h1 : ¬ x < y → Endz tb e below Q T (mkF m n1 Ls (st))) (h2 : ¬ (¬ x < y) → Endz tb e below Q T (mkF m n2 Ls (st))) : Endz tb e below Q T (mkF m pc Ls (.int y :: .int x :: st)) := by
  subst hn
  by_cases q : ¬ x < y
  · exact Endz.by (fun _ k => XS.icmpYes h hx rfl rfl hd rfl ((flt q).2.1) ho hp k) (h1 q)
  · exact Endz.by (fun _ k => XS.icmpNo h hx rfl hd rfl ((tlt (Classical.not_not.mp q)).2.1) k) (h2 q)
theorem w_icmpgt (h : At T m c below) (hx : tb.exec = Jvm.exec) {x y : Int32} {o : Int} (hd : decode c.code pc = .ok (.if_icmp .gt o, 3)) (ho : 0 ≤ (pc : Int) + o) (hp : ((pc : Int) + o).toNat = n1) (hn : pc + 3 = n2) (h1 : y < x → Endz tb e below Q T (mkF m n1 Ls (st))) (h2 : ¬ (y < x) → Endz tb e below Q T (mkF m n2 Ls (st))) : Endz tb e below Q T (mkF m pc Ls (.int y :: .int x :: st)) := by
  subst hn
  by_cases q : y < x
  · exact Endz.by (fun _ k => XS.icmpYes h hx rfl rfl hd rfl ((tlt q).2.2.1) ho hp k) (h1 q)
  · exact Endz.by (fun _ k => XS.icmpNo h hx rfl hd rfl ((flt q).2.2.1) k) (h2 q)
theorem w_icmple (h : At T m c below) (hx : tb.exec = Jvm.exec) {x y : Int32} {o : Int} (hd : decode c.code pc = .ok (.if_icmp .le o, 3)) (ho : 0 ≤ (pc : Int) + o) (hp : ((pc : Int) + o).toNat = n1) (hn : pc + 3 = n2) (h1 : ¬ y < x → Endz tb e below Q T (mkF m n1 Ls (st))) (h2 : ¬ (¬ y < x) → Endz tb e below Q T (mkF m n2 Ls (st))) : Endz tb e below Q T (mkF m pc Ls (.int y :: .int x :: st)) := by
  subst hn
  by_cases q : ¬ y < x
  · exact Endz.by (fun _ k => XS.icmpYes h hx rfl rfl hd rfl ((flt q).2.2.2) ho hp k) (h1 q)
  · exact Endz.by (fun _ k => XS.icmpNo h hx rfl hd rfl ((tlt (Classical.not_not.mp q)).2.2.2) k) (h2 q)
theorem w_ifnull (h : At T m c below) (hx : tb.exec = Jvm.exec) {v : Value} {o : Int} (hv : v.isRef = true) (hd : decode c.code pc = .ok (.ifnull o, 3)) (ho : 0 ≤ (pc : Int) + o) (hp : ((pc : Int) + o).toNat = n1) (hn : pc + 3 = n2) (h1 : v = .null → Endz tb e below Q T (mkF m n1 Ls (st))) (h2 : v ≠ .null → Endz tb e below Q T (mkF m n2 Ls (st))) : Endz tb e below Q T (mkF m pc Ls (v :: st)) := by
  subst hn
  rcases ref_cases hv with rfl | ⟨a, rfl⟩
  · exact Endz.by (fun _ k => XS.ifnullYes h hx rfl rfl hd rfl ho hp k) (h1 rfl)
  · exact Endz.by (fun _ k => XS.ifnullNo h hx rfl hd rfl k) (h2 (by simp))
theorem w_ifnonnull (h : At T m c below) (hx : tb.exec = Jvm.exec) {v : Value} {o : Int} (hv : v.isRef = true) (hd : decode c.code pc = .ok (.ifnonnull o, 3)) (ho : 0 ≤ (pc : Int) + o) (hp : ((pc : Int) + o).toNat = n1) (hn : pc + 3 = n2) (h1 : v ≠ .null → Endz tb e below Q T (mkF m n1 Ls (st))) (h2 : v = .null → Endz tb e below Q T (mkF m n2 Ls (st))) : Endz tb e below Q T (mkF m pc Ls (v :: st)) := by
  subst hn
  rcases ref_cases hv with rfl | ⟨a, rfl⟩
  · exact Endz.by (fun _ k => XS.ifnonnullNo h hx rfl hd rfl k) (h2 rfl)
  · exact Endz.by (fun _ k => XS.ifnonnullYes h hx rfl rfl hd rfl ho hp k) (h1 (by simp))
theorem w_acmpeq (h : At T m c below) (hx : tb.exec = Jvm.exec) {x y : Value} {o : Int} (hv : x.isRef = true) (hv' : y.isRef = true) (hd : decode c.code pc = .ok (.if_acmp .eq o, 3)) (ho : 0 ≤ (pc : Int) + o) (hp : ((pc : Int) + o).toNat = n1) (hn : pc + 3 = n2) (h1 : x = y → Endz tb e below Q T (mkF m n1 Ls (st))) (h2 : ¬ x = y → Endz tb e below Q T (mkF m n2 Ls (st))) : Endz tb e below Q T (mkF m pc Ls (y :: x :: st)) := by
  subst hn
  by_cases q : x = y
  · exact Endz.by (fun _ k => Jvm.Free.XT.acmpYes h hx rfl rfl hd rfl hv hv' (by simp [Jvm.Free.XT.acmp, q]) ho hp k) (h1 q)
  · exact Endz.by (fun _ k => Jvm.Free.XT.acmpNo h hx rfl hd rfl hv hv' (by simp [Jvm.Free.XT.acmp, q]) k) (h2 q)
theorem w_acmpne (h : At T m c below) (hx : tb.exec = Jvm.exec) {x y : Value} {o : Int} (hv : x.isRef = true) (hv' : y.isRef = true) (hd : decode c.code pc = .ok (.if_acmp .ne o, 3)) (ho : 0 ≤ (pc : Int) + o) (hp : ((pc : Int) + o).toNat = n1) (hn : pc + 3 = n2) (h1 : x ≠ y → Endz tb e below Q T (mkF m n1 Ls (st))) (h2 : x = y → Endz tb e below Q T (mkF m n2 Ls (st))) : Endz tb e below Q T (mkF m pc Ls (y :: x :: st)) := by
  subst hn
  by_cases q : x = y
  · exact Endz.by (fun _ k => Jvm.Free.XT.acmpNo h hx rfl hd rfl hv hv' (by simp [Jvm.Free.XT.acmp, q]) k) (h2 q)
  · exact Endz.by (fun _ k => Jvm.Free.XT.acmpYes h hx rfl rfl hd rfl hv hv' (by simp [Jvm.Free.XT.acmp, q]) ho hp k) (h1 q)
end Plain
section Heap
theorem Ext.rfl' (h : Heap) : Ext h h := ⟨Nat.le_refl _, fun _ _ q => q⟩
theorem Ext.tr {h0 h h' : Heap} (E : Ext h0 h) (E' : Ext h h') : Ext h0 h' := ⟨Nat.le_trans E.1 E'.1, fun a c q => E'.2 a c (E.2 a c q)⟩
theorem Ext.wr {h0 h h' : Heap} {a : Addr} {sl : Nat} {v : Value} (E : Ext h0 h) (W : Wr h h' a sl v) (q : h0.size ≤ a) : Ext h0 h' := by
  obtain ⟨cell, h1, h2, h3, rfl⟩ := W
  refine ⟨by simpa using E.1, fun b c hb => ?_⟩
  have hne : b ≠ a := fun e => by subst e; exact absurd (Array.getElem?_eq_some_iff.mp hb).1 (Nat.not_lt.mpr q)
  rw [Array.getElem?_setIfInBounds_ne (Ne.symm hne)]; exact E.2 b c hb
theorem Ext.kp {h0 h : Heap} (K : Keep h0 h []) : Ext h0 h := ⟨K.1, fun a c q => K.2.1 a c q nin0⟩
theorem Arv.ex {Z : State} {h h' : Heap} {a : Addr} {k : ClassId} {ty : FieldType} {z : Int32} {vs : List Value} {d : Value} (E : Ext h h') (F : Arv Z h a k ty z vs d) : Arv Z h' a k ty z vs d := F.ext E
/-- what the run leaves -/
abbrev Finz (s : State) (rm : Room) (Qv : Option Value → Heap → List Loc → Prop) : Outcome → State → Prop := fun o U' => ∃ v L, o = .returned v ∧ Qv v U'.heap L ∧ FrameEnd s o U' L rm.cells rm.slots
/-- a body's contract at given arguments and heap -/
abbrev Con (l : Launch) (Z : State) (y : MethodName) (bytes : ByteArray) (maxL : Nat) (ret : Option FieldType) (ws : List Jvm.Cond) (rm : Room) (as : Array Value) (h0 : Heap) (Qv : Option Value → Heap → List Loc → Prop) : Prop :=
  MetFree l y (head1 (Jvm.Cond.code y bytes maxL ret :: ws) rm) (fun a U => a = as ∧ Z.Warmed39 U.vm ∧ U.heap = h0) (fun _ _ _ _ _ => True) (fun _ U o U' => ∃ v L, o = .returned v ∧ Qv v U'.heap L ∧ FrameEnd U o U' L rm.cells rm.slots)
theorem con_of {l : Launch} {Z : State} {y : MethodName} {bytes : ByteArray} {maxL : Nat} {ret : Option FieldType} {ws : List Jvm.Cond} {rm : Room} {as : Array Value} {h0 : Heap} {Qv : Option Value → Heap → List Loc → Prop} (hn : plainFor y = true)
    (body : ∀ (p : Program) (e : Env) (s : State) (m : MethodId) (below : List Frame) (meth : Method) (c : Code) (T : State), Stand p l e rm s m as below meth c T [] 0 0 → p.tables.exec = Jvm.exec → Z.Warmed39 s.vm → c.code = bytes → c.maxLocals = maxL → s.vm.findClass y.cls = some m.cls → meth.sig.returnType = ret → meth.name = y.name → meth.locks = false → T.heap = h0 → Endz p.tables e below (Finz s rm Qv) T (entryFrame m as maxL)) :
    Con l Z y bytes maxL ret ws rm as h0 Qv := by
  refine MetFree.of_bodySF hn hisR ?_
  intro p e s m args below meth c s₁ Bd hml0 hP hK
  obtain ⟨rfl, hZ, hh⟩ := hP
  have X0 : Stand p l e rm s m args below meth c s₁ [] 0 0 := Stand.of_body Bd
  exact body p e s m below meth c s₁ X0 Bd.exec hZ Bd.bytes hml0 (findClass_of_methodNamed Bd.named) Bd.returns (name_of_methodNamed Bd.named Bd.method).1 Bd.notSynchronized (by rw [← hh, Bd.state]; rfl)
variable {p : Program} {l : Launch} {e : Env} {R : Room} {s : State} {m : MethodId} {args : Array Value} {below : List Frame} {meth : Method} {c : Code} {T : State} {locs : List Loc} {cells slots : Nat} {Z : State} {a0 : Array Value} {h : Heap} {pc n : Nat} {Ls : Array Slot} {st : List Value} {rm : Room} {Qv : Option Value → Heap → List Loc → Prop}
/-! the ends -/
theorem fin_of (X : Stand p l e R s m args below meth c T locs cells slots) (hlk : meth.locks = false) (eT : T.heap = h) {v : Option Value} {g : JFrame} (hv : meth.sig.returnType = none → v = none) (hc : cells ≤ rm.cells) (hs : slots ≤ rm.slots) (hQ : Qv v h locs)
    (hstep : ∀ fs, (∀ (f : JFrame) (acts : List Action), f.method = m → f.locked = none → f.entered = [] → (doReturn e (T.setTop f) acts v).1 = T.setFrames fs) → Steps p.tables e below (T.setTop g) (T.setFrames fs)) : Endz p.tables e below (Finz s rm Qv) T g := by
  obtain ⟨fs, hr, hrun, hended, hW, hsame⟩ := X.leave (v := v) hv hlk
  have hQ' : Qv v (T.setFrames fs).heap locs := by show Qv v T.heap locs; rw [eT]; exact hQ
  exact ⟨_, _, hstep fs hr, hrun, hended, v, locs, rfl, hQ', ⟨_, rfl⟩, hW, hsame.mono hc hs⟩
theorem fin_Z (X : Stand p l e R s m args below meth c T locs cells slots) (hx : p.tables.exec = Jvm.exec) (hlk : meth.locks = false) (eT : T.heap = h) {t : FieldType} {z : Int32} (hret : meth.sig.returnType = some t) (ht : t = .boolean ∨ t = .byte ∨ t = .char ∨ t = .short) (hd : decode c.code pc = .ok (.ireturn, 1)) (hc : cells ≤ rm.cells) (hs : slots ≤ rm.slots) (hQ : Qv (some (.int (nar t z))) h locs) :
    Endz p.tables e below (Finz s rm Qv) T (mkF m pc Ls (.int z :: st)) :=
  fin_of X hlk eT (fun q => by rw [hret] at q; cases q) hc hs hQ fun fs hl => retN X hx hret ht hd hl
theorem fin_I (X : Stand p l e R s m args below meth c T locs cells slots) (hx : p.tables.exec = Jvm.exec) (hlk : meth.locks = false) (eT : T.heap = h) {z : Int32} (hret : meth.sig.returnType = some .int) (hd : decode c.code pc = .ok (.ireturn, 1)) (hc : cells ≤ rm.cells) (hs : slots ≤ rm.slots) (hQ : Qv (some (.int z)) h locs) :
    Endz p.tables e below (Finz s rm Qv) T (mkF m pc Ls (.int z :: st)) :=
  fin_of X hlk eT (fun q => by rw [hret] at q; cases q) hc hs hQ fun fs hl => retOut X hx hret rfl (Or.inl ⟨rfl, Or.inl rfl, _, rfl⟩) hd hl
theorem fin_J (X : Stand p l e R s m args below meth c T locs cells slots) (hx : p.tables.exec = Jvm.exec) (hlk : meth.locks = false) (eT : T.heap = h) {z : Int64} (hret : meth.sig.returnType = some .long) (hd : decode c.code pc = .ok (.lreturn, 1)) (hc : cells ≤ rm.cells) (hs : slots ≤ rm.slots) (hQ : Qv (some (.long z)) h locs) :
    Endz p.tables e below (Finz s rm Qv) T (mkF m pc Ls (.long z :: st)) :=
  fin_of X hlk eT (fun q => by rw [hret] at q; cases q) hc hs hQ fun fs hl => retOut X hx hret rfl (Or.inr (Or.inl ⟨rfl, rfl, _, rfl⟩)) hd hl
theorem fin_A (X : Stand p l e R s m args below meth c T locs cells slots) (hx : p.tables.exec = Jvm.exec) (hlk : meth.locks = false) (eT : T.heap = h) {w : Value} {t : FieldType} (hret : meth.sig.returnType = some t) (hn : narrow t w = w) (ht : t.isReference = true) (hw : w.isRef = true) (hd : decode c.code pc = .ok (.areturn, 1)) (hc : cells ≤ rm.cells) (hs : slots ≤ rm.slots) (hQ : Qv (some w) h locs) :
    Endz p.tables e below (Finz s rm Qv) T (mkF m pc Ls (w :: st)) :=
  fin_of X hlk eT (fun q => by rw [hret] at q; cases q) hc hs hQ fun fs hl => retOut X hx hret hn (Or.inr (Or.inr (Or.inr (Or.inr ⟨rfl, ht, hw⟩)))) hd hl
theorem fin_V (X : Stand p l e R s m args below meth c T locs cells slots) (hx : p.tables.exec = Jvm.exec) (hlk : meth.locks = false) (eT : T.heap = h) (hret : meth.sig.returnType = none) (hd : decode c.code pc = .ok (.return_, 1)) (hc : cells ≤ rm.cells) (hs : slots ≤ rm.slots) (hQ : Qv none h locs) :
    Endz p.tables e below (Finz s rm Qv) T (mkF m pc Ls []) :=
  fin_of X hlk eT (fun _ => rfl) hc hs hQ fun fs hl => X.returnOut hx hret hd hl
variable {Q : Outcome → State → Prop}
/-! fields and statics: what comes behind is asked of every such state -/
theorem g_F (X : Stand p l e R s m args below meth c T locs cells slots) (hx : p.tables.exec = Jvm.exec) (hZ : Z.Warmed39 s.vm) {own O nm d : String} {idx : Nat} (hown : s.vm.findClass own = some m.cls) (w : (Jvm.Cond.fieldLink own idx O nm d).before a0 Z = true) (eT : T.heap = h) {a : Addr} {v : Value} (F : Fld Z h a O nm d v) (hd : decode c.code pc = .ok (.getfield idx, 3)) (hn : pc + 3 = n)
    (hr : ∀ T', Stand p l e R s m args below meth c T' locs cells slots → T'.heap = h → Endz p.tables e below Q T' (mkF m n Ls (v :: st))) : Endz p.tables e below Q T (mkF m pc Ls (.ref a :: st)) := by
  subst hn
  obtain ⟨T', X', e', st'⟩ := getF X hx hZ hown (host := "") (Or.inl w) Via.refl eT F (g := mkF m pc Ls (.ref a :: st)) rfl rfl hd
  exact Endz.by st' (hr T' X' e')
theorem g_FV (X : Stand p l e R s m args below meth c T locs cells slots) (hx : p.tables.exec = Jvm.exec) (hZ : Z.Warmed39 s.vm) {own R0 O nm d : String} {idx : Nat} (hown : s.vm.findClass own = some m.cls) (w : (Jvm.Cond.fieldLink own idx R0 nm d).before a0 Z = true) (via : Via Z R0 O nm d) (eT : T.heap = h) {a : Addr} {v : Value} (F : Fld Z h a O nm d v) (hd : decode c.code pc = .ok (.getfield idx, 3)) (hn : pc + 3 = n)
    (hr : ∀ T', Stand p l e R s m args below meth c T' locs cells slots → T'.heap = h → Endz p.tables e below Q T' (mkF m n Ls (v :: st))) : Endz p.tables e below Q T (mkF m pc Ls (.ref a :: st)) := by
  subst hn
  obtain ⟨T', X', e', st'⟩ := getF X hx hZ hown (host := "") (Or.inl w) via eT F (g := mkF m pc Ls (.ref a :: st)) rfl rfl hd
  exact Endz.by st' (hr T' X' e')
theorem g_S (X : Stand p l e R s m args below meth c T locs cells slots) (hx : p.tables.exec = Jvm.exec) (hZ : Z.Warmed39 s.vm) {own O nm d : String} {idx : Nat} (hown : s.vm.findClass own = some m.cls) (w : (Jvm.Cond.fieldLink own idx O nm d).before a0 Z = true) (eT : T.heap = h) {v : Value} (F : Sta Z h O nm d v) (hd : decode c.code pc = .ok (.getstatic idx, 3)) (hn : pc + 3 = n)
    (hr : ∀ T', Stand p l e R s m args below meth c T' locs cells slots → T'.heap = h → Endz p.tables e below Q T' (mkF m n Ls (v :: st))) : Endz p.tables e below Q T (mkF m pc Ls st) := by
  subst hn
  obtain ⟨T', X', e', st'⟩ := getS2 X hx hZ hown (host := "") (Or.inl w) Via.refl eT F (g := mkF m pc Ls st) rfl hd
  exact Endz.by st' (hr T' X' e')
theorem p_F (X : Stand p l e R s m args below meth c T locs cells slots) (hx : p.tables.exec = Jvm.exec) (hZ : Z.Warmed39 s.vm) {own O nm d C : String} {idx kk : Nat} {ty : FieldType} (hown : s.vm.findClass own = some m.cls) (w : (Jvm.Cond.fieldLink own idx O nm d).before a0 Z = true) (eT : T.heap = h) {a : Addr} {v old : Value} (F : Fld Z h a O nm d old) (A : Exa Z h a C)
    (L : (Jvm.Cond.lays C O nm d).before a0 Z = true ∨ ((Jvm.Cond.laysFinal C O nm d).before a0 Z = true ∧ own = O ∧ meth.name = "<init>")) (wi : (Jvm.Cond.instantiable C kk).before a0 Z = true) (hty : parseFieldDescriptor d = some ty) (hna : narrow ty v = v) (hf : fits ty v = true) (hd : decode c.code pc = .ok (.putfield idx, 3)) (hn : pc + 3 = n)
    (hr : ∀ T' h', Stand p l e R s m args below meth c T' (locs ++ [⟨a, Jvm.RoadKit.slotOf Z O nm d⟩]) cells slots → T'.heap = h' → Wr h h' a (Jvm.RoadKit.slotOf Z O nm d) v → Endz p.tables e below Q T' (mkF m n Ls st)) : Endz p.tables e below Q T (mkF m pc Ls (v :: .ref a :: st)) := by
  subst hn
  obtain ⟨T', h', X', e', W', st'⟩ := putF X hx hZ hown (host := "") (Or.inl w) Via.refl eT F A L wi hty hna hf (g := mkF m pc Ls (v :: .ref a :: st)) rfl rfl hd
  exact Endz.by st' (hr T' h' X' e' W')
/-- putfield of a boolean, byte, char or short: what lies there is the narrowed int -/
theorem p_FN (X : Stand p l e R s m args below meth c T locs cells slots) (hx : p.tables.exec = Jvm.exec) (hZ : Z.Warmed39 s.vm) {own O nm d C : String} {idx kk : Nat} {ty : FieldType} (hown : s.vm.findClass own = some m.cls) (w : (Jvm.Cond.fieldLink own idx O nm d).before a0 Z = true) (eT : T.heap = h) {a : Addr} {v v' old : Value} (F : Fld Z h a O nm d old) (A : Exa Z h a C)
    (L : (Jvm.Cond.lays C O nm d).before a0 Z = true ∨ ((Jvm.Cond.laysFinal C O nm d).before a0 Z = true ∧ own = O ∧ meth.name = "<init>")) (wi : (Jvm.Cond.instantiable C kk).before a0 Z = true) (hty : parseFieldDescriptor d = some ty) (hna : narrow ty v = v') (hf : fits ty v' = true) (hd : decode c.code pc = .ok (.putfield idx, 3)) (hn : pc + 3 = n)
    (hr : ∀ T' h', Stand p l e R s m args below meth c T' (locs ++ [⟨a, Jvm.RoadKit.slotOf Z O nm d⟩]) cells slots → T'.heap = h' → Wr h h' a (Jvm.RoadKit.slotOf Z O nm d) v' → Endz p.tables e below Q T' (mkF m n Ls st)) : Endz p.tables e below Q T (mkF m pc Ls (v :: .ref a :: st)) := by
  subst hn
  obtain ⟨T', h', X', e', W', st'⟩ := putFN X hx hZ hown w Via.refl eT F A L wi hty hna hf (g := mkF m pc Ls (v :: .ref a :: st)) rfl rfl hd
  exact Endz.by st' (hr T' h' X' e' W')
/-! constants of the pool -/
theorem k_I (X : Stand p l e R s m args below meth c T locs cells slots) (hx : p.tables.exec = Jvm.exec) (hZ : Z.Warmed39 s.vm) {own : String} {idx : Nat} {v : Int32} (hown : s.vm.findClass own = some m.cls) (w : (Jvm.Cond.constant own idx v).before a0 Z = true) (hd : decode c.code pc = .ok (.ldc idx, 2)) (hn : pc + 2 = n) (hr : Endz p.tables e below Q T (mkF m n Ls (.int v :: st))) : Endz p.tables e below Q T (mkF m pc Ls st) := by
  subst hn
  exact Endz.by (X.ldcInt hx hown (mvT hZ w) (g := mkF m pc Ls st) rfl hd) hr
theorem k_J (X : Stand p l e R s m args below meth c T locs cells slots) (hx : p.tables.exec = Jvm.exec) (hZ : Z.Warmed39 s.vm) {own : String} {idx : Nat} {v : Int64} (hown : s.vm.findClass own = some m.cls) (w : (Jvm.Cond.constantLong own idx v).before a0 Z = true) (hd : decode c.code pc = .ok (.ldc2_w idx, 3)) (hn : pc + 3 = n) (hr : Endz p.tables e below Q T (mkF m n Ls (.long v :: st))) : Endz p.tables e below Q T (mkF m pc Ls st) := by
  subst hn
  exact Endz.by (X.ldc2Long hx hown (mvT hZ w) (g := mkF m pc Ls st) rfl hd) hr
/-! objects and arrays made -/
theorem n_O (X : Stand p l e R s m args below meth c T locs cells slots) (hx : p.tables.exec = Jvm.exec) (hZ : Z.Warmed39 s.vm) {own C : String} {idx k : Nat} (hown : s.vm.findClass own = some m.cls) (w : (Jvm.Cond.classLink own idx C).before a0 Z = true) (wi : (Jvm.Cond.instantiable C k).before a0 Z = true) (wz : (Jvm.Cond.initialized C).before a0 Z = true) (eT : T.heap = h) (hd : decode c.code pc = .ok (.new idx, 3)) (hn : pc + 3 = n) (hc : cells + 1 ≤ R.cells) (hl : slots + k ≤ R.slots)
    (hr : ∀ T' h' b, b = h.size → Stand p l e R s m args below meth c T' locs (cells + 1) (slots + k) → T'.heap = h' → Ext h h' → Exa Z h' b C → (∀ {O nm d : String} {ty : FieldType}, Laid Z a0 C O nm d → parseFieldDescriptor d = some ty → Fld Z h' b O nm d (defaultValue ty)) → (∃ cell : Cell, h'[b]? = some cell ∧ cell.vm = .none ∧ cell.monitor = {}) → Endz p.tables e below Q T' (mkF m n Ls (.ref b :: st))) : Endz p.tables e below Q T (mkF m pc Ls st) := by
  subst hn
  obtain ⟨T', h', X', e', E', A', D', U', st'⟩ := newO X hx hZ hown w wi wz eT (g := mkF m pc Ls st) rfl hd hc hl
  exact Endz.by st' (hr T' h' _ rfl X' e' E' A' D' U')
theorem n_P (X : Stand p l e R s m args below meth c T locs cells slots) (hx : p.tables.exec = Jvm.exec) (hZ : Z.Warmed39 s.vm) {aty : ArrayType} (w : (Jvm.Cond.arrayClass (newarray.typeOf aty)).before a0 Z = true) (eT : T.heap = h) {z : Int32} (hd : decode c.code pc = .ok (.newarray aty, 2)) (hn : pc + 2 = n) (hz : ¬ z < 0) (cap : Nat) (hcap : z.toNatClampNeg ≤ cap) (hb : cap * 8 ≤ 536870912) (hc : cells + 1 ≤ R.cells) (hl : slots + cap ≤ R.slots)
    (hr : ∀ T' h' k b, b = h.size → Stand p l e R s m args below meth c T' locs (cells + 1) (slots + cap) → T'.heap = h' → Ext h h' → Arv Z h' b k (newarray.typeOf aty) z [] (defaultValue (newarray.typeOf aty)) → Endz p.tables e below Q T' (mkF m n Ls (.ref b :: st))) : Endz p.tables e below Q T (mkF m pc Ls (.int z :: st)) := by
  subst hn
  obtain ⟨T', h', k, X', e', E', A', st'⟩ := newP X hx hZ w eT (g := mkF m pc Ls (.int z :: st)) rfl hd rfl hz (cap := cap) hcap hb hc hl
  exact Endz.by st' (hr T' h' k _ rfl X' e' E' (Arv.new A' hz))
theorem n_R (X : Stand p l e R s m args below meth c T locs cells slots) (hx : p.tables.exec = Jvm.exec) (hZ : Z.Warmed39 s.vm) {own C : String} {idx : Nat} (hown : s.vm.findClass own = some m.cls) (w1 : (Jvm.Cond.classLink own idx C).before a0 Z = true) (w2 : (Jvm.Cond.arrayOver (.object C)).before a0 Z = true) (eT : T.heap = h) {z : Int32} (hd : decode c.code pc = .ok (.anewarray idx, 3)) (hn : pc + 3 = n) (hz : ¬ z < 0) (cap : Nat) (hcap : z.toNatClampNeg ≤ cap) (hb : cap * 8 ≤ 536870912) (hc : cells + 1 ≤ R.cells) (hl : slots + cap ≤ R.slots)
    (hr : ∀ T' h' k b, b = h.size → Stand p l e R s m args below meth c T' locs (cells + 1) (slots + cap) → T'.heap = h' → Ext h h' → Arv Z h' b k (.object C) z [] .null → Ovr Z k C → Endz p.tables e below Q T' (mkF m n Ls (.ref b :: st))) : Endz p.tables e below Q T (mkF m pc Ls (.int z :: st)) := by
  subst hn
  obtain ⟨T', h', k, X', e', E', A', O', st'⟩ := newR X hx hZ hown w1 w2 eT (g := mkF m pc Ls (.int z :: st)) rfl hd rfl hz (cap := cap) hcap hb hc hl
  exact Endz.by st' (hr T' h' k _ rfl X' e' E' (Arv.new A' hz) O')
/-! stores into arrays: the place is j, the i-th of the list -/
theorem pad0 {h : Heap} {a : Addr} {k : ClassId} {ty : FieldType} {z : Int32} {d : Value} (V : Arv Z h a k ty z [] d) (i : Nat) : Arv Z h a k ty z (List.replicate i d) d := V.pad (pad_rep [] d i)
theorem s_R (X : Stand p l e R s m args below meth c T locs cells slots) (hx : p.tables.exec = Jvm.exec) (hZ : Z.Warmed39 s.vm) (eT : T.heap = h) {b : Addr} {k : ClassId} {C : String} {z j : Int32} {vs : List Value} {y : Addr} (V : Arv Z h b k (.object C) z vs .null) (O : Ovr Z k C) (I : Ins Z h y C true) (i : Nat) (hj : j.toNatClampNeg = i) (hi : i < vs.length) (hj0 : ¬ j < 0) (hjz : j < z) (hd : decode c.code pc = .ok (.aastore, 1)) (hn : pc + 1 = n)
    (hr : ∀ T' h', Stand p l e R s m args below meth c T' (locs ++ [⟨b, j.toNatClampNeg⟩]) cells slots → T'.heap = h' → Wr h h' b j.toNatClampNeg (.ref y) → Arv Z h' b k (.object C) z (vs.set i (.ref y)) .null → Endz p.tables e below Q T' (mkF m n Ls st)) : Endz p.tables e below Q T (mkF m pc Ls (.ref y :: .int j :: .ref b :: st)) := by
  subst hn
  obtain ⟨cl, A, q1, S, N, H, G⟩ := V
  obtain ⟨T', h', X', e', W', st'⟩ := stR X hx hZ eT A (j := j) (inb_of S ⟨hj0, hjz⟩) rfl (Sto.ofV A q1 O I) (g := mkF m pc Ls (.ref y :: .int j :: .ref b :: st)) rfl rfl hd
  exact Endz.by st' (hr T' h' X' e' W' (Arv.set A q1 S N H G rfl W' i hj hi))
theorem s_I (X : Stand p l e R s m args below meth c T locs cells slots) (hx : p.tables.exec = Jvm.exec) (hZ : Z.Warmed39 s.vm) (eT : T.heap = h) {b : Addr} {k : ClassId} {z j x : Int32} {vs : List Value} {dv : Value} (V : Arv Z h b k .int z vs dv) (i : Nat) (hj : j.toNatClampNeg = i) (hi : i < vs.length) (hj0 : ¬ j < 0) (hjz : j < z) (hd : decode c.code pc = .ok (.iastore, 1)) (hn : pc + 1 = n)
    (hr : ∀ T' h', Stand p l e R s m args below meth c T' (locs ++ [⟨b, j.toNatClampNeg⟩]) cells slots → T'.heap = h' → Wr h h' b j.toNatClampNeg (.int x) → Arv Z h' b k .int z (vs.set i (.int x)) dv → Endz p.tables e below Q T' (mkF m n Ls st)) : Endz p.tables e below Q T (mkF m pc Ls (.int x :: .int j :: .ref b :: st)) := by
  subst hn
  obtain ⟨cl, A, q1, S, N, H, G⟩ := V
  obtain ⟨T', h', X', e', W', st'⟩ := stI X hx hZ eT A (j := j) (inb_of S ⟨hj0, hjz⟩) (g := mkF m pc Ls (.int x :: .int j :: .ref b :: st)) rfl rfl hd
  exact Endz.by st' (hr T' h' X' e' W' (Arv.set A q1 S N H G rfl W' i hj hi))
theorem s_B (X : Stand p l e R s m args below meth c T locs cells slots) (hx : p.tables.exec = Jvm.exec) (hZ : Z.Warmed39 s.vm) (eT : T.heap = h) {b : Addr} {k : ClassId} {z j x : Int32} {vs : List Value} {dv : Value} (V : Arv Z h b k .byte z vs dv) (i : Nat) (hj : j.toNatClampNeg = i) (hi : i < vs.length) (hj0 : ¬ j < 0) (hjz : j < z) (hd : decode c.code pc = .ok (.bastore, 1)) (hn : pc + 1 = n)
    (hr : ∀ T' h', Stand p l e R s m args below meth c T' (locs ++ [⟨b, j.toNatClampNeg⟩]) cells slots → T'.heap = h' → Wr h h' b j.toNatClampNeg (.int (nar .byte x)) → Arv Z h' b k .byte z (vs.set i (.int (nar .byte x))) dv → Endz p.tables e below Q T' (mkF m n Ls st)) : Endz p.tables e below Q T (mkF m pc Ls (.int x :: .int j :: .ref b :: st)) := by
  subst hn
  obtain ⟨cl, A, q1, S, N, H, G⟩ := V
  obtain ⟨T', h', X', e', W', st'⟩ := stB X hx hZ eT A (j := j) (inb_of S ⟨hj0, hjz⟩) (g := mkF m pc Ls (.int x :: .int j :: .ref b :: st)) rfl rfl hd
  exact Endz.by st' (hr T' h' X' e' W' (Arv.set A q1 S N H G (fits_nar_byte _) W' i hj hi))
theorem s_Z (X : Stand p l e R s m args below meth c T locs cells slots) (hx : p.tables.exec = Jvm.exec) (hZ : Z.Warmed39 s.vm) (eT : T.heap = h) {b : Addr} {k : ClassId} {z j x : Int32} {vs : List Value} {dv : Value} (V : Arv Z h b k .boolean z vs dv) (i : Nat) (hj : j.toNatClampNeg = i) (hi : i < vs.length) (hj0 : ¬ j < 0) (hjz : j < z) (hd : decode c.code pc = .ok (.bastore, 1)) (hn : pc + 1 = n)
    (hr : ∀ T' h', Stand p l e R s m args below meth c T' (locs ++ [⟨b, j.toNatClampNeg⟩]) cells slots → T'.heap = h' → Wr h h' b j.toNatClampNeg (.int (nar .boolean x)) → Arv Z h' b k .boolean z (vs.set i (.int (nar .boolean x))) dv → Endz p.tables e below Q T' (mkF m n Ls st)) : Endz p.tables e below Q T (mkF m pc Ls (.int x :: .int j :: .ref b :: st)) := by
  subst hn
  obtain ⟨cl, A, q1, S, N, H, G⟩ := V
  obtain ⟨T', h', X', e', W', st'⟩ := stZ X hx hZ eT A (j := j) (inb_of S ⟨hj0, hjz⟩) (g := mkF m pc Ls (.int x :: .int j :: .ref b :: st)) rfl rfl hd
  exact Endz.by st' (hr T' h' X' e' W' (Arv.set A q1 S N H G (fits_nar_bool _) W' i hj hi))
theorem s_C (X : Stand p l e R s m args below meth c T locs cells slots) (hx : p.tables.exec = Jvm.exec) (hZ : Z.Warmed39 s.vm) (eT : T.heap = h) {b : Addr} {k : ClassId} {z j x : Int32} {vs : List Value} {dv : Value} (V : Arv Z h b k .char z vs dv) (i : Nat) (hj : j.toNatClampNeg = i) (hi : i < vs.length) (hj0 : ¬ j < 0) (hjz : j < z) (hd : decode c.code pc = .ok (.castore, 1)) (hn : pc + 1 = n)
    (hr : ∀ T' h', Stand p l e R s m args below meth c T' (locs ++ [⟨b, j.toNatClampNeg⟩]) cells slots → T'.heap = h' → Wr h h' b j.toNatClampNeg (.int (nar .char x)) → Arv Z h' b k .char z (vs.set i (.int (nar .char x))) dv → Endz p.tables e below Q T' (mkF m n Ls st)) : Endz p.tables e below Q T (mkF m pc Ls (.int x :: .int j :: .ref b :: st)) := by
  subst hn
  obtain ⟨cl, A, q1, S, N, H, G⟩ := V
  obtain ⟨T', h', X', e', W', st'⟩ := stC X hx hZ eT A (j := j) (inb_of S ⟨hj0, hjz⟩) (g := mkF m pc Ls (.int x :: .int j :: .ref b :: st)) rfl rfl hd
  exact Endz.by st' (hr T' h' X' e' W' (Arv.set A q1 S N H G (fits_nar_char _) W' i hj hi))
/-! reads of arrays -/
theorem Arv.at {h : Heap} {b : Addr} {k : ClassId} {ty : FieldType} {z j : Int32} {vs : List Value} {dv v : Value} (V : Arv Z h b k ty z vs dv) (hj0 : ¬ j < 0) (hjz : j < z) (hv : vs.getD j.toNatClampNeg dv = v) : ∃ cl, Arr Z h b cl ty ∧ ¬ (j < 0 ∨ cl.slots.size ≤ j.toNatClampNeg) ∧ cl.slots[j.toNatClampNeg]? = some v := by
  obtain ⟨cl, A, q1, S, N, H, G⟩ := V
  exact ⟨cl, A, inb_of S ⟨hj0, hjz⟩, H.at (inb_of S ⟨hj0, hjz⟩) hv⟩
theorem l_I (X : Stand p l e R s m args below meth c T locs cells slots) (hx : p.tables.exec = Jvm.exec) (hZ : Z.Warmed39 s.vm) (eT : T.heap = h) {b : Addr} {k : ClassId} {z j : Int32} {vs : List Value} {dv v : Value} (V : Arv Z h b k .int z vs dv) (hj0 : ¬ j < 0) (hjz : j < z) (hv : vs.getD j.toNatClampNeg dv = v) (hd : decode c.code pc = .ok (.iaload, 1)) (hn : pc + 1 = n) (hr : Endz p.tables e below Q T (mkF m n Ls (v :: st))) : Endz p.tables e below Q T (mkF m pc Ls (.int j :: .ref b :: st)) := by
  subst hn
  obtain ⟨cl, A, hin, hat⟩ := Arv.at V hj0 hjz hv
  exact Endz.by (fun _ q => X.iaload hx (j := j) (v := v) (by rw [eT]; exact A.1) (State.isArrayOf_alike hZ.alike A.2.1) A.2.2 hin hat (g := mkF m pc Ls (.int j :: .ref b :: st)) rfl rfl hd _ q) hr
theorem l_B (X : Stand p l e R s m args below meth c T locs cells slots) (hx : p.tables.exec = Jvm.exec) (hZ : Z.Warmed39 s.vm) (eT : T.heap = h) {b : Addr} {k : ClassId} {z j : Int32} {vs : List Value} {dv v : Value} (V : Arv Z h b k .byte z vs dv) (hj0 : ¬ j < 0) (hjz : j < z) (hv : vs.getD j.toNatClampNeg dv = v) (hd : decode c.code pc = .ok (.baload, 1)) (hn : pc + 1 = n) (hr : Endz p.tables e below Q T (mkF m n Ls (v :: st))) : Endz p.tables e below Q T (mkF m pc Ls (.int j :: .ref b :: st)) := by
  subst hn
  obtain ⟨cl, A, hin, hat⟩ := Arv.at V hj0 hjz hv
  exact Endz.by (fun _ q => X.baloadBytes hx (j := j) (v := v) (by rw [eT]; exact A.1) (State.isArrayOf_alike hZ.alike A.2.1) A.2.2 hin hat (g := mkF m pc Ls (.int j :: .ref b :: st)) rfl rfl hd _ q) hr
theorem l_Z (X : Stand p l e R s m args below meth c T locs cells slots) (hx : p.tables.exec = Jvm.exec) (hZ : Z.Warmed39 s.vm) (eT : T.heap = h) {b : Addr} {k : ClassId} {z j : Int32} {vs : List Value} {dv v : Value} (V : Arv Z h b k .boolean z vs dv) (hj0 : ¬ j < 0) (hjz : j < z) (hv : vs.getD j.toNatClampNeg dv = v) (hd : decode c.code pc = .ok (.baload, 1)) (hn : pc + 1 = n) (hr : Endz p.tables e below Q T (mkF m n Ls (v :: st))) : Endz p.tables e below Q T (mkF m pc Ls (.int j :: .ref b :: st)) := by
  subst hn
  obtain ⟨cl, A, hin, hat⟩ := Arv.at V hj0 hjz hv
  exact Endz.by (fun _ q => X.baloadBooleans hx (j := j) (v := v) (by rw [eT]; exact A.1) (State.isArrayOf_alike hZ.alike A.2.1) A.2.2 hin hat (g := mkF m pc Ls (.int j :: .ref b :: st)) rfl rfl hd _ q) hr
theorem l_C (X : Stand p l e R s m args below meth c T locs cells slots) (hx : p.tables.exec = Jvm.exec) (hZ : Z.Warmed39 s.vm) (eT : T.heap = h) {b : Addr} {k : ClassId} {z j : Int32} {vs : List Value} {dv v : Value} (V : Arv Z h b k .char z vs dv) (hj0 : ¬ j < 0) (hjz : j < z) (hv : vs.getD j.toNatClampNeg dv = v) (hd : decode c.code pc = .ok (.caload, 1)) (hn : pc + 1 = n) (hr : Endz p.tables e below Q T (mkF m n Ls (v :: st))) : Endz p.tables e below Q T (mkF m pc Ls (.int j :: .ref b :: st)) := by
  subst hn
  obtain ⟨cl, A, hin, hat⟩ := Arv.at V hj0 hjz hv
  exact Endz.by (fun _ q => X.caload hx (j := j) (v := v) (by rw [eT]; exact A.1) (State.isArrayOf_alike hZ.alike A.2.1) A.2.2 hin hat (g := mkF m pc Ls (.int j :: .ref b :: st)) rfl rfl hd _ q) hr
theorem l_A (X : Stand p l e R s m args below meth c T locs cells slots) (hx : p.tables.exec = Jvm.exec) (hZ : Z.Warmed39 s.vm) (eT : T.heap = h) {b : Addr} {k : ClassId} {z j : Int32} {vs : List Value} {dv v : Value} {ty : FieldType} (V : Arv Z h b k ty z vs dv) (hty : ty.isReference = true) (hj0 : ¬ j < 0) (hjz : j < z) (hv : vs.getD j.toNatClampNeg dv = v) (hd : decode c.code pc = .ok (.aaload, 1)) (hn : pc + 1 = n) (hr : Endz p.tables e below Q T (mkF m n Ls (v :: st))) : Endz p.tables e below Q T (mkF m pc Ls (.int j :: .ref b :: st)) := by
  subst hn
  obtain ⟨cl, A, hin, hat⟩ := Arv.at V hj0 hjz hv
  exact Endz.by (fun _ q => X.aaload hx (j := j) (v := v) (by rw [eT]; exact A.1) (State.isArrayOf_alike hZ.alike A.2.1) hty A.2.2 hin hat (g := mkF m pc Ls (.int j :: .ref b :: st)) rfl rfl hd _ q) hr
theorem l_J (X : Stand p l e R s m args below meth c T locs cells slots) (hx : p.tables.exec = Jvm.exec) (hZ : Z.Warmed39 s.vm) (eT : T.heap = h) {b : Addr} {k : ClassId} {z j : Int32} {vs : List Value} {dv v : Value} (V : Arv Z h b k .long z vs dv) (hj0 : ¬ j < 0) (hjz : j < z) (hv : vs.getD j.toNatClampNeg dv = v) (hd : decode c.code pc = .ok (.laload, 1)) (hn : pc + 1 = n) (hr : Endz p.tables e below Q T (mkF m n Ls (v :: st))) : Endz p.tables e below Q T (mkF m pc Ls (.int j :: .ref b :: st)) := by
  subst hn
  obtain ⟨cl, A, hin, hat⟩ := Arv.at V hj0 hjz hv
  exact Endz.by (fun _ q => X.laload hx (j := j) (v := v) (by rw [eT]; exact A.1) (State.isArrayOf_alike hZ.alike A.2.1) A.2.2 hin hat (g := mkF m pc Ls (.int j :: .ref b :: st)) rfl rfl hd _ q) hr
theorem a_L (X : Stand p l e R s m args below meth c T locs cells slots) (hx : p.tables.exec = Jvm.exec) (hZ : Z.Warmed39 s.vm) (eT : T.heap = h) {b : Addr} {k : ClassId} {ty : FieldType} {z : Int32} {vs : List Value} {dv : Value} (V : Arv Z h b k ty z vs dv) (hd : decode c.code pc = .ok (.arraylength, 1)) (hn : pc + 1 = n) (hr : Endz p.tables e below Q T (mkF m n Ls (.int z :: st))) : Endz p.tables e below Q T (mkF m pc Ls (.ref b :: st)) := by
  subst hn
  obtain ⟨cl, A, q1, S, N, H, G⟩ := V
  exact Endz.by (fun _ q => X.arraylength hx (by rw [eT]; exact A.1) (State.isArrayOf_alike hZ.alike A.2.1) (g := mkF m pc Ls (.ref b :: st)) rfl rfl hd _ (by rw [len_of S N]; exact q)) hr
/-! calls -/
theorem c_S (X : Stand p l e R s m args below meth c T locs cells slots) (hx : p.tables.exec = Jvm.exec) (hZ : Z.Warmed39 s.vm) {own : String} {idx : Nat} {y : MethodName} {bytes : ByteArray} {maxL : Nat} {ret : Option FieldType} {argsL rest stk : List Value} {ps : List FieldType} {r : Option FieldType} (hown : s.vm.findClass own = some m.cls) (hM : Con l Z y bytes maxL ret [] rm argsL.toArray h Qv) (eT : T.heap = h)
    (w1 : (Jvm.Cond.methodLink own idx y).before a0 Z = true) (w2 : (Jvm.Cond.static y).before a0 Z = true) (w3 : (Jvm.Cond.initialized y.cls).before a0 Z = true) (w4 : (Jvm.Cond.code y bytes maxL ret).before a0 Z = true) (hy : y.cls ≠ "java/lang/invoke/MethodHandle" ∧ y.cls ≠ "java/lang/invoke/VarHandle")
    (W : Nat) (hf : rm.frames + 1 ≤ R.frames) (hl : W + (maxL + 11) + rm.locals ≤ R.locals) (hcl : cells + rm.cells ≤ R.cells) (hsl : slots + rm.slots ≤ R.slots) (hml : Ls.size = c.maxLocals) (hpd : parseMethodDescriptor y.desc = some ⟨ps, r⟩) (hlen : argsL.length = ps.length) (hstk : stk = argsL.reverse ++ rest) (hW : 2 * 0 + (rest.map fun v => v.category).sum ≤ W) (hd : decode c.code pc = .ok (.invokestatic idx, 3)) (hn : pc + 3 = n)
    (hr : ∀ v T' L, Stand p l e R s m args below meth c T' (locs ++ L) (cells + rm.cells) (slots + rm.slots) → Qv v T'.heap L → Endz p.tables e below Q T' (mkF m n Ls (v.toList ++ rest))) : Endz p.tables e below Q T (mkF m pc Ls stk) := by
  subst hn hstk
  obtain ⟨v, _, ⟨T', L', k', n'⟩, -, X', ⟨L, hQ, l1, y1, z1⟩, st'⟩ := Jvm.LawKit.callS X hx (y := y) hown (mvT hZ w1) (mvT hZ w2) (mvT hZ w3) (mvT hZ w4) hy (backOf (W := W) hM hZ w4 w3 hf hl) (g := mkF m pc Ls (argsL.reverse ++ rest)) rfl hml (argsL := argsL) (rest := rest) (lenOf hpd hlen) rfl hW hd (fun _ _ => ⟨rfl, eT, hcl, hsl⟩)
  dsimp only [Pt.U, Pt.locs, Pt.cells, Pt.slots] at X' l1 y1 z1 st' hQ
  subst l1 y1 z1
  exact Endz.by st' (hr v T' L X' hQ)
theorem c_N (X : Stand p l e R s m args below meth c T locs cells slots) (hx : p.tables.exec = Jvm.exec) (hZ : Z.Warmed39 s.vm) {own : String} {idx : Nat} {y : MethodName} {bytes : ByteArray} {maxL : Nat} {b : Addr} {argsL rest stk : List Value} {ps : List FieldType} {r : Option FieldType} (hy1 : y.name = "<init>") (hown : s.vm.findClass own = some m.cls) (hM : Con l Z y bytes maxL none [] rm (.ref b :: argsL).toArray h Qv) (eT : T.heap = h)
    (w1 : (Jvm.Cond.methodLink own idx y).before a0 Z = true) (w2 : (Jvm.Cond.instanceMethod y).before a0 Z = true) (w3 : (Jvm.Cond.initialized y.cls).before a0 Z = true) (w4 : (Jvm.Cond.code y bytes maxL none).before a0 Z = true) (hy : y.cls ≠ "java/lang/invoke/MethodHandle" ∧ y.cls ≠ "java/lang/invoke/VarHandle")
    (W : Nat) (hf : rm.frames + 1 ≤ R.frames) (hl : W + (maxL + 11) + rm.locals ≤ R.locals) (hcl : cells + rm.cells ≤ R.cells) (hsl : slots + rm.slots ≤ R.slots) (hml : Ls.size = c.maxLocals) (hpd : parseMethodDescriptor y.desc = some ⟨ps, r⟩) (hlen : argsL.length = ps.length) (hstk : stk = argsL.reverse ++ .ref b :: rest) (hW : 2 * 0 + (rest.map fun v => v.category).sum ≤ W) (hd : decode c.code pc = .ok (.invokespecial idx, 3)) (hn : pc + 3 = n)
    (hr : ∀ v T' L, Stand p l e R s m args below meth c T' (locs ++ L) (cells + rm.cells) (slots + rm.slots) → Qv v T'.heap L → Endz p.tables e below Q T' (mkF m n Ls (v.toList ++ rest))) : Endz p.tables e below Q T (mkF m pc Ls stk) := by
  subst hn hstk
  obtain ⟨v, _, ⟨T', L', k', n'⟩, -, X', ⟨L, hQ, l1, y1, z1⟩, st'⟩ := X.specialBack hx (y := y) hy1 hown (mvT hZ w1) (mvT hZ w2) (mvT hZ w4) hy (backOf (W := W) hM hZ w4 w3 hf hl) (g := mkF m pc Ls (argsL.reverse ++ .ref b :: rest)) rfl hml (Steps.refl _) (a := b) (argsL := argsL) (rest := rest) (lenOf hpd hlen) rfl hW hd (fun _ _ => ⟨rfl, eT, hcl, hsl⟩)
  dsimp only [Pt.U, Pt.locs, Pt.cells, Pt.slots] at X' l1 y1 z1 st' hQ
  subst l1 y1 z1
  exact Endz.tr st' (hr v T' L X' hQ)
theorem c_V (X : Stand p l e R s m args below meth c T locs cells slots) (hx : p.tables.exec = Jvm.exec) (hZ : Z.Warmed39 s.vm) {own C : String} {idx : Nat} {y z : MethodName} {bytes : ByteArray} {maxL : Nat} {ret : Option FieldType} {b : Addr} {argsL rest stk : List Value} {ps : List FieldType} {r : Option FieldType} (hown : s.vm.findClass own = some m.cls) (hM : Con l Z z bytes maxL ret [] rm (.ref b :: argsL).toArray h Qv) (eT : T.heap = h) (A : Exa Z h b C)
    (w1 : (Jvm.Cond.methodLink own idx y).before a0 Z = true) (w2 : (Jvm.Cond.declares y).before a0 Z = true) (hnf : NotFace s y) (w5 : (Jvm.Cond.selects C y z).before a0 Z = true) (w6 : (Jvm.Cond.instanceMethod z).before a0 Z = true) (w3 : (Jvm.Cond.initialized z.cls).before a0 Z = true) (w4 : (Jvm.Cond.code z bytes maxL ret).before a0 Z = true) (hy : y.cls ≠ "java/lang/invoke/MethodHandle" ∧ y.cls ≠ "java/lang/invoke/VarHandle")
    (W : Nat) (hf : rm.frames + 1 ≤ R.frames) (hl : W + (maxL + 11) + rm.locals ≤ R.locals) (hcl : cells + rm.cells ≤ R.cells) (hsl : slots + rm.slots ≤ R.slots) (hml : Ls.size = c.maxLocals) (hpd : parseMethodDescriptor y.desc = some ⟨ps, r⟩) (hlen : argsL.length = ps.length) (hstk : stk = argsL.reverse ++ .ref b :: rest) (hW : 2 * 0 + (rest.map fun v => v.category).sum ≤ W) (hd : decode c.code pc = .ok (.invokevirtual idx, 3)) (hn : pc + 3 = n)
    (hr : ∀ v T' L, Stand p l e R s m args below meth c T' (locs ++ L) (cells + rm.cells) (slots + rm.slots) → Qv v T'.heap L → Endz p.tables e below Q T' (mkF m n Ls (v.toList ++ rest))) : Endz p.tables e below Q T (mkF m pc Ls stk) := by
  subst hn hstk
  obtain ⟨cq, kq, qa, qb, qc⟩ := isOf hZ eT A
  obtain ⟨v, _, ⟨T', L', k', n'⟩, -, X', ⟨L, hQ, l1, y1, z1⟩, st'⟩ := X.virtualBack hx (y := y) (z := z) hown (mvT hZ w1) (mvT hZ w2) hnf (mvT hZ w5) (mvT hZ w6) hy (backOf (W := W) hM hZ w4 w3 hf hl) qa qc (g := mkF m pc Ls (argsL.reverse ++ .ref b :: rest)) rfl hml (Steps.refl _) (argsL := argsL) (rest := rest) (lenOf hpd hlen) rfl hW hd (fun _ _ => ⟨rfl, eT, hcl, hsl⟩)
  dsimp only [Pt.U, Pt.locs, Pt.cells, Pt.slots] at X' l1 y1 z1 st' hQ
  subst l1 y1 z1
  exact Endz.tr st' (hr v T' L X' hQ)
/-- Object.<init> -/
theorem c_O (X : Stand p l e R s m args below meth c T locs cells slots) (hx : p.tables.exec = Jvm.exec) (hZ : Z.Warmed39 s.vm) {own : String} {idx : Nat} {b : Addr} (hown : s.vm.findClass own = some m.cls) (w1 : (Jvm.Cond.methodLink own idx Lib.objectInit).before a0 Z = true) (w2 : (Jvm.Cond.instanceMethod Lib.objectInit).before a0 Z = true) (w3 : (Jvm.Cond.code Lib.objectInit ⟨#[0xb1]⟩ 1 none).before a0 Z = true) (eT : T.heap = h) (hml : Ls.size = c.maxLocals) (hd : decode c.code pc = .ok (.invokespecial idx, 3)) (hn : pc + 3 = n)
    (W : Nat) (hf : 1 ≤ R.frames) (hW : 2 * 0 + (st.map fun v => v.category).sum ≤ W) (hl : W + 12 ≤ R.locals) (hr : ∀ T', Stand p l e R s m args below meth c T' locs cells slots → T'.heap = h → Endz p.tables e below Q T' (mkF m n Ls st)) : Endz p.tables e below Q T (mkF m pc Ls (.ref b :: st)) := by
  subst hn
  obtain ⟨T', X', e', st'⟩ := initO X hx hZ hown w1 w2 w3 eT (g := mkF m pc Ls (.ref b :: st)) rfl hml rfl hd hf (W := W) hW hl
  exact Endz.by st' (hr T' X' e')
/-- the clone of an array -/
theorem c_C (X : Stand p l e R s m args below meth c T locs cells slots) (hx : p.tables.exec = Jvm.exec) (hZ : Z.Warmed39 s.vm) {own ad : String} {idx : Nat} (hown : s.vm.findClass own = some m.cls)
    (w1 : (Jvm.Cond.methodLink own idx ⟨ad, "clone", "()Ljava/lang/Object;"⟩).before a0 Z = true) (w2 : (Jvm.Cond.sameMethod ad "java/lang/Object" "clone" "()Ljava/lang/Object;").before a0 Z = true) (w3 : (Jvm.Cond.native ⟨"java/lang/Object", "clone", "()Ljava/lang/Object;"⟩).before a0 Z = true)
    (w4 : (Jvm.Cond.instanceMethod ⟨"java/lang/Object", "clone", "()Ljava/lang/Object;"⟩).before a0 Z = true) (w5 : (Jvm.Cond.selects ad ⟨ad, "clone", "()Ljava/lang/Object;"⟩ ⟨"java/lang/Object", "clone", "()Ljava/lang/Object;"⟩).before a0 Z = true) (w6 : (Jvm.Cond.castable ad "java/lang/Cloneable").before a0 Z = true)
    (eT : T.heap = h) {a : Addr} {k : ClassId} {ty : FieldType} {z : Int32} {vs : List Value} {dv : Value} (F : Arv Z h a k ty z vs dv) (A : Exa Z h a ad) (hml : Ls.size = c.maxLocals) (hd : decode c.code pc = .ok (.invokevirtual idx, 3)) (hn : pc + 3 = n)
    (W cap : Nat) (hf : 1 ≤ R.frames) (hW : 2 * 0 + (st.map fun v => v.category).sum ≤ W) (hl : W + 14 ≤ R.locals) (hcap : z.toNatClampNeg ≤ cap) (hc : cells + 1 ≤ R.cells) (hsl : slots + cap ≤ R.slots)
    (hr : ∀ T' h' b, b = h.size → Stand p l e R s m args below meth c T' locs (cells + 1) (slots + cap) → T'.heap = h' → Ext h h' → Arv Z h' b k ty z vs dv → Exa Z h' b ad → Endz p.tables e below Q T' (mkF m n Ls (.ref b :: st))) : Endz p.tables e below Q T (mkF m pc Ls (.ref a :: st)) := by
  subst hn
  obtain ⟨T', h', X', e', E', V', A', st'⟩ := cloneH X hx hZ hown w1 w2 w3 w4 w5 w6 eT F.arh A (g := mkF m pc Ls (.ref a :: st)) rfl hml rfl hd hf (W := W) (cap := cap) hW hl hcap hc hsl
  exact Endz.by st' (hr T' h' _ rfl X' e' E' V' A')
theorem k_C (X : Stand p l e R s m args below meth c T locs cells slots) (hx : p.tables.exec = Jvm.exec) (hZ : Z.Warmed39 s.vm) {own K : String} {idx : Nat} (hown : s.vm.findClass own = some m.cls) (w : (Jvm.Cond.classLink own idx K).before a0 Z = true) (eT : T.heap = h) {a : Addr} (F : Ins Z h a K true) (hd : decode c.code pc = .ok (.checkcast idx, 3)) (hn : pc + 3 = n)
    (hr : ∀ T', Stand p l e R s m args below meth c T' locs cells slots → T'.heap = h → Endz p.tables e below Q T' (mkF m n Ls (.ref a :: st))) : Endz p.tables e below Q T (mkF m pc Ls (.ref a :: st)) := by
  subst hn
  obtain ⟨T', X', e', st'⟩ := castY X hx hZ hown w eT F (g := mkF m pc Ls (.ref a :: st)) rfl rfl hd
  exact Endz.by st' (hr T' X' e')
theorem i_Y (X : Stand p l e R s m args below meth c T locs cells slots) (hx : p.tables.exec = Jvm.exec) (hZ : Z.Warmed39 s.vm) {own K : String} {idx : Nat} (hown : s.vm.findClass own = some m.cls) (w : (Jvm.Cond.classLink own idx K).before a0 Z = true) (eT : T.heap = h) {a : Addr} (F : Ins Z h a K true) (hd : decode c.code pc = .ok (.instanceof idx, 3)) (hn : pc + 3 = n)
    (hr : ∀ T', Stand p l e R s m args below meth c T' locs cells slots → T'.heap = h → Endz p.tables e below Q T' (mkF m n Ls (.int 1 :: st))) : Endz p.tables e below Q T (mkF m pc Ls (.ref a :: st)) := by
  subst hn
  obtain ⟨T', X', e', st'⟩ := instY X hx hZ hown w eT F (g := mkF m pc Ls (.ref a :: st)) rfl rfl hd
  exact Endz.by st' (hr T' X' e')
theorem Ext.keep1 {h0 h h' : Heap} {b : Addr} (E : Ext h0 h) (K : Keep h h' [b]) (q : h0.size ≤ b) : Ext h0 h' := ⟨Nat.le_trans E.1 K.1, fun a c z => K.2.1 a c (E.2 a c z) (ninS (fun e => by subst e; exact absurd (Array.getElem?_eq_some_iff.mp z).1 (Nat.not_lt.mpr q)) nin0)⟩
/-- System.arraycopy -/
theorem c_Y (X : Stand p l e R s m args below meth c T locs cells slots) (hx : p.tables.exec = Jvm.exec) (hZ : Z.Warmed39 s.vm) {own : String} {idx : Nat} (hown : s.vm.findClass own = some m.cls)
    (w1 : (Jvm.Cond.methodLink own idx Jvm.Stand.acN).before a0 Z = true) (w2 : (Jvm.Cond.native Jvm.Stand.acN).before a0 Z = true) (w3 : (Jvm.Cond.static Jvm.Stand.acN).before a0 Z = true) (w4 : (Jvm.Cond.initialized "java/lang/System").before a0 Z = true) (eT : T.heap = h)
    {a b : Addr} {k k' : ClassId} {ty : FieldType} {z z' sp dp nn : Int32} {vs vd us : List Value} {dv dd : Value} (A : Arv Z h a k ty z vs dv) (B : Arv Z h b k' ty z' vd dd) (hty : refKind ty = false)
    (h1 : ¬ sp < 0) (h2 : ¬ dp < 0) (h3 : ¬ nn < 0) (h4 : sp.toNatClampNeg + nn.toNatClampNeg ≤ z.toNatClampNeg) (h5 : dp.toNatClampNeg + nn.toNatClampNeg ≤ z'.toNatClampNeg)
    (hus : us = (List.range nn.toNatClampNeg).map fun i => vs.getD (sp.toNatClampNeg + i) dv) (hl : dp.toNatClampNeg + nn.toNatClampNeg ≤ vd.length) {n0 : Nat} (N : Fr n0 locs) (ge : n0 ≤ b) (hml : Ls.size = c.maxLocals) (hd : decode c.code pc = .ok (.invokestatic idx, 3)) (hn : pc + 3 = n)
    (W : Nat) (hf : 1 ≤ R.frames) (hW : 2 * 0 + (st.map fun v => v.category).sum ≤ W) (hlo : W + (nativeFrameWords "java/lang/System" "arraycopy" 5 + 11) ≤ R.locals)
    (hr : ∀ T' h' L, Stand p l e R s m args below meth c T' L cells slots → T'.heap = h' → Fr n0 L → Keep h h' [b] → Arv Z h' b k' ty z' (vd.take dp.toNatClampNeg ++ us ++ vd.drop (dp.toNatClampNeg + nn.toNatClampNeg)) dd → Endz p.tables e below Q T' (mkF m n Ls st)) : Endz p.tables e below Q T (mkF m pc Ls (.int nn :: .int dp :: .ref b :: .int sp :: .ref a :: st)) := by
  subst hn
  obtain ⟨T', h', L, X', e', N', K', V', st'⟩ := cpA X hx hZ hown w1 w2 w3 w4 eT A B (Or.inl ⟨rfl, hty⟩) h1 h2 h3 h4 h5 hus hl N ge (g := mkF m pc Ls (.int nn :: .int dp :: .ref b :: .int sp :: .ref a :: st)) rfl hml rfl hd hf (W := W) hW hlo
  exact Endz.by st' (hr T' h' L X' e' N' K' V')
end Heap
section Start
variable {args : Array Value} {s : State}
/-- a static that the case says to be exactly of a class -/
theorem sta_v {C nm d K : String} (h : (Jvm.Cond.exactly (.static C nm d) K).value args s none s [] = some true) (wi : (Jvm.Cond.initialized C).before args s = true) (wl : (Jvm.Cond.laysStatic C nm d).before args s = true) : ∃ a, (Term.static C nm d).eval args s none [] s = some (.ref a) ∧ Exa s s.heap a K ∧ Sta s s.heap C nm d (.ref a) := by
  obtain ⟨a, ev⟩ := exa_v h
  exact ⟨a, ev, Exa.start ev h, Sta.start ev (Or.inr ⟨wi, wl⟩)⟩
/-- a field of it that the case says to be an int -/
theorem fldi_v {t : Term} {a : Addr} {C nm d : String} {k : Int32} (ev : t.eval args s none [] s = some (.ref a)) (h : (Jvm.Cond.eq (.field t C nm d) (.int k)).value args s none s [] = some true) : Fld s s.heap a C nm d (.int k) := by
  obtain ⟨x, y, e1, e2, k1, k2⟩ := cmp_v (Or.inl h)
  have hy : y = .int k := by have := (Term.int_eval (args := args) (first := s) (o := none) (idx := []) (s := s) k).symm.trans e2; exact (Option.some.inj this).symm
  subst hy
  obtain ⟨z, rfl⟩ := k2
  have := gotT (Cond.eq_ints e1 e2) h
  subst this
  exact Fld.start (by rw [← fld_at ev]; exact e1)
theorem len_is {t : Term} {a : Addr} {cl : Cell} {z : Int32} (ev : t.eval args s none [] s = some (.ref a)) (hc : s.heap[a]? = some cl) (h : (Jvm.Cond.eq (.length t) (.int z)).value args s none s [] = some true) : cl.slots.size < 2 ^ 31 ∧ cl.slots.size.toInt32 = z := by
  obtain ⟨x, y, e1, e2, -, k2⟩ := cmp_v (Or.inl h)
  cases (Term.int_eval (args := args) (first := s) (o := none) (idx := []) (s := s) z).symm.trans e2
  obtain ⟨w, rfl⟩ := k2
  have hw := gotT (Cond.eq_ints e1 e2) h
  subst hw
  simp only [Term.eval, ev, Option.bind_eq_bind, Option.bind_some] at e1
  cases ha : s.arrayAt? a with
  | none => simp [ha] at e1
  | some c2 =>
    cases hc.symm.trans (State.arrayAt?_spec ha).1
    by_cases hb : cl.slots.size < 2 ^ 31
    · simp [ha, hb] at e1; exact ⟨hb, e1⟩
    · simp [ha, hb] at e1
theorem elem_is {t u : Term} {a : Addr} {cl : Cell} {j : Int32} {v : Value} (ev : t.eval args s none [] s = some (.ref a)) (hc : s.heap[a]? = some cl) (eu : u.eval args s none [] s = some v) (hv : v.isRef = true) (h : (Jvm.Cond.eq (.elem t (.int j)) u).value args s none s [] = some true) : cl.slots[j.toNatClampNeg]? = some v := by
  obtain ⟨x, y, e1, e2, k1, k2⟩ := cmp_v (Or.inl h)
  cases eu.symm.trans e2
  have hx : x.isRef = true := by
    rcases ref_cases hv with rfl | ⟨b, rfl⟩
    · exact k2.2
    · exact k2.2
  have hw := gotT (eq_R e1 eu hx hv) h
  subst hw
  exact (elem_in e1 ev (Term.int_eval _) hc).2
theorem elemi_is {t : Term} {a : Addr} {cl : Cell} {j k : Int32} (ev : t.eval args s none [] s = some (.ref a)) (hc : s.heap[a]? = some cl) (h : (Jvm.Cond.eq (.elem t (.int j)) (.int k)).value args s none s [] = some true) : cl.slots[j.toNatClampNeg]? = some (.int k) := by
  obtain ⟨x, y, e1, e2, -, k2⟩ := cmp_v (Or.inl h)
  cases (Term.int_eval (args := args) (first := s) (o := none) (idx := []) (s := s) k).symm.trans e2
  obtain ⟨w, rfl⟩ := k2
  have hw := gotT (Cond.eq_ints e1 e2) h
  subst hw
  exact (elem_in e1 ev (Term.int_eval _) hc).2
theorem fldr_v {t : Term} {a b : Addr} {C nm d : String} (ev : t.eval args s none [] s = some (.ref a)) (h : (Term.field t C nm d).eval args s none [] s = some (.ref b)) : Fld s s.heap a C nm d (.ref b) := Fld.start (by rw [← fld_at ev]; exact h)
theorem eleml_is {t : Term} {a : Addr} {cl : Cell} {j : Int32} {k : Int64} (ev : t.eval args s none [] s = some (.ref a)) (hc : s.heap[a]? = some cl) (h : (Jvm.Cond.eq (.elem t (.int j)) (.long k)).value args s none s [] = some true) : cl.slots[j.toNatClampNeg]? = some (.long k) := by
  obtain ⟨x, y, e1, e2, -, k2⟩ := cmp_v (Or.inl h)
  have hk : (Term.long k).eval args s none [] s = some (.long k) := rfl
  cases hk.symm.trans e2
  obtain ⟨w, rfl⟩ := k2
  have hw := gotT (eq_L e1 e2) h
  subst hw
  exact (elem_in e1 ev (Term.int_eval _) hc).2
end Start
section Index
theorem i0_toInt : (0 : Int32).toInt = 0 := by decide
/-- (x & MAX) mod m is a place below m -/
theorem idx_mod (x m : Int32) (M : Nat) (hm : m.toInt = M) (hM : 0 < M) : ¬ ((x &&& 2147483647) % m < 0) ∧ (x &&& 2147483647) % m < m ∧ ((x &&& 2147483647) % m).toNatClampNeg < M := by
  have h1 := c_mask x 2147483647 31 (by decide) (by decide)
  have h2 := (c_irem (x &&& 2147483647) m M hm).1 (by rw [h1]; exact Int.emod_nonneg _ (by decide))
  have h3 := Int.emod_nonneg (x &&& 2147483647).toInt (show (M : Int) ≠ 0 by omega)
  have h4 := Int.emod_lt_of_pos (x &&& 2147483647).toInt (show (0 : Int) < M by omega)
  generalize (x &&& 2147483647) % m = n at h2 ⊢
  have h5 : ¬ n < 0 := by rw [Int32.lt_iff_toInt_lt, i0_toInt]; omega
  have h6 := nat_of h5
  exact ⟨h5, by rw [Int32.lt_iff_toInt_lt, hm]; omega, by omega⟩
theorem idx_eq {n k : Int32} {j : Nat} (h : ¬ n < 0) (hk : k.toInt = j) : n = k ↔ n.toNatClampNeg = j := by
  have h6 := nat_of h
  rw [← Int32.toInt_inj]; omega
theorem getD_map (ws : List Addr) (j : Nat) (h : j < ws.length) : (ws.map Value.ref).getD j .null = .ref (ws.getD j 0) := by
  simp [List.getD_eq_getElem?_getD, List.getElem?_eq_getElem, h]
theorem getD_mapI (ws : List Int32) (j : Nat) : (ws.map Value.int).getD j (.int 0) = .int (ws.getD j 0) := by
  simp only [List.getD_eq_getElem?_getD, List.getElem?_map]
  cases ws[j]? <;> rfl
theorem getD_mapJ (ws : List Int64) (j : Nat) : (ws.map Value.long).getD j (.long 0) = .long (ws.getD j 0) := by
  simp only [List.getD_eq_getElem?_getD, List.getElem?_map]
  cases ws[j]? <;> rfl
/-! small naturals as ints -/
theorem nat_toInt {n : Nat} (h : n < 2147483648) : (Int32.ofNat n).toInt = n := Int32.toInt_ofNat_small h
theorem nat_clamp {n : Nat} (h : n < 2147483648) : (Int32.ofNat n).toNatClampNeg = n := by
  show (Int32.ofNat n).toInt.toNat = n
  rw [nat_toInt h]; rfl
theorem nat_nn {n : Nat} (h : n < 2147483648) : ¬ Int32.ofNat n < 0 := by rw [Int32.lt_iff_toInt_lt, nat_toInt h, i0_toInt]; omega
theorem nat_lt {n k : Nat} (h : n < 2147483648) (h' : k < 2147483648) : Int32.ofNat n < Int32.ofNat k ↔ n < k := by rw [Int32.lt_iff_toInt_lt, nat_toInt h, nat_toInt h']; omega
theorem nat_eq {n k : Nat} (h : n < 2147483648) (h' : k < 2147483648) : Int32.ofNat n = Int32.ofNat k ↔ n = k := by rw [← Int32.toInt_inj, nat_toInt h, nat_toInt h']; omega
theorem nat_up (n : Nat) : Int32.ofNat n + 1 = Int32.ofNat (n + 1) := by simp [Int32.ofNat_add]
theorem Fld.fun {Z : State} {h : Heap} {a : Addr} {C n d : String} {v w : Value} (F : Fld Z h a C n d v) (G : Fld Z h a C n d w) : v = w := Classical.byContradiction fun q => F.ne G q rfl
end Index
end Jvm.OwnKit
namespace Jvm.Pilot.@@N@@
open Jvm Jvm.ClassFile Sem Op Lib Jvm.Free Jvm.Stand Jvm.LawKit Jvm.RoadKit Bundle Jvm.Pilot.@@N@@.Jvm.D Jvm.OwnKit
theorem d1_0 : decode prog_35_method_7_code 0 = .ok (.invokestatic 43, 3) := by decide +kernel
theorem d1_3 : decode prog_35_method_7_code 3 = .ok (.astore_n 1, 1) := by decide +kernel
theorem d1_4 : decode prog_35_method_7_code 4 = .ok (.aload_n 1, 1) := by decide +kernel
theorem d1_5 : decode prog_35_method_7_code 5 = .ok (.arraylength, 1) := by decide +kernel
theorem d1_6 : decode prog_35_method_7_code 6 = .ok (.istore_n 2, 1) := by decide +kernel
theorem d1_7 : decode prog_35_method_7_code 7 = .ok (.iconst 0, 1) := by decide +kernel
theorem d1_8 : decode prog_35_method_7_code 8 = .ok (.istore_n 3, 1) := by decide +kernel
theorem d1_9 : decode prog_35_method_7_code 9 = .ok (.iload_n 3, 1) := by decide +kernel
theorem d1_10 : decode prog_35_method_7_code 10 = .ok (.iload_n 2, 1) := by decide +kernel
theorem d1_11 : decode prog_35_method_7_code 11 = .ok (.if_icmp .ge 26, 3) := by decide +kernel
theorem d1_14 : decode prog_35_method_7_code 14 = .ok (.aload_n 1, 1) := by decide +kernel
theorem d1_15 : decode prog_35_method_7_code 15 = .ok (.iload_n 3, 1) := by decide +kernel
theorem d1_16 : decode prog_35_method_7_code 16 = .ok (.aaload, 1) := by decide +kernel
theorem d1_17 : decode prog_35_method_7_code 17 = .ok (.astore 4, 2) := by decide +kernel
theorem d1_19 : decode prog_35_method_7_code 19 = .ok (.aload 4, 2) := by decide +kernel
theorem d1_21 : decode prog_35_method_7_code 21 = .ok (.getfield 39, 3) := by decide +kernel
theorem d1_24 : decode prog_35_method_7_code 24 = .ok (.iload_n 0, 1) := by decide +kernel
theorem d1_25 : decode prog_35_method_7_code 25 = .ok (.if_icmp .ne 6, 3) := by decide +kernel
theorem d1_28 : decode prog_35_method_7_code 28 = .ok (.aload 4, 2) := by decide +kernel
theorem d1_30 : decode prog_35_method_7_code 30 = .ok (.areturn, 1) := by decide +kernel
theorem d1_31 : decode prog_35_method_7_code 31 = .ok (.iinc 3 1, 3) := by decide +kernel
theorem d1_34 : decode prog_35_method_7_code 34 = .ok (.goto (-25), 3) := by decide +kernel
theorem d1_37 : decode prog_35_method_7_code 37 = .ok (.aconst_null, 1) := by decide +kernel
theorem d1_38 : decode prog_35_method_7_code 38 = .ok (.areturn, 1) := by decide +kernel
theorem d2_0 : decode prog_35_method_1_code 0 = .ok (.getstatic 16, 3) := by decide +kernel
theorem d2_3 : decode prog_35_method_1_code 3 = .ok (.invokevirtual 20, 3) := by decide +kernel
theorem d2_6 : decode prog_35_method_1_code 6 = .ok (.checkcast 21, 3) := by decide +kernel
theorem d2_9 : decode prog_35_method_1_code 9 = .ok (.areturn, 1) := by decide +kernel
theorem d3_0 : decode method_2_code 0 = .ok (.iload_n 0, 1) := by decide +kernel
theorem d3_1 : decode method_2_code 1 = .ok (.iconst 1, 1) := by decide +kernel
theorem d3_2 : decode method_2_code 2 = .ok (.if_icmp .ne 7, 3) := by decide +kernel
theorem d3_5 : decode method_2_code 5 = .ok (.getstatic 7, 3) := by decide +kernel
theorem d3_8 : decode method_2_code 8 = .ok (.areturn, 1) := by decide +kernel
theorem d3_9 : decode method_2_code 9 = .ok (.iload_n 0, 1) := by decide +kernel
theorem d3_10 : decode method_2_code 10 = .ok (.iconst 2, 1) := by decide +kernel
theorem d3_11 : decode method_2_code 11 = .ok (.if_icmp .ne 7, 3) := by decide +kernel
theorem d3_14 : decode method_2_code 14 = .ok (.getstatic 13, 3) := by decide +kernel
theorem d3_17 : decode method_2_code 17 = .ok (.areturn, 1) := by decide +kernel
theorem d3_18 : decode method_2_code 18 = .ok (.iload_n 0, 1) := by decide +kernel
theorem d3_19 : decode method_2_code 19 = .ok (.iconst 3, 1) := by decide +kernel
theorem d3_20 : decode method_2_code 20 = .ok (.if_icmp .ne 7, 3) := by decide +kernel
theorem d3_23 : decode method_2_code 23 = .ok (.getstatic 16, 3) := by decide +kernel
theorem d3_26 : decode method_2_code 26 = .ok (.areturn, 1) := by decide +kernel
theorem d3_27 : decode method_2_code 27 = .ok (.iload_n 0, 1) := by decide +kernel
theorem d3_28 : decode method_2_code 28 = .ok (.iconst 4, 1) := by decide +kernel
theorem d3_29 : decode method_2_code 29 = .ok (.if_icmp .ne 7, 3) := by decide +kernel
theorem d3_32 : decode method_2_code 32 = .ok (.getstatic 19, 3) := by decide +kernel
theorem d3_35 : decode method_2_code 35 = .ok (.areturn, 1) := by decide +kernel
theorem d3_36 : decode method_2_code 36 = .ok (.aconst_null, 1) := by decide +kernel
theorem d3_37 : decode method_2_code 37 = .ok (.areturn, 1) := by decide +kernel
theorem pn_0 : plainName "com/example/tersewire/tersewire/core/MessageTypeOfCodePinLaw" = true := by first | (simp [plainName, overriddenIn]; done) | decide +kernel
theorem pn_1 : plainName "com/example/tersewire/tersewire/core/MessageType" = true := by first | (simp [plainName, overriddenIn]; done) | decide +kernel
theorem pd_1 : parseMethodDescriptor "(I)Lcom/example/tersewire/tersewire/core/MessageType;" = some ⟨[.int], some (.object "com/example/tersewire/tersewire/core/MessageType")⟩ := by decide +kernel
theorem pd_2 : parseMethodDescriptor "()[Lcom/example/tersewire/tersewire/core/MessageType;" = some ⟨[], some (.array (.object "com/example/tersewire/tersewire/core/MessageType"))⟩ := by decide +kernel
theorem ef_1 (m : MethodId) (n : Int32) : entryFrame m #[(.int n)] 5 = mkF m 0 #[.val (.int n), .unset, .unset, .unset, .unset] [] := by first | (simp [entryFrame, mkF, argsToLocals, Value.category]; done) | rfl
theorem ef_2 (m : MethodId) : entryFrame m #[] 0 = mkF m 0 #[] [] := rfl
theorem ef_3 (m : MethodId) (n : Int32) : entryFrame m #[(.int n)] 1 = mkF m 0 #[.val (.int n)] [] := by first | (simp [entryFrame, mkF, argsToLocals, Value.category]; done) | rfl
theorem ef_0 (m : MethodId) (i : Int32) (k : Int32) : entryFrame m #[(.int i), (.int k)] maxLocals = mkF m 0 #[.val (.int i), .val (.int k), .unset, .unset, .unset] [] := by first | (simp [entryFrame, mkF, argsToLocals, Value.category, maxLocals]; done) | rfl
/-- the constant of that code, or null -/
def own_mt (n : Int32) (w1 w2 w3 w4 : Addr) : Value := if n = 1 then .ref w1 else if n = 2 then .ref w2 else if n = 3 then .ref w3 else if n = 4 then .ref w4 else .null
theorem own_mt_ref (n : Int32) (w1 w2 w3 w4 : Addr) : (own_mt n w1 w2 w3 w4).isRef = true := by
  unfold own_mt; split
  · rfl
  · split
    · rfl
    · split
      · rfl
      · split <;> rfl
abbrev own_rv : Room := { frames := 1, cells := 1, slots := 4, locals := 14 }
abbrev own_ro : Room := { frames := 2, cells := 1, slots := 4, locals := 25 }
abbrev own_rx : Room := { frames := 0, cells := 0, slots := 0, locals := 0 }
set_option maxRecDepth 65536 in
set_option maxHeartbeats 40000000 in
theorem rmv (l : Launch) (Z : State) (a0 : Array Value) (hw : ∀ d ∈ tables_1, d.before a0 Z = true) (ws : List Jvm.Cond) (vA w1 w2 w3 w4 : Addr) (kA : ClassId) (h0 : Heap) (SV : Sta Z h0 "com/example/tersewire/tersewire/core/MessageType" "$VALUES" "[Lcom/example/tersewire/tersewire/core/MessageType;" (.ref vA)) (AV : Exa Z h0 vA "[Lcom/example/tersewire/tersewire/core/MessageType;") (VV : Arv Z h0 vA kA (.object "com/example/tersewire/tersewire/core/MessageType") 4 [.ref w1, .ref w2, .ref w3, .ref w4] .null) :
    Con l Z (⟨"com/example/tersewire/tersewire/core/MessageType", "values", "()[Lcom/example/tersewire/tersewire/core/MessageType;"⟩ : MethodName) prog_35_method_1_code 0 (some (.array (.object "com/example/tersewire/tersewire/core/MessageType"))) ws own_rv #[] h0 (fun v h L => ∃ b, v = some (.ref b) ∧ L = [] ∧ Ext h0 h ∧ Arv Z h b kA (.object "com/example/tersewire/tersewire/core/MessageType") 4 [.ref w1, .ref w2, .ref w3, .ref w4] .null) := by
  refine con_of (plainFor_of_name pn_1) ?_
  intro p e s m below meth c T0 X0 hx hZ hby hml hown hret hnm hlk e0
  refine Endz.eq (ef_2 m) ?_
  refine g_S (n := 3) X0 hx hZ hown (hw _ (List.mem_of_getElem? (i := 7) rfl)) e0 SV (hb hby d2_0) rfl (fun T1 X1 e1 => ?_)
  refine c_C (n := 6) X1 hx hZ hown (hw _ (List.mem_of_getElem? (i := 9) rfl)) (hw _ (List.mem_of_getElem? (i := 10) rfl)) (hw _ (List.mem_of_getElem? (i := 14) rfl)) (hw _ (List.mem_of_getElem? (i := 12) rfl)) (hw _ (List.mem_of_getElem? (i := 13) rfl)) (hw _ (List.mem_of_getElem? (i := 15) rfl)) e1 VV AV (by rw [hml]; rfl) (hb hby d2_3) rfl 0 4 (by decide) (by decide) (by decide) (by decide) (by decide) (by decide) (fun T2 h2 b gb X2 e2 E2 V2 A2 => ?_)
  refine k_C (n := 9) X2 hx hZ hown (hw _ (List.mem_of_getElem? (i := 21) rfl)) e2 (Ins.self A2) (hb hby d2_6) rfl (fun T3 X3 e3 => ?_)
  exact fin_A X3 hx hlk e3 hret rfl rfl rfl (hb hby d2_9) (by decide) (by decide) ⟨b, rfl, rfl, E2, V2⟩
set_option maxRecDepth 65536 in
set_option maxHeartbeats 40000000 in
theorem rmo (l : Launch) (Z : State) (a0 : Array Value) (hw : ∀ d ∈ tables_1, d.before a0 Z = true) (ws : List Jvm.Cond) (n : Int32) (vA w1 w2 w3 w4 : Addr) (kA : ClassId) (h0 : Heap) (SV : Sta Z h0 "com/example/tersewire/tersewire/core/MessageType" "$VALUES" "[Lcom/example/tersewire/tersewire/core/MessageType;" (.ref vA)) (AV : Exa Z h0 vA "[Lcom/example/tersewire/tersewire/core/MessageType;") (VV : Arv Z h0 vA kA (.object "com/example/tersewire/tersewire/core/MessageType") 4 [.ref w1, .ref w2, .ref w3, .ref w4] .null) (F1 : Fld Z h0 w1 "com/example/tersewire/tersewire/core/MessageType" "code" "I" (.int (1 : Int32))) (F2 : Fld Z h0 w2 "com/example/tersewire/tersewire/core/MessageType" "code" "I" (.int (2 : Int32))) (F3 : Fld Z h0 w3 "com/example/tersewire/tersewire/core/MessageType" "code" "I" (.int (3 : Int32))) (F4 : Fld Z h0 w4 "com/example/tersewire/tersewire/core/MessageType" "code" "I" (.int (4 : Int32))) :
    Con l Z (⟨"com/example/tersewire/tersewire/core/MessageType", "ofCode", "(I)Lcom/example/tersewire/tersewire/core/MessageType;"⟩ : MethodName) prog_35_method_7_code 5 (some (.object "com/example/tersewire/tersewire/core/MessageType")) ws own_ro #[.int n] h0 (fun v h L => v = some (own_mt n w1 w2 w3 w4) ∧ L = [] ∧ Ext h0 h) := by
  refine con_of (plainFor_of_name pn_1) ?_
  intro p e s m below meth c T0 X0 hx hZ hby hml hown hret hnm hlk e0
  refine Endz.eq (ef_1 m n) ?_
  refine c_S (n := 3) (rest := []) (argsL := []) X0 hx hZ hown (rmv l Z a0 hw [] vA w1 w2 w3 w4 kA h0 SV AV VV) e0 (hw _ (List.mem_of_getElem? (i := 4) rfl)) (hw _ (List.mem_of_getElem? (i := 5) rfl)) (hw _ (List.mem_of_getElem? (i := 2) rfl)) (hw _ (List.mem_of_getElem? (i := 6) rfl)) (by decide) 0 (by decide) (by decide) (by decide) (by decide) (by rw [hml]; rfl) pd_2 rfl rfl (Nat.le_of_ble_eq_true rfl) (hb hby d1_0) rfl (fun v1 T1 L1 X1 hQ1 => ?_)
  obtain ⟨b, rfl, rfl, E1, V1⟩ := hQ1
  show Endz _ _ _ _ T1 (mkF m 3 #[.val (.int n), .unset, .unset, .unset, .unset] [(.ref b)])
  refine w_astoreN (Ls' := #[.val (.int n), .val (.ref b), .unset, .unset, .unset]) (n := 4) X1.here hx (hb hby d1_3) rfl rfl rfl ?_
  refine w_aloadN (n := 5) X1.here hx (hb hby d1_4) rfl rfl rfl ?_
  refine a_L (n := 6) X1 hx hZ rfl V1 (hb hby d1_5) rfl ?_
  refine w_istoreN (Ls' := #[.val (.int n), .val (.ref b), .val (.int (4 : Int32)), .unset, .unset]) (n := 7) X1.here hx (hb hby d1_6) rfl rfl ?_
  refine w_iconst (z := (0 : Int32)) (n := 8) X1.here hx (hb hby d1_7) rfl rfl ?_
  refine w_istoreN (Ls' := #[.val (.int n), .val (.ref b), .val (.int (4 : Int32)), .val (.int (0 : Int32)), .unset]) (n := 9) X1.here hx (hb hby d1_8) rfl rfl ?_
  refine w_iloadN (n := 10) X1.here hx (hb hby d1_9) rfl rfl ?_
  refine w_iloadN (n := 11) X1.here hx (hb hby d1_10) rfl rfl ?_
  refine w_icmpge (n1 := 37) (n2 := 14) X1.here hx (hb hby d1_11) (by decide) (by decide) rfl (fun hc11 => absurd (by decide : (0 : Int32) < 4) hc11) (fun hc11 => ?_)
  refine w_aloadN (n := 15) X1.here hx (hb hby d1_14) rfl rfl rfl ?_
  refine w_iloadN (n := 16) X1.here hx (hb hby d1_15) rfl rfl ?_
  refine l_A (n := 17) X1 hx hZ rfl V1 rfl (by decide) (by decide) rfl (hb hby d1_16) rfl ?_
  refine w_astore (Ls' := #[.val (.int n), .val (.ref b), .val (.int (4 : Int32)), .val (.int (0 : Int32)), .val (.ref w1)]) (n := 19) X1.here hx (hb hby d1_17) rfl rfl rfl ?_
  refine w_aload (n := 21) X1.here hx (hb hby d1_19) rfl rfl rfl ?_
  refine g_F (n := 24) X1 hx hZ hown (hw _ (List.mem_of_getElem? (i := 23) rfl)) rfl (F1.ext E1) (hb hby d1_21) rfl (fun T2 X2 e2 => ?_)
  refine w_iloadN (n := 25) X2.here hx (hb hby d1_24) rfl rfl ?_
  refine w_icmpne (n1 := 31) (n2 := 28) X2.here hx (hb hby d1_25) (by decide) (by decide) rfl (fun h1 => ?_) (fun h1 => ?_)
  · refine w_iinc (Ls' := #[.val (.int n), .val (.ref b), .val (.int (4 : Int32)), .val (.int (1 : Int32)), .val (.ref w1)]) (n := 34) X2.here hx (hb hby d1_31) rfl rfl rfl ?_
    refine w_goto (n := 9) X2.here hx (hb hby d1_34) (by decide) (by decide) ?_
    refine w_iloadN (n := 10) X2.here hx (hb hby d1_9) rfl rfl ?_
    refine w_iloadN (n := 11) X2.here hx (hb hby d1_10) rfl rfl ?_
    refine w_icmpge (n1 := 37) (n2 := 14) X2.here hx (hb hby d1_11) (by decide) (by decide) rfl (fun hc11 => absurd (by decide : (1 : Int32) < 4) hc11) (fun hc11 => ?_)
    refine w_aloadN (n := 15) X2.here hx (hb hby d1_14) rfl rfl rfl ?_
    refine w_iloadN (n := 16) X2.here hx (hb hby d1_15) rfl rfl ?_
    refine l_A (n := 17) X2 hx hZ e2 V1 rfl (by decide) (by decide) rfl (hb hby d1_16) rfl ?_
    refine w_astore (Ls' := #[.val (.int n), .val (.ref b), .val (.int (4 : Int32)), .val (.int (1 : Int32)), .val (.ref w2)]) (n := 19) X2.here hx (hb hby d1_17) rfl rfl rfl ?_
    refine w_aload (n := 21) X2.here hx (hb hby d1_19) rfl rfl rfl ?_
    refine g_F (n := 24) X2 hx hZ hown (hw _ (List.mem_of_getElem? (i := 23) rfl)) e2 (F2.ext E1) (hb hby d1_21) rfl (fun T3 X3 e3 => ?_)
    refine w_iloadN (n := 25) X3.here hx (hb hby d1_24) rfl rfl ?_
    refine w_icmpne (n1 := 31) (n2 := 28) X3.here hx (hb hby d1_25) (by decide) (by decide) rfl (fun h2 => ?_) (fun h2 => ?_)
    · refine w_iinc (Ls' := #[.val (.int n), .val (.ref b), .val (.int (4 : Int32)), .val (.int (2 : Int32)), .val (.ref w2)]) (n := 34) X3.here hx (hb hby d1_31) rfl rfl rfl ?_
      refine w_goto (n := 9) X3.here hx (hb hby d1_34) (by decide) (by decide) ?_
      refine w_iloadN (n := 10) X3.here hx (hb hby d1_9) rfl rfl ?_
      refine w_iloadN (n := 11) X3.here hx (hb hby d1_10) rfl rfl ?_
      refine w_icmpge (n1 := 37) (n2 := 14) X3.here hx (hb hby d1_11) (by decide) (by decide) rfl (fun hc11 => absurd (by decide : (2 : Int32) < 4) hc11) (fun hc11 => ?_)
      refine w_aloadN (n := 15) X3.here hx (hb hby d1_14) rfl rfl rfl ?_
      refine w_iloadN (n := 16) X3.here hx (hb hby d1_15) rfl rfl ?_
      refine l_A (n := 17) X3 hx hZ e3 V1 rfl (by decide) (by decide) rfl (hb hby d1_16) rfl ?_
      refine w_astore (Ls' := #[.val (.int n), .val (.ref b), .val (.int (4 : Int32)), .val (.int (2 : Int32)), .val (.ref w3)]) (n := 19) X3.here hx (hb hby d1_17) rfl rfl rfl ?_
      refine w_aload (n := 21) X3.here hx (hb hby d1_19) rfl rfl rfl ?_
      refine g_F (n := 24) X3 hx hZ hown (hw _ (List.mem_of_getElem? (i := 23) rfl)) e3 (F3.ext E1) (hb hby d1_21) rfl (fun T4 X4 e4 => ?_)
      refine w_iloadN (n := 25) X4.here hx (hb hby d1_24) rfl rfl ?_
      refine w_icmpne (n1 := 31) (n2 := 28) X4.here hx (hb hby d1_25) (by decide) (by decide) rfl (fun h3 => ?_) (fun h3 => ?_)
      · refine w_iinc (Ls' := #[.val (.int n), .val (.ref b), .val (.int (4 : Int32)), .val (.int (3 : Int32)), .val (.ref w3)]) (n := 34) X4.here hx (hb hby d1_31) rfl rfl rfl ?_
        refine w_goto (n := 9) X4.here hx (hb hby d1_34) (by decide) (by decide) ?_
        refine w_iloadN (n := 10) X4.here hx (hb hby d1_9) rfl rfl ?_
        refine w_iloadN (n := 11) X4.here hx (hb hby d1_10) rfl rfl ?_
        refine w_icmpge (n1 := 37) (n2 := 14) X4.here hx (hb hby d1_11) (by decide) (by decide) rfl (fun hc11 => absurd (by decide : (3 : Int32) < 4) hc11) (fun hc11 => ?_)
        refine w_aloadN (n := 15) X4.here hx (hb hby d1_14) rfl rfl rfl ?_
        refine w_iloadN (n := 16) X4.here hx (hb hby d1_15) rfl rfl ?_
        refine l_A (n := 17) X4 hx hZ e4 V1 rfl (by decide) (by decide) rfl (hb hby d1_16) rfl ?_
        refine w_astore (Ls' := #[.val (.int n), .val (.ref b), .val (.int (4 : Int32)), .val (.int (3 : Int32)), .val (.ref w4)]) (n := 19) X4.here hx (hb hby d1_17) rfl rfl rfl ?_
        refine w_aload (n := 21) X4.here hx (hb hby d1_19) rfl rfl rfl ?_
        refine g_F (n := 24) X4 hx hZ hown (hw _ (List.mem_of_getElem? (i := 23) rfl)) e4 (F4.ext E1) (hb hby d1_21) rfl (fun T5 X5 e5 => ?_)
        refine w_iloadN (n := 25) X5.here hx (hb hby d1_24) rfl rfl ?_
        refine w_icmpne (n1 := 31) (n2 := 28) X5.here hx (hb hby d1_25) (by decide) (by decide) rfl (fun h4 => ?_) (fun h4 => ?_)
        · refine w_iinc (Ls' := #[.val (.int n), .val (.ref b), .val (.int (4 : Int32)), .val (.int (4 : Int32)), .val (.ref w4)]) (n := 34) X5.here hx (hb hby d1_31) rfl rfl rfl ?_
          refine w_goto (n := 9) X5.here hx (hb hby d1_34) (by decide) (by decide) ?_
          refine w_iloadN (n := 10) X5.here hx (hb hby d1_9) rfl rfl ?_
          refine w_iloadN (n := 11) X5.here hx (hb hby d1_10) rfl rfl ?_
          refine w_icmpge (n1 := 37) (n2 := 14) X5.here hx (hb hby d1_11) (by decide) (by decide) rfl (fun hc11 => ?_) (fun hc11 => absurd (by decide : ¬ (4 : Int32) < 4) hc11)
          refine w_aconstNull (n := 38) X5.here hx (hb hby d1_37) rfl ?_
          exact fin_A X5 hx hlk e5 hret rfl rfl rfl (hb hby d1_38) (by decide) (by decide) ⟨by rw [own_mt, if_neg (fun q => h1 q.symm), if_neg (fun q => h2 q.symm), if_neg (fun q => h3 q.symm), if_neg (fun q => h4 q.symm)], rfl, E1⟩
        · refine w_aload (n := 30) X5.here hx (hb hby d1_28) rfl rfl rfl ?_
          exact fin_A X5 hx hlk e5 hret rfl rfl rfl (hb hby d1_30) (by decide) (by decide) ⟨by rw [← Classical.not_not.mp h4]; rfl, rfl, E1⟩
      · refine w_aload (n := 30) X4.here hx (hb hby d1_28) rfl rfl rfl ?_
        exact fin_A X4 hx hlk e4 hret rfl rfl rfl (hb hby d1_30) (by decide) (by decide) ⟨by rw [← Classical.not_not.mp h3]; rfl, rfl, E1⟩
    · refine w_aload (n := 30) X3.here hx (hb hby d1_28) rfl rfl rfl ?_
      exact fin_A X3 hx hlk e3 hret rfl rfl rfl (hb hby d1_30) (by decide) (by decide) ⟨by rw [← Classical.not_not.mp h2]; rfl, rfl, E1⟩
  · refine w_aload (n := 30) X2.here hx (hb hby d1_28) rfl rfl rfl ?_
    exact fin_A X2 hx hlk e2 hret rfl rfl rfl (hb hby d1_30) (by decide) (by decide) ⟨by rw [← Classical.not_not.mp h1]; rfl, rfl, E1⟩
set_option maxRecDepth 65536 in
set_option maxHeartbeats 40000000 in
theorem rmx (l : Launch) (Z : State) (a0 : Array Value) (hw : ∀ d ∈ tables_1, d.before a0 Z = true) (ws : List Jvm.Cond) (n : Int32) (w1 w2 w3 w4 : Addr) (h0 : Heap) (S1 : Sta Z h0 "com/example/tersewire/tersewire/core/MessageType" "CALL" "Lcom/example/tersewire/tersewire/core/MessageType;" (.ref w1)) (S2 : Sta Z h0 "com/example/tersewire/tersewire/core/MessageType" "REPLY" "Lcom/example/tersewire/tersewire/core/MessageType;" (.ref w2)) (S3 : Sta Z h0 "com/example/tersewire/tersewire/core/MessageType" "EXCEPTION" "Lcom/example/tersewire/tersewire/core/MessageType;" (.ref w3)) (S4 : Sta Z h0 "com/example/tersewire/tersewire/core/MessageType" "ONEWAY" "Lcom/example/tersewire/tersewire/core/MessageType;" (.ref w4)) :
    Con l Z (⟨"com/example/tersewire/tersewire/core/MessageTypeOfCodePinLaw", "expected", "(I)Lcom/example/tersewire/tersewire/core/MessageType;"⟩ : MethodName) method_2_code 1 (some (.object "com/example/tersewire/tersewire/core/MessageType")) ws own_rx #[.int n] h0 (fun v h L => v = some (own_mt n w1 w2 w3 w4) ∧ L = [] ∧ h = h0) := by
  refine con_of (plainFor_of_name pn_0) ?_
  intro p e s m below meth c T0 X0 hx hZ hby hml hown hret hnm hlk e0
  refine Endz.eq (ef_3 m n) ?_
  refine w_iloadN (n := 1) X0.here hx (hb hby d3_0) rfl rfl ?_
  refine w_iconst (z := (1 : Int32)) (n := 2) X0.here hx (hb hby d3_1) rfl rfl ?_
  refine w_icmpne (n1 := 9) (n2 := 5) X0.here hx (hb hby d3_2) (by decide) (by decide) rfl (fun h1 => ?_) (fun h1 => ?_)
  · refine w_iloadN (n := 10) X0.here hx (hb hby d3_9) rfl rfl ?_
    refine w_iconst (z := (2 : Int32)) (n := 11) X0.here hx (hb hby d3_10) rfl rfl ?_
    refine w_icmpne (n1 := 18) (n2 := 14) X0.here hx (hb hby d3_11) (by decide) (by decide) rfl (fun h2 => ?_) (fun h2 => ?_)
    · refine w_iloadN (n := 19) X0.here hx (hb hby d3_18) rfl rfl ?_
      refine w_iconst (z := (3 : Int32)) (n := 20) X0.here hx (hb hby d3_19) rfl rfl ?_
      refine w_icmpne (n1 := 27) (n2 := 23) X0.here hx (hb hby d3_20) (by decide) (by decide) rfl (fun h3 => ?_) (fun h3 => ?_)
      · refine w_iloadN (n := 28) X0.here hx (hb hby d3_27) rfl rfl ?_
        refine w_iconst (z := (4 : Int32)) (n := 29) X0.here hx (hb hby d3_28) rfl rfl ?_
        refine w_icmpne (n1 := 36) (n2 := 32) X0.here hx (hb hby d3_29) (by decide) (by decide) rfl (fun h4 => ?_) (fun h4 => ?_)
        · refine w_aconstNull (n := 37) X0.here hx (hb hby d3_36) rfl ?_
          exact fin_A X0 hx hlk e0 hret rfl rfl rfl (hb hby d3_37) (by decide) (by decide) ⟨by rw [own_mt, if_neg h1, if_neg h2, if_neg h3, if_neg h4], rfl, rfl⟩
        · refine g_S (n := 35) X0 hx hZ hown (hw _ (List.mem_of_getElem? (i := 31) rfl)) e0 S4 (hb hby d3_32) rfl (fun T1 X1 e1 => ?_)
          exact fin_A X1 hx hlk e1 hret rfl rfl rfl (hb hby d3_35) (by decide) (by decide) ⟨by rw [Classical.not_not.mp h4]; rfl, rfl, rfl⟩
      · refine g_S (n := 26) X0 hx hZ hown (hw _ (List.mem_of_getElem? (i := 30) rfl)) e0 S3 (hb hby d3_23) rfl (fun T2 X2 e2 => ?_)
        exact fin_A X2 hx hlk e2 hret rfl rfl rfl (hb hby d3_26) (by decide) (by decide) ⟨by rw [Classical.not_not.mp h3]; rfl, rfl, rfl⟩
    · refine g_S (n := 17) X0 hx hZ hown (hw _ (List.mem_of_getElem? (i := 29) rfl)) e0 S2 (hb hby d3_14) rfl (fun T3 X3 e3 => ?_)
      exact fin_A X3 hx hlk e3 hret rfl rfl rfl (hb hby d3_17) (by decide) (by decide) ⟨by rw [Classical.not_not.mp h2]; rfl, rfl, rfl⟩
  · refine g_S (n := 8) X0 hx hZ hown (hw _ (List.mem_of_getElem? (i := 32) rfl)) e0 S1 (hb hby d3_5) rfl (fun T4 X4 e4 => ?_)
    exact fin_A X4 hx hlk e4 hret rfl rfl rfl (hb hby d3_8) (by decide) (by decide) ⟨by rw [Classical.not_not.mp h1]; rfl, rfl, rfl⟩
set_option maxRecDepth 65536 in
set_option maxHeartbeats 40000000 in
theorem rm0 (l : Launch) (Z : State) (a0 : Array Value) (hw : ∀ d ∈ tables_1, d.before a0 Z = true) (ws : List Jvm.Cond) (i k : Int32) (vA w1 w2 w3 w4 : Addr) (kA : ClassId) (h0 : Heap) (SV : Sta Z h0 "com/example/tersewire/tersewire/core/MessageType" "$VALUES" "[Lcom/example/tersewire/tersewire/core/MessageType;" (.ref vA)) (AV : Exa Z h0 vA "[Lcom/example/tersewire/tersewire/core/MessageType;") (VV : Arv Z h0 vA kA (.object "com/example/tersewire/tersewire/core/MessageType") 4 [.ref w1, .ref w2, .ref w3, .ref w4] .null) (F1 : Fld Z h0 w1 "com/example/tersewire/tersewire/core/MessageType" "code" "I" (.int (1 : Int32))) (F2 : Fld Z h0 w2 "com/example/tersewire/tersewire/core/MessageType" "code" "I" (.int (2 : Int32))) (F3 : Fld Z h0 w3 "com/example/tersewire/tersewire/core/MessageType" "code" "I" (.int (3 : Int32))) (F4 : Fld Z h0 w4 "com/example/tersewire/tersewire/core/MessageType" "code" "I" (.int (4 : Int32))) (S1 : Sta Z h0 "com/example/tersewire/tersewire/core/MessageType" "CALL" "Lcom/example/tersewire/tersewire/core/MessageType;" (.ref w1)) (S2 : Sta Z h0 "com/example/tersewire/tersewire/core/MessageType" "REPLY" "Lcom/example/tersewire/tersewire/core/MessageType;" (.ref w2)) (S3 : Sta Z h0 "com/example/tersewire/tersewire/core/MessageType" "EXCEPTION" "Lcom/example/tersewire/tersewire/core/MessageType;" (.ref w3)) (S4 : Sta Z h0 "com/example/tersewire/tersewire/core/MessageType" "ONEWAY" "Lcom/example/tersewire/tersewire/core/MessageType;" (.ref w4)) :
    Con l Z x code maxLocals ret ws room_1 #[.int i, .int k] h0 (fun v _ L => v = some (.int 1) ∧ Fr h0.size L) := by
  refine con_of (plainFor_of_name pn_0) ?_
  intro p e s m below meth c T0 X0 hx hZ hby hml hown hret hnm hlk e0
  refine Endz.eq (ef_0 m i k) ?_
  refine w_iloadN (n := 1) X0.here hx (hb hby at_0) rfl rfl ?_
  refine w_bipush (z := (7 : Int32)) (n := 3) X0.here hx (hb hby at_1) rfl rfl ?_
  refine w_iand (n := 4) X0.here hx (hb hby at_3) rfl ?_
  refine w_iconst (z := (1 : Int32)) (n := 5) X0.here hx (hb hby at_4) rfl rfl ?_
  refine w_isub (n := 6) X0.here hx (hb hby at_5) rfl ?_
  refine w_istoreN (Ls' := #[.val (.int i), .val (.int k), .val (.int ((k &&& (7 : Int32)) - (1 : Int32))), .unset, .unset]) (n := 7) X0.here hx (hb hby at_6) rfl rfl ?_
  refine w_iloadN (n := 8) X0.here hx (hb hby at_7) rfl rfl ?_
  refine c_S (n := 11) (rest := []) (argsL := [.int i]) X0 hx hZ hown (rmo l Z a0 hw [] i vA w1 w2 w3 w4 kA h0 SV AV VV F1 F2 F3 F4) e0 (hw _ (List.mem_of_getElem? (i := 0) rfl)) (hw _ (List.mem_of_getElem? (i := 1) rfl)) (hw _ (List.mem_of_getElem? (i := 2) rfl)) (hw _ (List.mem_of_getElem? (i := 3) rfl)) (by decide) 0 (by decide) (by decide) (by decide) (by decide) (by rw [hml]; rfl) pd_1 rfl rfl (by decide) (hb hby at_8) rfl (fun v1 T1 L1 X1 hQ1 => ?_)
  obtain ⟨rfl, rfl, E1⟩ := hQ1
  have hr1 := own_mt_ref i w1 w2 w3 w4
  obtain ⟨r1, g1⟩ : ∃ r, own_mt i w1 w2 w3 w4 = r := ⟨_, rfl⟩
  rw [g1] at hr1 ⊢
  show Endz _ _ _ _ T1 (mkF m 11 #[.val (.int i), .val (.int k), .val (.int ((k &&& (7 : Int32)) - (1 : Int32))), .unset, .unset] [r1])
  refine w_astoreN (Ls' := #[.val (.int i), .val (.int k), .val (.int ((k &&& (7 : Int32)) - (1 : Int32))), .val r1, .unset]) (n := 12) X1.here hx (hb hby at_11) rfl hr1 (by rcases ref_cases hr1 with rfl | ⟨_, rfl⟩ <;> rfl) ?_
  refine w_iloadN (n := 13) X1.here hx (hb hby at_12) rfl rfl ?_
  refine c_S (n := 16) (rest := []) (argsL := [.int ((k &&& (7 : Int32)) - (1 : Int32))]) X1 hx hZ hown (rmo l Z a0 hw [] ((k &&& (7 : Int32)) - (1 : Int32)) vA w1 w2 w3 w4 kA _ (SV.ext E1) (AV.ext E1) (VV.ext E1) (F1.ext E1) (F2.ext E1) (F3.ext E1) (F4.ext E1)) rfl (hw _ (List.mem_of_getElem? (i := 0) rfl)) (hw _ (List.mem_of_getElem? (i := 1) rfl)) (hw _ (List.mem_of_getElem? (i := 2) rfl)) (hw _ (List.mem_of_getElem? (i := 3) rfl)) (by decide) 0 (by decide) (by decide) (by decide) (by decide) (by rw [hml]; rfl) pd_1 rfl rfl (by decide) (hb hby at_13) rfl (fun v2 T2 L2 X2 hQ2 => ?_)
  obtain ⟨rfl, rfl, E2'⟩ := hQ2
  have E2 := Ext.tr E1 E2'
  have hr2 := own_mt_ref ((k &&& (7 : Int32)) - (1 : Int32)) w1 w2 w3 w4
  obtain ⟨r2, g2⟩ : ∃ r, own_mt ((k &&& (7 : Int32)) - (1 : Int32)) w1 w2 w3 w4 = r := ⟨_, rfl⟩
  rw [g2] at hr2 ⊢
  show Endz _ _ _ _ T2 (mkF m 16 #[.val (.int i), .val (.int k), .val (.int ((k &&& (7 : Int32)) - (1 : Int32))), .val r1, .unset] [r2])
  refine w_astore (Ls' := #[.val (.int i), .val (.int k), .val (.int ((k &&& (7 : Int32)) - (1 : Int32))), .val r1, .val r2]) (n := 18) X2.here hx (hb hby at_16) rfl hr2 (by rcases ref_cases hr2 with rfl | ⟨_, rfl⟩ <;> rfl) ?_
  refine w_aloadN (n := 19) X2.here hx (hb hby at_18) rfl rfl hr1 ?_
  refine w_iloadN (n := 20) X2.here hx (hb hby at_19) rfl rfl ?_
  refine c_S (n := 23) (rest := [r1]) (argsL := [.int i]) X2 hx hZ hown (rmx l Z a0 hw [] i w1 w2 w3 w4 _ (S1.ext E2) (S2.ext E2) (S3.ext E2) (S4.ext E2)) rfl (hw _ (List.mem_of_getElem? (i := 25) rfl)) (hw _ (List.mem_of_getElem? (i := 26) rfl)) (hw _ (List.mem_of_getElem? (i := 27) rfl)) (hw _ (List.mem_of_getElem? (i := 28) rfl)) (by decide) 1 (by decide) (by decide) (by decide) (by decide) (by rw [hml]; rfl) pd_1 rfl rfl (by rcases ref_cases hr1 with rfl | ⟨_, rfl⟩ <;> exact Nat.le_of_ble_eq_true rfl) (hb hby at_20) rfl (fun v3 T3 L3 X3 hQ3 => ?_)
  obtain ⟨rfl, rfl, e3⟩ := hQ3
  rw [g1]
  show Endz _ _ _ _ T3 (mkF m 23 #[.val (.int i), .val (.int k), .val (.int ((k &&& (7 : Int32)) - (1 : Int32))), .val r1, .val r2] [r1, r1])
  refine w_acmpne (n1 := 39) (n2 := 26) X3.here hx hr1 hr1 (hb hby at_23) (by decide) (by decide) rfl (fun hc23 => absurd rfl hc23) (fun hc23 => ?_)
  refine w_aload (n := 28) X3.here hx (hb hby at_26) rfl rfl hr2 ?_
  refine w_iloadN (n := 29) X3.here hx (hb hby at_28) rfl rfl ?_
  refine c_S (n := 32) (rest := [r2]) (argsL := [.int ((k &&& (7 : Int32)) - (1 : Int32))]) X3 hx hZ hown (rmx l Z a0 hw [] ((k &&& (7 : Int32)) - (1 : Int32)) w1 w2 w3 w4 _ (S1.ext E2) (S2.ext E2) (S3.ext E2) (S4.ext E2)) e3 (hw _ (List.mem_of_getElem? (i := 25) rfl)) (hw _ (List.mem_of_getElem? (i := 26) rfl)) (hw _ (List.mem_of_getElem? (i := 27) rfl)) (hw _ (List.mem_of_getElem? (i := 28) rfl)) (by decide) 1 (by decide) (by decide) (by decide) (by decide) (by rw [hml]; rfl) pd_1 rfl rfl (by rcases ref_cases hr2 with rfl | ⟨_, rfl⟩ <;> exact Nat.le_of_ble_eq_true rfl) (hb hby at_29) rfl (fun v4 T4 L4 X4 hQ4 => ?_)
  obtain ⟨rfl, rfl, e4⟩ := hQ4
  rw [g2]
  show Endz _ _ _ _ T4 (mkF m 32 #[.val (.int i), .val (.int k), .val (.int ((k &&& (7 : Int32)) - (1 : Int32))), .val r1, .val r2] [r2, r2])
  refine w_acmpne (n1 := 39) (n2 := 35) X4.here hx hr2 hr2 (hb hby at_32) (by decide) (by decide) rfl (fun hc32 => absurd rfl hc32) (fun hc32 => ?_)
  refine w_iconst (z := (1 : Int32)) (n := 36) X4.here hx (hb hby at_35) rfl rfl ?_
  refine w_goto (n := 40) X4.here hx (hb hby at_36) (by decide) (by decide) ?_
  exact fin_Z X4 hx hlk e4 hret (Or.inl rfl) (hb hby at_40) (by decide) (by decide) ⟨rfl, Fr.nil _⟩
set_option maxRecDepth 65536 in
set_option maxHeartbeats 40000000 in
theorem comes_1 {Post : Tables → Env → Array Value → State → Outcome → State → Prop} (hpost : ∀ tb e args s v u, (limb_1_1.after args s (.returned v) u = true ∧ limb_1_2.after args s (.returned v) u = true ∧ True) → FrameEnd s (.returned v) u (Jvm.fieldLocs frame_1_writes args s ++ Jvm.arrayLocs frame_1_arrays args s ++ Jvm.staticLocs frame_1_statics s) 16 128 → Post tb e args s (.returned v) u) :
    ArmFor flags0 classFile x code maxLocals ret World_1 tables_1 room_1 Calls_1 rest_1 Pre_1 Post := by
  intro l hfl _ _ p e ha hc hk s m args below hf hA hF happ hP
  obtain ⟨hcalls, hrest, hpre⟩ := hP
  obtain ⟨-, -, -, hnamed, -, -, -, hat⟩ := (Spec.applies_iff hf).mp happ
  obtain ⟨hg, hn⟩ := and_e (Cond.before_iff.mp (show (Jvm.Cond.and given_1 narrow_1).before args s = true from hpre))
  obtain ⟨q1, q2⟩ := and_e hg
  obtain ⟨q3, q4⟩ := and_e q2
  obtain ⟨w0, w1, rfl⟩ : ∃ w0 w1 : Value, args = #[w0, w1] := by
    have hs : args.size = 2 := by simpa [Cond.value, given_1] using q1
    obtain ⟨L⟩ := args
    match L, hs with
    | [w0, w1], _ => exact ⟨w0, w1, rfl⟩
  have hw := fun d (hd : d ∈ tables_1) => atoms_spec (ws := Jvm.Cond.code x code maxLocals ret :: tables_1) hat d (List.mem_cons_of_mem _ hd)
  have hfit : Fit s := fun {y c} hc i hi => by
    obtain ⟨ha, rfl⟩ := Array.getElem?_eq_some_iff.mp hc
    have q := List.all_eq_true.mp ((Array.all_eq_true_iff_forall_mem.mp hF) _ (Array.getElem_mem ha)) i (List.mem_range.mpr hi)
    simpa [Array.getElem?_eq_getElem hi] using q
  obtain ⟨i0, ei0⟩ := is_v q3
  obtain rfl : w0 = (.int i0) := Option.some.inj ei0
  obtain ⟨i1, ei1⟩ := is_v q4
  obtain rfl : w1 = (.int i1) := Option.some.inj ei1
  obtain ⟨q101, q102⟩ := and_e hn
  obtain ⟨q103, q104⟩ := and_e q102
  obtain ⟨q105, q106⟩ := and_e q104
  obtain ⟨q107, q108⟩ := and_e q106
  obtain ⟨q109, q110⟩ := and_e q108
  obtain ⟨q111, q112⟩ := and_e q110
  obtain ⟨q113, q114⟩ := and_e q112
  obtain ⟨q115, q116⟩ := and_e q114
  obtain ⟨q117, q118⟩ := and_e q116
  obtain ⟨q119, q120⟩ := and_e q118
  obtain ⟨q121, q122⟩ := and_e q120
  obtain ⟨q123, q124⟩ := and_e q122
  obtain ⟨q125, q126⟩ := and_e q124
  obtain ⟨q127, q128⟩ := and_e q126
  obtain ⟨vA, evA, AV, SV⟩ := sta_v q103 (hw _ (List.mem_of_getElem? (i := 2) rfl)) (hw _ (List.mem_of_getElem? (i := 8) rfl))
  obtain ⟨a1, ev1, A1, S1⟩ := sta_v q107 (hw _ (List.mem_of_getElem? (i := 2) rfl)) (hw _ (List.mem_of_getElem? (i := 16) rfl))
  have F1 := fldi_v ev1 q123
  obtain ⟨a2, ev2, A2, S2⟩ := sta_v q111 (hw _ (List.mem_of_getElem? (i := 2) rfl)) (hw _ (List.mem_of_getElem? (i := 17) rfl))
  have F2 := fldi_v ev2 q125
  obtain ⟨a3, ev3, A3, S3⟩ := sta_v q115 (hw _ (List.mem_of_getElem? (i := 2) rfl)) (hw _ (List.mem_of_getElem? (i := 18) rfl))
  have F3 := fldi_v ev3 q127
  obtain ⟨a4, ev4, A4, S4⟩ := sta_v q119 (hw _ (List.mem_of_getElem? (i := 2) rfl)) (hw _ (List.mem_of_getElem? (i := 19) rfl))
  have F4 := fldi_v ev4 q128
  obtain ⟨cA, arA⟩ := Arr.start evA q101
  obtain ⟨lA, zA⟩ := len_is evA arA.1 q105
  have el1 : cA.slots[0]? = some (.ref a1) := elem_is evA arA.1 ev1 rfl q109
  have el2 : cA.slots[1]? = some (.ref a2) := elem_is evA arA.1 ev2 rfl q113
  have el3 : cA.slots[2]? = some (.ref a3) := elem_is evA arA.1 ev3 rfl q117
  have el4 : cA.slots[3]? = some (.ref a4) := elem_is evA arA.1 ev4 rfl q121
  have VV : Arv s s.heap vA cA.cls (.object "com/example/tersewire/tersewire/core/MessageType") 4 [.ref a1, .ref a2, .ref a3, .ref a4] .null := Arv.start hfit arA lA zA (by decide) rfl ⟨el1, el2, el3, el4, trivial⟩
  obtain ⟨n, o, h1, h2, h3, _, L, rfl, ⟨rfl, N⟩, hq⟩ := rm0 l s _ hw tables_1 i0 i1 vA a1 a2 a3 a4 cA.cls s.heap SV AV VV F1 F2 F3 F4 S1 S2 S3 S4 p e ha hc hk s m _ below hf ((Spec.applies_iff_loose hf).mp happ).1 ⟨rfl, State.Warmed39.refl s, rfl⟩ trivial
  exact ⟨n, _, h1, h2, h3, hpost _ _ _ _ _ _ ⟨Cond.after_iff.mpr rfl, Cond.after_iff.mpr (eq_i res_at (Term.int_eval (1)) rfl), trivial⟩ ⟨hq.1, hq.2.1, (hq.2.2.sift fun y hy => Or.inr (N y hy)).mono (by decide) (by decide)⟩⟩
theorem main_1_1 : Claimed_1_1 := comes_1 fun _ _ _ _ _ _ h hF => ⟨h.1, hF⟩
theorem main_1_2 : Claimed_1_2 := comes_1 fun _ _ _ _ _ _ h hF => ⟨h.2.1, hF⟩
end Jvm.Pilot.@@N@@
namespace Jvm.Pilot.@@N@@
open Jvm Jvm.ClassFile Sem Op Lib Jvm.Free Jvm.Stand Jvm.Pilot.@@N@@.Jvm.D
/-! MADE BY PROGRAM (witnessworld.py) out of the Statement's table words and the real class files: 13 classes; the members and pool entries that the words name. The judged class is class 1, her method 2. -/
namespace start1
open Jvm.ClassFile
def u (s : String) : CpInfo := .utf8 (stringToUtf16 s)
/-- a pool by its gaps: so many unusable entries, then the entry; so many at the end -/
def gap : Nat → List CpInfo → List CpInfo
  | 0, r => r
  | n + 1, r => .unusable :: gap n r
def poolList (es : List (Nat × CpInfo)) (last : Nat) : List CpInfo := es.foldr (fun e r => gap e.1 (e.2 :: r)) (gap last [])
def pool (es : List (Nat × CpInfo)) (last : Nat) : Array CpInfo := ⟨poolList es last⟩
def fileOf (pool : Array CpInfo) (this : Nat) (attrs : Array Attribute := #[]) (ms : Array MethodInfo := #[]) (fl : Nat := 33) (sup : Nat := 0) (ifs : Array Nat := #[]) (fds : Array FieldInfo := #[]) : ClassFile where
  minorVersion := 0
  majorVersion := 65
  constantPool := pool
  accessFlags := fl
  thisClass := this
  superClass := sup
  interfaces := ifs
  fields := fds
  methods := ms
  attributes := attrs
def plain (name : String) (sup : Option ClassId) : Class where
  name := name
  kind := .ordinary
  loader := none
  accessFlags := 33
  super := sup
  interfaces := #[]
  cf := none
  fields := #[]
  methods := #[]
  instanceTypes := #[]
  staticTypes := #[]
  resolved := #[]
  callSites := []
  init := .initialized
  statics := none
  mirror := none

def pool0 : Array CpInfo := pool [(5, u "<init>"), (0, u "()V"), (1, .class_ 10), (1, u "java/lang/Object"), (85, u "clone"), (0, u "()Ljava/lang/Object;")] 26

def k0m0 : Method := { name := "<init>", desc := "()V", sig := { parameters := [], returnType := none }, accessFlags := 1, code := none }
def k0m1 : Method := { name := "clone", desc := "()Ljava/lang/Object;", sig := { parameters := [], returnType := some (.object "java/lang/Object") }, accessFlags := 260, code := none }
/-- java/lang/Object -/
def k0 : Class := { plain "java/lang/Object" none with
  accessFlags := 33
  interfaces := #[]
  cf := some (fileOf pool0 8 #[] #[{ accessFlags := 1, nameIndex := 5, descriptorIndex := 6, attributes := #[] }, { accessFlags := 260, nameIndex := 96, descriptorIndex := 97, attributes := #[] }] 33 0 #[] #[])
  fields := #[]
  methods := #[k0m0, k0m1]
  instanceTypes := #[]
  staticTypes := #[]
  resolved := Array.replicate 124 none
  statics := none }

def pool1 : Array CpInfo := pool [(2, .class_ 4), (1, u "java/lang/Object"), (0, u "<init>"), (0, u "()V"), (0, .fieldref 8 9), (0, .class_ 10), (0, .nameAndType 11 12), (0, u "com/example/tersewire/tersewire/core/MessageType"), (0, u "CALL"), (0, u "Lcom/example/tersewire/tersewire/core/MessageType;"), (0, .fieldref 8 14), (0, .nameAndType 15 12), (0, u "REPLY"), (0, .fieldref 8 17), (0, .nameAndType 18 12), (0, u "EXCEPTION"), (0, .fieldref 8 20), (0, .nameAndType 21 12), (0, u "ONEWAY"), (0, .methodref 8 23), (0, .nameAndType 24 25), (0, u "ofCode"), (0, u "(I)Lcom/example/tersewire/tersewire/core/MessageType;"), (0, .methodref 27 28), (0, .class_ 29), (0, .nameAndType 30 25), (0, u "com/example/tersewire/tersewire/core/MessageTypeOfCodePinLaw"), (0, u "expected"), (3, u "law"), (0, u "(II)Z")] 2

def k1m0 : Method := { name := "<init>", desc := "()V", sig := { parameters := [], returnType := none }, accessFlags := 2, code := none }
def k1c1 : Code := { maxStack := 2, maxLocals := 1, code := method_2_code, exceptionTable := #[], attributes := #[] }
def k1m1 : Method := { name := "expected", desc := "(I)Lcom/example/tersewire/tersewire/core/MessageType;", sig := { parameters := [.int], returnType := some (.object "com/example/tersewire/tersewire/core/MessageType") }, accessFlags := 10, code := some k1c1 }
def k1c2 : Code := { maxStack := 2, maxLocals := 5, code := code, exceptionTable := #[], attributes := #[] }
def k1m2 : Method := { name := "law", desc := "(II)Z", sig := { parameters := [.int, .int], returnType := some .boolean }, accessFlags := 9, code := some k1c2 }
/-- com/example/tersewire/tersewire/core/MessageTypeOfCodePinLaw -/
def k1 : Class := { plain "com/example/tersewire/tersewire/core/MessageTypeOfCodePinLaw" (some 0) with
  accessFlags := 49
  interfaces := #[]
  cf := some (fileOf pool1 27 #[] #[{ accessFlags := 2, nameIndex := 5, descriptorIndex := 6, attributes := #[] }, { accessFlags := 10, nameIndex := 30, descriptorIndex := 25, attributes := #[] }, { accessFlags := 9, nameIndex := 34, descriptorIndex := 35, attributes := #[] }] 49 2 #[] #[])
  fields := #[]
  methods := #[k1m0, k1m1, k1m2]
  instanceTypes := #[]
  staticTypes := #[]
  resolved := Array.replicate 38 none
  statics := none }

def pool2 : Array CpInfo := pool [(1, .class_ 2), (0, u "java/lang/constant/Constable"), (0, .class_ 4), (0, u "java/lang/Object")] 6

/-- java/lang/constant/Constable -/
def k2 : Class := { plain "java/lang/constant/Constable" (some 0) with
  accessFlags := 1537
  interfaces := #[]
  cf := some (fileOf pool2 1 #[] #[] 1537 3 #[] #[])
  fields := #[]
  methods := #[]
  instanceTypes := #[]
  staticTypes := #[]
  resolved := Array.replicate 11 none
  statics := none }

def pool3 : Array CpInfo := pool [(1, .class_ 2), (0, u "java/lang/Comparable"), (0, .class_ 4), (0, u "java/lang/Object")] 7

/-- java/lang/Comparable -/
def k3 : Class := { plain "java/lang/Comparable" (some 0) with
  accessFlags := 1537
  interfaces := #[]
  cf := some (fileOf pool3 1 #[] #[] 1537 3 #[] #[])
  fields := #[]
  methods := #[]
  instanceTypes := #[]
  staticTypes := #[]
  resolved := Array.replicate 12 none
  statics := none }

def pool4 : Array CpInfo := pool [(1, .class_ 2), (0, u "java/io/Serializable"), (0, .class_ 4), (0, u "java/lang/Object")] 2

/-- java/io/Serializable -/
def k4 : Class := { plain "java/io/Serializable" (some 0) with
  accessFlags := 1537
  interfaces := #[]
  cf := some (fileOf pool4 1 #[] #[] 1537 3 #[] #[])
  fields := #[]
  methods := #[]
  instanceTypes := #[]
  staticTypes := #[]
  resolved := Array.replicate 7 none
  statics := none }

def pool5 : Array CpInfo := pool [(2, .class_ 4), (1, u "java/lang/Enum"), (0, u "name"), (0, u "Ljava/lang/String;"), (2, u "ordinal"), (0, u "I"), (1, .class_ 14), (1, u "java/lang/Object"), (4, u "hash"), (86, .class_ 108), (1, u "java/lang/Enum$EnumDesc"), (2, .class_ 112), (0, u "java/lang/constant/Constable"), (0, .class_ 114), (0, u "java/lang/Comparable"), (0, .class_ 116), (0, u "java/io/Serializable")] 87

/-- java/lang/Enum -/
def k5 : Class := { plain "java/lang/Enum" (some 0) with
  accessFlags := 1057
  interfaces := #[2, 3, 4]
  cf := some (fileOf pool5 2 #[.nestMembers #[106]] #[] 1057 12 #[111, 113, 115] #[{ accessFlags := 18, nameIndex := 5, descriptorIndex := 6, attributes := #[] }, { accessFlags := 18, nameIndex := 9, descriptorIndex := 10, attributes := #[] }, { accessFlags := 2, nameIndex := 19, descriptorIndex := 10, attributes := #[] }])
  fields := #[{ name := "name", type := (.object "java/lang/String"), accessFlags := 18, slot := 0, constantValue := 0 }, { name := "ordinal", type := .int, accessFlags := 18, slot := 1, constantValue := 0 }, { name := "hash", type := .int, accessFlags := 2, slot := 2, constantValue := 0 }]
  methods := #[]
  instanceTypes := #[(.object "java/lang/String"), .int, .int]
  staticTypes := #[]
  resolved := Array.replicate 204 none
  statics := none }

def pool6 : Array CpInfo := pool [(1, .class_ 2), (0, u "com/example/tersewire/tersewire/core/MessageType"), (2, u "CALL"), (0, u "Lcom/example/tersewire/tersewire/core/MessageType;"), (2, u "REPLY"), (2, u "EXCEPTION"), (2, u "ONEWAY"), (0, .fieldref 1 17), (0, .nameAndType 18 19), (0, u "$VALUES"), (0, u "[Lcom/example/tersewire/tersewire/core/MessageType;"), (0, .methodref 21 22), (0, .class_ 19), (0, .nameAndType 23 24), (0, u "clone"), (0, u "()Ljava/lang/Object;"), (1, .class_ 28), (1, u "java/lang/Enum"), (8, u "typeName"), (0, u "Ljava/lang/String;"), (0, .fieldref 1 40), (0, .nameAndType 41 42), (0, u "code"), (0, u "I"), (0, .methodref 1 44), (0, .nameAndType 45 46), (0, u "values"), (0, u "()[Lcom/example/tersewire/tersewire/core/MessageType;"), (33, u "ofCode"), (0, u "(I)Lcom/example/tersewire/tersewire/core/MessageType;")] 5

def k6c0 : Code := { maxStack := 1, maxLocals := 0, code := prog_35_method_1_code, exceptionTable := #[], attributes := #[] }
def k6m0 : Method := { name := "values", desc := "()[Lcom/example/tersewire/tersewire/core/MessageType;", sig := { parameters := [], returnType := some (.array (.object "com/example/tersewire/tersewire/core/MessageType")) }, accessFlags := 9, code := some k6c0 }
def k6c1 : Code := { maxStack := 2, maxLocals := 5, code := prog_35_method_7_code, exceptionTable := #[], attributes := #[] }
def k6m1 : Method := { name := "ofCode", desc := "(I)Lcom/example/tersewire/tersewire/core/MessageType;", sig := { parameters := [.int], returnType := some (.object "com/example/tersewire/tersewire/core/MessageType") }, accessFlags := 9, code := some k6c1 }
/-- com/example/tersewire/tersewire/core/MessageType -/
def k6 : Class := { plain "com/example/tersewire/tersewire/core/MessageType" (some 5) with
  accessFlags := 16433
  interfaces := #[]
  cf := some (fileOf pool6 1 #[] #[{ accessFlags := 9, nameIndex := 45, descriptorIndex := 46, attributes := #[] }, { accessFlags := 9, nameIndex := 80, descriptorIndex := 81, attributes := #[] }] 16433 26 #[] #[{ accessFlags := 16409, nameIndex := 5, descriptorIndex := 6, attributes := #[] }, { accessFlags := 16409, nameIndex := 9, descriptorIndex := 6, attributes := #[] }, { accessFlags := 16409, nameIndex := 12, descriptorIndex := 6, attributes := #[] }, { accessFlags := 16409, nameIndex := 15, descriptorIndex := 6, attributes := #[] }, { accessFlags := 18, nameIndex := 37, descriptorIndex := 38, attributes := #[] }, { accessFlags := 18, nameIndex := 41, descriptorIndex := 42, attributes := #[] }, { accessFlags := 4122, nameIndex := 18, descriptorIndex := 19, attributes := #[] }])
  fields := #[{ name := "CALL", type := (.object "com/example/tersewire/tersewire/core/MessageType"), accessFlags := 16409, slot := 0, constantValue := 0 }, { name := "REPLY", type := (.object "com/example/tersewire/tersewire/core/MessageType"), accessFlags := 16409, slot := 1, constantValue := 0 }, { name := "EXCEPTION", type := (.object "com/example/tersewire/tersewire/core/MessageType"), accessFlags := 16409, slot := 2, constantValue := 0 }, { name := "ONEWAY", type := (.object "com/example/tersewire/tersewire/core/MessageType"), accessFlags := 16409, slot := 3, constantValue := 0 }, { name := "typeName", type := (.object "java/lang/String"), accessFlags := 18, slot := 3, constantValue := 0 }, { name := "code", type := .int, accessFlags := 18, slot := 4, constantValue := 0 }, { name := "$VALUES", type := (.array (.object "com/example/tersewire/tersewire/core/MessageType")), accessFlags := 4122, slot := 4, constantValue := 0 }]
  methods := #[k6m0, k6m1]
  instanceTypes := #[(.object "java/lang/String"), .int, .int, (.object "java/lang/String"), .int]
  staticTypes := #[(.object "com/example/tersewire/tersewire/core/MessageType"), (.object "com/example/tersewire/tersewire/core/MessageType"), (.object "com/example/tersewire/tersewire/core/MessageType"), (.object "com/example/tersewire/tersewire/core/MessageType"), (.array (.object "com/example/tersewire/tersewire/core/MessageType"))]
  resolved := Array.replicate 87 none
  statics := some 0 }

def pool7 : Array CpInfo := pool [(1, .class_ 2), (0, u "java/lang/Cloneable"), (0, .class_ 4), (0, u "java/lang/Object")] 2

/-- java/lang/Cloneable -/
def k7 : Class := { plain "java/lang/Cloneable" (some 0) with
  accessFlags := 1537
  interfaces := #[]
  cf := some (fileOf pool7 1 #[] #[] 1537 3 #[] #[])
  fields := #[]
  methods := #[]
  instanceTypes := #[]
  staticTypes := #[]
  resolved := Array.replicate 7 none
  statics := none }

/-- the primitive byte -/
def k8 : Class := { plain "byte" none with kind := .primitive 'B', accessFlags := 0x411 }
/-- [B -/
def k9 : Class := { plain "[B" (some 0) with kind := .array 8 .byte, interfaces := #[7, 4], accessFlags := 1041 }

/-- the primitive int -/
def k10 : Class := { plain "int" none with kind := .primitive 'I', accessFlags := 0x411 }
/-- [I -/
def k11 : Class := { plain "[I" (some 0) with kind := .array 10 .int, interfaces := #[7, 4], accessFlags := 1041 }

/-- [Lcom/example/tersewire/tersewire/core/MessageType; -/
def k12 : Class := { plain "[Lcom/example/tersewire/tersewire/core/MessageType;" (some 0) with kind := .array 6 (.object "com/example/tersewire/tersewire/core/MessageType"), interfaces := #[7, 4], accessFlags := 1041 }

def heap : Heap := #[{ cls := 6, slots := #[.ref 2, .ref 3, .ref 4, .ref 5, .ref 1], vm := .statics 6 },
  { cls := 12, slots := #[.ref 2, .ref 3, .ref 4, .ref 5], vm := .none },
  { cls := 6, slots := #[.null, .int 0, .int 0, .null, .int 1], vm := .none },
  { cls := 6, slots := #[.null, .int 1, .int 0, .null, .int 2], vm := .none },
  { cls := 6, slots := #[.null, .int 2, .int 0, .null, .int 3], vm := .none },
  { cls := 6, slots := #[.null, .int 3, .int 0, .null, .int 4], vm := .none }]
def classes : Array Class := #[k0, k1, k2, k3, k4, k5, k6, k7, k8, k9, k10, k11, k12]
def interned : List (Array UInt16 × Addr) := []
def slotsUsed : Nat := 29
def theMethod : MethodId := ⟨1, 2⟩
def args0 : Array Value := #[.int 3, .int 5]
def aboutOver (below : List Frame) : State where
  vm := { classes := classes, interned := interned.toArray }
  heap := heap
  slotsUsed := slotsUsed
  threads := #[{ frames := .invoking theMethod args0 :: below }]
def below0 : List Frame := [.native { method := ⟨0, 0⟩, args := #[] }]
def about1 : State := aboutOver below0
def p0 : Program := .bare "" "" ""
def e0 : Env := launch0.env 0 0 0
theorem w_frames : about1.frames = Frame.invoking theMethod args0 :: below0 := rfl
set_option maxRecDepth 65536 in
theorem w_args : argsFit about1.vm theMethod args0 = true := by decide +kernel
set_option maxRecDepth 65536 in
theorem w_heap : heapFits about1 = true := by decide +kernel
set_option maxRecDepth 65536 in
theorem w_runnable : about1.curStatus? = some .runnable := by decide +kernel
set_option maxRecDepth 65536 in
theorem w_alone : about1.alone = true := by decide +kernel
set_option maxRecDepth 65536 in
theorem w_named : about1.methodNamed? x = some theMethod := by decide +kernel
set_option maxRecDepth 65536 in
theorem w_hears : about1.hears theMethod below0 = true := by decide +kernel
set_option maxRecDepth 65536 in
theorem w_ripe : about1.ripe theMethod args0 below0 = true := by decide +kernel
theorem w_running : about1.status = .running := rfl
set_option maxRecDepth 65536 in
theorem w_room : about1.hasRoom e0.platform room_1 = true :=
  launch0.hasRoom_least _ room_1 (by decide +kernel) (by decide +kernel) (by decide +kernel) (by decide +kernel) (by decide +kernel) (by decide +kernel)
theorem allAtoms_all (ts : List Jvm.Cond) (a : Array Jvm.Value) (st : Jvm.State) : (allAtoms ts).before a st = ts.all (fun c => c.before a st) := by
  induction ts with
  | nil => rfl
  | cons c t ih =>
    show (Jvm.Cond.and c (allAtoms t)).before a st = _
    rw [Jvm.Cond.before_and, ih, List.all_cons]
def words1 : List Jvm.Cond := Jvm.Cond.code x code maxLocals ret :: tables_1
/-- a 'code' word, met by the world's own term for the bytes: nothing is compared byte by byte -/
theorem code_word {y : MethodName} {bytes : ByteArray} {mx : Nat} {rt : Option FieldType} {a : Array Value} {s : State} {m : MethodId} {meth : Method} {c : Code} (h1 : s.methodNamed? y = some m) (h2 : s.vm.method? m = some meth) (h3 : meth.code = some c) (h4 : c.code = bytes)
    (h5 : (c.maxLocals == mx && c.exceptionTable.isEmpty && decide (c.maxStack ≤ mostOperands) && decide (meth.sig.returnType = rt) && !meth.locks && decide (parseMethodDescriptor y.desc = some meth.sig)) = true) : (Jvm.Cond.code y bytes mx rt).before a s = true := by
  simp only [Bool.and_eq_true, beq_iff_eq, Bool.not_eq_true', decide_eq_true_eq] at h5
  obtain ⟨⟨⟨⟨⟨g1, g2⟩, g3⟩, g4⟩, g5⟩, g6⟩ := h5
  simp [Cond.before, Cond.holds, Cond.value, h1, h2, h3, h4, g1, g2, g3, g4, g5, g6]
def isCode : Jvm.Cond → Bool
  | .code _ _ _ _ => true
  | _ => false
theorem all_split {L : List Jvm.Cond} {P : Jvm.Cond → Bool} (h1 : L.all (fun c => isCode c || P c) = true) (h2 : ∀ c ∈ L.filter isCode, P c = true) : L.all P = true := by
  refine List.all_eq_true.mpr fun c hc => ?_
  have h := List.all_eq_true.mp h1 c hc
  rcases Bool.eq_false_or_eq_true (isCode c) with hi | hi
  · exact h2 c (List.mem_filter.mpr ⟨hc, hi⟩)
  · simpa [hi] using h
set_option maxRecDepth 65536 in
theorem w_c0 : (Jvm.Cond.code x code maxLocals ret).before args0 about1 = true := code_word (m := ⟨1, 2⟩) (meth := k1m2) (c := k1c2) (by decide +kernel) rfl rfl rfl (by decide +kernel)
set_option maxRecDepth 65536 in
theorem w_c1 : (Jvm.Cond.code ({ cls := "com/example/tersewire/tersewire/core/MessageType", name := "ofCode", desc := "(I)Lcom/example/tersewire/tersewire/core/MessageType;" } : Jvm.MethodName) prog_35_method_7_code (5 : Nat) (Option.some (Jvm.ClassFile.FieldType.object "com/example/tersewire/tersewire/core/MessageType"))).before args0 about1 = true := code_word (m := ⟨6, 1⟩) (meth := k6m1) (c := k6c1) (by decide +kernel) rfl rfl rfl (by decide +kernel)
set_option maxRecDepth 65536 in
theorem w_c2 : (Jvm.Cond.code ({ cls := "com/example/tersewire/tersewire/core/MessageType", name := "values", desc := "()[Lcom/example/tersewire/tersewire/core/MessageType;" } : Jvm.MethodName) prog_35_method_1_code (0 : Nat) (Option.some (Jvm.ClassFile.FieldType.array (Jvm.ClassFile.FieldType.object "com/example/tersewire/tersewire/core/MessageType")))).before args0 about1 = true := code_word (m := ⟨6, 0⟩) (meth := k6m0) (c := k6c0) (by decide +kernel) rfl rfl rfl (by decide +kernel)
set_option maxRecDepth 65536 in
theorem w_c3 : (Jvm.Cond.code ({ cls := "com/example/tersewire/tersewire/core/MessageTypeOfCodePinLaw", name := "expected", desc := "(I)Lcom/example/tersewire/tersewire/core/MessageType;" } : Jvm.MethodName) method_2_code (1 : Nat) (Option.some (Jvm.ClassFile.FieldType.object "com/example/tersewire/tersewire/core/MessageType"))).before args0 about1 = true := code_word (m := ⟨1, 1⟩) (meth := k1m1) (c := k1c1) (by decide +kernel) rfl rfl rfl (by decide +kernel)
def codes1 : List Jvm.Cond := [Jvm.Cond.code x code maxLocals ret, Jvm.Cond.code ({ cls := "com/example/tersewire/tersewire/core/MessageType", name := "ofCode", desc := "(I)Lcom/example/tersewire/tersewire/core/MessageType;" } : Jvm.MethodName) prog_35_method_7_code (5 : Nat) (Option.some (Jvm.ClassFile.FieldType.object "com/example/tersewire/tersewire/core/MessageType")), Jvm.Cond.code ({ cls := "com/example/tersewire/tersewire/core/MessageType", name := "values", desc := "()[Lcom/example/tersewire/tersewire/core/MessageType;" } : Jvm.MethodName) prog_35_method_1_code (0 : Nat) (Option.some (Jvm.ClassFile.FieldType.array (Jvm.ClassFile.FieldType.object "com/example/tersewire/tersewire/core/MessageType"))), Jvm.Cond.code ({ cls := "com/example/tersewire/tersewire/core/MessageTypeOfCodePinLaw", name := "expected", desc := "(I)Lcom/example/tersewire/tersewire/core/MessageType;" } : Jvm.MethodName) method_2_code (1 : Nat) (Option.some (Jvm.ClassFile.FieldType.object "com/example/tersewire/tersewire/core/MessageType"))]
set_option maxRecDepth 65536 in
theorem codes_eq : words1.filter isCode = codes1 := rfl
theorem w_codes : ∀ c ∈ words1.filter isCode, c.before args0 about1 = true := by
  rw [codes_eq]
  intro c hc
  simp only [codes1, List.mem_cons, List.not_mem_nil, or_false] at hc
  rcases hc with rfl | rfl | rfl | rfl
  · exact w_c0
  · exact w_c1
  · exact w_c2
  · exact w_c3
set_option maxRecDepth 65536 in
theorem w_t1 : (words1.take 24).all (fun c => isCode c || c.before args0 about1) = true := by decide +kernel
set_option maxRecDepth 65536 in
theorem w_t2 : (words1.drop 24).all (fun c => isCode c || c.before args0 about1) = true := by decide +kernel
theorem w_tables : (allAtoms (Jvm.Cond.code x code maxLocals ret :: tables_1)).before args0 about1 = true := by
  rw [allAtoms_all]
  show words1.all (fun c => c.before args0 about1) = true
  refine all_split ?_ w_codes
  rw [← List.take_append_drop 24 words1, List.all_append, w_t1, w_t2]
  rfl
set_option maxRecDepth 65536 in
theorem w_case : (Jvm.Cond.and given_1 narrow_1).before args0 about1 = true := by decide +kernel
theorem w_applies : (headSpec (Jvm.Cond.code x code maxLocals ret :: tables_1) room_1).applies x e0.platform about1 = true :=
  (Spec.applies_iff w_frames).mpr ⟨w_running, w_runnable, w_alone, w_named, w_hears, w_ripe, w_room, w_tables⟩
theorem atStart : AtStart classFile x code maxLocals ret World_1 tables_1 room_1 Calls_1 rest_1 Pre_1 launch0 p0 e0 about1 theMethod args0 below0 :=
  ⟨lists_1, trivial, launch0.admits_env _ _ _, launch0.least_env, fairChoices_fair.cas, fairChoices_fair.clock, w_frames, w_args, w_heap, w_applies, trivial, trivial, w_case⟩
end start1
theorem witness_1 : WitnessClaimed_1 := ⟨start1.p0, start1.e0, start1.about1, start1.theMethod, start1.args0, start1.below0, start1.atStart⟩
end Jvm.Pilot.@@N@@
