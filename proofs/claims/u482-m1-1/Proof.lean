import JvmDerived
import JvmDerived.Pilot.@@N@@Statement
import JvmDerived.Pilot.@@N@@Code
set_option linter.unusedVariables false
set_option linter.unusedSimpArgs false
namespace Jvm.OwnKit
open Sem ClassFile Op Lib Jvm.Stand Jvm.Free Jvm.LawKit Jvm.RoadKit
/-- from this frame the run ends, and the end is as Q says -/
def Endz (tb : Tables) (e : Env) (below : List Frame) (Q : Outcome → State → Prop) (T : State) (g : JFrame) : Prop :=
  ∃ s₂ o, Steps tb e below (T.setTop g) s₂ ∧ s₂.status = .running ∧ Ended s₂ below o ∧ Q o s₂
theorem Endz.by {tb : Tables} {e : Env} {below : List Frame} {Q : Outcome → State → Prop} {T T' : State} {g g' : JFrame} (st : ∀ t, Steps tb e below (T'.setTop g') t → Steps tb e below (T.setTop g) t) (h : Endz tb e below Q T' g') : Endz tb e below Q T g := by
  obtain ⟨s₂, o, h1, h2⟩ := h; exact ⟨s₂, o, st _ h1, h2⟩
theorem Endz.tr {tb : Tables} {e : Env} {below : List Frame} {Q : Outcome → State → Prop} {T T' : State} {g g' : JFrame} (st : Steps tb e below (T.setTop g) (T'.setTop g')) (h : Endz tb e below Q T' g') : Endz tb e below Q T g := by
  obtain ⟨s₂, o, h1, h2⟩ := h; exact ⟨s₂, o, st.trans h1, h2⟩
theorem Endz.eq {tb : Tables} {e : Env} {below : List Frame} {Q : Outcome → State → Prop} {T : State} {g g' : JFrame} (q : g = g') (h : Endz tb e below Q T g') : Endz tb e below Q T g := q ▸ h
section Plain
variable {tb : Tables} [Ours tb] {e : Env} {below : List Frame} {Q : Outcome → State → Prop} {T : State} {m : MethodId} {c : Code} {pc n n1 n2 : Nat} {Ls Ls' : Array Slot} {st : List Value}
theorem w_iloadN (h : At T m c below) (hx : tb.exec = Jvm.exec) {k : Fin 4} {v : Int32} (hd : decode c.code pc = .ok (.iload_n k, 1)) (hn : pc + 1 = n) (hl : Ls[k.val]? = some (.val (.int v))) (hr : Endz tb e below Q T (mkF m n Ls (.int v :: st))) : Endz tb e below Q T (mkF m pc Ls (st)) := by
  subst hn; exact Endz.by (fun _ k => XS.iloadN h hx rfl hd hl k) hr
theorem w_iload (h : At T m c below) (hx : tb.exec = Jvm.exec) {k : Nat} {v : Int32} (hd : decode c.code pc = .ok (.iload k, 2)) (hn : pc + 2 = n) (hl : Ls[k]? = some (.val (.int v))) (hr : Endz tb e below Q T (mkF m n Ls (.int v :: st))) : Endz tb e below Q T (mkF m pc Ls (st)) := by
  subst hn; exact Endz.by (fun _ k => XS.iload h hx rfl hd hl k) hr
theorem w_lloadN (h : At T m c below) (hx : tb.exec = Jvm.exec) {k : Fin 4} {v : Int64} (hd : decode c.code pc = .ok (.lload_n k, 1)) (hn : pc + 1 = n) (hl : Ls[k.val]? = some (.val (.long v))) (hr : Endz tb e below Q T (mkF m n Ls (.long v :: st))) : Endz tb e below Q T (mkF m pc Ls (st)) := by
  subst hn; exact Endz.by (fun _ k => XS.lloadN h hx rfl hd hl k) hr
theorem w_lload (h : At T m c below) (hx : tb.exec = Jvm.exec) {k : Nat} {v : Int64} (hd : decode c.code pc = .ok (.lload k, 2)) (hn : pc + 2 = n) (hl : Ls[k]? = some (.val (.long v))) (hr : Endz tb e below Q T (mkF m n Ls (.long v :: st))) : Endz tb e below Q T (mkF m pc Ls (st)) := by
  subst hn; exact Endz.by (fun _ k => XS.lload h hx rfl hd hl k) hr
theorem w_aloadN (h : At T m c below) (hx : tb.exec = Jvm.exec) {k : Fin 4} {v : Value} (hd : decode c.code pc = .ok (.aload_n k, 1)) (hn : pc + 1 = n) (hl : Ls[k.val]? = some (.val v)) (hv : v.isRef = true) (hr : Endz tb e below Q T (mkF m n Ls (v :: st))) : Endz tb e below Q T (mkF m pc Ls (st)) := by
  subst hn; exact Endz.by (fun _ k => XS.aloadN h hx rfl hd hl hv k) hr
theorem w_aload (h : At T m c below) (hx : tb.exec = Jvm.exec) {k : Nat} {v : Value} (hd : decode c.code pc = .ok (.aload k, 2)) (hn : pc + 2 = n) (hl : Ls[k]? = some (.val v)) (hv : v.isRef = true) (hr : Endz tb e below Q T (mkF m n Ls (v :: st))) : Endz tb e below Q T (mkF m pc Ls (st)) := by
  subst hn; exact Endz.by (fun _ k => XS.aload h hx rfl hd hl hv k) hr
theorem w_istoreN (h : At T m c below) (hx : tb.exec = Jvm.exec) {k : Fin 4} {x : Int32} (hd : decode c.code pc = .ok (.istore_n k, 1)) (hn : pc + 1 = n) (hl : storeLocals Ls k.val (.int x) = some Ls') (hr : Endz tb e below Q T (mkF m n Ls' (st))) : Endz tb e below Q T (mkF m pc Ls (.int x :: st)) := by
  subst hn; exact Endz.by (fun _ k => XS.istoreN h hx rfl hd rfl hl k) hr
theorem w_istore (h : At T m c below) (hx : tb.exec = Jvm.exec) {k : Nat} {x : Int32} (hd : decode c.code pc = .ok (.istore k, 2)) (hn : pc + 2 = n) (hl : storeLocals Ls k (.int x) = some Ls') (hr : Endz tb e below Q T (mkF m n Ls' (st))) : Endz tb e below Q T (mkF m pc Ls (.int x :: st)) := by
  subst hn; exact Endz.by (fun _ k => XS.istore h hx rfl hd rfl hl k) hr
theorem w_lstoreN (h : At T m c below) (hx : tb.exec = Jvm.exec) {k : Fin 4} {x : Int64} (hd : decode c.code pc = .ok (.lstore_n k, 1)) (hn : pc + 1 = n) (hl : storeLocals Ls k.val (.long x) = some Ls') (hr : Endz tb e below Q T (mkF m n Ls' (st))) : Endz tb e below Q T (mkF m pc Ls (.long x :: st)) := by
  subst hn; exact Endz.by (fun _ k => XS.lstoreN h hx rfl hd rfl hl k) hr
theorem w_lstore (h : At T m c below) (hx : tb.exec = Jvm.exec) {k : Nat} {x : Int64} (hd : decode c.code pc = .ok (.lstore k, 2)) (hn : pc + 2 = n) (hl : storeLocals Ls k (.long x) = some Ls') (hr : Endz tb e below Q T (mkF m n Ls' (st))) : Endz tb e below Q T (mkF m pc Ls (.long x :: st)) := by
  subst hn; exact Endz.by (fun _ k => XS.lstore h hx rfl hd rfl hl k) hr
theorem w_astoreN (h : At T m c below) (hx : tb.exec = Jvm.exec) {k : Fin 4} {x : Value} (hd : decode c.code pc = .ok (.astore_n k, 1)) (hn : pc + 1 = n) (hv : x.isRef = true) (hl : storeLocals Ls k.val x = some Ls') (hr : Endz tb e below Q T (mkF m n Ls' (st))) : Endz tb e below Q T (mkF m pc Ls (x :: st)) := by
  subst hn; exact Endz.by (fun _ k => XS.astoreN h hx rfl hd rfl hv hl k) hr
theorem w_astore (h : At T m c below) (hx : tb.exec = Jvm.exec) {k : Nat} {x : Value} (hd : decode c.code pc = .ok (.astore k, 2)) (hn : pc + 2 = n) (hv : x.isRef = true) (hl : storeLocals Ls k x = some Ls') (hr : Endz tb e below Q T (mkF m n Ls' (st))) : Endz tb e below Q T (mkF m pc Ls (x :: st)) := by
  subst hn; exact Endz.by (fun _ k => XS.astore h hx rfl hd rfl hv hl k) hr
theorem w_iinc (h : At T m c below) (hx : tb.exec = Jvm.exec) {k : Nat} {i : Int} {x : Int32} (hd : decode c.code pc = .ok (.iinc k i, 3)) (hn : pc + 3 = n) (hl : Ls[k]? = some (.val (.int x))) (hl' : storeLocals Ls k (.int (x + Int32.ofInt i)) = some Ls') (hr : Endz tb e below Q T (mkF m n Ls' (st))) : Endz tb e below Q T (mkF m pc Ls (st)) := by
  subst hn; exact Endz.by (fun _ k => XS.iinc h hx rfl hd hl hl' k) hr
theorem w_iconst (h : At T m c below) (hx : tb.exec = Jvm.exec) {i : Int} {z : Int32} (hd : decode c.code pc = .ok (.iconst i, 1)) (hn : pc + 1 = n) (hz : Int32.ofInt i = z) (hr : Endz tb e below Q T (mkF m n Ls (.int z :: st))) : Endz tb e below Q T (mkF m pc Ls (st)) := by
  subst hn; exact Endz.by (fun _ k => XS.iconst h hx rfl hd (hz ▸ k)) hr
theorem w_bipush (h : At T m c below) (hx : tb.exec = Jvm.exec) {i : Int} {z : Int32} (hd : decode c.code pc = .ok (.bipush i, 2)) (hn : pc + 2 = n) (hz : (Int8.ofInt i).toInt32 = z) (hr : Endz tb e below Q T (mkF m n Ls (.int z :: st))) : Endz tb e below Q T (mkF m pc Ls (st)) := by
  subst hn; exact Endz.by (fun _ k => XS.bipush h hx rfl hd (hz ▸ k)) hr
theorem w_sipush (h : At T m c below) (hx : tb.exec = Jvm.exec) {i : Int} {z : Int32} (hd : decode c.code pc = .ok (.sipush i, 3)) (hn : pc + 3 = n) (hz : (Int16.ofInt i).toInt32 = z) (hr : Endz tb e below Q T (mkF m n Ls (.int z :: st))) : Endz tb e below Q T (mkF m pc Ls (st)) := by
  subst hn; exact Endz.by (fun _ k => XS.sipush h hx rfl hd (hz ▸ k)) hr
theorem w_lconst (h : At T m c below) (hx : tb.exec = Jvm.exec) {i : Fin 2} {z : Int64} (hd : decode c.code pc = .ok (.lconst i, 1)) (hn : pc + 1 = n) (hz : Int64.ofNat i = z) (hr : Endz tb e below Q T (mkF m n Ls (.long z :: st))) : Endz tb e below Q T (mkF m pc Ls (st)) := by
  subst hn; exact Endz.by (fun _ k => XS.lconst h hx rfl hd (hz ▸ k)) hr
theorem w_aconstNull (h : At T m c below) (hx : tb.exec = Jvm.exec)  (hd : decode c.code pc = .ok (.aconst_null, 1)) (hn : pc + 1 = n) (hr : Endz tb e below Q T (mkF m n Ls (.null :: st))) : Endz tb e below Q T (mkF m pc Ls (st)) := by
  subst hn; exact Endz.by (fun _ k => XS.aconstNull h hx rfl hd k) hr
theorem w_iadd (h : At T m c below) (hx : tb.exec = Jvm.exec) {x y : Int32} (hd : decode c.code pc = .ok (.iadd, 1)) (hn : pc + 1 = n) (hr : Endz tb e below Q T (mkF m n Ls (.int (x + y) :: st))) : Endz tb e below Q T (mkF m pc Ls (.int y :: .int x :: st)) := by
  subst hn; exact Endz.by (fun _ k => XS.iadd h hx rfl hd rfl k) hr
theorem w_isub (h : At T m c below) (hx : tb.exec = Jvm.exec) {x y : Int32} (hd : decode c.code pc = .ok (.isub, 1)) (hn : pc + 1 = n) (hr : Endz tb e below Q T (mkF m n Ls (.int (x - y) :: st))) : Endz tb e below Q T (mkF m pc Ls (.int y :: .int x :: st)) := by
  subst hn; exact Endz.by (fun _ k => XS.isub h hx rfl hd rfl k) hr
theorem w_imul (h : At T m c below) (hx : tb.exec = Jvm.exec) {x y : Int32} (hd : decode c.code pc = .ok (.imul, 1)) (hn : pc + 1 = n) (hr : Endz tb e below Q T (mkF m n Ls (.int (x * y) :: st))) : Endz tb e below Q T (mkF m pc Ls (.int y :: .int x :: st)) := by
  subst hn; exact Endz.by (fun _ k => XS.imul h hx rfl hd rfl k) hr
theorem w_iand (h : At T m c below) (hx : tb.exec = Jvm.exec) {x y : Int32} (hd : decode c.code pc = .ok (.iand, 1)) (hn : pc + 1 = n) (hr : Endz tb e below Q T (mkF m n Ls (.int (x &&& y) :: st))) : Endz tb e below Q T (mkF m pc Ls (.int y :: .int x :: st)) := by
  subst hn; exact Endz.by (fun _ k => XS.iand h hx rfl hd rfl k) hr
theorem w_ior (h : At T m c below) (hx : tb.exec = Jvm.exec) {x y : Int32} (hd : decode c.code pc = .ok (.ior, 1)) (hn : pc + 1 = n) (hr : Endz tb e below Q T (mkF m n Ls (.int (x ||| y) :: st))) : Endz tb e below Q T (mkF m pc Ls (.int y :: .int x :: st)) := by
  subst hn; exact Endz.by (fun _ k => XS.ior h hx rfl hd rfl k) hr
theorem w_ixor (h : At T m c below) (hx : tb.exec = Jvm.exec) {x y : Int32} (hd : decode c.code pc = .ok (.ixor, 1)) (hn : pc + 1 = n) (hr : Endz tb e below Q T (mkF m n Ls (.int (x ^^^ y) :: st))) : Endz tb e below Q T (mkF m pc Ls (.int y :: .int x :: st)) := by
  subst hn; exact Endz.by (fun _ k => XS.ixor h hx rfl hd rfl k) hr
theorem w_ishl (h : At T m c below) (hx : tb.exec = Jvm.exec) {x y : Int32} (hd : decode c.code pc = .ok (.ishl, 1)) (hn : pc + 1 = n) (hr : Endz tb e below Q T (mkF m n Ls (.int (x <<< (y &&& 31)) :: st))) : Endz tb e below Q T (mkF m pc Ls (.int y :: .int x :: st)) := by
  subst hn; exact Endz.by (fun _ k => XS.ishl h hx rfl hd rfl k) hr
theorem w_ishr (h : At T m c below) (hx : tb.exec = Jvm.exec) {x y : Int32} (hd : decode c.code pc = .ok (.ishr, 1)) (hn : pc + 1 = n) (hr : Endz tb e below Q T (mkF m n Ls (.int (x >>> (y &&& 31)) :: st))) : Endz tb e below Q T (mkF m pc Ls (.int y :: .int x :: st)) := by
  subst hn; exact Endz.by (fun _ k => XS.ishr h hx rfl hd rfl k) hr
theorem w_iushr (h : At T m c below) (hx : tb.exec = Jvm.exec) {x y : Int32} (hd : decode c.code pc = .ok (.iushr, 1)) (hn : pc + 1 = n) (hr : Endz tb e below Q T (mkF m n Ls (.int ((x.toUInt32 >>> (y &&& 31).toUInt32).toInt32) :: st))) : Endz tb e below Q T (mkF m pc Ls (.int y :: .int x :: st)) := by
  subst hn; exact Endz.by (fun _ k => XS.iushr h hx rfl hd rfl k) hr
theorem w_ladd (h : At T m c below) (hx : tb.exec = Jvm.exec) {x y : Int64} (hd : decode c.code pc = .ok (.ladd, 1)) (hn : pc + 1 = n) (hr : Endz tb e below Q T (mkF m n Ls (.long (x + y) :: st))) : Endz tb e below Q T (mkF m pc Ls (.long y :: .long x :: st)) := by
  subst hn; exact Endz.by (fun _ k => XS.ladd h hx rfl hd rfl k) hr
theorem w_lsub (h : At T m c below) (hx : tb.exec = Jvm.exec) {x y : Int64} (hd : decode c.code pc = .ok (.lsub, 1)) (hn : pc + 1 = n) (hr : Endz tb e below Q T (mkF m n Ls (.long (x - y) :: st))) : Endz tb e below Q T (mkF m pc Ls (.long y :: .long x :: st)) := by
  subst hn; exact Endz.by (fun _ k => XS.lsub h hx rfl hd rfl k) hr
theorem w_lmul (h : At T m c below) (hx : tb.exec = Jvm.exec) {x y : Int64} (hd : decode c.code pc = .ok (.lmul, 1)) (hn : pc + 1 = n) (hr : Endz tb e below Q T (mkF m n Ls (.long (x * y) :: st))) : Endz tb e below Q T (mkF m pc Ls (.long y :: .long x :: st)) := by
  subst hn; exact Endz.by (fun _ k => XS.lmul h hx rfl hd rfl k) hr
theorem w_land (h : At T m c below) (hx : tb.exec = Jvm.exec) {x y : Int64} (hd : decode c.code pc = .ok (.land, 1)) (hn : pc + 1 = n) (hr : Endz tb e below Q T (mkF m n Ls (.long (x &&& y) :: st))) : Endz tb e below Q T (mkF m pc Ls (.long y :: .long x :: st)) := by
  subst hn; exact Endz.by (fun _ k => XS.land h hx rfl hd rfl k) hr
theorem w_lor (h : At T m c below) (hx : tb.exec = Jvm.exec) {x y : Int64} (hd : decode c.code pc = .ok (.lor, 1)) (hn : pc + 1 = n) (hr : Endz tb e below Q T (mkF m n Ls (.long (x ||| y) :: st))) : Endz tb e below Q T (mkF m pc Ls (.long y :: .long x :: st)) := by
  subst hn; exact Endz.by (fun _ k => XS.lor h hx rfl hd rfl k) hr
theorem w_lxor (h : At T m c below) (hx : tb.exec = Jvm.exec) {x y : Int64} (hd : decode c.code pc = .ok (.lxor, 1)) (hn : pc + 1 = n) (hr : Endz tb e below Q T (mkF m n Ls (.long (x ^^^ y) :: st))) : Endz tb e below Q T (mkF m pc Ls (.long y :: .long x :: st)) := by
  subst hn; exact Endz.by (fun _ k => XS.lxor h hx rfl hd rfl k) hr
theorem w_idiv (h : At T m c below) (hx : tb.exec = Jvm.exec) {x y : Int32} (hd : decode c.code pc = .ok (.idiv, 1)) (hn : pc + 1 = n) (hy : y ≠ 0) (hr : Endz tb e below Q T (mkF m n Ls (.int (x / y) :: st))) : Endz tb e below Q T (mkF m pc Ls (.int y :: .int x :: st)) := by
  subst hn; exact Endz.by (fun _ k => XS.idiv h hx rfl hd rfl hy k) hr
theorem w_irem (h : At T m c below) (hx : tb.exec = Jvm.exec) {x y : Int32} (hd : decode c.code pc = .ok (.irem, 1)) (hn : pc + 1 = n) (hy : y ≠ 0) (hr : Endz tb e below Q T (mkF m n Ls (.int (x % y) :: st))) : Endz tb e below Q T (mkF m pc Ls (.int y :: .int x :: st)) := by
  subst hn; exact Endz.by (fun _ k => XS.irem h hx rfl hd rfl hy (by rw [show x - x / y * y = x % y from irem_eq_mod x y]; exact k)) hr
theorem w_ldiv (h : At T m c below) (hx : tb.exec = Jvm.exec) {x y : Int64} (hd : decode c.code pc = .ok (.ldiv, 1)) (hn : pc + 1 = n) (hy : y ≠ 0) (hr : Endz tb e below Q T (mkF m n Ls (.long (x / y) :: st))) : Endz tb e below Q T (mkF m pc Ls (.long y :: .long x :: st)) := by
  subst hn; exact Endz.by (fun _ k => XS.ldiv h hx rfl hd rfl hy k) hr
theorem w_lrem (h : At T m c below) (hx : tb.exec = Jvm.exec) {x y : Int64} (hd : decode c.code pc = .ok (.lrem, 1)) (hn : pc + 1 = n) (hy : y ≠ 0) (hr : Endz tb e below Q T (mkF m n Ls (.long (x % y) :: st))) : Endz tb e below Q T (mkF m pc Ls (.long y :: .long x :: st)) := by
  subst hn; exact Endz.by (fun _ k => XS.lrem h hx rfl hd rfl hy (by rw [show x - x / y * y = x % y from lrem_mod x y]; exact k)) hr
theorem w_ineg (h : At T m c below) (hx : tb.exec = Jvm.exec) {x : Int32} (hd : decode c.code pc = .ok (.ineg, 1)) (hn : pc + 1 = n) (hr : Endz tb e below Q T (mkF m n Ls (.int (-x) :: st))) : Endz tb e below Q T (mkF m pc Ls (.int x :: st)) := by
  subst hn; exact Endz.by (fun _ k => XS.ineg h hx rfl hd rfl k) hr
theorem w_lneg (h : At T m c below) (hx : tb.exec = Jvm.exec) {x : Int64} (hd : decode c.code pc = .ok (.lneg, 1)) (hn : pc + 1 = n) (hr : Endz tb e below Q T (mkF m n Ls (.long (-x) :: st))) : Endz tb e below Q T (mkF m pc Ls (.long x :: st)) := by
  subst hn; exact Endz.by (fun _ k => XS.lneg h hx rfl hd rfl k) hr
theorem w_i2l (h : At T m c below) (hx : tb.exec = Jvm.exec) {x : Int32} (hd : decode c.code pc = .ok (.i2l, 1)) (hn : pc + 1 = n) (hr : Endz tb e below Q T (mkF m n Ls (.long x.toInt64 :: st))) : Endz tb e below Q T (mkF m pc Ls (.int x :: st)) := by
  subst hn; exact Endz.by (fun _ k => XS.i2l h hx rfl hd rfl k) hr
theorem w_l2i (h : At T m c below) (hx : tb.exec = Jvm.exec) {x : Int64} (hd : decode c.code pc = .ok (.l2i, 1)) (hn : pc + 1 = n) (hr : Endz tb e below Q T (mkF m n Ls (.int x.toInt32 :: st))) : Endz tb e below Q T (mkF m pc Ls (.long x :: st)) := by
  subst hn; exact Endz.by (fun _ k => XS.l2i h hx rfl hd rfl k) hr
theorem w_i2b (h : At T m c below) (hx : tb.exec = Jvm.exec) {x : Int32} (hd : decode c.code pc = .ok (.i2b, 1)) (hn : pc + 1 = n) (hr : Endz tb e below Q T (mkF m n Ls (.int x.toInt8.toInt32 :: st))) : Endz tb e below Q T (mkF m pc Ls (.int x :: st)) := by
  subst hn; exact Endz.by (fun _ k => XS.i2b h hx rfl hd rfl k) hr
theorem w_i2c (h : At T m c below) (hx : tb.exec = Jvm.exec) {x : Int32} (hd : decode c.code pc = .ok (.i2c, 1)) (hn : pc + 1 = n) (hr : Endz tb e below Q T (mkF m n Ls (.int x.toUInt32.toUInt16.toUInt32.toInt32 :: st))) : Endz tb e below Q T (mkF m pc Ls (.int x :: st)) := by
  subst hn; exact Endz.by (fun _ k => XS.i2c h hx rfl hd rfl k) hr
theorem w_i2s (h : At T m c below) (hx : tb.exec = Jvm.exec) {x : Int32} (hd : decode c.code pc = .ok (.i2s, 1)) (hn : pc + 1 = n) (hr : Endz tb e below Q T (mkF m n Ls (.int x.toInt16.toInt32 :: st))) : Endz tb e below Q T (mkF m pc Ls (.int x :: st)) := by
  subst hn; exact Endz.by (fun _ k => XS.i2s h hx rfl hd rfl k) hr
theorem w_lcmp (h : At T m c below) (hx : tb.exec = Jvm.exec) {x y : Int64} (hd : decode c.code pc = .ok (.lcmp, 1)) (hn : pc + 1 = n) (hr : Endz tb e below Q T (mkF m n Ls (.int (lcmpW x y) :: st))) : Endz tb e below Q T (mkF m pc Ls (.long y :: .long x :: st)) := by
  subst hn; exact Endz.by (fun _ k => XS.lcmp h hx rfl hd rfl k) hr
theorem w_dup (h : At T m c below) (hx : tb.exec = Jvm.exec) {x : Value} (hd : decode c.code pc = .ok (.dup, 1)) (hn : pc + 1 = n) (hc : x.category = 1) (hr : Endz tb e below Q T (mkF m n Ls (x :: x :: st))) : Endz tb e below Q T (mkF m pc Ls (x :: st)) := by
  subst hn; exact Endz.by (fun _ k => XS.dup h hx rfl hd rfl hc k) hr
theorem w_dupX1 (h : At T m c below) (hx : tb.exec = Jvm.exec) {x y : Value} (hd : decode c.code pc = .ok (.dup_x1, 1)) (hn : pc + 1 = n) (hc : x.category = 1) (hc' : y.category = 1) (hr : Endz tb e below Q T (mkF m n Ls (x :: y :: x :: st))) : Endz tb e below Q T (mkF m pc Ls (x :: y :: st)) := by
  subst hn; exact Endz.by (fun _ k => XS.dupX1 h hx rfl hd rfl hc hc' k) hr
theorem w_pop (h : At T m c below) (hx : tb.exec = Jvm.exec) {x : Value} (hd : decode c.code pc = .ok (.pop, 1)) (hn : pc + 1 = n) (hc : x.category = 1) (hr : Endz tb e below Q T (mkF m n Ls (st))) : Endz tb e below Q T (mkF m pc Ls (x :: st)) := by
  subst hn; exact Endz.by (fun _ k => XS.pop h hx rfl hd rfl hc k) hr
theorem w_dup2 (h : At T m c below) (hx : tb.exec = Jvm.exec) {x y : Value} (hd : decode c.code pc = .ok (.dup2, 1)) (hn : pc + 1 = n) (hc : x.category = 1) (hc' : y.category = 1) (hr : Endz tb e below Q T (mkF m n Ls (x :: y :: x :: y :: st))) : Endz tb e below Q T (mkF m pc Ls (x :: y :: st)) := by
  subst hn; exact Endz.by (fun _ k => Jvm.Free.XT.dup2 h hx rfl hd rfl hc hc' k) hr
theorem w_goto (h : At T m c below) (hx : tb.exec = Jvm.exec) {o : Int} (hd : decode c.code pc = .ok (.goto o, 3)) (ho : 0 ≤ (pc : Int) + o) (hp : ((pc : Int) + o).toNat = n) (hr : Endz tb e below Q T (mkF m n Ls (st))) : Endz tb e below Q T (mkF m pc Ls (st)) :=
  Endz.by (fun _ k => XS.goto h hx rfl rfl hd ho hp k) hr
theorem w_ifeq (h : At T m c below) (hx : tb.exec = Jvm.exec) {x : Int32} {o : Int} (hd : decode c.code pc = .ok (.ifCond .eq o, 3)) (ho : 0 ≤ (pc : Int) + o) (hp : ((pc : Int) + o).toNat = n1) (hn : pc + 3 = n2) (h1 : x = 0 → Endz tb e below Q T (mkF m n1 Ls (st))) (h2 : ¬ (x = 0) → Endz tb e below Q T (mkF m n2 Ls (st))) : Endz tb e below Q T (mkF m pc Ls (.int x :: st)) := by
  subst hn
  by_cases q : x = 0
  · exact Endz.by (fun _ k => XS.ifYes h hx rfl rfl hd rfl ((if0 _ _).trans (teq q).1) ho hp k) (h1 q)
  · exact Endz.by (fun _ k => XS.ifNo h hx rfl hd rfl ((if0 _ _).trans (feq q).1) k) (h2 q)
theorem w_ifne (h : At T m c below) (hx : tb.exec = Jvm.exec) {x : Int32} {o : Int} (hd : decode c.code pc = .ok (.ifCond .ne o, 3)) (ho : 0 ≤ (pc : Int) + o) (hp : ((pc : Int) + o).toNat = n1) (hn : pc + 3 = n2) (h1 : ¬ x = 0 → Endz tb e below Q T (mkF m n1 Ls (st))) (h2 : ¬ (¬ x = 0) → Endz tb e below Q T (mkF m n2 Ls (st))) : Endz tb e below Q T (mkF m pc Ls (.int x :: st)) := by
  subst hn
  by_cases q : ¬ x = 0
  · exact Endz.by (fun _ k => XS.ifYes h hx rfl rfl hd rfl ((if0 _ _).trans (feq q).2) ho hp k) (h1 q)
  · exact Endz.by (fun _ k => XS.ifNo h hx rfl hd rfl ((if0 _ _).trans (teq (Classical.not_not.mp q)).2) k) (h2 q)
theorem w_iflt (h : At T m c below) (hx : tb.exec = Jvm.exec) {x : Int32} {o : Int} (hd : decode c.code pc = .ok (.ifCond .lt o, 3)) (ho : 0 ≤ (pc : Int) + o) (hp : ((pc : Int) + o).toNat = n1) (hn : pc + 3 = n2) (h1 : x < 0 → Endz tb e below Q T (mkF m n1 Ls (st))) (h2 : ¬ (x < 0) → Endz tb e below Q T (mkF m n2 Ls (st))) : Endz tb e below Q T (mkF m pc Ls (.int x :: st)) := by
  subst hn
  by_cases q : x < 0
  · exact Endz.by (fun _ k => XS.ifYes h hx rfl rfl hd rfl ((if0 _ _).trans (tlt q).1) ho hp k) (h1 q)
  · exact Endz.by (fun _ k => XS.ifNo h hx rfl hd rfl ((if0 _ _).trans (flt q).1) k) (h2 q)
theorem w_ifge (h : At T m c below) (hx : tb.exec = Jvm.exec) {x : Int32} {o : Int} (hd : decode c.code pc = .ok (.ifCond .ge o, 3)) (ho : 0 ≤ (pc : Int) + o) (hp : ((pc : Int) + o).toNat = n1) (hn : pc + 3 = n2) (h1 : ¬ x < 0 → Endz tb e below Q T (mkF m n1 Ls (st))) (h2 : ¬ (¬ x < 0) → Endz tb e below Q T (mkF m n2 Ls (st))) : Endz tb e below Q T (mkF m pc Ls (.int x :: st)) := by
  subst hn
  by_cases q : ¬ x < 0
  · exact Endz.by (fun _ k => XS.ifYes h hx rfl rfl hd rfl ((if0 _ _).trans (flt q).2.1) ho hp k) (h1 q)
  · exact Endz.by (fun _ k => XS.ifNo h hx rfl hd rfl ((if0 _ _).trans (tlt (Classical.not_not.mp q)).2.1) k) (h2 q)
theorem w_ifgt (h : At T m c below) (hx : tb.exec = Jvm.exec) {x : Int32} {o : Int} (hd : decode c.code pc = .ok (.ifCond .gt o, 3)) (ho : 0 ≤ (pc : Int) + o) (hp : ((pc : Int) + o).toNat = n1) (hn : pc + 3 = n2) (h1 : 0 < x → Endz tb e below Q T (mkF m n1 Ls (st))) (h2 : ¬ (0 < x) → Endz tb e below Q T (mkF m n2 Ls (st))) : Endz tb e below Q T (mkF m pc Ls (.int x :: st)) := by
  subst hn
  by_cases q : 0 < x
  · exact Endz.by (fun _ k => XS.ifYes h hx rfl rfl hd rfl ((if0 _ _).trans (tlt q).2.2.1) ho hp k) (h1 q)
  · exact Endz.by (fun _ k => XS.ifNo h hx rfl hd rfl ((if0 _ _).trans (flt q).2.2.1) k) (h2 q)
theorem w_ifle (h : At T m c below) (hx : tb.exec = Jvm.exec) {x : Int32} {o : Int} (hd : decode c.code pc = .ok (.ifCond .le o, 3)) (ho : 0 ≤ (pc : Int) + o) (hp : ((pc : Int) + o).toNat = n1) (hn : pc + 3 = n2) (h1 : ¬ 0 < x → Endz tb e below Q T (mkF m n1 Ls (st))) (h2 : ¬ (¬ 0 < x) → Endz tb e below Q T (mkF m n2 Ls (st))) : Endz tb e below Q T (mkF m pc Ls (.int x :: st)) := by
  subst hn
  by_cases q : ¬ 0 < x
  · exact Endz.by (fun _ k => XS.ifYes h hx rfl rfl hd rfl ((if0 _ _).trans (flt q).2.2.2) ho hp k) (h1 q)
  · exact Endz.by (fun _ k => XS.ifNo h hx rfl hd rfl ((if0 _ _).trans (tlt (Classical.not_not.mp q)).2.2.2) k) (h2 q)
theorem w_icmpeq (h : At T m c below) (hx : tb.exec = Jvm.exec) {x y : Int32} {o : Int} (hd : decode c.code pc = .ok (.if_icmp .eq o, 3)) (ho : 0 ≤ (pc : Int) + o) (hp : ((pc : Int) + o).toNat = n1) (hn : pc + 3 = n2) (h1 : x = y → Endz tb e below Q T (mkF m n1 Ls (st))) (h2 : ¬ (x = y) → Endz tb e below Q T (mkF m n2 Ls (st))) : Endz tb e below Q T (mkF m pc Ls (.int y :: .int x :: st)) := by
  subst hn
  by_cases q : x = y
  · exact Endz.by (fun _ k => XS.icmpYes h hx rfl rfl hd rfl ((teq q).1) ho hp k) (h1 q)
  · exact Endz.by (fun _ k => XS.icmpNo h hx rfl hd rfl ((feq q).1) k) (h2 q)
theorem w_icmpne (h : At T m c below) (hx : tb.exec = Jvm.exec) {x y : Int32} {o : Int} (hd : decode c.code pc = .ok (.if_icmp .ne o, 3)) (ho : 0 ≤ (pc : Int) + o) (hp : ((pc : Int) + o).toNat = n1) (hn : pc + 3 = n2) (h1 : ¬ x = y → Endz tb e below Q T (mkF m n1 Ls (st))) (h2 : ¬ (¬ x = y) → Endz tb e below Q T (mkF m n2 Ls (st))) : Endz tb e below Q T (mkF m pc Ls (.int y :: .int x :: st)) := by
  subst hn
  by_cases q : ¬ x = y
  · exact Endz.by (fun _ k => XS.icmpYes h hx rfl rfl hd rfl ((feq q).2) ho hp k) (h1 q)
  · exact Endz.by (fun _ k => XS.icmpNo h hx rfl hd rfl ((teq (Classical.not_not.mp q)).2) k) (h2 q)
theorem w_icmplt (h : At T m c below) (hx : tb.exec = Jvm.exec) {x y : Int32} {o : Int} (hd : decode c.code pc = .ok (.if_icmp .lt o, 3)) (ho : 0 ≤ (pc : Int) + o) (hp : ((pc : Int) + o).toNat = n1) (hn : pc + 3 = n2) (h1 : x < y → Endz tb e below Q T (mkF m n1 Ls (st))) (h2 : ¬ (x < y) → Endz tb e below Q T (mkF m n2 Ls (st))) : Endz tb e below Q T (mkF m pc Ls (.int y :: .int x :: st)) := by
  subst hn
  by_cases q : x < y
  · exact Endz.by (fun _ k => XS.icmpYes h hx rfl rfl hd rfl ((tlt q).1) ho hp k) (h1 q)
  · exact Endz.by (fun _ k => XS.icmpNo h hx rfl hd rfl ((flt q).1) k) (h2 q)
theorem w_icmpge (h : At T m c below) (hx : tb.exec = Jvm.exec) {x y : Int32} {o : Int} (hd : decode c.code pc = .ok (.if_icmp .ge o, 3)) (ho : 0 ≤ (pc : Int) + o) (hp : ((pc : Int) + o).toNat = n1) (hn : pc + 3 = n2) (h1 : ¬ x < y → Endz tb e below Q T (mkF m n1 Ls (st))) (h2 : ¬ (¬ x < y) → Endz tb e below Q T (mkF m n2 Ls (st))) : Endz tb e below Q T (mkF m pc Ls (.int y :: .int x :: st)) := by
  subst hn
  by_cases q : ¬ x < y
  · exact Endz.by (fun _ k => XS.icmpYes h hx rfl rfl hd rfl ((flt q).2.1) ho hp k) (h1 q)
  · exact Endz.by (fun _ k => XS.icmpNo h hx rfl hd rfl ((tlt (Classical.not_not.mp q)).2.1) k) (h2 q)
theorem w_icmpgt (h : At T m c below) (hx : tb.exec = Jvm.exec) {x y : Int32} {o : Int} (hd : decode c.code pc = .ok (.if_icmp .gt o, 3)) (ho : 0 ≤ (pc : Int) + o) (hp : ((pc : Int) + o).toNat = n1) (hn : pc + 3 = n2) (h1 : y < x → Endz tb e below Q T (mkF m n1 Ls (st))) (h2 : ¬ (y < x) → Endz tb e below Q T (mkF m n2 Ls (st))) : Endz tb e below Q T (mkF m pc Ls (.int y :: .int x :: st)) := by
  subst hn
  by_cases q : y < x
  · exact Endz.by (fun _ k => XS.icmpYes h hx rfl rfl hd rfl ((tlt q).2.2.1) ho hp k) (h1 q)
  · exact Endz.by (fun _ k => XS.icmpNo h hx rfl hd rfl ((flt q).2.2.1) k) (h2 q)
theorem w_icmple (h : At T m c below) (hx : tb.exec = Jvm.exec) {x y : Int32} {o : Int} (hd : decode c.code pc = .ok (.if_icmp .le o, 3)) (ho : 0 ≤ (pc : Int) + o) (hp : ((pc : Int) + o).toNat = n1) (hn : pc + 3 = n2) (h1 : ¬ y < x → Endz tb e below Q T (mkF m n1 Ls (st))) (h2 : ¬ (¬ y < x) → Endz tb e below Q T (mkF m n2 Ls (st))) : Endz tb e below Q T (mkF m pc Ls (.int y :: .int x :: st)) := by
  subst hn
  by_cases q : ¬ y < x
  · exact Endz.by (fun _ k => XS.icmpYes h hx rfl rfl hd rfl ((flt q).2.2.2) ho hp k) (h1 q)
  · exact Endz.by (fun _ k => XS.icmpNo h hx rfl hd rfl ((tlt (Classical.not_not.mp q)).2.2.2) k) (h2 q)
theorem w_ifnull (h : At T m c below) (hx : tb.exec = Jvm.exec) {v : Value} {o : Int} (hv : v.isRef = true) (hd : decode c.code pc = .ok (.ifnull o, 3)) (ho : 0 ≤ (pc : Int) + o) (hp : ((pc : Int) + o).toNat = n1) (hn : pc + 3 = n2) (h1 : v = .null → Endz tb e below Q T (mkF m n1 Ls (st))) (h2 : v ≠ .null → Endz tb e below Q T (mkF m n2 Ls (st))) : Endz tb e below Q T (mkF m pc Ls (v :: st)) := by
  subst hn
  rcases ref_cases hv with rfl | ⟨a, rfl⟩
  · exact Endz.by (fun _ k => XS.ifnullYes h hx rfl rfl hd rfl ho hp k) (h1 rfl)
  · exact Endz.by (fun _ k => XS.ifnullNo h hx rfl hd rfl k) (h2 (by simp))
theorem w_ifnonnull (h : At T m c below) (hx : tb.exec = Jvm.exec) {v : Value} {o : Int} (hv : v.isRef = true) (hd : decode c.code pc = .ok (.ifnonnull o, 3)) (ho : 0 ≤ (pc : Int) + o) (hp : ((pc : Int) + o).toNat = n1) (hn : pc + 3 = n2) (h1 : v ≠ .null → Endz tb e below Q T (mkF m n1 Ls (st))) (h2 : v = .null → Endz tb e below Q T (mkF m n2 Ls (st))) : Endz tb e below Q T (mkF m pc Ls (v :: st)) := by
  subst hn
  rcases ref_cases hv with rfl | ⟨a, rfl⟩
  · exact Endz.by (fun _ k => XS.ifnonnullNo h hx rfl hd rfl k) (h2 rfl)
  · exact Endz.by (fun _ k => XS.ifnonnullYes h hx rfl rfl hd rfl ho hp k) (h1 (by simp))
theorem w_acmpeq (h : At T m c below) (hx : tb.exec = Jvm.exec) {x y : Value} {o : Int} (hv : x.isRef = true) (hv' : y.isRef = true) (hd : decode c.code pc = .ok (.if_acmp .eq o, 3)) (ho : 0 ≤ (pc : Int) + o) (hp : ((pc : Int) + o).toNat = n1) (hn : pc + 3 = n2) (h1 : x = y → Endz tb e below Q T (mkF m n1 Ls (st))) (h2 : ¬ x = y → Endz tb e below Q T (mkF m n2 Ls (st))) : Endz tb e below Q T (mkF m pc Ls (y :: x :: st)) := by
  subst hn
  by_cases q : x = y
  · exact Endz.by (fun _ k => Jvm.Free.XT.acmpYes h hx rfl rfl hd rfl hv hv' (by simp [Jvm.Free.XT.acmp, q]) ho hp k) (h1 q)
  · exact Endz.by (fun _ k => Jvm.Free.XT.acmpNo h hx rfl hd rfl hv hv' (by simp [Jvm.Free.XT.acmp, q]) k) (h2 q)
theorem w_acmpne (h : At T m c below) (hx : tb.exec = Jvm.exec) {x y : Value} {o : Int} (hv : x.isRef = true) (hv' : y.isRef = true) (hd : decode c.code pc = .ok (.if_acmp .ne o, 3)) (ho : 0 ≤ (pc : Int) + o) (hp : ((pc : Int) + o).toNat = n1) (hn : pc + 3 = n2) (h1 : x ≠ y → Endz tb e below Q T (mkF m n1 Ls (st))) (h2 : x = y → Endz tb e below Q T (mkF m n2 Ls (st))) : Endz tb e below Q T (mkF m pc Ls (y :: x :: st)) := by
  subst hn
  by_cases q : x = y
  · exact Endz.by (fun _ k => Jvm.Free.XT.acmpNo h hx rfl hd rfl hv hv' (by simp [Jvm.Free.XT.acmp, q]) k) (h2 q)
  · exact Endz.by (fun _ k => Jvm.Free.XT.acmpYes h hx rfl rfl hd rfl hv hv' (by simp [Jvm.Free.XT.acmp, q]) ho hp k) (h1 q)
end Plain
section Heap
theorem Ext.rfl' (h : Heap) : Ext h h := ⟨Nat.le_refl _, fun _ _ q => q⟩
theorem Ext.tr {h0 h h' : Heap} (E : Ext h0 h) (E' : Ext h h') : Ext h0 h' := ⟨Nat.le_trans E.1 E'.1, fun a c q => E'.2 a c (E.2 a c q)⟩
theorem Ext.wr {h0 h h' : Heap} {a : Addr} {sl : Nat} {v : Value} (E : Ext h0 h) (W : Wr h h' a sl v) (q : h0.size ≤ a) : Ext h0 h' := by
  obtain ⟨cell, h1, h2, h3, rfl⟩ := W
  refine ⟨by simpa using E.1, fun b c hb => ?_⟩
  have hne : b ≠ a := fun e => by subst e; exact absurd (Array.getElem?_eq_some_iff.mp hb).1 (Nat.not_lt.mpr q)
  rw [Array.getElem?_setIfInBounds_ne (Ne.symm hne)]; exact E.2 b c hb
theorem Ext.kp {h0 h : Heap} (K : Keep h0 h []) : Ext h0 h := ⟨K.1, fun a c q => K.2.1 a c q nin0⟩
theorem Arv.ex {Z : State} {h h' : Heap} {a : Addr} {k : ClassId} {ty : FieldType} {z : Int32} {vs : List Value} {d : Value} (E : Ext h h') (F : Arv Z h a k ty z vs d) : Arv Z h' a k ty z vs d := F.ext E
/-- what the run leaves -/
abbrev Finz (s : State) (rm : Room) (Qv : Option Value → Heap → List Loc → Prop) : Outcome → State → Prop := fun o U' => ∃ v L, o = .returned v ∧ Qv v U'.heap L ∧ FrameEnd s o U' L rm.cells rm.slots
/-- a body's contract at given arguments and heap -/
abbrev Con (l : Launch) (Z : State) (y : MethodName) (bytes : ByteArray) (maxL : Nat) (ret : Option FieldType) (ws : List Jvm.Cond) (rm : Room) (as : Array Value) (h0 : Heap) (Qv : Option Value → Heap → List Loc → Prop) : Prop :=
  MetFree l y (head1 (Jvm.Cond.code y bytes maxL ret :: ws) rm) (fun a U => a = as ∧ Z.Warmed39 U.vm ∧ U.heap = h0) (fun _ _ _ _ _ => True) (fun _ U o U' => ∃ v L, o = .returned v ∧ Qv v U'.heap L ∧ FrameEnd U o U' L rm.cells rm.slots)
theorem con_of {l : Launch} {Z : State} {y : MethodName} {bytes : ByteArray} {maxL : Nat} {ret : Option FieldType} {ws : List Jvm.Cond} {rm : Room} {as : Array Value} {h0 : Heap} {Qv : Option Value → Heap → List Loc → Prop} (hn : plainFor y = true)
    (body : ∀ (p : Program) (e : Env) (s : State) (m : MethodId) (below : List Frame) (meth : Method) (c : Code) (T : State), Stand p l e rm s m as below meth c T [] 0 0 → p.tables.exec = Jvm.exec → Z.Warmed39 s.vm → c.code = bytes → c.maxLocals = maxL → s.vm.findClass y.cls = some m.cls → meth.sig.returnType = ret → meth.name = y.name → meth.locks = false → T.heap = h0 → Endz p.tables e below (Finz s rm Qv) T (entryFrame m as maxL)) :
    Con l Z y bytes maxL ret ws rm as h0 Qv := by
  refine MetFree.of_bodySF hn hisR ?_
  intro p e s m args below meth c s₁ Bd hml0 hP hK
  obtain ⟨rfl, hZ, hh⟩ := hP
  have X0 : Stand p l e rm s m args below meth c s₁ [] 0 0 := Stand.of_body Bd
  exact body p e s m below meth c s₁ X0 Bd.exec hZ Bd.bytes hml0 (findClass_of_methodNamed Bd.named) Bd.returns (name_of_methodNamed Bd.named Bd.method).1 Bd.notSynchronized (by rw [← hh, Bd.state]; rfl)
variable {p : Program} {l : Launch} {e : Env} {R : Room} {s : State} {m : MethodId} {args : Array Value} {below : List Frame} {meth : Method} {c : Code} {T : State} {locs : List Loc} {cells slots : Nat} {Z : State} {a0 : Array Value} {h : Heap} {pc n : Nat} {Ls : Array Slot} {st : List Value} {rm : Room} {Qv : Option Value → Heap → List Loc → Prop}
/-! the ends -/
theorem fin_of (X : Stand p l e R s m args below meth c T locs cells slots) (hlk : meth.locks = false) (eT : T.heap = h) {v : Option Value} {g : JFrame} (hv : meth.sig.returnType = none → v = none) (hc : cells ≤ rm.cells) (hs : slots ≤ rm.slots) (hQ : Qv v h locs)
    (hstep : ∀ fs, (∀ (f : JFrame) (acts : List Action), f.method = m → f.locked = none → f.entered = [] → (doReturn e (T.setTop f) acts v).1 = T.setFrames fs) → Steps p.tables e below (T.setTop g) (T.setFrames fs)) : Endz p.tables e below (Finz s rm Qv) T g := by
  obtain ⟨fs, hr, hrun, hended, hW, hsame⟩ := X.leave (v := v) hv hlk
  have hQ' : Qv v (T.setFrames fs).heap locs := by show Qv v T.heap locs; rw [eT]; exact hQ
  exact ⟨_, _, hstep fs hr, hrun, hended, v, locs, rfl, hQ', ⟨_, rfl⟩, hW, hsame.mono hc hs⟩
theorem fin_Z (X : Stand p l e R s m args below meth c T locs cells slots) (hx : p.tables.exec = Jvm.exec) (hlk : meth.locks = false) (eT : T.heap = h) {t : FieldType} {z : Int32} (hret : meth.sig.returnType = some t) (ht : t = .boolean ∨ t = .byte ∨ t = .char ∨ t = .short) (hd : decode c.code pc = .ok (.ireturn, 1)) (hc : cells ≤ rm.cells) (hs : slots ≤ rm.slots) (hQ : Qv (some (.int (nar t z))) h locs) :
    Endz p.tables e below (Finz s rm Qv) T (mkF m pc Ls (.int z :: st)) :=
  fin_of X hlk eT (fun q => by rw [hret] at q; cases q) hc hs hQ fun fs hl => retN X hx hret ht hd hl
theorem fin_I (X : Stand p l e R s m args below meth c T locs cells slots) (hx : p.tables.exec = Jvm.exec) (hlk : meth.locks = false) (eT : T.heap = h) {z : Int32} (hret : meth.sig.returnType = some .int) (hd : decode c.code pc = .ok (.ireturn, 1)) (hc : cells ≤ rm.cells) (hs : slots ≤ rm.slots) (hQ : Qv (some (.int z)) h locs) :
    Endz p.tables e below (Finz s rm Qv) T (mkF m pc Ls (.int z :: st)) :=
  fin_of X hlk eT (fun q => by rw [hret] at q; cases q) hc hs hQ fun fs hl => retOut X hx hret rfl (Or.inl ⟨rfl, Or.inl rfl, _, rfl⟩) hd hl
theorem fin_J (X : Stand p l e R s m args below meth c T locs cells slots) (hx : p.tables.exec = Jvm.exec) (hlk : meth.locks = false) (eT : T.heap = h) {z : Int64} (hret : meth.sig.returnType = some .long) (hd : decode c.code pc = .ok (.lreturn, 1)) (hc : cells ≤ rm.cells) (hs : slots ≤ rm.slots) (hQ : Qv (some (.long z)) h locs) :
    Endz p.tables e below (Finz s rm Qv) T (mkF m pc Ls (.long z :: st)) :=
  fin_of X hlk eT (fun q => by rw [hret] at q; cases q) hc hs hQ fun fs hl => retOut X hx hret rfl (Or.inr (Or.inl ⟨rfl, rfl, _, rfl⟩)) hd hl
theorem fin_A (X : Stand p l e R s m args below meth c T locs cells slots) (hx : p.tables.exec = Jvm.exec) (hlk : meth.locks = false) (eT : T.heap = h) {w : Value} {t : FieldType} (hret : meth.sig.returnType = some t) (hn : narrow t w = w) (ht : t.isReference = true) (hw : w.isRef = true) (hd : decode c.code pc = .ok (.areturn, 1)) (hc : cells ≤ rm.cells) (hs : slots ≤ rm.slots) (hQ : Qv (some w) h locs) :
    Endz p.tables e below (Finz s rm Qv) T (mkF m pc Ls (w :: st)) :=
  fin_of X hlk eT (fun q => by rw [hret] at q; cases q) hc hs hQ fun fs hl => retOut X hx hret hn (Or.inr (Or.inr (Or.inr (Or.inr ⟨rfl, ht, hw⟩)))) hd hl
theorem fin_V (X : Stand p l e R s m args below meth c T locs cells slots) (hx : p.tables.exec = Jvm.exec) (hlk : meth.locks = false) (eT : T.heap = h) (hret : meth.sig.returnType = none) (hd : decode c.code pc = .ok (.return_, 1)) (hc : cells ≤ rm.cells) (hs : slots ≤ rm.slots) (hQ : Qv none h locs) :
    Endz p.tables e below (Finz s rm Qv) T (mkF m pc Ls []) :=
  fin_of X hlk eT (fun _ => rfl) hc hs hQ fun fs hl => X.returnOut hx hret hd hl
variable {Q : Outcome → State → Prop}
/-! fields and statics: what comes behind is asked of every such state -/
theorem g_F (X : Stand p l e R s m args below meth c T locs cells slots) (hx : p.tables.exec = Jvm.exec) (hZ : Z.Warmed39 s.vm) {own O nm d : String} {idx : Nat} (hown : s.vm.findClass own = some m.cls) (w : (Jvm.Cond.fieldLink own idx O nm d).before a0 Z = true) (eT : T.heap = h) {a : Addr} {v : Value} (F : Fld Z h a O nm d v) (hd : decode c.code pc = .ok (.getfield idx, 3)) (hn : pc + 3 = n)
    (hr : ∀ T', Stand p l e R s m args below meth c T' locs cells slots → T'.heap = h → Endz p.tables e below Q T' (mkF m n Ls (v :: st))) : Endz p.tables e below Q T (mkF m pc Ls (.ref a :: st)) := by
  subst hn
  obtain ⟨T', X', e', st'⟩ := getF X hx hZ hown (host := "") (Or.inl w) Via.refl eT F (g := mkF m pc Ls (.ref a :: st)) rfl rfl hd
  exact Endz.by st' (hr T' X' e')
theorem g_FV (X : Stand p l e R s m args below meth c T locs cells slots) (hx : p.tables.exec = Jvm.exec) (hZ : Z.Warmed39 s.vm) {own R0 O nm d : String} {idx : Nat} (hown : s.vm.findClass own = some m.cls) (w : (Jvm.Cond.fieldLink own idx R0 nm d).before a0 Z = true) (via : Via Z R0 O nm d) (eT : T.heap = h) {a : Addr} {v : Value} (F : Fld Z h a O nm d v) (hd : decode c.code pc = .ok (.getfield idx, 3)) (hn : pc + 3 = n)
    (hr : ∀ T', Stand p l e R s m args below meth c T' locs cells slots → T'.heap = h → Endz p.tables e below Q T' (mkF m n Ls (v :: st))) : Endz p.tables e below Q T (mkF m pc Ls (.ref a :: st)) := by
  subst hn
  obtain ⟨T', X', e', st'⟩ := getF X hx hZ hown (host := "") (Or.inl w) via eT F (g := mkF m pc Ls (.ref a :: st)) rfl rfl hd
  exact Endz.by st' (hr T' X' e')
theorem g_S (X : Stand p l e R s m args below meth c T locs cells slots) (hx : p.tables.exec = Jvm.exec) (hZ : Z.Warmed39 s.vm) {own O nm d : String} {idx : Nat} (hown : s.vm.findClass own = some m.cls) (w : (Jvm.Cond.fieldLink own idx O nm d).before a0 Z = true) (eT : T.heap = h) {v : Value} (F : Sta Z h O nm d v) (hd : decode c.code pc = .ok (.getstatic idx, 3)) (hn : pc + 3 = n)
    (hr : ∀ T', Stand p l e R s m args below meth c T' locs cells slots → T'.heap = h → Endz p.tables e below Q T' (mkF m n Ls (v :: st))) : Endz p.tables e below Q T (mkF m pc Ls st) := by
  subst hn
  obtain ⟨T', X', e', st'⟩ := getS2 X hx hZ hown (host := "") (Or.inl w) Via.refl eT F (g := mkF m pc Ls st) rfl hd
  exact Endz.by st' (hr T' X' e')
theorem p_F (X : Stand p l e R s m args below meth c T locs cells slots) (hx : p.tables.exec = Jvm.exec) (hZ : Z.Warmed39 s.vm) {own O nm d C : String} {idx kk : Nat} {ty : FieldType} (hown : s.vm.findClass own = some m.cls) (w : (Jvm.Cond.fieldLink own idx O nm d).before a0 Z = true) (eT : T.heap = h) {a : Addr} {v old : Value} (F : Fld Z h a O nm d old) (A : Exa Z h a C)
    (L : (Jvm.Cond.lays C O nm d).before a0 Z = true ∨ ((Jvm.Cond.laysFinal C O nm d).before a0 Z = true ∧ own = O ∧ meth.name = "<init>")) (wi : (Jvm.Cond.instantiable C kk).before a0 Z = true) (hty : parseFieldDescriptor d = some ty) (hna : narrow ty v = v) (hf : fits ty v = true) (hd : decode c.code pc = .ok (.putfield idx, 3)) (hn : pc + 3 = n)
    (hr : ∀ T' h', Stand p l e R s m args below meth c T' (locs ++ [⟨a, Jvm.RoadKit.slotOf Z O nm d⟩]) cells slots → T'.heap = h' → Wr h h' a (Jvm.RoadKit.slotOf Z O nm d) v → Endz p.tables e below Q T' (mkF m n Ls st)) : Endz p.tables e below Q T (mkF m pc Ls (v :: .ref a :: st)) := by
  subst hn
  obtain ⟨T', h', X', e', W', st'⟩ := putF X hx hZ hown (host := "") (Or.inl w) Via.refl eT F A L wi hty hna hf (g := mkF m pc Ls (v :: .ref a :: st)) rfl rfl hd
  exact Endz.by st' (hr T' h' X' e' W')
/-- putfield of a boolean, byte, char or short: what lies there is the narrowed int -/
theorem p_FN (X : Stand p l e R s m args below meth c T locs cells slots) (hx : p.tables.exec = Jvm.exec) (hZ : Z.Warmed39 s.vm) {own O nm d C : String} {idx kk : Nat} {ty : FieldType} (hown : s.vm.findClass own = some m.cls) (w : (Jvm.Cond.fieldLink own idx O nm d).before a0 Z = true) (eT : T.heap = h) {a : Addr} {v v' old : Value} (F : Fld Z h a O nm d old) (A : Exa Z h a C)
    (L : (Jvm.Cond.lays C O nm d).before a0 Z = true ∨ ((Jvm.Cond.laysFinal C O nm d).before a0 Z = true ∧ own = O ∧ meth.name = "<init>")) (wi : (Jvm.Cond.instantiable C kk).before a0 Z = true) (hty : parseFieldDescriptor d = some ty) (hna : narrow ty v = v') (hf : fits ty v' = true) (hd : decode c.code pc = .ok (.putfield idx, 3)) (hn : pc + 3 = n)
    (hr : ∀ T' h', Stand p l e R s m args below meth c T' (locs ++ [⟨a, Jvm.RoadKit.slotOf Z O nm d⟩]) cells slots → T'.heap = h' → Wr h h' a (Jvm.RoadKit.slotOf Z O nm d) v' → Endz p.tables e below Q T' (mkF m n Ls st)) : Endz p.tables e below Q T (mkF m pc Ls (v :: .ref a :: st)) := by
  subst hn
  obtain ⟨T', h', X', e', W', st'⟩ := putFN X hx hZ hown w Via.refl eT F A L wi hty hna hf (g := mkF m pc Ls (v :: .ref a :: st)) rfl rfl hd
  exact Endz.by st' (hr T' h' X' e' W')
/-! constants of the pool -/
theorem k_I (X : Stand p l e R s m args below meth c T locs cells slots) (hx : p.tables.exec = Jvm.exec) (hZ : Z.Warmed39 s.vm) {own : String} {idx : Nat} {v : Int32} (hown : s.vm.findClass own = some m.cls) (w : (Jvm.Cond.constant own idx v).before a0 Z = true) (hd : decode c.code pc = .ok (.ldc idx, 2)) (hn : pc + 2 = n) (hr : Endz p.tables e below Q T (mkF m n Ls (.int v :: st))) : Endz p.tables e below Q T (mkF m pc Ls st) := by
  subst hn
  exact Endz.by (X.ldcInt hx hown (mvT hZ w) (g := mkF m pc Ls st) rfl hd) hr
theorem k_J (X : Stand p l e R s m args below meth c T locs cells slots) (hx : p.tables.exec = Jvm.exec) (hZ : Z.Warmed39 s.vm) {own : String} {idx : Nat} {v : Int64} (hown : s.vm.findClass own = some m.cls) (w : (Jvm.Cond.constantLong own idx v).before a0 Z = true) (hd : decode c.code pc = .ok (.ldc2_w idx, 3)) (hn : pc + 3 = n) (hr : Endz p.tables e below Q T (mkF m n Ls (.long v :: st))) : Endz p.tables e below Q T (mkF m pc Ls st) := by
  subst hn
  exact Endz.by (X.ldc2Long hx hown (mvT hZ w) (g := mkF m pc Ls st) rfl hd) hr
/-! objects and arrays made -/
theorem n_O (X : Stand p l e R s m args below meth c T locs cells slots) (hx : p.tables.exec = Jvm.exec) (hZ : Z.Warmed39 s.vm) {own C : String} {idx k : Nat} (hown : s.vm.findClass own = some m.cls) (w : (Jvm.Cond.classLink own idx C).before a0 Z = true) (wi : (Jvm.Cond.instantiable C k).before a0 Z = true) (wz : (Jvm.Cond.initialized C).before a0 Z = true) (eT : T.heap = h) (hd : decode c.code pc = .ok (.new idx, 3)) (hn : pc + 3 = n) (hc : cells + 1 ≤ R.cells) (hl : slots + k ≤ R.slots)
    (hr : ∀ T' h' b, b = h.size → Stand p l e R s m args below meth c T' locs (cells + 1) (slots + k) → T'.heap = h' → Ext h h' → Exa Z h' b C → (∀ {O nm d : String} {ty : FieldType}, Laid Z a0 C O nm d → parseFieldDescriptor d = some ty → Fld Z h' b O nm d (defaultValue ty)) → (∃ cell : Cell, h'[b]? = some cell ∧ cell.vm = .none ∧ cell.monitor = {}) → Endz p.tables e below Q T' (mkF m n Ls (.ref b :: st))) : Endz p.tables e below Q T (mkF m pc Ls st) := by
  subst hn
  obtain ⟨T', h', X', e', E', A', D', U', st'⟩ := newO X hx hZ hown w wi wz eT (g := mkF m pc Ls st) rfl hd hc hl
  exact Endz.by st' (hr T' h' _ rfl X' e' E' A' D' U')
theorem n_P (X : Stand p l e R s m args below meth c T locs cells slots) (hx : p.tables.exec = Jvm.exec) (hZ : Z.Warmed39 s.vm) {aty : ArrayType} (w : (Jvm.Cond.arrayClass (newarray.typeOf aty)).before a0 Z = true) (eT : T.heap = h) {z : Int32} (hd : decode c.code pc = .ok (.newarray aty, 2)) (hn : pc + 2 = n) (hz : ¬ z < 0) (cap : Nat) (hcap : z.toNatClampNeg ≤ cap) (hb : cap * 8 ≤ 536870912) (hc : cells + 1 ≤ R.cells) (hl : slots + cap ≤ R.slots)
    (hr : ∀ T' h' k b, b = h.size → Stand p l e R s m args below meth c T' locs (cells + 1) (slots + cap) → T'.heap = h' → Ext h h' → Arv Z h' b k (newarray.typeOf aty) z [] (defaultValue (newarray.typeOf aty)) → Endz p.tables e below Q T' (mkF m n Ls (.ref b :: st))) : Endz p.tables e below Q T (mkF m pc Ls (.int z :: st)) := by
  subst hn
  obtain ⟨T', h', k, X', e', E', A', st'⟩ := newP X hx hZ w eT (g := mkF m pc Ls (.int z :: st)) rfl hd rfl hz (cap := cap) hcap hb hc hl
  exact Endz.by st' (hr T' h' k _ rfl X' e' E' (Arv.new A' hz))
theorem n_R (X : Stand p l e R s m args below meth c T locs cells slots) (hx : p.tables.exec = Jvm.exec) (hZ : Z.Warmed39 s.vm) {own C : String} {idx : Nat} (hown : s.vm.findClass own = some m.cls) (w1 : (Jvm.Cond.classLink own idx C).before a0 Z = true) (w2 : (Jvm.Cond.arrayOver (.object C)).before a0 Z = true) (eT : T.heap = h) {z : Int32} (hd : decode c.code pc = .ok (.anewarray idx, 3)) (hn : pc + 3 = n) (hz : ¬ z < 0) (cap : Nat) (hcap : z.toNatClampNeg ≤ cap) (hb : cap * 8 ≤ 536870912) (hc : cells + 1 ≤ R.cells) (hl : slots + cap ≤ R.slots)
    (hr : ∀ T' h' k b, b = h.size → Stand p l e R s m args below meth c T' locs (cells + 1) (slots + cap) → T'.heap = h' → Ext h h' → Arv Z h' b k (.object C) z [] .null → Ovr Z k C → Endz p.tables e below Q T' (mkF m n Ls (.ref b :: st))) : Endz p.tables e below Q T (mkF m pc Ls (.int z :: st)) := by
  subst hn
  obtain ⟨T', h', k, X', e', E', A', O', st'⟩ := newR X hx hZ hown w1 w2 eT (g := mkF m pc Ls (.int z :: st)) rfl hd rfl hz (cap := cap) hcap hb hc hl
  exact Endz.by st' (hr T' h' k _ rfl X' e' E' (Arv.new A' hz) O')
/-! stores into arrays: the place is j, the i-th of the list -/
theorem pad0 {h : Heap} {a : Addr} {k : ClassId} {ty : FieldType} {z : Int32} {d : Value} (V : Arv Z h a k ty z [] d) (i : Nat) : Arv Z h a k ty z (List.replicate i d) d := V.pad (pad_rep [] d i)
theorem s_R (X : Stand p l e R s m args below meth c T locs cells slots) (hx : p.tables.exec = Jvm.exec) (hZ : Z.Warmed39 s.vm) (eT : T.heap = h) {b : Addr} {k : ClassId} {C : String} {z j : Int32} {vs : List Value} {y : Addr} (V : Arv Z h b k (.object C) z vs .null) (O : Ovr Z k C) (I : Ins Z h y C true) (i : Nat) (hj : j.toNatClampNeg = i) (hi : i < vs.length) (hj0 : ¬ j < 0) (hjz : j < z) (hd : decode c.code pc = .ok (.aastore, 1)) (hn : pc + 1 = n)
    (hr : ∀ T' h', Stand p l e R s m args below meth c T' (locs ++ [⟨b, j.toNatClampNeg⟩]) cells slots → T'.heap = h' → Wr h h' b j.toNatClampNeg (.ref y) → Arv Z h' b k (.object C) z (vs.set i (.ref y)) .null → Endz p.tables e below Q T' (mkF m n Ls st)) : Endz p.tables e below Q T (mkF m pc Ls (.ref y :: .int j :: .ref b :: st)) := by
  subst hn
  obtain ⟨cl, A, q1, S, N, H, G⟩ := V
  obtain ⟨T', h', X', e', W', st'⟩ := stR X hx hZ eT A (j := j) (inb_of S ⟨hj0, hjz⟩) rfl (Sto.ofV A q1 O I) (g := mkF m pc Ls (.ref y :: .int j :: .ref b :: st)) rfl rfl hd
  exact Endz.by st' (hr T' h' X' e' W' (Arv.set A q1 S N H G rfl W' i hj hi))
theorem s_I (X : Stand p l e R s m args below meth c T locs cells slots) (hx : p.tables.exec = Jvm.exec) (hZ : Z.Warmed39 s.vm) (eT : T.heap = h) {b : Addr} {k : ClassId} {z j x : Int32} {vs : List Value} {dv : Value} (V : Arv Z h b k .int z vs dv) (i : Nat) (hj : j.toNatClampNeg = i) (hi : i < vs.length) (hj0 : ¬ j < 0) (hjz : j < z) (hd : decode c.code pc = .ok (.iastore, 1)) (hn : pc + 1 = n)
    (hr : ∀ T' h', Stand p l e R s m args below meth c T' (locs ++ [⟨b, j.toNatClampNeg⟩]) cells slots → T'.heap = h' → Wr h h' b j.toNatClampNeg (.int x) → Arv Z h' b k .int z (vs.set i (.int x)) dv → Endz p.tables e below Q T' (mkF m n Ls st)) : Endz p.tables e below Q T (mkF m pc Ls (.int x :: .int j :: .ref b :: st)) := by
  subst hn
  obtain ⟨cl, A, q1, S, N, H, G⟩ := V
  obtain ⟨T', h', X', e', W', st'⟩ := stI X hx hZ eT A (j := j) (inb_of S ⟨hj0, hjz⟩) (g := mkF m pc Ls (.int x :: .int j :: .ref b :: st)) rfl rfl hd
  exact Endz.by st' (hr T' h' X' e' W' (Arv.set A q1 S N H G rfl W' i hj hi))
theorem s_B (X : Stand p l e R s m args below meth c T locs cells slots) (hx : p.tables.exec = Jvm.exec) (hZ : Z.Warmed39 s.vm) (eT : T.heap = h) {b : Addr} {k : ClassId} {z j x : Int32} {vs : List Value} {dv : Value} (V : Arv Z h b k .byte z vs dv) (i : Nat) (hj : j.toNatClampNeg = i) (hi : i < vs.length) (hj0 : ¬ j < 0) (hjz : j < z) (hd : decode c.code pc = .ok (.bastore, 1)) (hn : pc + 1 = n)
    (hr : ∀ T' h', Stand p l e R s m args below meth c T' (locs ++ [⟨b, j.toNatClampNeg⟩]) cells slots → T'.heap = h' → Wr h h' b j.toNatClampNeg (.int (nar .byte x)) → Arv Z h' b k .byte z (vs.set i (.int (nar .byte x))) dv → Endz p.tables e below Q T' (mkF m n Ls st)) : Endz p.tables e below Q T (mkF m pc Ls (.int x :: .int j :: .ref b :: st)) := by
  subst hn
  obtain ⟨cl, A, q1, S, N, H, G⟩ := V
  obtain ⟨T', h', X', e', W', st'⟩ := stB X hx hZ eT A (j := j) (inb_of S ⟨hj0, hjz⟩) (g := mkF m pc Ls (.int x :: .int j :: .ref b :: st)) rfl rfl hd
  exact Endz.by st' (hr T' h' X' e' W' (Arv.set A q1 S N H G (fits_nar_byte _) W' i hj hi))
theorem s_Z (X : Stand p l e R s m args below meth c T locs cells slots) (hx : p.tables.exec = Jvm.exec) (hZ : Z.Warmed39 s.vm) (eT : T.heap = h) {b : Addr} {k : ClassId} {z j x : Int32} {vs : List Value} {dv : Value} (V : Arv Z h b k .boolean z vs dv) (i : Nat) (hj : j.toNatClampNeg = i) (hi : i < vs.length) (hj0 : ¬ j < 0) (hjz : j < z) (hd : decode c.code pc = .ok (.bastore, 1)) (hn : pc + 1 = n)
    (hr : ∀ T' h', Stand p l e R s m args below meth c T' (locs ++ [⟨b, j.toNatClampNeg⟩]) cells slots → T'.heap = h' → Wr h h' b j.toNatClampNeg (.int (nar .boolean x)) → Arv Z h' b k .boolean z (vs.set i (.int (nar .boolean x))) dv → Endz p.tables e below Q T' (mkF m n Ls st)) : Endz p.tables e below Q T (mkF m pc Ls (.int x :: .int j :: .ref b :: st)) := by
  subst hn
  obtain ⟨cl, A, q1, S, N, H, G⟩ := V
  obtain ⟨T', h', X', e', W', st'⟩ := stZ X hx hZ eT A (j := j) (inb_of S ⟨hj0, hjz⟩) (g := mkF m pc Ls (.int x :: .int j :: .ref b :: st)) rfl rfl hd
  exact Endz.by st' (hr T' h' X' e' W' (Arv.set A q1 S N H G (fits_nar_bool _) W' i hj hi))
theorem s_C (X : Stand p l e R s m args below meth c T locs cells slots) (hx : p.tables.exec = Jvm.exec) (hZ : Z.Warmed39 s.vm) (eT : T.heap = h) {b : Addr} {k : ClassId} {z j x : Int32} {vs : List Value} {dv : Value} (V : Arv Z h b k .char z vs dv) (i : Nat) (hj : j.toNatClampNeg = i) (hi : i < vs.length) (hj0 : ¬ j < 0) (hjz : j < z) (hd : decode c.code pc = .ok (.castore, 1)) (hn : pc + 1 = n)
    (hr : ∀ T' h', Stand p l e R s m args below meth c T' (locs ++ [⟨b, j.toNatClampNeg⟩]) cells slots → T'.heap = h' → Wr h h' b j.toNatClampNeg (.int (nar .char x)) → Arv Z h' b k .char z (vs.set i (.int (nar .char x))) dv → Endz p.tables e below Q T' (mkF m n Ls st)) : Endz p.tables e below Q T (mkF m pc Ls (.int x :: .int j :: .ref b :: st)) := by
  subst hn
  obtain ⟨cl, A, q1, S, N, H, G⟩ := V
  obtain ⟨T', h', X', e', W', st'⟩ := stC X hx hZ eT A (j := j) (inb_of S ⟨hj0, hjz⟩) (g := mkF m pc Ls (.int x :: .int j :: .ref b :: st)) rfl rfl hd
  exact Endz.by st' (hr T' h' X' e' W' (Arv.set A q1 S N H G (fits_nar_char _) W' i hj hi))
/-! reads of arrays -/
theorem Arv.at {h : Heap} {b : Addr} {k : ClassId} {ty : FieldType} {z j : Int32} {vs : List Value} {dv v : Value} (V : Arv Z h b k ty z vs dv) (hj0 : ¬ j < 0) (hjz : j < z) (hv : vs.getD j.toNatClampNeg dv = v) : ∃ cl, Arr Z h b cl ty ∧ ¬ (j < 0 ∨ cl.slots.size ≤ j.toNatClampNeg) ∧ cl.slots[j.toNatClampNeg]? = some v := by
  obtain ⟨cl, A, q1, S, N, H, G⟩ := V
  exact ⟨cl, A, inb_of S ⟨hj0, hjz⟩, H.at (inb_of S ⟨hj0, hjz⟩) hv⟩
theorem l_I (X : Stand p l e R s m args below meth c T locs cells slots) (hx : p.tables.exec = Jvm.exec) (hZ : Z.Warmed39 s.vm) (eT : T.heap = h) {b : Addr} {k : ClassId} {z j : Int32} {vs : List Value} {dv v : Value} (V : Arv Z h b k .int z vs dv) (hj0 : ¬ j < 0) (hjz : j < z) (hv : vs.getD j.toNatClampNeg dv = v) (hd : decode c.code pc = .ok (.iaload, 1)) (hn : pc + 1 = n) (hr : Endz p.tables e below Q T (mkF m n Ls (v :: st))) : Endz p.tables e below Q T (mkF m pc Ls (.int j :: .ref b :: st)) := by
  subst hn
  obtain ⟨cl, A, hin, hat⟩ := Arv.at V hj0 hjz hv
  exact Endz.by (fun _ q => X.iaload hx (j := j) (v := v) (by rw [eT]; exact A.1) (State.isArrayOf_alike hZ.alike A.2.1) A.2.2 hin hat (g := mkF m pc Ls (.int j :: .ref b :: st)) rfl rfl hd _ q) hr
theorem l_B (X : Stand p l e R s m args below meth c T locs cells slots) (hx : p.tables.exec = Jvm.exec) (hZ : Z.Warmed39 s.vm) (eT : T.heap = h) {b : Addr} {k : ClassId} {z j : Int32} {vs : List Value} {dv v : Value} (V : Arv Z h b k .byte z vs dv) (hj0 : ¬ j < 0) (hjz : j < z) (hv : vs.getD j.toNatClampNeg dv = v) (hd : decode c.code pc = .ok (.baload, 1)) (hn : pc + 1 = n) (hr : Endz p.tables e below Q T (mkF m n Ls (v :: st))) : Endz p.tables e below Q T (mkF m pc Ls (.int j :: .ref b :: st)) := by
  subst hn
  obtain ⟨cl, A, hin, hat⟩ := Arv.at V hj0 hjz hv
  exact Endz.by (fun _ q => X.baloadBytes hx (j := j) (v := v) (by rw [eT]; exact A.1) (State.isArrayOf_alike hZ.alike A.2.1) A.2.2 hin hat (g := mkF m pc Ls (.int j :: .ref b :: st)) rfl rfl hd _ q) hr
theorem l_Z (X : Stand p l e R s m args below meth c T locs cells slots) (hx : p.tables.exec = Jvm.exec) (hZ : Z.Warmed39 s.vm) (eT : T.heap = h) {b : Addr} {k : ClassId} {z j : Int32} {vs : List Value} {dv v : Value} (V : Arv Z h b k .boolean z vs dv) (hj0 : ¬ j < 0) (hjz : j < z) (hv : vs.getD j.toNatClampNeg dv = v) (hd : decode c.code pc = .ok (.baload, 1)) (hn : pc + 1 = n) (hr : Endz p.tables e below Q T (mkF m n Ls (v :: st))) : Endz p.tables e below Q T (mkF m pc Ls (.int j :: .ref b :: st)) := by
  subst hn
  obtain ⟨cl, A, hin, hat⟩ := Arv.at V hj0 hjz hv
  exact Endz.by (fun _ q => X.baloadBooleans hx (j := j) (v := v) (by rw [eT]; exact A.1) (State.isArrayOf_alike hZ.alike A.2.1) A.2.2 hin hat (g := mkF m pc Ls (.int j :: .ref b :: st)) rfl rfl hd _ q) hr
theorem l_C (X : Stand p l e R s m args below meth c T locs cells slots) (hx : p.tables.exec = Jvm.exec) (hZ : Z.Warmed39 s.vm) (eT : T.heap = h) {b : Addr} {k : ClassId} {z j : Int32} {vs : List Value} {dv v : Value} (V : Arv Z h b k .char z vs dv) (hj0 : ¬ j < 0) (hjz : j < z) (hv : vs.getD j.toNatClampNeg dv = v) (hd : decode c.code pc = .ok (.caload, 1)) (hn : pc + 1 = n) (hr : Endz p.tables e below Q T (mkF m n Ls (v :: st))) : Endz p.tables e below Q T (mkF m pc Ls (.int j :: .ref b :: st)) := by
  subst hn
  obtain ⟨cl, A, hin, hat⟩ := Arv.at V hj0 hjz hv
  exact Endz.by (fun _ q => X.caload hx (j := j) (v := v) (by rw [eT]; exact A.1) (State.isArrayOf_alike hZ.alike A.2.1) A.2.2 hin hat (g := mkF m pc Ls (.int j :: .ref b :: st)) rfl rfl hd _ q) hr
theorem l_A (X : Stand p l e R s m args below meth c T locs cells slots) (hx : p.tables.exec = Jvm.exec) (hZ : Z.Warmed39 s.vm) (eT : T.heap = h) {b : Addr} {k : ClassId} {z j : Int32} {vs : List Value} {dv v : Value} {ty : FieldType} (V : Arv Z h b k ty z vs dv) (hty : ty.isReference = true) (hj0 : ¬ j < 0) (hjz : j < z) (hv : vs.getD j.toNatClampNeg dv = v) (hd : decode c.code pc = .ok (.aaload, 1)) (hn : pc + 1 = n) (hr : Endz p.tables e below Q T (mkF m n Ls (v :: st))) : Endz p.tables e below Q T (mkF m pc Ls (.int j :: .ref b :: st)) := by
  subst hn
  obtain ⟨cl, A, hin, hat⟩ := Arv.at V hj0 hjz hv
  exact Endz.by (fun _ q => X.aaload hx (j := j) (v := v) (by rw [eT]; exact A.1) (State.isArrayOf_alike hZ.alike A.2.1) hty A.2.2 hin hat (g := mkF m pc Ls (.int j :: .ref b :: st)) rfl rfl hd _ q) hr
theorem l_J (X : Stand p l e R s m args below meth c T locs cells slots) (hx : p.tables.exec = Jvm.exec) (hZ : Z.Warmed39 s.vm) (eT : T.heap = h) {b : Addr} {k : ClassId} {z j : Int32} {vs : List Value} {dv v : Value} (V : Arv Z h b k .long z vs dv) (hj0 : ¬ j < 0) (hjz : j < z) (hv : vs.getD j.toNatClampNeg dv = v) (hd : decode c.code pc = .ok (.laload, 1)) (hn : pc + 1 = n) (hr : Endz p.tables e below Q T (mkF m n Ls (v :: st))) : Endz p.tables e below Q T (mkF m pc Ls (.int j :: .ref b :: st)) := by
  subst hn
  obtain ⟨cl, A, hin, hat⟩ := Arv.at V hj0 hjz hv
  exact Endz.by (fun _ q => X.laload hx (j := j) (v := v) (by rw [eT]; exact A.1) (State.isArrayOf_alike hZ.alike A.2.1) A.2.2 hin hat (g := mkF m pc Ls (.int j :: .ref b :: st)) rfl rfl hd _ q) hr
theorem a_L (X : Stand p l e R s m args below meth c T locs cells slots) (hx : p.tables.exec = Jvm.exec) (hZ : Z.Warmed39 s.vm) (eT : T.heap = h) {b : Addr} {k : ClassId} {ty : FieldType} {z : Int32} {vs : List Value} {dv : Value} (V : Arv Z h b k ty z vs dv) (hd : decode c.code pc = .ok (.arraylength, 1)) (hn : pc + 1 = n) (hr : Endz p.tables e below Q T (mkF m n Ls (.int z :: st))) : Endz p.tables e below Q T (mkF m pc Ls (.ref b :: st)) := by
  subst hn
  obtain ⟨cl, A, q1, S, N, H, G⟩ := V
  exact Endz.by (fun _ q => X.arraylength hx (by rw [eT]; exact A.1) (State.isArrayOf_alike hZ.alike A.2.1) (g := mkF m pc Ls (.ref b :: st)) rfl rfl hd _ (by rw [len_of S N]; exact q)) hr
/-! calls -/
theorem c_S (X : Stand p l e R s m args below meth c T locs cells slots) (hx : p.tables.exec = Jvm.exec) (hZ : Z.Warmed39 s.vm) {own : String} {idx : Nat} {y : MethodName} {bytes : ByteArray} {maxL : Nat} {ret : Option FieldType} {argsL rest stk : List Value} {ps : List FieldType} {r : Option FieldType} (hown : s.vm.findClass own = some m.cls) (hM : Con l Z y bytes maxL ret [] rm argsL.toArray h Qv) (eT : T.heap = h)
    (w1 : (Jvm.Cond.methodLink own idx y).before a0 Z = true) (w2 : (Jvm.Cond.static y).before a0 Z = true) (w3 : (Jvm.Cond.initialized y.cls).before a0 Z = true) (w4 : (Jvm.Cond.code y bytes maxL ret).before a0 Z = true) (hy : y.cls ≠ "java/lang/invoke/MethodHandle" ∧ y.cls ≠ "java/lang/invoke/VarHandle")
    (W : Nat) (hf : rm.frames + 1 ≤ R.frames) (hl : W + (maxL + 11) + rm.locals ≤ R.locals) (hcl : cells + rm.cells ≤ R.cells) (hsl : slots + rm.slots ≤ R.slots) (hml : Ls.size = c.maxLocals) (hpd : parseMethodDescriptor y.desc = some ⟨ps, r⟩) (hlen : argsL.length = ps.length) (hstk : stk = argsL.reverse ++ rest) (hW : 2 * 0 + (rest.map fun v => v.category).sum ≤ W) (hd : decode c.code pc = .ok (.invokestatic idx, 3)) (hn : pc + 3 = n)
    (hr : ∀ v T' L, Stand p l e R s m args below meth c T' (locs ++ L) (cells + rm.cells) (slots + rm.slots) → Qv v T'.heap L → Endz p.tables e below Q T' (mkF m n Ls (v.toList ++ rest))) : Endz p.tables e below Q T (mkF m pc Ls stk) := by
  subst hn hstk
  obtain ⟨v, _, ⟨T', L', k', n'⟩, -, X', ⟨L, hQ, l1, y1, z1⟩, st'⟩ := Jvm.LawKit.callS X hx (y := y) hown (mvT hZ w1) (mvT hZ w2) (mvT hZ w3) (mvT hZ w4) hy (backOf (W := W) hM hZ w4 w3 hf hl) (g := mkF m pc Ls (argsL.reverse ++ rest)) rfl hml (argsL := argsL) (rest := rest) (lenOf hpd hlen) rfl hW hd (fun _ _ => ⟨rfl, eT, hcl, hsl⟩)
  dsimp only [Pt.U, Pt.locs, Pt.cells, Pt.slots] at X' l1 y1 z1 st' hQ
  subst l1 y1 z1
  exact Endz.by st' (hr v T' L X' hQ)
theorem c_N (X : Stand p l e R s m args below meth c T locs cells slots) (hx : p.tables.exec = Jvm.exec) (hZ : Z.Warmed39 s.vm) {own : String} {idx : Nat} {y : MethodName} {bytes : ByteArray} {maxL : Nat} {b : Addr} {argsL rest stk : List Value} {ps : List FieldType} {r : Option FieldType} (hy1 : y.name = "<init>") (hown : s.vm.findClass own = some m.cls) (hM : Con l Z y bytes maxL none [] rm (.ref b :: argsL).toArray h Qv) (eT : T.heap = h)
    (w1 : (Jvm.Cond.methodLink own idx y).before a0 Z = true) (w2 : (Jvm.Cond.instanceMethod y).before a0 Z = true) (w3 : (Jvm.Cond.initialized y.cls).before a0 Z = true) (w4 : (Jvm.Cond.code y bytes maxL none).before a0 Z = true) (hy : y.cls ≠ "java/lang/invoke/MethodHandle" ∧ y.cls ≠ "java/lang/invoke/VarHandle")
    (W : Nat) (hf : rm.frames + 1 ≤ R.frames) (hl : W + (maxL + 11) + rm.locals ≤ R.locals) (hcl : cells + rm.cells ≤ R.cells) (hsl : slots + rm.slots ≤ R.slots) (hml : Ls.size = c.maxLocals) (hpd : parseMethodDescriptor y.desc = some ⟨ps, r⟩) (hlen : argsL.length = ps.length) (hstk : stk = argsL.reverse ++ .ref b :: rest) (hW : 2 * 0 + (rest.map fun v => v.category).sum ≤ W) (hd : decode c.code pc = .ok (.invokespecial idx, 3)) (hn : pc + 3 = n)
    (hr : ∀ v T' L, Stand p l e R s m args below meth c T' (locs ++ L) (cells + rm.cells) (slots + rm.slots) → Qv v T'.heap L → Endz p.tables e below Q T' (mkF m n Ls (v.toList ++ rest))) : Endz p.tables e below Q T (mkF m pc Ls stk) := by
  subst hn hstk
  obtain ⟨v, _, ⟨T', L', k', n'⟩, -, X', ⟨L, hQ, l1, y1, z1⟩, st'⟩ := X.specialBack hx (y := y) hy1 hown (mvT hZ w1) (mvT hZ w2) (mvT hZ w4) hy (backOf (W := W) hM hZ w4 w3 hf hl) (g := mkF m pc Ls (argsL.reverse ++ .ref b :: rest)) rfl hml (Steps.refl _) (a := b) (argsL := argsL) (rest := rest) (lenOf hpd hlen) rfl hW hd (fun _ _ => ⟨rfl, eT, hcl, hsl⟩)
  dsimp only [Pt.U, Pt.locs, Pt.cells, Pt.slots] at X' l1 y1 z1 st' hQ
  subst l1 y1 z1
  exact Endz.tr st' (hr v T' L X' hQ)
theorem c_V (X : Stand p l e R s m args below meth c T locs cells slots) (hx : p.tables.exec = Jvm.exec) (hZ : Z.Warmed39 s.vm) {own C : String} {idx : Nat} {y z : MethodName} {bytes : ByteArray} {maxL : Nat} {ret : Option FieldType} {b : Addr} {argsL rest stk : List Value} {ps : List FieldType} {r : Option FieldType} (hown : s.vm.findClass own = some m.cls) (hM : Con l Z z bytes maxL ret [] rm (.ref b :: argsL).toArray h Qv) (eT : T.heap = h) (A : Exa Z h b C)
    (w1 : (Jvm.Cond.methodLink own idx y).before a0 Z = true) (w2 : (Jvm.Cond.declares y).before a0 Z = true) (hnf : NotFace s y) (w5 : (Jvm.Cond.selects C y z).before a0 Z = true) (w6 : (Jvm.Cond.instanceMethod z).before a0 Z = true) (w3 : (Jvm.Cond.initialized z.cls).before a0 Z = true) (w4 : (Jvm.Cond.code z bytes maxL ret).before a0 Z = true) (hy : y.cls ≠ "java/lang/invoke/MethodHandle" ∧ y.cls ≠ "java/lang/invoke/VarHandle")
    (W : Nat) (hf : rm.frames + 1 ≤ R.frames) (hl : W + (maxL + 11) + rm.locals ≤ R.locals) (hcl : cells + rm.cells ≤ R.cells) (hsl : slots + rm.slots ≤ R.slots) (hml : Ls.size = c.maxLocals) (hpd : parseMethodDescriptor y.desc = some ⟨ps, r⟩) (hlen : argsL.length = ps.length) (hstk : stk = argsL.reverse ++ .ref b :: rest) (hW : 2 * 0 + (rest.map fun v => v.category).sum ≤ W) (hd : decode c.code pc = .ok (.invokevirtual idx, 3)) (hn : pc + 3 = n)
    (hr : ∀ v T' L, Stand p l e R s m args below meth c T' (locs ++ L) (cells + rm.cells) (slots + rm.slots) → Qv v T'.heap L → Endz p.tables e below Q T' (mkF m n Ls (v.toList ++ rest))) : Endz p.tables e below Q T (mkF m pc Ls stk) := by
  subst hn hstk
  obtain ⟨cq, kq, qa, qb, qc⟩ := isOf hZ eT A
  obtain ⟨v, _, ⟨T', L', k', n'⟩, -, X', ⟨L, hQ, l1, y1, z1⟩, st'⟩ := X.virtualBack hx (y := y) (z := z) hown (mvT hZ w1) (mvT hZ w2) hnf (mvT hZ w5) (mvT hZ w6) hy (backOf (W := W) hM hZ w4 w3 hf hl) qa qc (g := mkF m pc Ls (argsL.reverse ++ .ref b :: rest)) rfl hml (Steps.refl _) (argsL := argsL) (rest := rest) (lenOf hpd hlen) rfl hW hd (fun _ _ => ⟨rfl, eT, hcl, hsl⟩)
  dsimp only [Pt.U, Pt.locs, Pt.cells, Pt.slots] at X' l1 y1 z1 st' hQ
  subst l1 y1 z1
  exact Endz.tr st' (hr v T' L X' hQ)
/-- Object.<init> -/
theorem c_O (X : Stand p l e R s m args below meth c T locs cells slots) (hx : p.tables.exec = Jvm.exec) (hZ : Z.Warmed39 s.vm) {own : String} {idx : Nat} {b : Addr} (hown : s.vm.findClass own = some m.cls) (w1 : (Jvm.Cond.methodLink own idx Lib.objectInit).before a0 Z = true) (w2 : (Jvm.Cond.instanceMethod Lib.objectInit).before a0 Z = true) (w3 : (Jvm.Cond.code Lib.objectInit ⟨#[0xb1]⟩ 1 none).before a0 Z = true) (eT : T.heap = h) (hml : Ls.size = c.maxLocals) (hd : decode c.code pc = .ok (.invokespecial idx, 3)) (hn : pc + 3 = n)
    (W : Nat) (hf : 1 ≤ R.frames) (hW : 2 * 0 + (st.map fun v => v.category).sum ≤ W) (hl : W + 12 ≤ R.locals) (hr : ∀ T', Stand p l e R s m args below meth c T' locs cells slots → T'.heap = h → Endz p.tables e below Q T' (mkF m n Ls st)) : Endz p.tables e below Q T (mkF m pc Ls (.ref b :: st)) := by
  subst hn
  obtain ⟨T', X', e', st'⟩ := initO X hx hZ hown w1 w2 w3 eT (g := mkF m pc Ls (.ref b :: st)) rfl hml rfl hd hf (W := W) hW hl
  exact Endz.by st' (hr T' X' e')
/-- the clone of an array -/
theorem c_C (X : Stand p l e R s m args below meth c T locs cells slots) (hx : p.tables.exec = Jvm.exec) (hZ : Z.Warmed39 s.vm) {own ad : String} {idx : Nat} (hown : s.vm.findClass own = some m.cls)
    (w1 : (Jvm.Cond.methodLink own idx ⟨ad, "clone", "()Ljava/lang/Object;"⟩).before a0 Z = true) (w2 : (Jvm.Cond.sameMethod ad "java/lang/Object" "clone" "()Ljava/lang/Object;").before a0 Z = true) (w3 : (Jvm.Cond.native ⟨"java/lang/Object", "clone", "()Ljava/lang/Object;"⟩).before a0 Z = true)
    (w4 : (Jvm.Cond.instanceMethod ⟨"java/lang/Object", "clone", "()Ljava/lang/Object;"⟩).before a0 Z = true) (w5 : (Jvm.Cond.selects ad ⟨ad, "clone", "()Ljava/lang/Object;"⟩ ⟨"java/lang/Object", "clone", "()Ljava/lang/Object;"⟩).before a0 Z = true) (w6 : (Jvm.Cond.castable ad "java/lang/Cloneable").before a0 Z = true)
    (eT : T.heap = h) {a : Addr} {k : ClassId} {ty : FieldType} {z : Int32} {vs : List Value} {dv : Value} (F : Arv Z h a k ty z vs dv) (A : Exa Z h a ad) (hml : Ls.size = c.maxLocals) (hd : decode c.code pc = .ok (.invokevirtual idx, 3)) (hn : pc + 3 = n)
    (W cap : Nat) (hf : 1 ≤ R.frames) (hW : 2 * 0 + (st.map fun v => v.category).sum ≤ W) (hl : W + 14 ≤ R.locals) (hcap : z.toNatClampNeg ≤ cap) (hc : cells + 1 ≤ R.cells) (hsl : slots + cap ≤ R.slots)
    (hr : ∀ T' h' b, b = h.size → Stand p l e R s m args below meth c T' locs (cells + 1) (slots + cap) → T'.heap = h' → Ext h h' → Arv Z h' b k ty z vs dv → Exa Z h' b ad → Endz p.tables e below Q T' (mkF m n Ls (.ref b :: st))) : Endz p.tables e below Q T (mkF m pc Ls (.ref a :: st)) := by
  subst hn
  obtain ⟨T', h', X', e', E', V', A', st'⟩ := cloneH X hx hZ hown w1 w2 w3 w4 w5 w6 eT F.arh A (g := mkF m pc Ls (.ref a :: st)) rfl hml rfl hd hf (W := W) (cap := cap) hW hl hcap hc hsl
  exact Endz.by st' (hr T' h' _ rfl X' e' E' V' A')
theorem k_C (X : Stand p l e R s m args below meth c T locs cells slots) (hx : p.tables.exec = Jvm.exec) (hZ : Z.Warmed39 s.vm) {own K : String} {idx : Nat} (hown : s.vm.findClass own = some m.cls) (w : (Jvm.Cond.classLink own idx K).before a0 Z = true) (eT : T.heap = h) {a : Addr} (F : Ins Z h a K true) (hd : decode c.code pc = .ok (.checkcast idx, 3)) (hn : pc + 3 = n)
    (hr : ∀ T', Stand p l e R s m args below meth c T' locs cells slots → T'.heap = h → Endz p.tables e below Q T' (mkF m n Ls (.ref a :: st))) : Endz p.tables e below Q T (mkF m pc Ls (.ref a :: st)) := by
  subst hn
  obtain ⟨T', X', e', st'⟩ := castY X hx hZ hown w eT F (g := mkF m pc Ls (.ref a :: st)) rfl rfl hd
  exact Endz.by st' (hr T' X' e')
theorem i_Y (X : Stand p l e R s m args below meth c T locs cells slots) (hx : p.tables.exec = Jvm.exec) (hZ : Z.Warmed39 s.vm) {own K : String} {idx : Nat} (hown : s.vm.findClass own = some m.cls) (w : (Jvm.Cond.classLink own idx K).before a0 Z = true) (eT : T.heap = h) {a : Addr} (F : Ins Z h a K true) (hd : decode c.code pc = .ok (.instanceof idx, 3)) (hn : pc + 3 = n)
    (hr : ∀ T', Stand p l e R s m args below meth c T' locs cells slots → T'.heap = h → Endz p.tables e below Q T' (mkF m n Ls (.int 1 :: st))) : Endz p.tables e below Q T (mkF m pc Ls (.ref a :: st)) := by
  subst hn
  obtain ⟨T', X', e', st'⟩ := instY X hx hZ hown w eT F (g := mkF m pc Ls (.ref a :: st)) rfl rfl hd
  exact Endz.by st' (hr T' X' e')
theorem Ext.keep1 {h0 h h' : Heap} {b : Addr} (E : Ext h0 h) (K : Keep h h' [b]) (q : h0.size ≤ b) : Ext h0 h' := ⟨Nat.le_trans E.1 K.1, fun a c z => K.2.1 a c (E.2 a c z) (ninS (fun e => by subst e; exact absurd (Array.getElem?_eq_some_iff.mp z).1 (Nat.not_lt.mpr q)) nin0)⟩
/-- System.arraycopy -/
theorem c_Y (X : Stand p l e R s m args below meth c T locs cells slots) (hx : p.tables.exec = Jvm.exec) (hZ : Z.Warmed39 s.vm) {own : String} {idx : Nat} (hown : s.vm.findClass own = some m.cls)
    (w1 : (Jvm.Cond.methodLink own idx Jvm.Stand.acN).before a0 Z = true) (w2 : (Jvm.Cond.native Jvm.Stand.acN).before a0 Z = true) (w3 : (Jvm.Cond.static Jvm.Stand.acN).before a0 Z = true) (w4 : (Jvm.Cond.initialized "java/lang/System").before a0 Z = true) (eT : T.heap = h)
    {a b : Addr} {k k' : ClassId} {ty : FieldType} {z z' sp dp nn : Int32} {vs vd us : List Value} {dv dd : Value} (A : Arv Z h a k ty z vs dv) (B : Arv Z h b k' ty z' vd dd) (hty : refKind ty = false)
    (h1 : ¬ sp < 0) (h2 : ¬ dp < 0) (h3 : ¬ nn < 0) (h4 : sp.toNatClampNeg + nn.toNatClampNeg ≤ z.toNatClampNeg) (h5 : dp.toNatClampNeg + nn.toNatClampNeg ≤ z'.toNatClampNeg)
    (hus : us = (List.range nn.toNatClampNeg).map fun i => vs.getD (sp.toNatClampNeg + i) dv) (hl : dp.toNatClampNeg + nn.toNatClampNeg ≤ vd.length) {n0 : Nat} (N : Fr n0 locs) (ge : n0 ≤ b) (hml : Ls.size = c.maxLocals) (hd : decode c.code pc = .ok (.invokestatic idx, 3)) (hn : pc + 3 = n)
    (W : Nat) (hf : 1 ≤ R.frames) (hW : 2 * 0 + (st.map fun v => v.category).sum ≤ W) (hlo : W + (nativeFrameWords "java/lang/System" "arraycopy" 5 + 11) ≤ R.locals)
    (hr : ∀ T' h' L, Stand p l e R s m args below meth c T' L cells slots → T'.heap = h' → Fr n0 L → Keep h h' [b] → Arv Z h' b k' ty z' (vd.take dp.toNatClampNeg ++ us ++ vd.drop (dp.toNatClampNeg + nn.toNatClampNeg)) dd → Endz p.tables e below Q T' (mkF m n Ls st)) : Endz p.tables e below Q T (mkF m pc Ls (.int nn :: .int dp :: .ref b :: .int sp :: .ref a :: st)) := by
  subst hn
  obtain ⟨T', h', L, X', e', N', K', V', st'⟩ := cpA X hx hZ hown w1 w2 w3 w4 eT A B (Or.inl ⟨rfl, hty⟩) h1 h2 h3 h4 h5 hus hl N ge (g := mkF m pc Ls (.int nn :: .int dp :: .ref b :: .int sp :: .ref a :: st)) rfl hml rfl hd hf (W := W) hW hlo
  exact Endz.by st' (hr T' h' L X' e' N' K' V')
end Heap
section Start
variable {args : Array Value} {s : State}
/-- a static that the case says to be exactly of a class -/
theorem sta_v {C nm d K : String} (h : (Jvm.Cond.exactly (.static C nm d) K).value args s none s [] = some true) (wi : (Jvm.Cond.initialized C).before args s = true) (wl : (Jvm.Cond.laysStatic C nm d).before args s = true) : ∃ a, (Term.static C nm d).eval args s none [] s = some (.ref a) ∧ Exa s s.heap a K ∧ Sta s s.heap C nm d (.ref a) := by
  obtain ⟨a, ev⟩ := exa_v h
  exact ⟨a, ev, Exa.start ev h, Sta.start ev (Or.inr ⟨wi, wl⟩)⟩
/-- a field of it that the case says to be an int -/
theorem fldi_v {t : Term} {a : Addr} {C nm d : String} {k : Int32} (ev : t.eval args s none [] s = some (.ref a)) (h : (Jvm.Cond.eq (.field t C nm d) (.int k)).value args s none s [] = some true) : Fld s s.heap a C nm d (.int k) := by
  obtain ⟨x, y, e1, e2, k1, k2⟩ := cmp_v (Or.inl h)
  have hy : y = .int k := by have := (Term.int_eval (args := args) (first := s) (o := none) (idx := []) (s := s) k).symm.trans e2; exact (Option.some.inj this).symm
  subst hy
  obtain ⟨z, rfl⟩ := k2
  have := gotT (Cond.eq_ints e1 e2) h
  subst this
  exact Fld.start (by rw [← fld_at ev]; exact e1)
theorem len_is {t : Term} {a : Addr} {cl : Cell} {z : Int32} (ev : t.eval args s none [] s = some (.ref a)) (hc : s.heap[a]? = some cl) (h : (Jvm.Cond.eq (.length t) (.int z)).value args s none s [] = some true) : cl.slots.size < 2 ^ 31 ∧ cl.slots.size.toInt32 = z := by
  obtain ⟨x, y, e1, e2, -, k2⟩ := cmp_v (Or.inl h)
  cases (Term.int_eval (args := args) (first := s) (o := none) (idx := []) (s := s) z).symm.trans e2
  obtain ⟨w, rfl⟩ := k2
  have hw := gotT (Cond.eq_ints e1 e2) h
  subst hw
  simp only [Term.eval, ev, Option.bind_eq_bind, Option.bind_some] at e1
  cases ha : s.arrayAt? a with
  | none => simp [ha] at e1
  | some c2 =>
    cases hc.symm.trans (State.arrayAt?_spec ha).1
    by_cases hb : cl.slots.size < 2 ^ 31
    · simp [ha, hb] at e1; exact ⟨hb, e1⟩
    · simp [ha, hb] at e1
theorem elem_is {t u : Term} {a : Addr} {cl : Cell} {j : Int32} {v : Value} (ev : t.eval args s none [] s = some (.ref a)) (hc : s.heap[a]? = some cl) (eu : u.eval args s none [] s = some v) (hv : v.isRef = true) (h : (Jvm.Cond.eq (.elem t (.int j)) u).value args s none s [] = some true) : cl.slots[j.toNatClampNeg]? = some v := by
  obtain ⟨x, y, e1, e2, k1, k2⟩ := cmp_v (Or.inl h)
  cases eu.symm.trans e2
  have hx : x.isRef = true := by
    rcases ref_cases hv with rfl | ⟨b, rfl⟩
    · exact k2.2
    · exact k2.2
  have hw := gotT (eq_R e1 eu hx hv) h
  subst hw
  exact (elem_in e1 ev (Term.int_eval _) hc).2
theorem elemi_is {t : Term} {a : Addr} {cl : Cell} {j k : Int32} (ev : t.eval args s none [] s = some (.ref a)) (hc : s.heap[a]? = some cl) (h : (Jvm.Cond.eq (.elem t (.int j)) (.int k)).value args s none s [] = some true) : cl.slots[j.toNatClampNeg]? = some (.int k) := by
  obtain ⟨x, y, e1, e2, -, k2⟩ := cmp_v (Or.inl h)
  cases (Term.int_eval (args := args) (first := s) (o := none) (idx := []) (s := s) k).symm.trans e2
  obtain ⟨w, rfl⟩ := k2
  have hw := gotT (Cond.eq_ints e1 e2) h
  subst hw
  exact (elem_in e1 ev (Term.int_eval _) hc).2
theorem fldr_v {t : Term} {a b : Addr} {C nm d : String} (ev : t.eval args s none [] s = some (.ref a)) (h : (Term.field t C nm d).eval args s none [] s = some (.ref b)) : Fld s s.heap a C nm d (.ref b) := Fld.start (by rw [← fld_at ev]; exact h)
theorem eleml_is {t : Term} {a : Addr} {cl : Cell} {j : Int32} {k : Int64} (ev : t.eval args s none [] s = some (.ref a)) (hc : s.heap[a]? = some cl) (h : (Jvm.Cond.eq (.elem t (.int j)) (.long k)).value args s none s [] = some true) : cl.slots[j.toNatClampNeg]? = some (.long k) := by
  obtain ⟨x, y, e1, e2, -, k2⟩ := cmp_v (Or.inl h)
  have hk : (Term.long k).eval args s none [] s = some (.long k) := rfl
  cases hk.symm.trans e2
  obtain ⟨w, rfl⟩ := k2
  have hw := gotT (eq_L e1 e2) h
  subst hw
  exact (elem_in e1 ev (Term.int_eval _) hc).2
end Start
section Index
theorem i0_toInt : (0 : Int32).toInt = 0 := by decide
/-- (x & MAX) mod m is a place below m -/
theorem idx_mod (x m : Int32) (M : Nat) (hm : m.toInt = M) (hM : 0 < M) : ¬ ((x &&& 2147483647) % m < 0) ∧ (x &&& 2147483647) % m < m ∧ ((x &&& 2147483647) % m).toNatClampNeg < M := by
  have h1 := c_mask x 2147483647 31 (by decide) (by decide)
  have h2 := (c_irem (x &&& 2147483647) m M hm).1 (by rw [h1]; exact Int.emod_nonneg _ (by decide))
  have h3 := Int.emod_nonneg (x &&& 2147483647).toInt (show (M : Int) ≠ 0 by omega)
  have h4 := Int.emod_lt_of_pos (x &&& 2147483647).toInt (show (0 : Int) < M by omega)
  generalize (x &&& 2147483647) % m = n at h2 ⊢
  have h5 : ¬ n < 0 := by rw [Int32.lt_iff_toInt_lt, i0_toInt]; omega
  have h6 := nat_of h5
  exact ⟨h5, by rw [Int32.lt_iff_toInt_lt, hm]; omega, by omega⟩
theorem idx_eq {n k : Int32} {j : Nat} (h : ¬ n < 0) (hk : k.toInt = j) : n = k ↔ n.toNatClampNeg = j := by
  have h6 := nat_of h
  rw [← Int32.toInt_inj]; omega
theorem getD_map (ws : List Addr) (j : Nat) (h : j < ws.length) : (ws.map Value.ref).getD j .null = .ref (ws.getD j 0) := by
  simp [List.getD_eq_getElem?_getD, List.getElem?_eq_getElem, h]
theorem getD_mapI (ws : List Int32) (j : Nat) : (ws.map Value.int).getD j (.int 0) = .int (ws.getD j 0) := by
  simp only [List.getD_eq_getElem?_getD, List.getElem?_map]
  cases ws[j]? <;> rfl
theorem getD_mapJ (ws : List Int64) (j : Nat) : (ws.map Value.long).getD j (.long 0) = .long (ws.getD j 0) := by
  simp only [List.getD_eq_getElem?_getD, List.getElem?_map]
  cases ws[j]? <;> rfl
/-! small naturals as ints -/
theorem nat_toInt {n : Nat} (h : n < 2147483648) : (Int32.ofNat n).toInt = n := Int32.toInt_ofNat_small h
theorem nat_clamp {n : Nat} (h : n < 2147483648) : (Int32.ofNat n).toNatClampNeg = n := by
  show (Int32.ofNat n).toInt.toNat = n
  rw [nat_toInt h]; rfl
theorem nat_nn {n : Nat} (h : n < 2147483648) : ¬ Int32.ofNat n < 0 := by rw [Int32.lt_iff_toInt_lt, nat_toInt h, i0_toInt]; omega
theorem nat_lt {n k : Nat} (h : n < 2147483648) (h' : k < 2147483648) : Int32.ofNat n < Int32.ofNat k ↔ n < k := by rw [Int32.lt_iff_toInt_lt, nat_toInt h, nat_toInt h']; omega
theorem nat_eq {n k : Nat} (h : n < 2147483648) (h' : k < 2147483648) : Int32.ofNat n = Int32.ofNat k ↔ n = k := by rw [← Int32.toInt_inj, nat_toInt h, nat_toInt h']; omega
theorem nat_up (n : Nat) : Int32.ofNat n + 1 = Int32.ofNat (n + 1) := by simp [Int32.ofNat_add]
theorem Fld.fun {Z : State} {h : Heap} {a : Addr} {C n d : String} {v w : Value} (F : Fld Z h a C n d v) (G : Fld Z h a C n d w) : v = w := Classical.byContradiction fun q => F.ne G q rfl
end Index
end Jvm.OwnKit
namespace Jvm.Pilot.@@N@@
open Jvm Jvm.ClassFile Sem Op Lib Jvm.Free Jvm.Stand Jvm.LawKit Jvm.RoadKit Bundle Jvm.Pilot.@@N@@.Jvm.D Jvm.OwnKit
theorem d5_0 : decode prog_59_method_2_code 0 = .ok (.aload_n 0, 1) := by decide +kernel
theorem d5_1 : decode prog_59_method_2_code 1 = .ok (.aload_n 1, 1) := by decide +kernel
theorem d5_2 : decode prog_59_method_2_code 2 = .ok (.iload_n 2, 1) := by decide +kernel
theorem d5_3 : decode prog_59_method_2_code 3 = .ok (.baload, 1) := by decide +kernel
theorem d5_4 : decode prog_59_method_2_code 4 = .ok (.bipush 45, 2) := by decide +kernel
theorem d5_6 : decode prog_59_method_2_code 6 = .ok (.if_icmp .ne 7, 3) := by decide +kernel
theorem d5_9 : decode prog_59_method_2_code 9 = .ok (.iconst 1, 1) := by decide +kernel
theorem d5_10 : decode prog_59_method_2_code 10 = .ok (.goto 4, 3) := by decide +kernel
theorem d5_13 : decode prog_59_method_2_code 13 = .ok (.iconst 0, 1) := by decide +kernel
theorem d5_14 : decode prog_59_method_2_code 14 = .ok (.putfield 7, 3) := by decide +kernel
theorem d5_17 : decode prog_59_method_2_code 17 = .ok (.iconst (-1), 1) := by decide +kernel
theorem d5_18 : decode prog_59_method_2_code 18 = .ok (.istore 4, 2) := by decide +kernel
theorem d5_20 : decode prog_59_method_2_code 20 = .ok (.iload_n 3, 1) := by decide +kernel
theorem d5_21 : decode prog_59_method_2_code 21 = .ok (.istore 5, 2) := by decide +kernel
theorem d5_23 : decode prog_59_method_2_code 23 = .ok (.lconst 0, 1) := by decide +kernel
theorem d5_24 : decode prog_59_method_2_code 24 = .ok (.lstore 6, 2) := by decide +kernel
theorem d5_26 : decode prog_59_method_2_code 26 = .ok (.iload_n 2, 1) := by decide +kernel
theorem d5_27 : decode prog_59_method_2_code 27 = .ok (.istore 8, 2) := by decide +kernel
theorem d5_29 : decode prog_59_method_2_code 29 = .ok (.iload 8, 2) := by decide +kernel
theorem d5_31 : decode prog_59_method_2_code 31 = .ok (.iload_n 3, 1) := by decide +kernel
theorem d5_32 : decode prog_59_method_2_code 32 = .ok (.if_icmp .ge 64, 3) := by decide +kernel
theorem d5_35 : decode prog_59_method_2_code 35 = .ok (.iload 5, 2) := by decide +kernel
theorem d5_37 : decode prog_59_method_2_code 37 = .ok (.iload_n 3, 1) := by decide +kernel
theorem d5_38 : decode prog_59_method_2_code 38 = .ok (.if_icmp .ne 58, 3) := by decide +kernel
theorem d5_41 : decode prog_59_method_2_code 41 = .ok (.aload_n 1, 1) := by decide +kernel
theorem d5_42 : decode prog_59_method_2_code 42 = .ok (.iload 8, 2) := by decide +kernel
theorem d5_44 : decode prog_59_method_2_code 44 = .ok (.baload, 1) := by decide +kernel
theorem d5_45 : decode prog_59_method_2_code 45 = .ok (.bipush 46, 2) := by decide +kernel
theorem d5_47 : decode prog_59_method_2_code 47 = .ok (.if_icmp .ne 10, 3) := by decide +kernel
theorem d5_50 : decode prog_59_method_2_code 50 = .ok (.iload 8, 2) := by decide +kernel
theorem d5_52 : decode prog_59_method_2_code 52 = .ok (.istore 4, 2) := by decide +kernel
theorem d5_54 : decode prog_59_method_2_code 54 = .ok (.goto 36, 3) := by decide +kernel
theorem d5_57 : decode prog_59_method_2_code 57 = .ok (.aload_n 1, 1) := by decide +kernel
theorem d5_58 : decode prog_59_method_2_code 58 = .ok (.iload 8, 2) := by decide +kernel
theorem d5_60 : decode prog_59_method_2_code 60 = .ok (.baload, 1) := by decide +kernel
theorem d5_61 : decode prog_59_method_2_code 61 = .ok (.bipush 101, 2) := by decide +kernel
theorem d5_63 : decode prog_59_method_2_code 63 = .ok (.if_icmp .eq 12, 3) := by decide +kernel
theorem d5_66 : decode prog_59_method_2_code 66 = .ok (.aload_n 1, 1) := by decide +kernel
theorem d5_67 : decode prog_59_method_2_code 67 = .ok (.iload 8, 2) := by decide +kernel
theorem d5_69 : decode prog_59_method_2_code 69 = .ok (.baload, 1) := by decide +kernel
theorem d5_70 : decode prog_59_method_2_code 70 = .ok (.bipush 69, 2) := by decide +kernel
theorem d5_72 : decode prog_59_method_2_code 72 = .ok (.if_icmp .ne 18, 3) := by decide +kernel
theorem d5_90 : decode prog_59_method_2_code 90 = .ok (.iinc 8 1, 3) := by decide +kernel
theorem d5_93 : decode prog_59_method_2_code 93 = .ok (.goto (-64), 3) := by decide +kernel
theorem d5_96 : decode prog_59_method_2_code 96 = .ok (.iload 4, 2) := by decide +kernel
theorem d5_98 : decode prog_59_method_2_code 98 = .ok (.ifCond .ge 8, 3) := by decide +kernel
theorem d5_101 : decode prog_59_method_2_code 101 = .ok (.iload 5, 2) := by decide +kernel
theorem d5_103 : decode prog_59_method_2_code 103 = .ok (.goto 5, 3) := by decide +kernel
theorem d5_106 : decode prog_59_method_2_code 106 = .ok (.iload 4, 2) := by decide +kernel
theorem d5_108 : decode prog_59_method_2_code 108 = .ok (.istore 8, 2) := by decide +kernel
theorem d5_110 : decode prog_59_method_2_code 110 = .ok (.aload_n 0, 1) := by decide +kernel
theorem d5_111 : decode prog_59_method_2_code 111 = .ok (.lconst 0, 1) := by decide +kernel
theorem d5_112 : decode prog_59_method_2_code 112 = .ok (.putfield 17, 3) := by decide +kernel
theorem d5_115 : decode prog_59_method_2_code 115 = .ok (.aload_n 0, 1) := by decide +kernel
theorem d5_116 : decode prog_59_method_2_code 116 = .ok (.lconst 0, 1) := by decide +kernel
theorem d5_117 : decode prog_59_method_2_code 117 = .ok (.putfield 21, 3) := by decide +kernel
theorem d5_120 : decode prog_59_method_2_code 120 = .ok (.aload_n 0, 1) := by decide +kernel
theorem d5_121 : decode prog_59_method_2_code 121 = .ok (.iconst 0, 1) := by decide +kernel
theorem d5_122 : decode prog_59_method_2_code 122 = .ok (.putfield 24, 3) := by decide +kernel
theorem d5_125 : decode prog_59_method_2_code 125 = .ok (.aload_n 0, 1) := by decide +kernel
theorem d5_126 : decode prog_59_method_2_code 126 = .ok (.iconst 0, 1) := by decide +kernel
theorem d5_127 : decode prog_59_method_2_code 127 = .ok (.putfield 27, 3) := by decide +kernel
theorem d5_130 : decode prog_59_method_2_code 130 = .ok (.aload_n 0, 1) := by decide +kernel
theorem d5_131 : decode prog_59_method_2_code 131 = .ok (.getfield 7, 3) := by decide +kernel
theorem d5_134 : decode prog_59_method_2_code 134 = .ok (.ifCond .eq 9, 3) := by decide +kernel
theorem d5_137 : decode prog_59_method_2_code 137 = .ok (.iload_n 2, 1) := by decide +kernel
theorem d5_138 : decode prog_59_method_2_code 138 = .ok (.iconst 1, 1) := by decide +kernel
theorem d5_139 : decode prog_59_method_2_code 139 = .ok (.iadd, 1) := by decide +kernel
theorem d5_140 : decode prog_59_method_2_code 140 = .ok (.goto 4, 3) := by decide +kernel
theorem d5_143 : decode prog_59_method_2_code 143 = .ok (.iload_n 2, 1) := by decide +kernel
theorem d5_144 : decode prog_59_method_2_code 144 = .ok (.istore 9, 2) := by decide +kernel
theorem d5_146 : decode prog_59_method_2_code 146 = .ok (.iload 9, 2) := by decide +kernel
theorem d5_148 : decode prog_59_method_2_code 148 = .ok (.iload 5, 2) := by decide +kernel
theorem d5_150 : decode prog_59_method_2_code 150 = .ok (.if_icmp .ge 153, 3) := by decide +kernel
theorem d5_153 : decode prog_59_method_2_code 153 = .ok (.aload_n 0, 1) := by decide +kernel
theorem d5_154 : decode prog_59_method_2_code 154 = .ok (.getfield 27, 3) := by decide +kernel
theorem d5_157 : decode prog_59_method_2_code 157 = .ok (.ifCond .ne 146, 3) := by decide +kernel
theorem d5_160 : decode prog_59_method_2_code 160 = .ok (.aload_n 1, 1) := by decide +kernel
theorem d5_161 : decode prog_59_method_2_code 161 = .ok (.iload 9, 2) := by decide +kernel
theorem d5_163 : decode prog_59_method_2_code 163 = .ok (.baload, 1) := by decide +kernel
theorem d5_164 : decode prog_59_method_2_code 164 = .ok (.bipush 48, 2) := by decide +kernel
theorem d5_166 : decode prog_59_method_2_code 166 = .ok (.isub, 1) := by decide +kernel
theorem d5_167 : decode prog_59_method_2_code 167 = .ok (.istore 10, 2) := by decide +kernel
theorem d5_169 : decode prog_59_method_2_code 169 = .ok (.iload 9, 2) := by decide +kernel
theorem d5_171 : decode prog_59_method_2_code 171 = .ok (.iload 4, 2) := by decide +kernel
theorem d5_173 : decode prog_59_method_2_code 173 = .ok (.if_icmp .eq 124, 3) := by decide +kernel
theorem d5_176 : decode prog_59_method_2_code 176 = .ok (.iload 10, 2) := by decide +kernel
theorem d5_178 : decode prog_59_method_2_code 178 = .ok (.ifCond .eq 119, 3) := by decide +kernel
theorem d5_181 : decode prog_59_method_2_code 181 = .ok (.lload 6, 2) := by decide +kernel
theorem d5_183 : decode prog_59_method_2_code 183 = .ok (.iload 9, 2) := by decide +kernel
theorem d5_185 : decode prog_59_method_2_code 185 = .ok (.iload 8, 2) := by decide +kernel
theorem d5_187 : decode prog_59_method_2_code 187 = .ok (.if_icmp .ge 13, 3) := by decide +kernel
theorem d5_190 : decode prog_59_method_2_code 190 = .ok (.iload 8, 2) := by decide +kernel
theorem d5_192 : decode prog_59_method_2_code 192 = .ok (.iconst 1, 1) := by decide +kernel
theorem d5_193 : decode prog_59_method_2_code 193 = .ok (.isub, 1) := by decide +kernel
theorem d5_194 : decode prog_59_method_2_code 194 = .ok (.iload 9, 2) := by decide +kernel
theorem d5_196 : decode prog_59_method_2_code 196 = .ok (.isub, 1) := by decide +kernel
theorem d5_197 : decode prog_59_method_2_code 197 = .ok (.goto 8, 3) := by decide +kernel
theorem d5_200 : decode prog_59_method_2_code 200 = .ok (.iload 8, 2) := by decide +kernel
theorem d5_202 : decode prog_59_method_2_code 202 = .ok (.iload 9, 2) := by decide +kernel
theorem d5_204 : decode prog_59_method_2_code 204 = .ok (.isub, 1) := by decide +kernel
theorem d5_205 : decode prog_59_method_2_code 205 = .ok (.i2l, 1) := by decide +kernel
theorem d5_206 : decode prog_59_method_2_code 206 = .ok (.ladd, 1) := by decide +kernel
theorem d5_207 : decode prog_59_method_2_code 207 = .ok (.lstore 11, 2) := by decide +kernel
theorem d5_209 : decode prog_59_method_2_code 209 = .ok (.lload 11, 2) := by decide +kernel
theorem d5_211 : decode prog_59_method_2_code 211 = .ok (.ldc2_w 30, 3) := by decide +kernel
theorem d5_214 : decode prog_59_method_2_code 214 = .ok (.lcmp, 1) := by decide +kernel
theorem d5_215 : decode prog_59_method_2_code 215 = .ok (.ifCond .lt 11, 3) := by decide +kernel
theorem d5_218 : decode prog_59_method_2_code 218 = .ok (.aload_n 0, 1) := by decide +kernel
theorem d5_219 : decode prog_59_method_2_code 219 = .ok (.iconst 1, 1) := by decide +kernel
theorem d5_220 : decode prog_59_method_2_code 220 = .ok (.putfield 27, 3) := by decide +kernel
theorem d5_223 : decode prog_59_method_2_code 223 = .ok (.goto 74, 3) := by decide +kernel
theorem d5_226 : decode prog_59_method_2_code 226 = .ok (.lload 11, 2) := by decide +kernel
theorem d5_228 : decode prog_59_method_2_code 228 = .ok (.lconst 0, 1) := by decide +kernel
theorem d5_229 : decode prog_59_method_2_code 229 = .ok (.lcmp, 1) := by decide +kernel
theorem d5_230 : decode prog_59_method_2_code 230 = .ok (.ifCond .lt 26, 3) := by decide +kernel
theorem d5_233 : decode prog_59_method_2_code 233 = .ok (.aload_n 0, 1) := by decide +kernel
theorem d5_234 : decode prog_59_method_2_code 234 = .ok (.dup, 1) := by decide +kernel
theorem d5_235 : decode prog_59_method_2_code 235 = .ok (.getfield 17, 3) := by decide +kernel
theorem d5_238 : decode prog_59_method_2_code 238 = .ok (.iload 10, 2) := by decide +kernel
theorem d5_240 : decode prog_59_method_2_code 240 = .ok (.i2l, 1) := by decide +kernel
theorem d5_241 : decode prog_59_method_2_code 241 = .ok (.getstatic 32, 3) := by decide +kernel
theorem d5_244 : decode prog_59_method_2_code 244 = .ok (.lload 11, 2) := by decide +kernel
theorem d5_246 : decode prog_59_method_2_code 246 = .ok (.l2i, 1) := by decide +kernel
theorem d5_247 : decode prog_59_method_2_code 247 = .ok (.laload, 1) := by decide +kernel
theorem d5_248 : decode prog_59_method_2_code 248 = .ok (.lmul, 1) := by decide +kernel
theorem d5_249 : decode prog_59_method_2_code 249 = .ok (.ladd, 1) := by decide +kernel
theorem d5_250 : decode prog_59_method_2_code 250 = .ok (.putfield 17, 3) := by decide +kernel
theorem d5_253 : decode prog_59_method_2_code 253 = .ok (.goto 44, 3) := by decide +kernel
theorem d5_256 : decode prog_59_method_2_code 256 = .ok (.lload 11, 2) := by decide +kernel
theorem d5_258 : decode prog_59_method_2_code 258 = .ok (.ldc2_w 36, 3) := by decide +kernel
theorem d5_261 : decode prog_59_method_2_code 261 = .ok (.lcmp, 1) := by decide +kernel
theorem d5_262 : decode prog_59_method_2_code 262 = .ok (.ifCond .lt 30, 3) := by decide +kernel
theorem d5_265 : decode prog_59_method_2_code 265 = .ok (.aload_n 0, 1) := by decide +kernel
theorem d5_266 : decode prog_59_method_2_code 266 = .ok (.dup, 1) := by decide +kernel
theorem d5_267 : decode prog_59_method_2_code 267 = .ok (.getfield 21, 3) := by decide +kernel
theorem d5_270 : decode prog_59_method_2_code 270 = .ok (.iload 10, 2) := by decide +kernel
theorem d5_272 : decode prog_59_method_2_code 272 = .ok (.i2l, 1) := by decide +kernel
theorem d5_273 : decode prog_59_method_2_code 273 = .ok (.getstatic 32, 3) := by decide +kernel
theorem d5_276 : decode prog_59_method_2_code 276 = .ok (.ldc2_w 38, 3) := by decide +kernel
theorem d5_279 : decode prog_59_method_2_code 279 = .ok (.lload 11, 2) := by decide +kernel
theorem d5_281 : decode prog_59_method_2_code 281 = .ok (.ladd, 1) := by decide +kernel
theorem d5_282 : decode prog_59_method_2_code 282 = .ok (.l2i, 1) := by decide +kernel
theorem d5_283 : decode prog_59_method_2_code 283 = .ok (.laload, 1) := by decide +kernel
theorem d5_284 : decode prog_59_method_2_code 284 = .ok (.lmul, 1) := by decide +kernel
theorem d5_285 : decode prog_59_method_2_code 285 = .ok (.ladd, 1) := by decide +kernel
theorem d5_286 : decode prog_59_method_2_code 286 = .ok (.putfield 21, 3) := by decide +kernel
theorem d5_289 : decode prog_59_method_2_code 289 = .ok (.goto 8, 3) := by decide +kernel
theorem d5_292 : decode prog_59_method_2_code 292 = .ok (.aload_n 0, 1) := by decide +kernel
theorem d5_293 : decode prog_59_method_2_code 293 = .ok (.iconst 1, 1) := by decide +kernel
theorem d5_294 : decode prog_59_method_2_code 294 = .ok (.putfield 24, 3) := by decide +kernel
theorem d5_297 : decode prog_59_method_2_code 297 = .ok (.iinc 9 1, 3) := by decide +kernel
theorem d5_300 : decode prog_59_method_2_code 300 = .ok (.goto (-154), 3) := by decide +kernel
theorem d5_303 : decode prog_59_method_2_code 303 = .ok (.return_, 1) := by decide +kernel
theorem d1_0 : decode method_2_code 0 = .ok (.ldc2_w 7, 3) := by decide +kernel
theorem d1_3 : decode method_2_code 3 = .ok (.lload_n 0, 1) := by decide +kernel
theorem d1_4 : decode method_2_code 4 = .ok (.lload_n 2, 1) := by decide +kernel
theorem d1_5 : decode method_2_code 5 = .ok (.ldiv, 1) := by decide +kernel
theorem d1_6 : decode method_2_code 6 = .ok (.ldc2_w 9, 3) := by decide +kernel
theorem d1_9 : decode method_2_code 9 = .ok (.lrem, 1) := by decide +kernel
theorem d1_10 : decode method_2_code 10 = .ok (.ladd, 1) := by decide +kernel
theorem d1_11 : decode method_2_code 11 = .ok (.l2i, 1) := by decide +kernel
theorem d1_12 : decode method_2_code 12 = .ok (.i2b, 1) := by decide +kernel
theorem d1_13 : decode method_2_code 13 = .ok (.ireturn, 1) := by decide +kernel
theorem d2_0 : decode method_3_code 0 = .ok (.iconst 1, 1) := by decide +kernel
theorem d2_1 : decode method_3_code 1 = .ok (.istore_n 2, 1) := by decide +kernel
theorem d2_2 : decode method_3_code 2 = .ok (.lload_n 0, 1) := by decide +kernel
theorem d2_3 : decode method_3_code 3 = .ok (.ldc2_w 9, 3) := by decide +kernel
theorem d2_6 : decode method_3_code 6 = .ok (.lcmp, 1) := by decide +kernel
theorem d2_7 : decode method_3_code 7 = .ok (.ifCond .lt 5, 3) := by decide +kernel
theorem d2_10 : decode method_3_code 10 = .ok (.iconst 2, 1) := by decide +kernel
theorem d2_11 : decode method_3_code 11 = .ok (.istore_n 2, 1) := by decide +kernel
theorem d2_12 : decode method_3_code 12 = .ok (.lload_n 0, 1) := by decide +kernel
theorem d2_13 : decode method_3_code 13 = .ok (.ldc2_w 11, 3) := by decide +kernel
theorem d2_16 : decode method_3_code 16 = .ok (.lcmp, 1) := by decide +kernel
theorem d2_17 : decode method_3_code 17 = .ok (.ifCond .lt 5, 3) := by decide +kernel
theorem d2_20 : decode method_3_code 20 = .ok (.iconst 3, 1) := by decide +kernel
theorem d2_21 : decode method_3_code 21 = .ok (.istore_n 2, 1) := by decide +kernel
theorem d2_22 : decode method_3_code 22 = .ok (.lload_n 0, 1) := by decide +kernel
theorem d2_23 : decode method_3_code 23 = .ok (.ldc2_w 13, 3) := by decide +kernel
theorem d2_26 : decode method_3_code 26 = .ok (.lcmp, 1) := by decide +kernel
theorem d2_27 : decode method_3_code 27 = .ok (.ifCond .lt 5, 3) := by decide +kernel
theorem d2_30 : decode method_3_code 30 = .ok (.iconst 4, 1) := by decide +kernel
theorem d2_31 : decode method_3_code 31 = .ok (.istore_n 2, 1) := by decide +kernel
theorem d2_32 : decode method_3_code 32 = .ok (.lload_n 0, 1) := by decide +kernel
theorem d2_33 : decode method_3_code 33 = .ok (.ldc2_w 15, 3) := by decide +kernel
theorem d2_36 : decode method_3_code 36 = .ok (.lcmp, 1) := by decide +kernel
theorem d2_37 : decode method_3_code 37 = .ok (.ifCond .lt 5, 3) := by decide +kernel
theorem d2_40 : decode method_3_code 40 = .ok (.iconst 5, 1) := by decide +kernel
theorem d2_41 : decode method_3_code 41 = .ok (.istore_n 2, 1) := by decide +kernel
theorem d2_42 : decode method_3_code 42 = .ok (.lload_n 0, 1) := by decide +kernel
theorem d2_43 : decode method_3_code 43 = .ok (.ldc2_w 17, 3) := by decide +kernel
theorem d2_46 : decode method_3_code 46 = .ok (.lcmp, 1) := by decide +kernel
theorem d2_47 : decode method_3_code 47 = .ok (.ifCond .lt 6, 3) := by decide +kernel
theorem d2_50 : decode method_3_code 50 = .ok (.bipush 6, 2) := by decide +kernel
theorem d2_52 : decode method_3_code 52 = .ok (.istore_n 2, 1) := by decide +kernel
theorem d2_53 : decode method_3_code 53 = .ok (.lload_n 0, 1) := by decide +kernel
theorem d2_54 : decode method_3_code 54 = .ok (.ldc2_w 19, 3) := by decide +kernel
theorem d2_57 : decode method_3_code 57 = .ok (.lcmp, 1) := by decide +kernel
theorem d2_58 : decode method_3_code 58 = .ok (.ifCond .lt 6, 3) := by decide +kernel
theorem d2_61 : decode method_3_code 61 = .ok (.bipush 7, 2) := by decide +kernel
theorem d2_63 : decode method_3_code 63 = .ok (.istore_n 2, 1) := by decide +kernel
theorem d2_64 : decode method_3_code 64 = .ok (.lload_n 0, 1) := by decide +kernel
theorem d2_65 : decode method_3_code 65 = .ok (.ldc2_w 21, 3) := by decide +kernel
theorem d2_68 : decode method_3_code 68 = .ok (.lcmp, 1) := by decide +kernel
theorem d2_69 : decode method_3_code 69 = .ok (.ifCond .lt 6, 3) := by decide +kernel
theorem d2_72 : decode method_3_code 72 = .ok (.bipush 8, 2) := by decide +kernel
theorem d2_74 : decode method_3_code 74 = .ok (.istore_n 2, 1) := by decide +kernel
theorem d2_75 : decode method_3_code 75 = .ok (.lload_n 0, 1) := by decide +kernel
theorem d2_76 : decode method_3_code 76 = .ok (.ldc2_w 23, 3) := by decide +kernel
theorem d2_79 : decode method_3_code 79 = .ok (.lcmp, 1) := by decide +kernel
theorem d2_80 : decode method_3_code 80 = .ok (.ifCond .lt 6, 3) := by decide +kernel
theorem d2_83 : decode method_3_code 83 = .ok (.bipush 9, 2) := by decide +kernel
theorem d2_85 : decode method_3_code 85 = .ok (.istore_n 2, 1) := by decide +kernel
theorem d2_86 : decode method_3_code 86 = .ok (.lload_n 0, 1) := by decide +kernel
theorem d2_87 : decode method_3_code 87 = .ok (.ldc2_w 25, 3) := by decide +kernel
theorem d2_90 : decode method_3_code 90 = .ok (.lcmp, 1) := by decide +kernel
theorem d2_91 : decode method_3_code 91 = .ok (.ifCond .lt 6, 3) := by decide +kernel
theorem d2_94 : decode method_3_code 94 = .ok (.bipush 10, 2) := by decide +kernel
theorem d2_96 : decode method_3_code 96 = .ok (.istore_n 2, 1) := by decide +kernel
theorem d2_97 : decode method_3_code 97 = .ok (.lload_n 0, 1) := by decide +kernel
theorem d2_98 : decode method_3_code 98 = .ok (.ldc2_w 27, 3) := by decide +kernel
theorem d2_101 : decode method_3_code 101 = .ok (.lcmp, 1) := by decide +kernel
theorem d2_102 : decode method_3_code 102 = .ok (.ifCond .lt 6, 3) := by decide +kernel
theorem d2_105 : decode method_3_code 105 = .ok (.bipush 11, 2) := by decide +kernel
theorem d2_107 : decode method_3_code 107 = .ok (.istore_n 2, 1) := by decide +kernel
theorem d2_108 : decode method_3_code 108 = .ok (.lload_n 0, 1) := by decide +kernel
theorem d2_109 : decode method_3_code 109 = .ok (.ldc2_w 29, 3) := by decide +kernel
theorem d2_112 : decode method_3_code 112 = .ok (.lcmp, 1) := by decide +kernel
theorem d2_113 : decode method_3_code 113 = .ok (.ifCond .lt 6, 3) := by decide +kernel
theorem d2_116 : decode method_3_code 116 = .ok (.bipush 12, 2) := by decide +kernel
theorem d2_118 : decode method_3_code 118 = .ok (.istore_n 2, 1) := by decide +kernel
theorem d2_119 : decode method_3_code 119 = .ok (.lload_n 0, 1) := by decide +kernel
theorem d2_120 : decode method_3_code 120 = .ok (.ldc2_w 31, 3) := by decide +kernel
theorem d2_123 : decode method_3_code 123 = .ok (.lcmp, 1) := by decide +kernel
theorem d2_124 : decode method_3_code 124 = .ok (.ifCond .lt 6, 3) := by decide +kernel
theorem d2_127 : decode method_3_code 127 = .ok (.bipush 13, 2) := by decide +kernel
theorem d2_129 : decode method_3_code 129 = .ok (.istore_n 2, 1) := by decide +kernel
theorem d2_130 : decode method_3_code 130 = .ok (.lload_n 0, 1) := by decide +kernel
theorem d2_131 : decode method_3_code 131 = .ok (.ldc2_w 33, 3) := by decide +kernel
theorem d2_134 : decode method_3_code 134 = .ok (.lcmp, 1) := by decide +kernel
theorem d2_135 : decode method_3_code 135 = .ok (.ifCond .lt 6, 3) := by decide +kernel
theorem d2_138 : decode method_3_code 138 = .ok (.bipush 14, 2) := by decide +kernel
theorem d2_140 : decode method_3_code 140 = .ok (.istore_n 2, 1) := by decide +kernel
theorem d2_141 : decode method_3_code 141 = .ok (.lload_n 0, 1) := by decide +kernel
theorem d2_142 : decode method_3_code 142 = .ok (.ldc2_w 35, 3) := by decide +kernel
theorem d2_145 : decode method_3_code 145 = .ok (.lcmp, 1) := by decide +kernel
theorem d2_146 : decode method_3_code 146 = .ok (.ifCond .lt 6, 3) := by decide +kernel
theorem d2_149 : decode method_3_code 149 = .ok (.bipush 15, 2) := by decide +kernel
theorem d2_151 : decode method_3_code 151 = .ok (.istore_n 2, 1) := by decide +kernel
theorem d2_152 : decode method_3_code 152 = .ok (.lload_n 0, 1) := by decide +kernel
theorem d2_153 : decode method_3_code 153 = .ok (.ldc2_w 37, 3) := by decide +kernel
theorem d2_156 : decode method_3_code 156 = .ok (.lcmp, 1) := by decide +kernel
theorem d2_157 : decode method_3_code 157 = .ok (.ifCond .lt 6, 3) := by decide +kernel
theorem d2_160 : decode method_3_code 160 = .ok (.bipush 16, 2) := by decide +kernel
theorem d2_162 : decode method_3_code 162 = .ok (.istore_n 2, 1) := by decide +kernel
theorem d2_163 : decode method_3_code 163 = .ok (.lload_n 0, 1) := by decide +kernel
theorem d2_164 : decode method_3_code 164 = .ok (.ldc2_w 39, 3) := by decide +kernel
theorem d2_167 : decode method_3_code 167 = .ok (.lcmp, 1) := by decide +kernel
theorem d2_168 : decode method_3_code 168 = .ok (.ifCond .lt 6, 3) := by decide +kernel
theorem d2_171 : decode method_3_code 171 = .ok (.bipush 17, 2) := by decide +kernel
theorem d2_173 : decode method_3_code 173 = .ok (.istore_n 2, 1) := by decide +kernel
theorem d2_174 : decode method_3_code 174 = .ok (.lload_n 0, 1) := by decide +kernel
theorem d2_175 : decode method_3_code 175 = .ok (.ldc2_w 41, 3) := by decide +kernel
theorem d2_178 : decode method_3_code 178 = .ok (.lcmp, 1) := by decide +kernel
theorem d2_179 : decode method_3_code 179 = .ok (.ifCond .lt 6, 3) := by decide +kernel
theorem d2_182 : decode method_3_code 182 = .ok (.bipush 18, 2) := by decide +kernel
theorem d2_184 : decode method_3_code 184 = .ok (.istore_n 2, 1) := by decide +kernel
theorem d2_185 : decode method_3_code 185 = .ok (.lload_n 0, 1) := by decide +kernel
theorem d2_186 : decode method_3_code 186 = .ok (.ldc2_w 43, 3) := by decide +kernel
theorem d2_189 : decode method_3_code 189 = .ok (.lcmp, 1) := by decide +kernel
theorem d2_190 : decode method_3_code 190 = .ok (.ifCond .lt 6, 3) := by decide +kernel
theorem d2_193 : decode method_3_code 193 = .ok (.bipush 19, 2) := by decide +kernel
theorem d2_195 : decode method_3_code 195 = .ok (.istore_n 2, 1) := by decide +kernel
theorem d2_196 : decode method_3_code 196 = .ok (.iload_n 2, 1) := by decide +kernel
theorem d2_197 : decode method_3_code 197 = .ok (.ireturn, 1) := by decide +kernel
theorem d3_0 : decode prog_59_method_1_code 0 = .ok (.aload_n 0, 1) := by decide +kernel
theorem d3_1 : decode prog_59_method_1_code 1 = .ok (.invokespecial 1, 3) := by decide +kernel
theorem d3_4 : decode prog_59_method_1_code 4 = .ok (.return_, 1) := by decide +kernel
theorem d6_0 : decode prog_59_method_5_code 0 = .ok (.aload_n 0, 1) := by decide +kernel
theorem d6_1 : decode prog_59_method_5_code 1 = .ok (.getfield 27, 3) := by decide +kernel
theorem d6_4 : decode prog_59_method_5_code 4 = .ok (.ifCond .ne 41, 3) := by decide +kernel
theorem d6_7 : decode prog_59_method_5_code 7 = .ok (.aload_n 0, 1) := by decide +kernel
theorem d6_8 : decode prog_59_method_5_code 8 = .ok (.getfield 17, 3) := by decide +kernel
theorem d6_11 : decode prog_59_method_5_code 11 = .ok (.ldc2_w 48, 3) := by decide +kernel
theorem d6_14 : decode prog_59_method_5_code 14 = .ok (.lcmp, 1) := by decide +kernel
theorem d6_15 : decode prog_59_method_5_code 15 = .ok (.ifCond .gt 30, 3) := by decide +kernel
theorem d6_18 : decode prog_59_method_5_code 18 = .ok (.aload_n 0, 1) := by decide +kernel
theorem d6_19 : decode prog_59_method_5_code 19 = .ok (.getfield 17, 3) := by decide +kernel
theorem d6_22 : decode prog_59_method_5_code 22 = .ok (.ldc2_w 48, 3) := by decide +kernel
theorem d6_25 : decode prog_59_method_5_code 25 = .ok (.lcmp, 1) := by decide +kernel
theorem d6_26 : decode prog_59_method_5_code 26 = .ok (.ifCond .ne 23, 3) := by decide +kernel
theorem d6_29 : decode prog_59_method_5_code 29 = .ok (.aload_n 0, 1) := by decide +kernel
theorem d6_30 : decode prog_59_method_5_code 30 = .ok (.getfield 21, 3) := by decide +kernel
theorem d6_33 : decode prog_59_method_5_code 33 = .ok (.lconst 0, 1) := by decide +kernel
theorem d6_34 : decode prog_59_method_5_code 34 = .ok (.lcmp, 1) := by decide +kernel
theorem d6_35 : decode prog_59_method_5_code 35 = .ok (.ifCond .gt 10, 3) := by decide +kernel
theorem d6_38 : decode prog_59_method_5_code 38 = .ok (.aload_n 0, 1) := by decide +kernel
theorem d6_39 : decode prog_59_method_5_code 39 = .ok (.getfield 24, 3) := by decide +kernel
theorem d6_42 : decode prog_59_method_5_code 42 = .ok (.ifCond .eq 7, 3) := by decide +kernel
theorem d6_45 : decode prog_59_method_5_code 45 = .ok (.iconst 1, 1) := by decide +kernel
theorem d6_46 : decode prog_59_method_5_code 46 = .ok (.goto 4, 3) := by decide +kernel
theorem d6_49 : decode prog_59_method_5_code 49 = .ok (.iconst 0, 1) := by decide +kernel
theorem d6_50 : decode prog_59_method_5_code 50 = .ok (.istore_n 1, 1) := by decide +kernel
theorem d6_51 : decode prog_59_method_5_code 51 = .ok (.iload_n 1, 1) := by decide +kernel
theorem d6_52 : decode prog_59_method_5_code 52 = .ok (.ifCond .eq 9, 3) := by decide +kernel
theorem d6_55 : decode prog_59_method_5_code 55 = .ok (.ldc2_w 50, 3) := by decide +kernel
theorem d6_58 : decode prog_59_method_5_code 58 = .ok (.goto 30, 3) := by decide +kernel
theorem d6_61 : decode prog_59_method_5_code 61 = .ok (.aload_n 0, 1) := by decide +kernel
theorem d6_62 : decode prog_59_method_5_code 62 = .ok (.getfield 17, 3) := by decide +kernel
theorem d6_65 : decode prog_59_method_5_code 65 = .ok (.ldc2_w 52, 3) := by decide +kernel
theorem d6_68 : decode prog_59_method_5_code 68 = .ok (.lmul, 1) := by decide +kernel
theorem d6_69 : decode prog_59_method_5_code 69 = .ok (.aload_n 0, 1) := by decide +kernel
theorem d6_70 : decode prog_59_method_5_code 70 = .ok (.getfield 21, 3) := by decide +kernel
theorem d6_73 : decode prog_59_method_5_code 73 = .ok (.ladd, 1) := by decide +kernel
theorem d6_74 : decode prog_59_method_5_code 74 = .ok (.aload_n 0, 1) := by decide +kernel
theorem d6_75 : decode prog_59_method_5_code 75 = .ok (.getfield 24, 3) := by decide +kernel
theorem d6_78 : decode prog_59_method_5_code 78 = .ok (.ifCond .eq 7, 3) := by decide +kernel
theorem d6_81 : decode prog_59_method_5_code 81 = .ok (.iconst 1, 1) := by decide +kernel
theorem d6_82 : decode prog_59_method_5_code 82 = .ok (.goto 4, 3) := by decide +kernel
theorem d6_85 : decode prog_59_method_5_code 85 = .ok (.iconst 0, 1) := by decide +kernel
theorem d6_86 : decode prog_59_method_5_code 86 = .ok (.i2l, 1) := by decide +kernel
theorem d6_87 : decode prog_59_method_5_code 87 = .ok (.ladd, 1) := by decide +kernel
theorem d6_88 : decode prog_59_method_5_code 88 = .ok (.lreturn, 1) := by decide +kernel
theorem pn_0 : plainName "com/example/portion/portion/quota/BoundedNumberNanosAtMostMaxPinLaw" = true := by first | (simp [plainName, overriddenIn]; done) | decide +kernel
theorem pn_1 : plainName "com/example/portion/portion/quota/BoundedNumber" = true := by first | (simp [plainName, overriddenIn]; done) | decide +kernel
theorem pd_0 : parseMethodDescriptor "(JJ)B" = some ⟨[.long, .long], some .byte⟩ := by decide +kernel
theorem pd_1 : parseMethodDescriptor "(J)I" = some ⟨[.long], some .int⟩ := by decide +kernel
theorem pd_2 : parseMethodDescriptor "()V" = some ⟨[], none⟩ := by decide +kernel
theorem pd_3 : parseMethodDescriptor "([BII)V" = some ⟨[(.array .byte), .int, .int], none⟩ := by decide +kernel
theorem pd_4 : parseMethodDescriptor "()J" = some ⟨[], some .long⟩ := by decide +kernel
theorem ef_d (m : MethodId) (v : Int64) (q : Int64) : entryFrame m #[(.long v), (.long q)] 4 = mkF m 0 #[.val (.long v), .second, .val (.long q), .second] [] := by first | (simp [entryFrame, mkF, argsToLocals, Value.category]; done) | rfl
theorem ef_l (m : MethodId) (v : Int64) : entryFrame m #[(.long v)] 3 = mkF m 0 #[.val (.long v), .second, .unset] [] := by first | (simp [entryFrame, mkF, argsToLocals, Value.category]; done) | rfl
theorem ef_i (m : MethodId) (b : Addr) : entryFrame m #[(.ref b)] 1 = mkF m 0 #[.val (.ref b)] [] := by first | (simp [entryFrame, mkF, argsToLocals, Value.category]; done) | rfl
theorem ef_n (m : MethodId) (a : Addr) : entryFrame m #[(.ref a)] 2 = mkF m 0 #[.val (.ref a), .unset] [] := by first | (simp [entryFrame, mkF, argsToLocals, Value.category]; done) | rfl
theorem ef_0 (m : MethodId) (wr : Int64) (fr : Int32) (tr : Int32) (fl : Int32) : entryFrame m #[(.long wr), (.int fr), (.int tr), (.int fl)] maxLocals = mkF m 0 #[.val (.long wr), .second, .val (.int fr), .val (.int tr), .val (.int fl), .unset, .unset, .unset, .unset, .unset, .unset, .unset, .unset, .unset, .unset, .unset, .unset, .unset, .unset, .unset, .unset] [] := by first | (simp [entryFrame, mkF, argsToLocals, Value.category, maxLocals]; done) | rfl
/-- a BoundedNumber's fields -/
def own_Num (Z : State) (h : Heap) (a : Addr) (ng : Int32) (wh na : Int64) (fi be : Int32) : Prop := Exa Z h a "com/example/portion/portion/quota/BoundedNumber" ∧ Fld Z h a "com/example/portion/portion/quota/BoundedNumber" "negative" "Z" (.int ng) ∧ Fld Z h a "com/example/portion/portion/quota/BoundedNumber" "whole" "J" (.long wh) ∧ Fld Z h a "com/example/portion/portion/quota/BoundedNumber" "nanos" "J" (.long na) ∧ Fld Z h a "com/example/portion/portion/quota/BoundedNumber" "finer" "Z" (.int fi) ∧ Fld Z h a "com/example/portion/portion/quota/BoundedNumber" "beyond" "Z" (.int be)
abbrev own_pows : List Int64 := [1, 10, 100, 1000, 10000, 100000, 1000000, 10000000, 100000000, 1000000000, 10000000000, 100000000000, 1000000000000, 10000000000000, 100000000000000, 1000000000000000, 10000000000000000, 100000000000000000]
/-- what stands while read() runs: all but the number is kept; the text, the powers, the number -/
def own_RI (Z : State) (h0 : Heap) (a tx pw : Addr) (kt kp : ClassId) (tz : Int32) (bs : List Int32) (h : Heap) (ng : Int32) (wh na : Int64) (fi be : Int32) : Prop :=
  Keep h0 h [a] ∧ Arv Z h tx kt .byte tz (bs.map Value.int) (.int 0) ∧ Sta Z h "com/example/portion/portion/quota/BoundedNumber" "POWERS_OF_TEN" "[J" (.ref pw) ∧ Arv Z h pw kp .long 18 (own_pows.map Value.long) (.long 0) ∧ own_Num Z h a ng wh na fi be
theorem own_num_negative {Z : State} {a0 : Array Value} (hw : ∀ d ∈ tables_1, d.before a0 Z = true) {h h' : Heap} {a : Addr} {ng : Int32} {wh na : Int64} {fi be : Int32} {v' : Int32} (N : own_Num Z h a ng wh na fi be) (W : Wr h h' a (Jvm.RoadKit.slotOf Z "com/example/portion/portion/quota/BoundedNumber" "negative" "Z") (.int v')) : own_Num Z h' a v' wh na fi be :=
  ⟨N.1.wr W, N.2.1.same W, N.2.2.1.other W (Or.inr (slot_ne (Or.inl (hw _ (List.mem_of_getElem? (i := 45) rfl))) (Or.inl (hw _ (List.mem_of_getElem? (i := 43) rfl))) (by decide) (t := .long) (t' := .boolean) (by decide) (by decide))), N.2.2.2.1.other W (Or.inr (slot_ne (Or.inl (hw _ (List.mem_of_getElem? (i := 47) rfl))) (Or.inl (hw _ (List.mem_of_getElem? (i := 43) rfl))) (by decide) (t := .long) (t' := .boolean) (by decide) (by decide))), N.2.2.2.2.1.other W (Or.inr (slot_ne (Or.inl (hw _ (List.mem_of_getElem? (i := 49) rfl))) (Or.inl (hw _ (List.mem_of_getElem? (i := 43) rfl))) (by decide) (t := .boolean) (t' := .boolean) (by decide) (by decide))), N.2.2.2.2.2.other W (Or.inr (slot_ne (Or.inl (hw _ (List.mem_of_getElem? (i := 51) rfl))) (Or.inl (hw _ (List.mem_of_getElem? (i := 43) rfl))) (by decide) (t := .boolean) (t' := .boolean) (by decide) (by decide)))⟩
theorem own_ri_negative {Z : State} {a0 : Array Value} (hw : ∀ d ∈ tables_1, d.before a0 Z = true) {h0 h h' : Heap} {a tx pw : Addr} {kt kp : ClassId} {tz : Int32} {bs : List Int32} {ng : Int32} {wh na : Int64} {fi be : Int32} {v' : Int32} (n1 : tx ≠ a) (n2 : pw ≠ a) (R : own_RI Z h0 a tx pw kt kp tz bs h ng wh na fi be) (W : Wr h h' a (Jvm.RoadKit.slotOf Z "com/example/portion/portion/quota/BoundedNumber" "negative" "Z") (.int v')) : own_RI Z h0 a tx pw kt kp tz bs h' v' wh na fi be :=
  ⟨R.1.wr W (Or.inl (List.mem_singleton.mpr rfl)), R.2.1.other W n1, R.2.2.1.wr W, R.2.2.2.1.other W n2, own_num_negative hw R.2.2.2.2 W⟩
theorem own_num_whole {Z : State} {a0 : Array Value} (hw : ∀ d ∈ tables_1, d.before a0 Z = true) {h h' : Heap} {a : Addr} {ng : Int32} {wh na : Int64} {fi be : Int32} {v' : Int64} (N : own_Num Z h a ng wh na fi be) (W : Wr h h' a (Jvm.RoadKit.slotOf Z "com/example/portion/portion/quota/BoundedNumber" "whole" "J") (.long v')) : own_Num Z h' a ng v' na fi be :=
  ⟨N.1.wr W, N.2.1.other W (Or.inr (slot_ne (Or.inl (hw _ (List.mem_of_getElem? (i := 43) rfl))) (Or.inl (hw _ (List.mem_of_getElem? (i := 45) rfl))) (by decide) (t := .boolean) (t' := .long) (by decide) (by decide))), N.2.2.1.same W, N.2.2.2.1.other W (Or.inr (slot_ne (Or.inl (hw _ (List.mem_of_getElem? (i := 47) rfl))) (Or.inl (hw _ (List.mem_of_getElem? (i := 45) rfl))) (by decide) (t := .long) (t' := .long) (by decide) (by decide))), N.2.2.2.2.1.other W (Or.inr (slot_ne (Or.inl (hw _ (List.mem_of_getElem? (i := 49) rfl))) (Or.inl (hw _ (List.mem_of_getElem? (i := 45) rfl))) (by decide) (t := .boolean) (t' := .long) (by decide) (by decide))), N.2.2.2.2.2.other W (Or.inr (slot_ne (Or.inl (hw _ (List.mem_of_getElem? (i := 51) rfl))) (Or.inl (hw _ (List.mem_of_getElem? (i := 45) rfl))) (by decide) (t := .boolean) (t' := .long) (by decide) (by decide)))⟩
theorem own_ri_whole {Z : State} {a0 : Array Value} (hw : ∀ d ∈ tables_1, d.before a0 Z = true) {h0 h h' : Heap} {a tx pw : Addr} {kt kp : ClassId} {tz : Int32} {bs : List Int32} {ng : Int32} {wh na : Int64} {fi be : Int32} {v' : Int64} (n1 : tx ≠ a) (n2 : pw ≠ a) (R : own_RI Z h0 a tx pw kt kp tz bs h ng wh na fi be) (W : Wr h h' a (Jvm.RoadKit.slotOf Z "com/example/portion/portion/quota/BoundedNumber" "whole" "J") (.long v')) : own_RI Z h0 a tx pw kt kp tz bs h' ng v' na fi be :=
  ⟨R.1.wr W (Or.inl (List.mem_singleton.mpr rfl)), R.2.1.other W n1, R.2.2.1.wr W, R.2.2.2.1.other W n2, own_num_whole hw R.2.2.2.2 W⟩
theorem own_num_nanos {Z : State} {a0 : Array Value} (hw : ∀ d ∈ tables_1, d.before a0 Z = true) {h h' : Heap} {a : Addr} {ng : Int32} {wh na : Int64} {fi be : Int32} {v' : Int64} (N : own_Num Z h a ng wh na fi be) (W : Wr h h' a (Jvm.RoadKit.slotOf Z "com/example/portion/portion/quota/BoundedNumber" "nanos" "J") (.long v')) : own_Num Z h' a ng wh v' fi be :=
  ⟨N.1.wr W, N.2.1.other W (Or.inr (slot_ne (Or.inl (hw _ (List.mem_of_getElem? (i := 43) rfl))) (Or.inl (hw _ (List.mem_of_getElem? (i := 47) rfl))) (by decide) (t := .boolean) (t' := .long) (by decide) (by decide))), N.2.2.1.other W (Or.inr (slot_ne (Or.inl (hw _ (List.mem_of_getElem? (i := 45) rfl))) (Or.inl (hw _ (List.mem_of_getElem? (i := 47) rfl))) (by decide) (t := .long) (t' := .long) (by decide) (by decide))), N.2.2.2.1.same W, N.2.2.2.2.1.other W (Or.inr (slot_ne (Or.inl (hw _ (List.mem_of_getElem? (i := 49) rfl))) (Or.inl (hw _ (List.mem_of_getElem? (i := 47) rfl))) (by decide) (t := .boolean) (t' := .long) (by decide) (by decide))), N.2.2.2.2.2.other W (Or.inr (slot_ne (Or.inl (hw _ (List.mem_of_getElem? (i := 51) rfl))) (Or.inl (hw _ (List.mem_of_getElem? (i := 47) rfl))) (by decide) (t := .boolean) (t' := .long) (by decide) (by decide)))⟩
theorem own_ri_nanos {Z : State} {a0 : Array Value} (hw : ∀ d ∈ tables_1, d.before a0 Z = true) {h0 h h' : Heap} {a tx pw : Addr} {kt kp : ClassId} {tz : Int32} {bs : List Int32} {ng : Int32} {wh na : Int64} {fi be : Int32} {v' : Int64} (n1 : tx ≠ a) (n2 : pw ≠ a) (R : own_RI Z h0 a tx pw kt kp tz bs h ng wh na fi be) (W : Wr h h' a (Jvm.RoadKit.slotOf Z "com/example/portion/portion/quota/BoundedNumber" "nanos" "J") (.long v')) : own_RI Z h0 a tx pw kt kp tz bs h' ng wh v' fi be :=
  ⟨R.1.wr W (Or.inl (List.mem_singleton.mpr rfl)), R.2.1.other W n1, R.2.2.1.wr W, R.2.2.2.1.other W n2, own_num_nanos hw R.2.2.2.2 W⟩
theorem own_num_finer {Z : State} {a0 : Array Value} (hw : ∀ d ∈ tables_1, d.before a0 Z = true) {h h' : Heap} {a : Addr} {ng : Int32} {wh na : Int64} {fi be : Int32} {v' : Int32} (N : own_Num Z h a ng wh na fi be) (W : Wr h h' a (Jvm.RoadKit.slotOf Z "com/example/portion/portion/quota/BoundedNumber" "finer" "Z") (.int v')) : own_Num Z h' a ng wh na v' be :=
  ⟨N.1.wr W, N.2.1.other W (Or.inr (slot_ne (Or.inl (hw _ (List.mem_of_getElem? (i := 43) rfl))) (Or.inl (hw _ (List.mem_of_getElem? (i := 49) rfl))) (by decide) (t := .boolean) (t' := .boolean) (by decide) (by decide))), N.2.2.1.other W (Or.inr (slot_ne (Or.inl (hw _ (List.mem_of_getElem? (i := 45) rfl))) (Or.inl (hw _ (List.mem_of_getElem? (i := 49) rfl))) (by decide) (t := .long) (t' := .boolean) (by decide) (by decide))), N.2.2.2.1.other W (Or.inr (slot_ne (Or.inl (hw _ (List.mem_of_getElem? (i := 47) rfl))) (Or.inl (hw _ (List.mem_of_getElem? (i := 49) rfl))) (by decide) (t := .long) (t' := .boolean) (by decide) (by decide))), N.2.2.2.2.1.same W, N.2.2.2.2.2.other W (Or.inr (slot_ne (Or.inl (hw _ (List.mem_of_getElem? (i := 51) rfl))) (Or.inl (hw _ (List.mem_of_getElem? (i := 49) rfl))) (by decide) (t := .boolean) (t' := .boolean) (by decide) (by decide)))⟩
theorem own_ri_finer {Z : State} {a0 : Array Value} (hw : ∀ d ∈ tables_1, d.before a0 Z = true) {h0 h h' : Heap} {a tx pw : Addr} {kt kp : ClassId} {tz : Int32} {bs : List Int32} {ng : Int32} {wh na : Int64} {fi be : Int32} {v' : Int32} (n1 : tx ≠ a) (n2 : pw ≠ a) (R : own_RI Z h0 a tx pw kt kp tz bs h ng wh na fi be) (W : Wr h h' a (Jvm.RoadKit.slotOf Z "com/example/portion/portion/quota/BoundedNumber" "finer" "Z") (.int v')) : own_RI Z h0 a tx pw kt kp tz bs h' ng wh na v' be :=
  ⟨R.1.wr W (Or.inl (List.mem_singleton.mpr rfl)), R.2.1.other W n1, R.2.2.1.wr W, R.2.2.2.1.other W n2, own_num_finer hw R.2.2.2.2 W⟩
theorem own_num_beyond {Z : State} {a0 : Array Value} (hw : ∀ d ∈ tables_1, d.before a0 Z = true) {h h' : Heap} {a : Addr} {ng : Int32} {wh na : Int64} {fi be : Int32} {v' : Int32} (N : own_Num Z h a ng wh na fi be) (W : Wr h h' a (Jvm.RoadKit.slotOf Z "com/example/portion/portion/quota/BoundedNumber" "beyond" "Z") (.int v')) : own_Num Z h' a ng wh na fi v' :=
  ⟨N.1.wr W, N.2.1.other W (Or.inr (slot_ne (Or.inl (hw _ (List.mem_of_getElem? (i := 43) rfl))) (Or.inl (hw _ (List.mem_of_getElem? (i := 51) rfl))) (by decide) (t := .boolean) (t' := .boolean) (by decide) (by decide))), N.2.2.1.other W (Or.inr (slot_ne (Or.inl (hw _ (List.mem_of_getElem? (i := 45) rfl))) (Or.inl (hw _ (List.mem_of_getElem? (i := 51) rfl))) (by decide) (t := .long) (t' := .boolean) (by decide) (by decide))), N.2.2.2.1.other W (Or.inr (slot_ne (Or.inl (hw _ (List.mem_of_getElem? (i := 47) rfl))) (Or.inl (hw _ (List.mem_of_getElem? (i := 51) rfl))) (by decide) (t := .long) (t' := .boolean) (by decide) (by decide))), N.2.2.2.2.1.other W (Or.inr (slot_ne (Or.inl (hw _ (List.mem_of_getElem? (i := 49) rfl))) (Or.inl (hw _ (List.mem_of_getElem? (i := 51) rfl))) (by decide) (t := .boolean) (t' := .boolean) (by decide) (by decide))), N.2.2.2.2.2.same W⟩
theorem own_ri_beyond {Z : State} {a0 : Array Value} (hw : ∀ d ∈ tables_1, d.before a0 Z = true) {h0 h h' : Heap} {a tx pw : Addr} {kt kp : ClassId} {tz : Int32} {bs : List Int32} {ng : Int32} {wh na : Int64} {fi be : Int32} {v' : Int32} (n1 : tx ≠ a) (n2 : pw ≠ a) (R : own_RI Z h0 a tx pw kt kp tz bs h ng wh na fi be) (W : Wr h h' a (Jvm.RoadKit.slotOf Z "com/example/portion/portion/quota/BoundedNumber" "beyond" "Z") (.int v')) : own_RI Z h0 a tx pw kt kp tz bs h' ng wh na fi v' :=
  ⟨R.1.wr W (Or.inl (List.mem_singleton.mpr rfl)), R.2.1.other W n1, R.2.2.1.wr W, R.2.2.2.1.other W n2, own_num_beyond hw R.2.2.2.2 W⟩
/-- the place of the last point among the first c of them from s on -/
def own_ptc (bs : List Int32) (s : Nat) : Nat → Int32
  | 0 => -1
  | c + 1 => if bs.getD (s + c) 0 = 46 then Int32.ofNat (s + c) else own_ptc bs s c
/-- a power of ten -/
def own_pw (j : Int32) : Int64 := own_pows.getD j.toNatClampNeg 0
/-- the place of the digit at i -/
def own_pl (poe : Int32) (ex : Int64) (i : Nat) : Int64 := ex + (if ¬ Int32.ofNat i < poe then poe - Int32.ofNat i else poe - 1 - Int32.ofNat i).toInt64
/-- one turn of the second loop: (whole, nanos, finer, beyond) -/
def own_stp (bs : List Int32) (pt poe : Int32) (ex : Int64) (i : Nat) (σ : Int64 × Int64 × Int32 × Int32) : Int64 × Int64 × Int32 × Int32 :=
  if Int32.ofNat i = pt then σ
  else if bs.getD i 0 - 48 = 0 then σ
  else if ¬ own_pl poe ex i < 18 then (σ.1, σ.2.1, σ.2.2.1, 1)
  else if ¬ own_pl poe ex i < 0 then (σ.1 + (bs.getD i 0 - 48).toInt64 * own_pw (own_pl poe ex i).toInt32, σ.2.1, σ.2.2.1, σ.2.2.2)
  else if ¬ own_pl poe ex i < -9 then (σ.1, σ.2.1 + (bs.getD i 0 - 48).toInt64 * own_pw (9 + own_pl poe ex i).toInt32, σ.2.2.1, σ.2.2.2)
  else (σ.1, σ.2.1, 1, σ.2.2.2)
/-- the second loop -/
def own_rd (bs : List Int32) (pt poe : Int32) (ex : Int64) : Nat → Nat → Int64 × Int64 × Int32 × Int32 → Int64 × Int64 × Int32 × Int32
  | 0, _, σ => σ
  | k + 1, i, σ => if ¬ σ.2.2.2 = 0 then σ else own_rd bs pt poe ex k (i + 1) (own_stp bs pt poe ex i σ)
/-- a slot for an int, a pair of slots for a long: unset or set -/
def own_S1 (o : Slot) : Prop := o = .unset ∨ ∃ q, o = .val (.int q)
def own_S2 (o o' : Slot) : Prop := (o = .unset ∧ o' = .unset) ∨ ∃ q, o = .val (.long q) ∧ o' = .second
theorem own_pl_idx {q : Int64} (h1 : q < 18) (h2 : ¬ q < 0) : ¬ q.toInt32 < 0 ∧ q.toInt32 < 18 := by
  have t1 : (18 : Int64).toInt = 18 := by decide
  have t2 : (0 : Int64).toInt = 0 := by decide
  have t3 : (18 : Int32).toInt = 18 := by decide
  rw [Int64.lt_iff_toInt_lt, t1] at h1; rw [Int64.lt_iff_toInt_lt, t2] at h2
  rw [Int32.lt_iff_toInt_lt, Int32.lt_iff_toInt_lt, i0_toInt, t3]
  have a1 := c_l2i q; have a2 := rng32 q.toInt32
  omega
theorem own_pl_idx9 {q : Int64} (h1 : q < 0) (h2 : ¬ q < -9) : ¬ (9 + q).toInt32 < 0 ∧ (9 + q).toInt32 < 18 := by
  have t1 : (0 : Int64).toInt = 0 := by decide
  have t2 : (-9 : Int64).toInt = -9 := by decide
  have t3 : (9 : Int64).toInt = 9 := by decide
  rw [Int64.lt_iff_toInt_lt, t1] at h1; rw [Int64.lt_iff_toInt_lt, t2] at h2
  have a3 := c_ladd 9 q; have a4 := rng64 (9 + q); rw [t3] at a3
  refine own_pl_idx ?_ ?_
  · have t4 : (18 : Int64).toInt = 18 := by decide
    rw [Int64.lt_iff_toInt_lt, t4]; omega
  · rw [Int64.lt_iff_toInt_lt, t1]; omega
abbrev own_rr : Room := { frames := 0, cells := 0, slots := 0, locals := 0 }
theorem ef_r (m : MethodId) (a : Addr) (tx : Addr) (S : Int32) (E : Int32) : entryFrame m #[(.ref a), (.ref tx), (.int S), (.int E)] 13 = mkF m 0 #[.val (.ref a), .val (.ref tx), .val (.int S), .val (.int E), .unset, .unset, .unset, .unset, .unset, .unset, .unset, .unset, .unset] [] := by first | (simp [entryFrame, mkF, argsToLocals, Value.category]; done) | rfl
set_option maxRecDepth 65536 in
set_option maxHeartbeats 40000000 in
theorem rmr (l : Launch) (Z : State) (a0 : Array Value) (hw : ∀ d ∈ tables_1, d.before a0 Z = true) (ws : List Jvm.Cond) (a tx pw : Addr) (kt kp : ClassId) (tz : Int32) (bs : List Int32) (S E TZ n0 : Nat) (ng0 : Int32) (wh0 na0 : Int64) (fi0 be0 : Int32) (pt poe : Int32) (σF : Int64 × Int64 × Int32 × Int32) (h0 : Heap) (R0 : own_RI Z h0 a tx pw kt kp tz bs h0 ng0 wh0 na0 fi0 be0) (n1 : tx ≠ a) (n2 : pw ≠ a) (g : n0 ≤ a)
    (hTZ : tz = Int32.ofNat TZ) (hTZ' : TZ < 2147483648) (hSE : S < E) (hET : E ≤ TZ) (hneg : ¬ bs.getD S 0 = 45) (hnoe : ∀ i, S ≤ i → i < E → ¬ bs.getD i 0 = 101 ∧ ¬ bs.getD i 0 = 69) (hpt : own_ptc bs S (E - S) = pt) (hpoe : (if ¬ pt < 0 then pt else Int32.ofNat E) = poe) (hσ : own_rd bs pt poe 0 (E - S) S (0, 0, 0, 0) = σF) :
    Con l Z (⟨"com/example/portion/portion/quota/BoundedNumber", "read", "([BII)V"⟩ : MethodName) prog_59_method_2_code 13 none ws own_rr #[.ref a, .ref tx, .int (Int32.ofNat S), .int (Int32.ofNat E)] h0 (fun v h L => v = none ∧ Fr n0 L ∧ own_RI Z h0 a tx pw kt kp tz bs h 0 σF.1 σF.2.1 σF.2.2.1 σF.2.2.2) := by
  refine con_of (plainFor_of_name pn_1) ?_
  intro p e s m below meth c T0 X0 hx hZ hby hml hown hret hnm hlk e0
  refine Endz.eq (ef_r m a tx (Int32.ofNat S) (Int32.ofNat E)) ?_
  have htz : ∀ {i : Nat}, i < E → Int32.ofNat i < tz := fun {i} hi => by rw [hTZ, nat_lt (by omega) hTZ']; omega
  have loop2 : ∀ (k i : Nat) (wh na : Int64) (fi be : Int32) (T : State) (h : Heap) (locs : List Loc) (s10 s11 s12 : Slot), i + k = E → own_rd bs pt poe 0 k i (wh, na, fi, be) = σF → Stand p l e own_rr s m #[.ref a, .ref tx, .int (Int32.ofNat S), .int (Int32.ofNat E)] below meth c T locs 0 0 → T.heap = h → own_RI Z h0 a tx pw kt kp tz bs h 0 wh na fi be → Fr n0 locs → own_S1 s10 → own_S2 s11 s12 → Endz p.tables e below (Finz s own_rr (fun v h L => v = none ∧ Fr n0 L ∧ own_RI Z h0 a tx pw kt kp tz bs h 0 σF.1 σF.2.1 σF.2.2.1 σF.2.2.2)) T (mkF m 146 #[.val (.ref a), .val (.ref tx), .val (.int (Int32.ofNat S)), .val (.int (Int32.ofNat E)), .val (.int pt), .val (.int (Int32.ofNat E)), .val (.long 0), .second, .val (.int poe), .val (.int (Int32.ofNat i)), s10, s11, s12] []) := by
    intro k
    induction k with
    | zero =>
      intro i wh na fi be T h locs s10 s11 s12 hik hrd X eT R N h10 h11
      obtain rfl : i = E := by omega
      subst hrd
      refine w_iload (n := 148) X.here hx (hb hby d5_146) rfl rfl ?_
      refine w_iload (n := 150) X.here hx (hb hby d5_148) rfl rfl ?_
      refine w_icmpge (n1 := 303) (n2 := 153) X.here hx (hb hby d5_150) (by decide) (by decide) rfl (fun hc150 => ?_) (fun hc150 => absurd (fun q => Nat.lt_irrefl _ ((nat_lt (by omega) (by omega)).mp q)) hc150)
      exact fin_V X hx hlk eT hret (hb hby d5_303) (by decide) (by decide) ⟨rfl, N, R⟩
    | succ k ih =>
      intro i wh na fi be T h locs s10 s11 s12 hik hrd X eT R N h10 h11
      have hiE : i < E := by omega
      have tail : ∀ (wh' na' : Int64) (fi' be' : Int32) (T : State) (h : Heap) (locs : List Loc) (s10 s11 s12 : Slot), be = 0 → own_stp bs pt poe 0 i (wh, na, fi, be) = (wh', na', fi', be') → Stand p l e own_rr s m #[.ref a, .ref tx, .int (Int32.ofNat S), .int (Int32.ofNat E)] below meth c T locs 0 0 → T.heap = h → own_RI Z h0 a tx pw kt kp tz bs h 0 wh' na' fi' be' → Fr n0 locs → own_S1 s10 → own_S2 s11 s12 → Endz p.tables e below (Finz s own_rr (fun v h L => v = none ∧ Fr n0 L ∧ own_RI Z h0 a tx pw kt kp tz bs h 0 σF.1 σF.2.1 σF.2.2.1 σF.2.2.2)) T (mkF m 297 #[.val (.ref a), .val (.ref tx), .val (.int (Int32.ofNat S)), .val (.int (Int32.ofNat E)), .val (.int pt), .val (.int (Int32.ofNat E)), .val (.long 0), .second, .val (.int poe), .val (.int (Int32.ofNat i)), s10, s11, s12] []) := by
        intro wh' na' fi' be' T h locs s10 s11 s12 hbe hstp X eT R N h10 h11
        refine w_iinc (Ls' := #[.val (.ref a), .val (.ref tx), .val (.int (Int32.ofNat S)), .val (.int (Int32.ofNat E)), .val (.int pt), .val (.int (Int32.ofNat E)), .val (.long 0), .second, .val (.int poe), .val (.int ((Int32.ofNat i) + (1 : Int32))), s10, s11, s12]) (n := 300) X.here hx (hb hby d5_297) rfl rfl (by rcases h10 with rfl | ⟨_, rfl⟩ <;> rcases h11 with ⟨rfl, rfl⟩ | ⟨_, rfl, rfl⟩ <;> rfl) ?_
        refine w_goto (n := 146) X.here hx (hb hby d5_300) (by decide) (by decide) ?_
        rw [nat_up]
        refine ih (i + 1) wh' na' fi' be' T h locs s10 s11 s12 (by omega) ?_ X eT R N h10 h11
        rw [own_rd, if_neg (fun q => q hbe), hstp] at hrd
        exact hrd
      refine w_iload (n := 148) X.here hx (hb hby d5_146) rfl rfl ?_
      refine w_iload (n := 150) X.here hx (hb hby d5_148) rfl rfl ?_
      refine w_icmpge (n1 := 303) (n2 := 153) X.here hx (hb hby d5_150) (by decide) (by decide) rfl (fun hc150 => absurd ((nat_lt (by omega) (by omega)).mpr hiE) hc150) (fun hc150 => ?_)
      refine w_aloadN (n := 154) X.here hx (hb hby d5_153) rfl rfl rfl ?_
      refine g_F (n := 157) X hx hZ hown (hw _ (List.mem_of_getElem? (i := 50) rfl)) eT R.2.2.2.2.2.2.2.2.2 (hb hby d5_154) rfl (fun T101 X101 e101 => ?_)
      refine w_ifne (n1 := 303) (n2 := 160) X101.here hx (hb hby d5_157) (by decide) (by decide) rfl (fun hc157 => ?_) (fun hc157 => ?_)
      · rw [own_rd, if_pos hc157] at hrd
        subst hrd
        exact fin_V X101 hx hlk e101 hret (hb hby d5_303) (by decide) (by decide) ⟨rfl, N, R⟩
      · have hbe : be = 0 := Classical.not_not.mp hc157
        refine w_aloadN (n := 161) X101.here hx (hb hby d5_160) rfl rfl rfl ?_
        refine w_iload (n := 163) X101.here hx (hb hby d5_161) rfl rfl ?_
        refine l_B (n := 164) X101 hx hZ e101 R.2.1 (nat_nn (by omega)) (htz hiE) (getD_mapI bs _) (hb hby d5_163) rfl ?_
        rw [nat_clamp (show i < 2147483648 by omega)]
        refine w_bipush (z := (48 : Int32)) (n := 166) X101.here hx (hb hby d5_164) rfl rfl ?_
        refine w_isub (n := 167) X101.here hx (hb hby d5_166) rfl ?_
        refine w_istore (Ls' := #[.val (.ref a), .val (.ref tx), .val (.int (Int32.ofNat S)), .val (.int (Int32.ofNat E)), .val (.int pt), .val (.int (Int32.ofNat E)), .val (.long 0), .second, .val (.int poe), .val (.int (Int32.ofNat i)), .val (.int ((bs.getD (i) 0) - (48 : Int32))), s11, s12]) (n := 169) X101.here hx (hb hby d5_167) rfl (by rcases h10 with rfl | ⟨_, rfl⟩ <;> rcases h11 with ⟨rfl, rfl⟩ | ⟨_, rfl, rfl⟩ <;> rfl) ?_
        refine w_iload (n := 171) X101.here hx (hb hby d5_169) rfl rfl ?_
        refine w_iload (n := 173) X101.here hx (hb hby d5_171) rfl rfl ?_
        refine w_icmpeq (n1 := 297) (n2 := 176) X101.here hx (hb hby d5_173) (by decide) (by decide) rfl (fun hc173 => ?_) (fun hc173 => ?_)
        · exact tail _ _ _ _ _ _ _ _ _ _ hbe (by rw [own_stp, if_pos hc173]) X101 e101 R N (Or.inr ⟨_, rfl⟩) (h11)
        · refine w_iload (n := 178) X101.here hx (hb hby d5_176) rfl rfl ?_
          refine w_ifeq (n1 := 297) (n2 := 181) X101.here hx (hb hby d5_178) (by decide) (by decide) rfl (fun hc178 => ?_) (fun hc178 => ?_)
          · exact tail _ _ _ _ _ _ _ _ _ _ hbe (by rw [own_stp, if_neg hc173, if_pos hc178]) X101 e101 R N (Or.inr ⟨_, rfl⟩) (h11)
          · have hs0 : own_stp bs pt poe 0 i (wh, na, fi, be) = (if ¬ own_pl poe 0 i < 18 then (wh, na, fi, 1) else if ¬ own_pl poe 0 i < 0 then (wh + (bs.getD i 0 - 48).toInt64 * own_pw (own_pl poe 0 i).toInt32, na, fi, be) else if ¬ own_pl poe 0 i < -9 then (wh, na + (bs.getD i 0 - 48).toInt64 * own_pw (9 + own_pl poe 0 i).toInt32, fi, be) else (wh, na, 1, be)) := by rw [own_stp, if_neg hc173, if_neg hc178]
            refine w_lload (n := 183) X101.here hx (hb hby d5_181) rfl rfl ?_
            refine w_iload (n := 185) X101.here hx (hb hby d5_183) rfl rfl ?_
            refine w_iload (n := 187) X101.here hx (hb hby d5_185) rfl rfl ?_
            have tail2 : ∀ pi : Int32, (if ¬ Int32.ofNat i < poe then poe - Int32.ofNat i else poe - 1 - Int32.ofNat i) = pi → Endz p.tables e below (Finz s own_rr (fun v h L => v = none ∧ Fr n0 L ∧ own_RI Z h0 a tx pw kt kp tz bs h 0 σF.1 σF.2.1 σF.2.2.1 σF.2.2.2)) T101 (mkF m 205 #[.val (.ref a), .val (.ref tx), .val (.int (Int32.ofNat S)), .val (.int (Int32.ofNat E)), .val (.int pt), .val (.int (Int32.ofNat E)), .val (.long 0), .second, .val (.int poe), .val (.int (Int32.ofNat i)), .val (.int ((bs.getD (i) 0) - (48 : Int32))), s11, s12] [(.int pi), (.long 0)]) := by
              intro pi hpi
              have hpl : own_pl poe 0 i = 0 + pi.toInt64 := by rw [own_pl, hpi]
              refine w_i2l (n := 206) X101.here hx (hb hby d5_205) rfl ?_
              refine w_ladd (n := 207) X101.here hx (hb hby d5_206) rfl ?_
              rw [← hpl]
              refine w_lstore (Ls' := #[.val (.ref a), .val (.ref tx), .val (.int (Int32.ofNat S)), .val (.int (Int32.ofNat E)), .val (.int pt), .val (.int (Int32.ofNat E)), .val (.long 0), .second, .val (.int poe), .val (.int (Int32.ofNat i)), .val (.int ((bs.getD (i) 0) - (48 : Int32))), .val (.long (own_pl poe 0 i)), .second]) (n := 209) X101.here hx (hb hby d5_207) rfl (by rcases h11 with ⟨rfl, rfl⟩ | ⟨_, rfl, rfl⟩ <;> rfl) ?_
              refine w_lload (n := 211) X101.here hx (hb hby d5_209) rfl rfl ?_
              refine k_J (n := 214) X101 hx hZ hown (hw _ (List.mem_of_getElem? (i := 52) rfl)) (hb hby d5_211) rfl ?_
              refine w_lcmp (n := 215) X101.here hx (hb hby d5_214) rfl ?_
              refine w_iflt (n1 := 226) (n2 := 218) X101.here hx (hb hby d5_215) (by decide) (by decide) rfl (fun hc215 => ?_) (fun hc215 => ?_)
              · have q1 : (own_pl poe 0 i) < 18 := (lw_lt _ _).mp hc215
                refine w_lload (n := 228) X101.here hx (hb hby d5_226) rfl rfl ?_
                refine w_lconst (z := (0 : Int64)) (n := 229) X101.here hx (hb hby d5_228) rfl rfl ?_
                refine w_lcmp (n := 230) X101.here hx (hb hby d5_229) rfl ?_
                refine w_iflt (n1 := 256) (n2 := 233) X101.here hx (hb hby d5_230) (by decide) (by decide) rfl (fun hc230 => ?_) (fun hc230 => ?_)
                · have q2 : (own_pl poe 0 i) < 0 := (lw_lt _ _).mp hc230
                  refine w_lload (n := 258) X101.here hx (hb hby d5_256) rfl rfl ?_
                  refine k_J (n := 261) X101 hx hZ hown (hw _ (List.mem_of_getElem? (i := 67) rfl)) (hb hby d5_258) rfl ?_
                  refine w_lcmp (n := 262) X101.here hx (hb hby d5_261) rfl ?_
                  refine w_iflt (n1 := 292) (n2 := 265) X101.here hx (hb hby d5_262) (by decide) (by decide) rfl (fun hc262 => ?_) (fun hc262 => ?_)
                  · have q3 : (own_pl poe 0 i) < -9 := (lw_lt _ _).mp hc262
                    refine w_aloadN (n := 293) X101.here hx (hb hby d5_292) rfl rfl rfl ?_
                    refine w_iconst (z := (1 : Int32)) (n := 294) X101.here hx (hb hby d5_293) rfl rfl ?_
                    refine p_FN (ty := .boolean) (v' := (.int (1 : Int32))) (n := 297) X101 hx hZ hown (hw _ (List.mem_of_getElem? (i := 48) rfl)) e101 R.2.2.2.2.2.2.2.2.1 R.2.2.2.2.1 (Or.inl (hw _ (List.mem_of_getElem? (i := 49) rfl))) (hw _ (List.mem_of_getElem? (i := 29) rfl)) (by decide) rfl rfl (hb hby d5_294) rfl (fun T102 h102 X102 e102 W102 => ?_)
                    have R102 := own_ri_finer hw n1 n2 R W102
                    have N102 := Fr.snoc X102 N g
                    exact tail _ _ _ _ _ _ _ _ _ _ hbe (hs0.trans ((if_neg (fun q => q q1)).trans ((if_neg (fun q => q q2)).trans (if_neg (fun q => q q3))))) X102 e102 R102 N102 (Or.inr ⟨_, rfl⟩) (Or.inr ⟨_, rfl, rfl⟩)
                  · have q3 : ¬ (own_pl poe 0 i) < -9 := fun q => hc262 ((lw_lt _ _).mpr q)
                    refine w_aloadN (n := 266) X101.here hx (hb hby d5_265) rfl rfl rfl ?_
                    refine w_dup (n := 267) X101.here hx (hb hby d5_266) rfl rfl ?_
                    refine g_F (n := 270) X101 hx hZ hown (hw _ (List.mem_of_getElem? (i := 46) rfl)) e101 R.2.2.2.2.2.2.2.1 (hb hby d5_267) rfl (fun T103 X103 e103 => ?_)
                    refine w_iload (n := 272) X103.here hx (hb hby d5_270) rfl rfl ?_
                    refine w_i2l (n := 273) X103.here hx (hb hby d5_272) rfl ?_
                    refine g_S (n := 276) X103 hx hZ hown (hw _ (List.mem_of_getElem? (i := 53) rfl)) e103 R.2.2.1 (hb hby d5_273) rfl (fun T104 X104 e104 => ?_)
                    refine k_J (n := 279) X104 hx hZ hown (hw _ (List.mem_of_getElem? (i := 68) rfl)) (hb hby d5_276) rfl ?_
                    refine w_lload (n := 281) X104.here hx (hb hby d5_279) rfl rfl ?_
                    refine w_ladd (n := 282) X104.here hx (hb hby d5_281) rfl ?_
                    refine w_l2i (n := 283) X104.here hx (hb hby d5_282) rfl ?_
                    obtain ⟨j1, j2⟩ := own_pl_idx9 q2 q3
                    refine l_J (n := 284) X104 hx hZ e104 R.2.2.2.1 j1 j2 (getD_mapJ own_pows _) (hb hby d5_283) rfl ?_
                    show Endz _ _ _ _ T104 (mkF m 284 #[.val (.ref a), .val (.ref tx), .val (.int (Int32.ofNat S)), .val (.int (Int32.ofNat E)), .val (.int pt), .val (.int (Int32.ofNat E)), .val (.long 0), .second, .val (.int poe), .val (.int (Int32.ofNat i)), .val (.int ((bs.getD (i) 0) - (48 : Int32))), .val (.long (own_pl poe 0 i)), .second] [(.long (own_pw (9 + (own_pl poe 0 i)).toInt32)), (.long ((bs.getD (i) 0) - (48 : Int32)).toInt64), (.long na), (.ref a)])
                    refine w_lmul (n := 285) X104.here hx (hb hby d5_284) rfl ?_
                    refine w_ladd (n := 286) X104.here hx (hb hby d5_285) rfl ?_
                    refine p_F (ty := .long) (n := 289) X104 hx hZ hown (hw _ (List.mem_of_getElem? (i := 46) rfl)) e104 R.2.2.2.2.2.2.2.1 R.2.2.2.2.1 (Or.inl (hw _ (List.mem_of_getElem? (i := 47) rfl))) (hw _ (List.mem_of_getElem? (i := 29) rfl)) (by decide) rfl rfl (hb hby d5_286) rfl (fun T105 h105 X105 e105 W105 => ?_)
                    have R105 := own_ri_nanos hw n1 n2 R W105
                    have N105 := Fr.snoc X105 N g
                    refine w_goto (n := 297) X105.here hx (hb hby d5_289) (by decide) (by decide) ?_
                    exact tail _ _ _ _ _ _ _ _ _ _ hbe (hs0.trans ((if_neg (fun q => q q1)).trans ((if_neg (fun q => q q2)).trans (if_pos q3)))) X105 e105 R105 N105 (Or.inr ⟨_, rfl⟩) (Or.inr ⟨_, rfl, rfl⟩)
                · have q2 : ¬ (own_pl poe 0 i) < 0 := fun q => hc230 ((lw_lt _ _).mpr q)
                  refine w_aloadN (n := 234) X101.here hx (hb hby d5_233) rfl rfl rfl ?_
                  refine w_dup (n := 235) X101.here hx (hb hby d5_234) rfl rfl ?_
                  refine g_F (n := 238) X101 hx hZ hown (hw _ (List.mem_of_getElem? (i := 44) rfl)) e101 R.2.2.2.2.2.2.1 (hb hby d5_235) rfl (fun T106 X106 e106 => ?_)
                  refine w_iload (n := 240) X106.here hx (hb hby d5_238) rfl rfl ?_
                  refine w_i2l (n := 241) X106.here hx (hb hby d5_240) rfl ?_
                  refine g_S (n := 244) X106 hx hZ hown (hw _ (List.mem_of_getElem? (i := 53) rfl)) e106 R.2.2.1 (hb hby d5_241) rfl (fun T107 X107 e107 => ?_)
                  refine w_lload (n := 246) X107.here hx (hb hby d5_244) rfl rfl ?_
                  refine w_l2i (n := 247) X107.here hx (hb hby d5_246) rfl ?_
                  obtain ⟨j1, j2⟩ := own_pl_idx q1 q2
                  refine l_J (n := 248) X107 hx hZ e107 R.2.2.2.1 j1 j2 (getD_mapJ own_pows _) (hb hby d5_247) rfl ?_
                  show Endz _ _ _ _ T107 (mkF m 248 #[.val (.ref a), .val (.ref tx), .val (.int (Int32.ofNat S)), .val (.int (Int32.ofNat E)), .val (.int pt), .val (.int (Int32.ofNat E)), .val (.long 0), .second, .val (.int poe), .val (.int (Int32.ofNat i)), .val (.int ((bs.getD (i) 0) - (48 : Int32))), .val (.long (own_pl poe 0 i)), .second] [(.long (own_pw (own_pl poe 0 i).toInt32)), (.long ((bs.getD (i) 0) - (48 : Int32)).toInt64), (.long wh), (.ref a)])
                  refine w_lmul (n := 249) X107.here hx (hb hby d5_248) rfl ?_
                  refine w_ladd (n := 250) X107.here hx (hb hby d5_249) rfl ?_
                  refine p_F (ty := .long) (n := 253) X107 hx hZ hown (hw _ (List.mem_of_getElem? (i := 44) rfl)) e107 R.2.2.2.2.2.2.1 R.2.2.2.2.1 (Or.inl (hw _ (List.mem_of_getElem? (i := 45) rfl))) (hw _ (List.mem_of_getElem? (i := 29) rfl)) (by decide) rfl rfl (hb hby d5_250) rfl (fun T108 h108 X108 e108 W108 => ?_)
                  have R108 := own_ri_whole hw n1 n2 R W108
                  have N108 := Fr.snoc X108 N g
                  refine w_goto (n := 297) X108.here hx (hb hby d5_253) (by decide) (by decide) ?_
                  exact tail _ _ _ _ _ _ _ _ _ _ hbe (hs0.trans ((if_neg (fun q => q q1)).trans (if_pos q2))) X108 e108 R108 N108 (Or.inr ⟨_, rfl⟩) (Or.inr ⟨_, rfl, rfl⟩)
              · refine w_aloadN (n := 219) X101.here hx (hb hby d5_218) rfl rfl rfl ?_
                refine w_iconst (z := (1 : Int32)) (n := 220) X101.here hx (hb hby d5_219) rfl rfl ?_
                refine p_FN (ty := .boolean) (v' := (.int (1 : Int32))) (n := 223) X101 hx hZ hown (hw _ (List.mem_of_getElem? (i := 50) rfl)) e101 R.2.2.2.2.2.2.2.2.2 R.2.2.2.2.1 (Or.inl (hw _ (List.mem_of_getElem? (i := 51) rfl))) (hw _ (List.mem_of_getElem? (i := 29) rfl)) (by decide) rfl rfl (hb hby d5_220) rfl (fun T109 h109 X109 e109 W109 => ?_)
                have R109 := own_ri_beyond hw n1 n2 R W109
                have N109 := Fr.snoc X109 N g
                refine w_goto (n := 297) X109.here hx (hb hby d5_223) (by decide) (by decide) ?_
                exact tail _ _ _ _ _ _ _ _ _ _ hbe (hs0.trans (if_pos (fun q => hc215 ((lw_lt _ _).mpr q)))) X109 e109 R109 N109 (Or.inr ⟨_, rfl⟩) (Or.inr ⟨_, rfl, rfl⟩)
            refine w_icmpge (n1 := 200) (n2 := 190) X101.here hx (hb hby d5_187) (by decide) (by decide) rfl (fun hc187 => ?_) (fun hc187 => ?_)
            · refine w_iload (n := 202) X101.here hx (hb hby d5_200) rfl rfl ?_
              refine w_iload (n := 204) X101.here hx (hb hby d5_202) rfl rfl ?_
              refine w_isub (n := 205) X101.here hx (hb hby d5_204) rfl ?_
              exact tail2 _ (if_pos hc187)
            · refine w_iload (n := 192) X101.here hx (hb hby d5_190) rfl rfl ?_
              refine w_iconst (z := (1 : Int32)) (n := 193) X101.here hx (hb hby d5_192) rfl rfl ?_
              refine w_isub (n := 194) X101.here hx (hb hby d5_193) rfl ?_
              refine w_iload (n := 196) X101.here hx (hb hby d5_194) rfl rfl ?_
              refine w_isub (n := 197) X101.here hx (hb hby d5_196) rfl ?_
              refine w_goto (n := 205) X101.here hx (hb hby d5_197) (by decide) (by decide) ?_
              exact tail2 _ (if_neg hc187)
  have rest : ∀ (T : State) (h : Heap) (locs : List Loc) (X : Stand p l e own_rr s m #[.ref a, .ref tx, .int (Int32.ofNat S), .int (Int32.ofNat E)] below meth c T locs 0 0) (eT : T.heap = h) (R : own_RI Z h0 a tx pw kt kp tz bs h 0 wh0 na0 fi0 be0) (N : Fr n0 locs), Endz p.tables e below (Finz s own_rr (fun v h L => v = none ∧ Fr n0 L ∧ own_RI Z h0 a tx pw kt kp tz bs h 0 σF.1 σF.2.1 σF.2.2.1 σF.2.2.2)) T (mkF m 96 #[.val (.ref a), .val (.ref tx), .val (.int (Int32.ofNat S)), .val (.int (Int32.ofNat E)), .val (.int pt), .val (.int (Int32.ofNat E)), .val (.long (0 : Int64)), .second, .val (.int (Int32.ofNat E)), .unset, .unset, .unset, .unset] []) := by
    intro T h locs X eT R N
    have tail1 : ∀ po, (if ¬ pt < 0 then pt else Int32.ofNat E) = po → Endz p.tables e below (Finz s own_rr (fun v h L => v = none ∧ Fr n0 L ∧ own_RI Z h0 a tx pw kt kp tz bs h 0 σF.1 σF.2.1 σF.2.2.1 σF.2.2.2)) T (mkF m 108 #[.val (.ref a), .val (.ref tx), .val (.int (Int32.ofNat S)), .val (.int (Int32.ofNat E)), .val (.int pt), .val (.int (Int32.ofNat E)), .val (.long (0 : Int64)), .second, .val (.int (Int32.ofNat E)), .unset, .unset, .unset, .unset] [(.int po)]) := by
      intro po hpo
      obtain rfl : po = poe := hpo.symm.trans hpoe
      have hpo' := hpo
      refine w_istore (Ls' := #[.val (.ref a), .val (.ref tx), .val (.int (Int32.ofNat S)), .val (.int (Int32.ofNat E)), .val (.int pt), .val (.int (Int32.ofNat E)), .val (.long (0 : Int64)), .second, .val (.int po), .unset, .unset, .unset, .unset]) (n := 110) X.here hx (hb hby d5_108) rfl rfl ?_
      refine w_aloadN (n := 111) X.here hx (hb hby d5_110) rfl rfl rfl ?_
      refine w_lconst (z := (0 : Int64)) (n := 112) X.here hx (hb hby d5_111) rfl rfl ?_
      refine p_F (ty := .long) (n := 115) X hx hZ hown (hw _ (List.mem_of_getElem? (i := 44) rfl)) eT R.2.2.2.2.2.2.1 R.2.2.2.2.1 (Or.inl (hw _ (List.mem_of_getElem? (i := 45) rfl))) (hw _ (List.mem_of_getElem? (i := 29) rfl)) (by decide) rfl rfl (hb hby d5_112) rfl (fun T201 h201 X201 e201 W201 => ?_)
      have R201 := own_ri_whole hw n1 n2 R W201
      have N201 := Fr.snoc X201 N g
      refine w_aloadN (n := 116) X201.here hx (hb hby d5_115) rfl rfl rfl ?_
      refine w_lconst (z := (0 : Int64)) (n := 117) X201.here hx (hb hby d5_116) rfl rfl ?_
      refine p_F (ty := .long) (n := 120) X201 hx hZ hown (hw _ (List.mem_of_getElem? (i := 46) rfl)) e201 R201.2.2.2.2.2.2.2.1 R201.2.2.2.2.1 (Or.inl (hw _ (List.mem_of_getElem? (i := 47) rfl))) (hw _ (List.mem_of_getElem? (i := 29) rfl)) (by decide) rfl rfl (hb hby d5_117) rfl (fun T202 h202 X202 e202 W202 => ?_)
      have R202 := own_ri_nanos hw n1 n2 R201 W202
      have N202 := Fr.snoc X202 N201 g
      refine w_aloadN (n := 121) X202.here hx (hb hby d5_120) rfl rfl rfl ?_
      refine w_iconst (z := (0 : Int32)) (n := 122) X202.here hx (hb hby d5_121) rfl rfl ?_
      refine p_FN (ty := .boolean) (v' := (.int (0 : Int32))) (n := 125) X202 hx hZ hown (hw _ (List.mem_of_getElem? (i := 48) rfl)) e202 R202.2.2.2.2.2.2.2.2.1 R202.2.2.2.2.1 (Or.inl (hw _ (List.mem_of_getElem? (i := 49) rfl))) (hw _ (List.mem_of_getElem? (i := 29) rfl)) (by decide) rfl rfl (hb hby d5_122) rfl (fun T203 h203 X203 e203 W203 => ?_)
      have R203 := own_ri_finer hw n1 n2 R202 W203
      have N203 := Fr.snoc X203 N202 g
      refine w_aloadN (n := 126) X203.here hx (hb hby d5_125) rfl rfl rfl ?_
      refine w_iconst (z := (0 : Int32)) (n := 127) X203.here hx (hb hby d5_126) rfl rfl ?_
      refine p_FN (ty := .boolean) (v' := (.int (0 : Int32))) (n := 130) X203 hx hZ hown (hw _ (List.mem_of_getElem? (i := 50) rfl)) e203 R203.2.2.2.2.2.2.2.2.2 R203.2.2.2.2.1 (Or.inl (hw _ (List.mem_of_getElem? (i := 51) rfl))) (hw _ (List.mem_of_getElem? (i := 29) rfl)) (by decide) rfl rfl (hb hby d5_127) rfl (fun T204 h204 X204 e204 W204 => ?_)
      have R204 := own_ri_beyond hw n1 n2 R203 W204
      have N204 := Fr.snoc X204 N203 g
      refine w_aloadN (n := 131) X204.here hx (hb hby d5_130) rfl rfl rfl ?_
      refine g_F (n := 134) X204 hx hZ hown (hw _ (List.mem_of_getElem? (i := 42) rfl)) e204 R204.2.2.2.2.2.1 (hb hby d5_131) rfl (fun T205 X205 e205 => ?_)
      refine w_ifeq (n1 := 143) (n2 := 137) X205.here hx (hb hby d5_134) (by decide) (by decide) rfl (fun hc134 => ?_) (fun hc134 => absurd rfl hc134)
      refine w_iloadN (n := 144) X205.here hx (hb hby d5_143) rfl rfl ?_
      refine w_istore (Ls' := #[.val (.ref a), .val (.ref tx), .val (.int (Int32.ofNat S)), .val (.int (Int32.ofNat E)), .val (.int pt), .val (.int (Int32.ofNat E)), .val (.long (0 : Int64)), .second, .val (.int po), .val (.int (Int32.ofNat S)), .unset, .unset, .unset]) (n := 146) X205.here hx (hb hby d5_144) rfl rfl ?_
      exact loop2 (E - S) S 0 0 0 0 _ _ _ _ _ _ (by omega) hσ X205 e205 R204 N204 (Or.inl rfl) (Or.inl ⟨rfl, rfl⟩)
    refine w_iload (n := 98) X.here hx (hb hby d5_96) rfl rfl ?_
    refine w_ifge (n1 := 106) (n2 := 101) X.here hx (hb hby d5_98) (by decide) (by decide) rfl (fun hc98 => ?_) (fun hc98 => ?_)
    · refine w_iload (n := 108) X.here hx (hb hby d5_106) rfl rfl ?_
      exact tail1 _ (if_pos hc98)
    · refine w_iload (n := 103) X.here hx (hb hby d5_101) rfl rfl ?_
      refine w_goto (n := 108) X.here hx (hb hby d5_103) (by decide) (by decide) ?_
      exact tail1 _ (if_neg hc98)
  have loop1 : ∀ (T : State) (h : Heap) (locs : List Loc) (X : Stand p l e own_rr s m #[.ref a, .ref tx, .int (Int32.ofNat S), .int (Int32.ofNat E)] below meth c T locs 0 0) (eT : T.heap = h) (R : own_RI Z h0 a tx pw kt kp tz bs h 0 wh0 na0 fi0 be0) (N : Fr n0 locs) (k c' : Nat), S + c' + k = E → Endz p.tables e below (Finz s own_rr (fun v h L => v = none ∧ Fr n0 L ∧ own_RI Z h0 a tx pw kt kp tz bs h 0 σF.1 σF.2.1 σF.2.2.1 σF.2.2.2)) T (mkF m 29 #[.val (.ref a), .val (.ref tx), .val (.int (Int32.ofNat S)), .val (.int (Int32.ofNat E)), .val (.int (own_ptc bs S c')), .val (.int (Int32.ofNat E)), .val (.long (0 : Int64)), .second, .val (.int (Int32.ofNat (S + c'))), .unset, .unset, .unset, .unset] []) := by
    intro T h locs X eT R N k
    induction k with
    | zero =>
      intro c' hk
      obtain rfl : c' = E - S := by omega
      have hE : S + (E - S) = E := by omega
      rw [hpt, hE]
      refine w_iload (n := 31) X.here hx (hb hby d5_29) rfl rfl ?_
      refine w_iloadN (n := 32) X.here hx (hb hby d5_31) rfl rfl ?_
      refine w_icmpge (n1 := 96) (n2 := 35) X.here hx (hb hby d5_32) (by decide) (by decide) rfl (fun hc32 => ?_) (fun hc32 => absurd (fun q => Nat.lt_irrefl _ ((nat_lt (by omega) (by omega)).mp q)) hc32)
      exact rest T h locs X eT R N
    | succ k ih =>
      intro c' hk
      have hiE : S + c' < E := by omega
      obtain ⟨ne1, ne2⟩ := hnoe (S + c') (by omega) hiE
      refine w_iload (n := 31) X.here hx (hb hby d5_29) rfl rfl ?_
      refine w_iloadN (n := 32) X.here hx (hb hby d5_31) rfl rfl ?_
      refine w_icmpge (n1 := 96) (n2 := 35) X.here hx (hb hby d5_32) (by decide) (by decide) rfl (fun hc32 => absurd ((nat_lt (by omega) (by omega)).mpr hiE) hc32) (fun hc32 => ?_)
      refine w_iload (n := 37) X.here hx (hb hby d5_35) rfl rfl ?_
      refine w_iloadN (n := 38) X.here hx (hb hby d5_37) rfl rfl ?_
      refine w_icmpne (n1 := 96) (n2 := 41) X.here hx (hb hby d5_38) (by decide) (by decide) rfl (fun hc38 => absurd rfl hc38) (fun hc38 => ?_)
      refine w_aloadN (n := 42) X.here hx (hb hby d5_41) rfl rfl rfl ?_
      refine w_iload (n := 44) X.here hx (hb hby d5_42) rfl rfl ?_
      refine l_B (n := 45) X hx hZ eT R.2.1 (nat_nn (by omega)) (htz hiE) (getD_mapI bs _) (hb hby d5_44) rfl ?_
      rw [nat_clamp (show S + c' < 2147483648 by omega)]
      refine w_bipush (z := (46 : Int32)) (n := 47) X.here hx (hb hby d5_45) rfl rfl ?_
      refine w_icmpne (n1 := 57) (n2 := 50) X.here hx (hb hby d5_47) (by decide) (by decide) rfl (fun hc47 => ?_) (fun hc47 => ?_)
      · refine w_aloadN (n := 58) X.here hx (hb hby d5_57) rfl rfl rfl ?_
        refine w_iload (n := 60) X.here hx (hb hby d5_58) rfl rfl ?_
        refine l_B (n := 61) X hx hZ eT R.2.1 (nat_nn (by omega)) (htz hiE) (getD_mapI bs _) (hb hby d5_60) rfl ?_
        rw [nat_clamp (show S + c' < 2147483648 by omega)]
        refine w_bipush (z := (101 : Int32)) (n := 63) X.here hx (hb hby d5_61) rfl rfl ?_
        refine w_icmpeq (n1 := 75) (n2 := 66) X.here hx (hb hby d5_63) (by decide) (by decide) rfl (fun hc63 => absurd hc63 ne1) (fun hc63 => ?_)
        refine w_aloadN (n := 67) X.here hx (hb hby d5_66) rfl rfl rfl ?_
        refine w_iload (n := 69) X.here hx (hb hby d5_67) rfl rfl ?_
        refine l_B (n := 70) X hx hZ eT R.2.1 (nat_nn (by omega)) (htz hiE) (getD_mapI bs _) (hb hby d5_69) rfl ?_
        rw [nat_clamp (show S + c' < 2147483648 by omega)]
        refine w_bipush (z := (69 : Int32)) (n := 72) X.here hx (hb hby d5_70) rfl rfl ?_
        refine w_icmpne (n1 := 90) (n2 := 75) X.here hx (hb hby d5_72) (by decide) (by decide) rfl (fun hc72 => ?_) (fun hc72 => absurd ne2 hc72)
        refine w_iinc (Ls' := #[.val (.ref a), .val (.ref tx), .val (.int (Int32.ofNat S)), .val (.int (Int32.ofNat E)), .val (.int (own_ptc bs S c')), .val (.int (Int32.ofNat E)), .val (.long (0 : Int64)), .second, .val (.int ((Int32.ofNat (S + c')) + (1 : Int32))), .unset, .unset, .unset, .unset]) (n := 93) X.here hx (hb hby d5_90) rfl rfl rfl ?_
        refine w_goto (n := 29) X.here hx (hb hby d5_93) (by decide) (by decide) ?_
        rw [nat_up]
        have z := ih (c' + 1) (by omega)
        rw [own_ptc, if_neg hc47] at z
        exact z
      · refine w_iload (n := 52) X.here hx (hb hby d5_50) rfl rfl ?_
        refine w_istore (Ls' := #[.val (.ref a), .val (.ref tx), .val (.int (Int32.ofNat S)), .val (.int (Int32.ofNat E)), .val (.int (Int32.ofNat (S + c'))), .val (.int (Int32.ofNat E)), .val (.long (0 : Int64)), .second, .val (.int (Int32.ofNat (S + c'))), .unset, .unset, .unset, .unset]) (n := 54) X.here hx (hb hby d5_52) rfl rfl ?_
        refine w_goto (n := 90) X.here hx (hb hby d5_54) (by decide) (by decide) ?_
        refine w_iinc (Ls' := #[.val (.ref a), .val (.ref tx), .val (.int (Int32.ofNat S)), .val (.int (Int32.ofNat E)), .val (.int (Int32.ofNat (S + c'))), .val (.int (Int32.ofNat E)), .val (.long (0 : Int64)), .second, .val (.int ((Int32.ofNat (S + c')) + (1 : Int32))), .unset, .unset, .unset, .unset]) (n := 93) X.here hx (hb hby d5_90) rfl rfl rfl ?_
        refine w_goto (n := 29) X.here hx (hb hby d5_93) (by decide) (by decide) ?_
        rw [nat_up]
        have z := ih (c' + 1) (by omega)
        rw [own_ptc, if_pos (Classical.not_not.mp hc47)] at z
        exact z
  refine w_aloadN (n := 1) X0.here hx (hb hby d5_0) rfl rfl rfl ?_
  refine w_aloadN (n := 2) X0.here hx (hb hby d5_1) rfl rfl rfl ?_
  refine w_iloadN (n := 3) X0.here hx (hb hby d5_2) rfl rfl ?_
  refine l_B (n := 4) X0 hx hZ e0 R0.2.1 (nat_nn (by omega)) (htz hSE) (getD_mapI bs _) (hb hby d5_3) rfl ?_
  rw [nat_clamp (show S < 2147483648 by omega)]
  refine w_bipush (z := (45 : Int32)) (n := 6) X0.here hx (hb hby d5_4) rfl rfl ?_
  refine w_icmpne (n1 := 13) (n2 := 9) X0.here hx (hb hby d5_6) (by decide) (by decide) rfl (fun hc6 => ?_) (fun hc6 => absurd hneg hc6)
  refine w_iconst (z := (0 : Int32)) (n := 14) X0.here hx (hb hby d5_13) rfl rfl ?_
  refine p_FN (ty := .boolean) (v' := (.int (0 : Int32))) (n := 17) X0 hx hZ hown (hw _ (List.mem_of_getElem? (i := 42) rfl)) e0 R0.2.2.2.2.2.1 R0.2.2.2.2.1 (Or.inl (hw _ (List.mem_of_getElem? (i := 43) rfl))) (hw _ (List.mem_of_getElem? (i := 29) rfl)) (by decide) rfl rfl (hb hby d5_14) rfl (fun T301 h301 X301 e301 W301 => ?_)
  have R301 := own_ri_negative hw n1 n2 R0 W301
  have N301 := Fr.snoc X301 (Fr.nil n0) g
  refine w_iconst (z := (-1 : Int32)) (n := 18) X301.here hx (hb hby d5_17) rfl rfl ?_
  refine w_istore (Ls' := #[.val (.ref a), .val (.ref tx), .val (.int (Int32.ofNat S)), .val (.int (Int32.ofNat E)), .val (.int (-1 : Int32)), .unset, .unset, .unset, .unset, .unset, .unset, .unset, .unset]) (n := 20) X301.here hx (hb hby d5_18) rfl rfl ?_
  refine w_iloadN (n := 21) X301.here hx (hb hby d5_20) rfl rfl ?_
  refine w_istore (Ls' := #[.val (.ref a), .val (.ref tx), .val (.int (Int32.ofNat S)), .val (.int (Int32.ofNat E)), .val (.int (-1 : Int32)), .val (.int (Int32.ofNat E)), .unset, .unset, .unset, .unset, .unset, .unset, .unset]) (n := 23) X301.here hx (hb hby d5_21) rfl rfl ?_
  refine w_lconst (z := (0 : Int64)) (n := 24) X301.here hx (hb hby d5_23) rfl rfl ?_
  refine w_lstore (Ls' := #[.val (.ref a), .val (.ref tx), .val (.int (Int32.ofNat S)), .val (.int (Int32.ofNat E)), .val (.int (-1 : Int32)), .val (.int (Int32.ofNat E)), .val (.long (0 : Int64)), .second, .unset, .unset, .unset, .unset, .unset]) (n := 26) X301.here hx (hb hby d5_24) rfl rfl ?_
  refine w_iloadN (n := 27) X301.here hx (hb hby d5_26) rfl rfl ?_
  refine w_istore (Ls' := #[.val (.ref a), .val (.ref tx), .val (.int (Int32.ofNat S)), .val (.int (Int32.ofNat E)), .val (.int (-1 : Int32)), .val (.int (Int32.ofNat E)), .val (.long (0 : Int64)), .second, .val (.int (Int32.ofNat S)), .unset, .unset, .unset, .unset]) (n := 29) X301.here hx (hb hby d5_27) rfl rfl ?_
  exact loop1 _ _ _ X301 e301 R301 N301 (E - S) 0 (by omega)
theorem own_i2b (x : Int32) : nar .byte x.toInt8.toInt32 = x.toInt8.toInt32 := by
  show x.toInt8.toInt32.toInt8.toInt32 = x.toInt8.toInt32
  rw [← Int32.toInt_inj]
  have a := c_i2b x; have b := c_i2b x.toInt8.toInt32
  omega
/-- the digit of v at the place q, as a sign -/
def own_dg (v q : Int64) : Int32 := (48 + (v / q) % 10).toInt32.toInt8.toInt32
theorem own_dgn (v q : Int64) : nar .byte (own_dg v q) = own_dg v q := own_i2b _
abbrev own_r0 : Room := { frames := 0, cells := 0, slots := 0, locals := 0 }
abbrev own_ri : Room := { frames := 1, cells := 0, slots := 0, locals := 12 }
set_option maxRecDepth 65536 in
set_option maxHeartbeats 40000000 in
theorem rmd (l : Launch) (Z : State) (a0 : Array Value) (hw : ∀ d ∈ tables_1, d.before a0 Z = true) (ws : List Jvm.Cond) (v q : Int64) (hq : q ≠ 0) (h0 : Heap) :
    Con l Z (⟨"com/example/portion/portion/quota/BoundedNumberNanosAtMostMaxPinLaw", "dig", "(JJ)B"⟩ : MethodName) method_2_code 4 (some .byte) ws own_r0 #[.long v, .long q] h0 (fun r h L => r = some (.int (own_dg v q)) ∧ h = h0 ∧ L = []) := by
  refine con_of (plainFor_of_name pn_0) ?_
  intro p e s m below meth c T0 X0 hx hZ hby hml hown hret hnm hlk e0
  refine Endz.eq (ef_d m v q) ?_
  refine k_J (n := 3) X0 hx hZ hown (hw _ (List.mem_of_getElem? (i := 7) rfl)) (hb hby d1_0) rfl ?_
  refine w_lloadN (n := 4) X0.here hx (hb hby d1_3) rfl rfl ?_
  refine w_lloadN (n := 5) X0.here hx (hb hby d1_4) rfl rfl ?_
  refine w_ldiv (n := 6) X0.here hx (hb hby d1_5) rfl hq ?_
  refine k_J (n := 9) X0 hx hZ hown (hw _ (List.mem_of_getElem? (i := 8) rfl)) (hb hby d1_6) rfl ?_
  refine w_lrem (n := 10) X0.here hx (hb hby d1_9) rfl (by decide) ?_
  refine w_ladd (n := 11) X0.here hx (hb hby d1_10) rfl ?_
  refine w_l2i (n := 12) X0.here hx (hb hby d1_11) rfl ?_
  refine w_i2b (n := 13) X0.here hx (hb hby d1_12) rfl ?_
  exact fin_Z X0 hx hlk e0 hret (Or.inr (Or.inl rfl)) (hb hby d1_13) (by decide) (by decide) ⟨congrArg (fun z => some (Value.int z)) (own_i2b _), rfl, rfl⟩
/-- what holds of the count of digits behind k comparisons -/
def own_ln (v : Int64) (k L : Nat) : Prop := 1 ≤ L ∧ L ≤ k + 1 ∧ (L = 1 ∨ (10 : Int) ^ (L - 1) ≤ v.toInt) ∧ (L ≤ k → v.toInt < (10 : Int) ^ L)
set_option maxRecDepth 65536 in
set_option maxHeartbeats 40000000 in
theorem rml (l : Launch) (Z : State) (a0 : Array Value) (hw : ∀ d ∈ tables_1, d.before a0 Z = true) (ws : List Jvm.Cond) (v : Int64) (h0 : Heap) :
    Con l Z (⟨"com/example/portion/portion/quota/BoundedNumberNanosAtMostMaxPinLaw", "len", "(J)I"⟩ : MethodName) method_3_code 3 (some .int) ws own_r0 #[.long v] h0 (fun r h L => ∃ d, own_ln v 18 d ∧ r = some (.int (Int32.ofNat d)) ∧ h = h0 ∧ L = []) := by
  refine con_of (plainFor_of_name pn_0) ?_
  intro p e s m below meth c T0 X0 hx hZ hby hml hown hret hnm hlk e0
  refine Endz.eq (ef_l m v) ?_
  have t18 : ∀ d : Nat, own_ln v 18 d → Endz p.tables e below (Finz s own_r0 (fun r h L => ∃ d, own_ln v 18 d ∧ r = some (.int (Int32.ofNat d)) ∧ h = h0 ∧ L = [])) T0 (mkF m 196 #[.val (.long v), .second, .val (.int (Int32.ofNat d))] []) := by
    intro d hd
    refine w_iloadN (n := 197) X0.here hx (hb hby d2_196) rfl rfl ?_
    exact fin_I X0 hx hlk e0 hret (hb hby d2_197) (by decide) (by decide) ⟨d, hd, rfl, rfl, rfl⟩
  have t17 : ∀ d : Nat, own_ln v 17 d → Endz p.tables e below (Finz s own_r0 (fun r h L => ∃ d, own_ln v 18 d ∧ r = some (.int (Int32.ofNat d)) ∧ h = h0 ∧ L = [])) T0 (mkF m 185 #[.val (.long v), .second, .val (.int (Int32.ofNat d))] []) := by
    intro d hd
    refine w_lloadN (n := 186) X0.here hx (hb hby d2_185) rfl rfl ?_
    refine k_J (n := 189) X0 hx hZ hown (hw _ (List.mem_of_getElem? (i := 2) rfl)) (hb hby d2_186) rfl ?_
    refine w_lcmp (n := 190) X0.here hx (hb hby d2_189) rfl ?_
    have tP : (1000000000000000000 : Int64).toInt = 1000000000000000000 := by decide
    have hm : ∀ j, 1 ≤ j → j ≤ 18 → (10 : Int) ^ j ≤ 1000000000000000000 := fun j h1 h2 => by
      have := Nat.pow_le_pow_right (n := 10) (by omega) h2
      have h3 : ((10 ^ j : Nat) : Int) ≤ ((10 ^ 18 : Nat) : Int) := by exact_mod_cast this
      simpa using h3
    refine w_iflt (n1 := 196) (n2 := 193) X0.here hx (hb hby d2_190) (by decide) (by decide) rfl (fun hc190 => ?_) (fun hc190 => ?_)
    · have hlt : v.toInt < 1000000000000000000 := by have := (lw_lt _ _).mp hc190; rw [Int64.lt_iff_toInt_lt, tP] at this; exact this
      refine t18 d ⟨hd.1, by have := hd.2.1; omega, hd.2.2.1, fun hdk => ?_⟩
      by_cases hk : d ≤ 17
      · exact hd.2.2.2 hk
      · have : d = 18 := by have := hd.2.1; omega
        subst this
        simpa using hlt
    · have hge : 1000000000000000000 ≤ v.toInt := by
        have h1 : ¬ v < 1000000000000000000 := fun q => hc190 ((lw_lt _ _).mpr q)
        rw [Int64.lt_iff_toInt_lt, tP] at h1; omega
      refine w_bipush (z := (19 : Int32)) (n := 195) X0.here hx (hb hby d2_193) rfl rfl ?_
      refine w_istoreN (Ls' := #[.val (.long v), .second, .val (.int (19 : Int32))]) (n := 196) X0.here hx (hb hby d2_195) rfl rfl ?_
      exact t18 19 ⟨by omega, by omega, Or.inr (by simpa using hge), fun hdk => absurd hdk (by omega)⟩
  have t16 : ∀ d : Nat, own_ln v 16 d → Endz p.tables e below (Finz s own_r0 (fun r h L => ∃ d, own_ln v 18 d ∧ r = some (.int (Int32.ofNat d)) ∧ h = h0 ∧ L = [])) T0 (mkF m 174 #[.val (.long v), .second, .val (.int (Int32.ofNat d))] []) := by
    intro d hd
    refine w_lloadN (n := 175) X0.here hx (hb hby d2_174) rfl rfl ?_
    refine k_J (n := 178) X0 hx hZ hown (hw _ (List.mem_of_getElem? (i := 9) rfl)) (hb hby d2_175) rfl ?_
    refine w_lcmp (n := 179) X0.here hx (hb hby d2_178) rfl ?_
    have tP : (100000000000000000 : Int64).toInt = 100000000000000000 := by decide
    have hm : ∀ j, 1 ≤ j → j ≤ 17 → (10 : Int) ^ j ≤ 100000000000000000 := fun j h1 h2 => by
      have := Nat.pow_le_pow_right (n := 10) (by omega) h2
      have h3 : ((10 ^ j : Nat) : Int) ≤ ((10 ^ 17 : Nat) : Int) := by exact_mod_cast this
      simpa using h3
    refine w_iflt (n1 := 185) (n2 := 182) X0.here hx (hb hby d2_179) (by decide) (by decide) rfl (fun hc179 => ?_) (fun hc179 => ?_)
    · have hlt : v.toInt < 100000000000000000 := by have := (lw_lt _ _).mp hc179; rw [Int64.lt_iff_toInt_lt, tP] at this; exact this
      refine t17 d ⟨hd.1, by have := hd.2.1; omega, hd.2.2.1, fun hdk => ?_⟩
      by_cases hk : d ≤ 16
      · exact hd.2.2.2 hk
      · have : d = 17 := by have := hd.2.1; omega
        subst this
        simpa using hlt
    · have hge : 100000000000000000 ≤ v.toInt := by
        have h1 : ¬ v < 100000000000000000 := fun q => hc179 ((lw_lt _ _).mpr q)
        rw [Int64.lt_iff_toInt_lt, tP] at h1; omega
      refine w_bipush (z := (18 : Int32)) (n := 184) X0.here hx (hb hby d2_182) rfl rfl ?_
      refine w_istoreN (Ls' := #[.val (.long v), .second, .val (.int (18 : Int32))]) (n := 185) X0.here hx (hb hby d2_184) rfl rfl ?_
      exact t17 18 ⟨by omega, by omega, Or.inr (by simpa using hge), fun hdk => absurd hdk (by omega)⟩
  have t15 : ∀ d : Nat, own_ln v 15 d → Endz p.tables e below (Finz s own_r0 (fun r h L => ∃ d, own_ln v 18 d ∧ r = some (.int (Int32.ofNat d)) ∧ h = h0 ∧ L = [])) T0 (mkF m 163 #[.val (.long v), .second, .val (.int (Int32.ofNat d))] []) := by
    intro d hd
    refine w_lloadN (n := 164) X0.here hx (hb hby d2_163) rfl rfl ?_
    refine k_J (n := 167) X0 hx hZ hown (hw _ (List.mem_of_getElem? (i := 10) rfl)) (hb hby d2_164) rfl ?_
    refine w_lcmp (n := 168) X0.here hx (hb hby d2_167) rfl ?_
    have tP : (10000000000000000 : Int64).toInt = 10000000000000000 := by decide
    have hm : ∀ j, 1 ≤ j → j ≤ 16 → (10 : Int) ^ j ≤ 10000000000000000 := fun j h1 h2 => by
      have := Nat.pow_le_pow_right (n := 10) (by omega) h2
      have h3 : ((10 ^ j : Nat) : Int) ≤ ((10 ^ 16 : Nat) : Int) := by exact_mod_cast this
      simpa using h3
    refine w_iflt (n1 := 174) (n2 := 171) X0.here hx (hb hby d2_168) (by decide) (by decide) rfl (fun hc168 => ?_) (fun hc168 => ?_)
    · have hlt : v.toInt < 10000000000000000 := by have := (lw_lt _ _).mp hc168; rw [Int64.lt_iff_toInt_lt, tP] at this; exact this
      refine t16 d ⟨hd.1, by have := hd.2.1; omega, hd.2.2.1, fun hdk => ?_⟩
      by_cases hk : d ≤ 15
      · exact hd.2.2.2 hk
      · have : d = 16 := by have := hd.2.1; omega
        subst this
        simpa using hlt
    · have hge : 10000000000000000 ≤ v.toInt := by
        have h1 : ¬ v < 10000000000000000 := fun q => hc168 ((lw_lt _ _).mpr q)
        rw [Int64.lt_iff_toInt_lt, tP] at h1; omega
      refine w_bipush (z := (17 : Int32)) (n := 173) X0.here hx (hb hby d2_171) rfl rfl ?_
      refine w_istoreN (Ls' := #[.val (.long v), .second, .val (.int (17 : Int32))]) (n := 174) X0.here hx (hb hby d2_173) rfl rfl ?_
      exact t16 17 ⟨by omega, by omega, Or.inr (by simpa using hge), fun hdk => absurd hdk (by omega)⟩
  have t14 : ∀ d : Nat, own_ln v 14 d → Endz p.tables e below (Finz s own_r0 (fun r h L => ∃ d, own_ln v 18 d ∧ r = some (.int (Int32.ofNat d)) ∧ h = h0 ∧ L = [])) T0 (mkF m 152 #[.val (.long v), .second, .val (.int (Int32.ofNat d))] []) := by
    intro d hd
    refine w_lloadN (n := 153) X0.here hx (hb hby d2_152) rfl rfl ?_
    refine k_J (n := 156) X0 hx hZ hown (hw _ (List.mem_of_getElem? (i := 11) rfl)) (hb hby d2_153) rfl ?_
    refine w_lcmp (n := 157) X0.here hx (hb hby d2_156) rfl ?_
    have tP : (1000000000000000 : Int64).toInt = 1000000000000000 := by decide
    have hm : ∀ j, 1 ≤ j → j ≤ 15 → (10 : Int) ^ j ≤ 1000000000000000 := fun j h1 h2 => by
      have := Nat.pow_le_pow_right (n := 10) (by omega) h2
      have h3 : ((10 ^ j : Nat) : Int) ≤ ((10 ^ 15 : Nat) : Int) := by exact_mod_cast this
      simpa using h3
    refine w_iflt (n1 := 163) (n2 := 160) X0.here hx (hb hby d2_157) (by decide) (by decide) rfl (fun hc157 => ?_) (fun hc157 => ?_)
    · have hlt : v.toInt < 1000000000000000 := by have := (lw_lt _ _).mp hc157; rw [Int64.lt_iff_toInt_lt, tP] at this; exact this
      refine t15 d ⟨hd.1, by have := hd.2.1; omega, hd.2.2.1, fun hdk => ?_⟩
      by_cases hk : d ≤ 14
      · exact hd.2.2.2 hk
      · have : d = 15 := by have := hd.2.1; omega
        subst this
        simpa using hlt
    · have hge : 1000000000000000 ≤ v.toInt := by
        have h1 : ¬ v < 1000000000000000 := fun q => hc157 ((lw_lt _ _).mpr q)
        rw [Int64.lt_iff_toInt_lt, tP] at h1; omega
      refine w_bipush (z := (16 : Int32)) (n := 162) X0.here hx (hb hby d2_160) rfl rfl ?_
      refine w_istoreN (Ls' := #[.val (.long v), .second, .val (.int (16 : Int32))]) (n := 163) X0.here hx (hb hby d2_162) rfl rfl ?_
      exact t15 16 ⟨by omega, by omega, Or.inr (by simpa using hge), fun hdk => absurd hdk (by omega)⟩
  have t13 : ∀ d : Nat, own_ln v 13 d → Endz p.tables e below (Finz s own_r0 (fun r h L => ∃ d, own_ln v 18 d ∧ r = some (.int (Int32.ofNat d)) ∧ h = h0 ∧ L = [])) T0 (mkF m 141 #[.val (.long v), .second, .val (.int (Int32.ofNat d))] []) := by
    intro d hd
    refine w_lloadN (n := 142) X0.here hx (hb hby d2_141) rfl rfl ?_
    refine k_J (n := 145) X0 hx hZ hown (hw _ (List.mem_of_getElem? (i := 12) rfl)) (hb hby d2_142) rfl ?_
    refine w_lcmp (n := 146) X0.here hx (hb hby d2_145) rfl ?_
    have tP : (100000000000000 : Int64).toInt = 100000000000000 := by decide
    have hm : ∀ j, 1 ≤ j → j ≤ 14 → (10 : Int) ^ j ≤ 100000000000000 := fun j h1 h2 => by
      have := Nat.pow_le_pow_right (n := 10) (by omega) h2
      have h3 : ((10 ^ j : Nat) : Int) ≤ ((10 ^ 14 : Nat) : Int) := by exact_mod_cast this
      simpa using h3
    refine w_iflt (n1 := 152) (n2 := 149) X0.here hx (hb hby d2_146) (by decide) (by decide) rfl (fun hc146 => ?_) (fun hc146 => ?_)
    · have hlt : v.toInt < 100000000000000 := by have := (lw_lt _ _).mp hc146; rw [Int64.lt_iff_toInt_lt, tP] at this; exact this
      refine t14 d ⟨hd.1, by have := hd.2.1; omega, hd.2.2.1, fun hdk => ?_⟩
      by_cases hk : d ≤ 13
      · exact hd.2.2.2 hk
      · have : d = 14 := by have := hd.2.1; omega
        subst this
        simpa using hlt
    · have hge : 100000000000000 ≤ v.toInt := by
        have h1 : ¬ v < 100000000000000 := fun q => hc146 ((lw_lt _ _).mpr q)
        rw [Int64.lt_iff_toInt_lt, tP] at h1; omega
      refine w_bipush (z := (15 : Int32)) (n := 151) X0.here hx (hb hby d2_149) rfl rfl ?_
      refine w_istoreN (Ls' := #[.val (.long v), .second, .val (.int (15 : Int32))]) (n := 152) X0.here hx (hb hby d2_151) rfl rfl ?_
      exact t14 15 ⟨by omega, by omega, Or.inr (by simpa using hge), fun hdk => absurd hdk (by omega)⟩
  have t12 : ∀ d : Nat, own_ln v 12 d → Endz p.tables e below (Finz s own_r0 (fun r h L => ∃ d, own_ln v 18 d ∧ r = some (.int (Int32.ofNat d)) ∧ h = h0 ∧ L = [])) T0 (mkF m 130 #[.val (.long v), .second, .val (.int (Int32.ofNat d))] []) := by
    intro d hd
    refine w_lloadN (n := 131) X0.here hx (hb hby d2_130) rfl rfl ?_
    refine k_J (n := 134) X0 hx hZ hown (hw _ (List.mem_of_getElem? (i := 13) rfl)) (hb hby d2_131) rfl ?_
    refine w_lcmp (n := 135) X0.here hx (hb hby d2_134) rfl ?_
    have tP : (10000000000000 : Int64).toInt = 10000000000000 := by decide
    have hm : ∀ j, 1 ≤ j → j ≤ 13 → (10 : Int) ^ j ≤ 10000000000000 := fun j h1 h2 => by
      have := Nat.pow_le_pow_right (n := 10) (by omega) h2
      have h3 : ((10 ^ j : Nat) : Int) ≤ ((10 ^ 13 : Nat) : Int) := by exact_mod_cast this
      simpa using h3
    refine w_iflt (n1 := 141) (n2 := 138) X0.here hx (hb hby d2_135) (by decide) (by decide) rfl (fun hc135 => ?_) (fun hc135 => ?_)
    · have hlt : v.toInt < 10000000000000 := by have := (lw_lt _ _).mp hc135; rw [Int64.lt_iff_toInt_lt, tP] at this; exact this
      refine t13 d ⟨hd.1, by have := hd.2.1; omega, hd.2.2.1, fun hdk => ?_⟩
      by_cases hk : d ≤ 12
      · exact hd.2.2.2 hk
      · have : d = 13 := by have := hd.2.1; omega
        subst this
        simpa using hlt
    · have hge : 10000000000000 ≤ v.toInt := by
        have h1 : ¬ v < 10000000000000 := fun q => hc135 ((lw_lt _ _).mpr q)
        rw [Int64.lt_iff_toInt_lt, tP] at h1; omega
      refine w_bipush (z := (14 : Int32)) (n := 140) X0.here hx (hb hby d2_138) rfl rfl ?_
      refine w_istoreN (Ls' := #[.val (.long v), .second, .val (.int (14 : Int32))]) (n := 141) X0.here hx (hb hby d2_140) rfl rfl ?_
      exact t13 14 ⟨by omega, by omega, Or.inr (by simpa using hge), fun hdk => absurd hdk (by omega)⟩
  have t11 : ∀ d : Nat, own_ln v 11 d → Endz p.tables e below (Finz s own_r0 (fun r h L => ∃ d, own_ln v 18 d ∧ r = some (.int (Int32.ofNat d)) ∧ h = h0 ∧ L = [])) T0 (mkF m 119 #[.val (.long v), .second, .val (.int (Int32.ofNat d))] []) := by
    intro d hd
    refine w_lloadN (n := 120) X0.here hx (hb hby d2_119) rfl rfl ?_
    refine k_J (n := 123) X0 hx hZ hown (hw _ (List.mem_of_getElem? (i := 14) rfl)) (hb hby d2_120) rfl ?_
    refine w_lcmp (n := 124) X0.here hx (hb hby d2_123) rfl ?_
    have tP : (1000000000000 : Int64).toInt = 1000000000000 := by decide
    have hm : ∀ j, 1 ≤ j → j ≤ 12 → (10 : Int) ^ j ≤ 1000000000000 := fun j h1 h2 => by
      have := Nat.pow_le_pow_right (n := 10) (by omega) h2
      have h3 : ((10 ^ j : Nat) : Int) ≤ ((10 ^ 12 : Nat) : Int) := by exact_mod_cast this
      simpa using h3
    refine w_iflt (n1 := 130) (n2 := 127) X0.here hx (hb hby d2_124) (by decide) (by decide) rfl (fun hc124 => ?_) (fun hc124 => ?_)
    · have hlt : v.toInt < 1000000000000 := by have := (lw_lt _ _).mp hc124; rw [Int64.lt_iff_toInt_lt, tP] at this; exact this
      refine t12 d ⟨hd.1, by have := hd.2.1; omega, hd.2.2.1, fun hdk => ?_⟩
      by_cases hk : d ≤ 11
      · exact hd.2.2.2 hk
      · have : d = 12 := by have := hd.2.1; omega
        subst this
        simpa using hlt
    · have hge : 1000000000000 ≤ v.toInt := by
        have h1 : ¬ v < 1000000000000 := fun q => hc124 ((lw_lt _ _).mpr q)
        rw [Int64.lt_iff_toInt_lt, tP] at h1; omega
      refine w_bipush (z := (13 : Int32)) (n := 129) X0.here hx (hb hby d2_127) rfl rfl ?_
      refine w_istoreN (Ls' := #[.val (.long v), .second, .val (.int (13 : Int32))]) (n := 130) X0.here hx (hb hby d2_129) rfl rfl ?_
      exact t12 13 ⟨by omega, by omega, Or.inr (by simpa using hge), fun hdk => absurd hdk (by omega)⟩
  have t10 : ∀ d : Nat, own_ln v 10 d → Endz p.tables e below (Finz s own_r0 (fun r h L => ∃ d, own_ln v 18 d ∧ r = some (.int (Int32.ofNat d)) ∧ h = h0 ∧ L = [])) T0 (mkF m 108 #[.val (.long v), .second, .val (.int (Int32.ofNat d))] []) := by
    intro d hd
    refine w_lloadN (n := 109) X0.here hx (hb hby d2_108) rfl rfl ?_
    refine k_J (n := 112) X0 hx hZ hown (hw _ (List.mem_of_getElem? (i := 15) rfl)) (hb hby d2_109) rfl ?_
    refine w_lcmp (n := 113) X0.here hx (hb hby d2_112) rfl ?_
    have tP : (100000000000 : Int64).toInt = 100000000000 := by decide
    have hm : ∀ j, 1 ≤ j → j ≤ 11 → (10 : Int) ^ j ≤ 100000000000 := fun j h1 h2 => by
      have := Nat.pow_le_pow_right (n := 10) (by omega) h2
      have h3 : ((10 ^ j : Nat) : Int) ≤ ((10 ^ 11 : Nat) : Int) := by exact_mod_cast this
      simpa using h3
    refine w_iflt (n1 := 119) (n2 := 116) X0.here hx (hb hby d2_113) (by decide) (by decide) rfl (fun hc113 => ?_) (fun hc113 => ?_)
    · have hlt : v.toInt < 100000000000 := by have := (lw_lt _ _).mp hc113; rw [Int64.lt_iff_toInt_lt, tP] at this; exact this
      refine t11 d ⟨hd.1, by have := hd.2.1; omega, hd.2.2.1, fun hdk => ?_⟩
      by_cases hk : d ≤ 10
      · exact hd.2.2.2 hk
      · have : d = 11 := by have := hd.2.1; omega
        subst this
        simpa using hlt
    · have hge : 100000000000 ≤ v.toInt := by
        have h1 : ¬ v < 100000000000 := fun q => hc113 ((lw_lt _ _).mpr q)
        rw [Int64.lt_iff_toInt_lt, tP] at h1; omega
      refine w_bipush (z := (12 : Int32)) (n := 118) X0.here hx (hb hby d2_116) rfl rfl ?_
      refine w_istoreN (Ls' := #[.val (.long v), .second, .val (.int (12 : Int32))]) (n := 119) X0.here hx (hb hby d2_118) rfl rfl ?_
      exact t11 12 ⟨by omega, by omega, Or.inr (by simpa using hge), fun hdk => absurd hdk (by omega)⟩
  have t9 : ∀ d : Nat, own_ln v 9 d → Endz p.tables e below (Finz s own_r0 (fun r h L => ∃ d, own_ln v 18 d ∧ r = some (.int (Int32.ofNat d)) ∧ h = h0 ∧ L = [])) T0 (mkF m 97 #[.val (.long v), .second, .val (.int (Int32.ofNat d))] []) := by
    intro d hd
    refine w_lloadN (n := 98) X0.here hx (hb hby d2_97) rfl rfl ?_
    refine k_J (n := 101) X0 hx hZ hown (hw _ (List.mem_of_getElem? (i := 16) rfl)) (hb hby d2_98) rfl ?_
    refine w_lcmp (n := 102) X0.here hx (hb hby d2_101) rfl ?_
    have tP : (10000000000 : Int64).toInt = 10000000000 := by decide
    have hm : ∀ j, 1 ≤ j → j ≤ 10 → (10 : Int) ^ j ≤ 10000000000 := fun j h1 h2 => by
      have := Nat.pow_le_pow_right (n := 10) (by omega) h2
      have h3 : ((10 ^ j : Nat) : Int) ≤ ((10 ^ 10 : Nat) : Int) := by exact_mod_cast this
      simpa using h3
    refine w_iflt (n1 := 108) (n2 := 105) X0.here hx (hb hby d2_102) (by decide) (by decide) rfl (fun hc102 => ?_) (fun hc102 => ?_)
    · have hlt : v.toInt < 10000000000 := by have := (lw_lt _ _).mp hc102; rw [Int64.lt_iff_toInt_lt, tP] at this; exact this
      refine t10 d ⟨hd.1, by have := hd.2.1; omega, hd.2.2.1, fun hdk => ?_⟩
      by_cases hk : d ≤ 9
      · exact hd.2.2.2 hk
      · have : d = 10 := by have := hd.2.1; omega
        subst this
        simpa using hlt
    · have hge : 10000000000 ≤ v.toInt := by
        have h1 : ¬ v < 10000000000 := fun q => hc102 ((lw_lt _ _).mpr q)
        rw [Int64.lt_iff_toInt_lt, tP] at h1; omega
      refine w_bipush (z := (11 : Int32)) (n := 107) X0.here hx (hb hby d2_105) rfl rfl ?_
      refine w_istoreN (Ls' := #[.val (.long v), .second, .val (.int (11 : Int32))]) (n := 108) X0.here hx (hb hby d2_107) rfl rfl ?_
      exact t10 11 ⟨by omega, by omega, Or.inr (by simpa using hge), fun hdk => absurd hdk (by omega)⟩
  have t8 : ∀ d : Nat, own_ln v 8 d → Endz p.tables e below (Finz s own_r0 (fun r h L => ∃ d, own_ln v 18 d ∧ r = some (.int (Int32.ofNat d)) ∧ h = h0 ∧ L = [])) T0 (mkF m 86 #[.val (.long v), .second, .val (.int (Int32.ofNat d))] []) := by
    intro d hd
    refine w_lloadN (n := 87) X0.here hx (hb hby d2_86) rfl rfl ?_
    refine k_J (n := 90) X0 hx hZ hown (hw _ (List.mem_of_getElem? (i := 17) rfl)) (hb hby d2_87) rfl ?_
    refine w_lcmp (n := 91) X0.here hx (hb hby d2_90) rfl ?_
    have tP : (1000000000 : Int64).toInt = 1000000000 := by decide
    have hm : ∀ j, 1 ≤ j → j ≤ 9 → (10 : Int) ^ j ≤ 1000000000 := fun j h1 h2 => by
      have := Nat.pow_le_pow_right (n := 10) (by omega) h2
      have h3 : ((10 ^ j : Nat) : Int) ≤ ((10 ^ 9 : Nat) : Int) := by exact_mod_cast this
      simpa using h3
    refine w_iflt (n1 := 97) (n2 := 94) X0.here hx (hb hby d2_91) (by decide) (by decide) rfl (fun hc91 => ?_) (fun hc91 => ?_)
    · have hlt : v.toInt < 1000000000 := by have := (lw_lt _ _).mp hc91; rw [Int64.lt_iff_toInt_lt, tP] at this; exact this
      refine t9 d ⟨hd.1, by have := hd.2.1; omega, hd.2.2.1, fun hdk => ?_⟩
      by_cases hk : d ≤ 8
      · exact hd.2.2.2 hk
      · have : d = 9 := by have := hd.2.1; omega
        subst this
        simpa using hlt
    · have hge : 1000000000 ≤ v.toInt := by
        have h1 : ¬ v < 1000000000 := fun q => hc91 ((lw_lt _ _).mpr q)
        rw [Int64.lt_iff_toInt_lt, tP] at h1; omega
      refine w_bipush (z := (10 : Int32)) (n := 96) X0.here hx (hb hby d2_94) rfl rfl ?_
      refine w_istoreN (Ls' := #[.val (.long v), .second, .val (.int (10 : Int32))]) (n := 97) X0.here hx (hb hby d2_96) rfl rfl ?_
      exact t9 10 ⟨by omega, by omega, Or.inr (by simpa using hge), fun hdk => absurd hdk (by omega)⟩
  have t7 : ∀ d : Nat, own_ln v 7 d → Endz p.tables e below (Finz s own_r0 (fun r h L => ∃ d, own_ln v 18 d ∧ r = some (.int (Int32.ofNat d)) ∧ h = h0 ∧ L = [])) T0 (mkF m 75 #[.val (.long v), .second, .val (.int (Int32.ofNat d))] []) := by
    intro d hd
    refine w_lloadN (n := 76) X0.here hx (hb hby d2_75) rfl rfl ?_
    refine k_J (n := 79) X0 hx hZ hown (hw _ (List.mem_of_getElem? (i := 18) rfl)) (hb hby d2_76) rfl ?_
    refine w_lcmp (n := 80) X0.here hx (hb hby d2_79) rfl ?_
    have tP : (100000000 : Int64).toInt = 100000000 := by decide
    have hm : ∀ j, 1 ≤ j → j ≤ 8 → (10 : Int) ^ j ≤ 100000000 := fun j h1 h2 => by
      have := Nat.pow_le_pow_right (n := 10) (by omega) h2
      have h3 : ((10 ^ j : Nat) : Int) ≤ ((10 ^ 8 : Nat) : Int) := by exact_mod_cast this
      simpa using h3
    refine w_iflt (n1 := 86) (n2 := 83) X0.here hx (hb hby d2_80) (by decide) (by decide) rfl (fun hc80 => ?_) (fun hc80 => ?_)
    · have hlt : v.toInt < 100000000 := by have := (lw_lt _ _).mp hc80; rw [Int64.lt_iff_toInt_lt, tP] at this; exact this
      refine t8 d ⟨hd.1, by have := hd.2.1; omega, hd.2.2.1, fun hdk => ?_⟩
      by_cases hk : d ≤ 7
      · exact hd.2.2.2 hk
      · have : d = 8 := by have := hd.2.1; omega
        subst this
        simpa using hlt
    · have hge : 100000000 ≤ v.toInt := by
        have h1 : ¬ v < 100000000 := fun q => hc80 ((lw_lt _ _).mpr q)
        rw [Int64.lt_iff_toInt_lt, tP] at h1; omega
      refine w_bipush (z := (9 : Int32)) (n := 85) X0.here hx (hb hby d2_83) rfl rfl ?_
      refine w_istoreN (Ls' := #[.val (.long v), .second, .val (.int (9 : Int32))]) (n := 86) X0.here hx (hb hby d2_85) rfl rfl ?_
      exact t8 9 ⟨by omega, by omega, Or.inr (by simpa using hge), fun hdk => absurd hdk (by omega)⟩
  have t6 : ∀ d : Nat, own_ln v 6 d → Endz p.tables e below (Finz s own_r0 (fun r h L => ∃ d, own_ln v 18 d ∧ r = some (.int (Int32.ofNat d)) ∧ h = h0 ∧ L = [])) T0 (mkF m 64 #[.val (.long v), .second, .val (.int (Int32.ofNat d))] []) := by
    intro d hd
    refine w_lloadN (n := 65) X0.here hx (hb hby d2_64) rfl rfl ?_
    refine k_J (n := 68) X0 hx hZ hown (hw _ (List.mem_of_getElem? (i := 19) rfl)) (hb hby d2_65) rfl ?_
    refine w_lcmp (n := 69) X0.here hx (hb hby d2_68) rfl ?_
    have tP : (10000000 : Int64).toInt = 10000000 := by decide
    have hm : ∀ j, 1 ≤ j → j ≤ 7 → (10 : Int) ^ j ≤ 10000000 := fun j h1 h2 => by
      have := Nat.pow_le_pow_right (n := 10) (by omega) h2
      have h3 : ((10 ^ j : Nat) : Int) ≤ ((10 ^ 7 : Nat) : Int) := by exact_mod_cast this
      simpa using h3
    refine w_iflt (n1 := 75) (n2 := 72) X0.here hx (hb hby d2_69) (by decide) (by decide) rfl (fun hc69 => ?_) (fun hc69 => ?_)
    · have hlt : v.toInt < 10000000 := by have := (lw_lt _ _).mp hc69; rw [Int64.lt_iff_toInt_lt, tP] at this; exact this
      refine t7 d ⟨hd.1, by have := hd.2.1; omega, hd.2.2.1, fun hdk => ?_⟩
      by_cases hk : d ≤ 6
      · exact hd.2.2.2 hk
      · have : d = 7 := by have := hd.2.1; omega
        subst this
        simpa using hlt
    · have hge : 10000000 ≤ v.toInt := by
        have h1 : ¬ v < 10000000 := fun q => hc69 ((lw_lt _ _).mpr q)
        rw [Int64.lt_iff_toInt_lt, tP] at h1; omega
      refine w_bipush (z := (8 : Int32)) (n := 74) X0.here hx (hb hby d2_72) rfl rfl ?_
      refine w_istoreN (Ls' := #[.val (.long v), .second, .val (.int (8 : Int32))]) (n := 75) X0.here hx (hb hby d2_74) rfl rfl ?_
      exact t7 8 ⟨by omega, by omega, Or.inr (by simpa using hge), fun hdk => absurd hdk (by omega)⟩
  have t5 : ∀ d : Nat, own_ln v 5 d → Endz p.tables e below (Finz s own_r0 (fun r h L => ∃ d, own_ln v 18 d ∧ r = some (.int (Int32.ofNat d)) ∧ h = h0 ∧ L = [])) T0 (mkF m 53 #[.val (.long v), .second, .val (.int (Int32.ofNat d))] []) := by
    intro d hd
    refine w_lloadN (n := 54) X0.here hx (hb hby d2_53) rfl rfl ?_
    refine k_J (n := 57) X0 hx hZ hown (hw _ (List.mem_of_getElem? (i := 20) rfl)) (hb hby d2_54) rfl ?_
    refine w_lcmp (n := 58) X0.here hx (hb hby d2_57) rfl ?_
    have tP : (1000000 : Int64).toInt = 1000000 := by decide
    have hm : ∀ j, 1 ≤ j → j ≤ 6 → (10 : Int) ^ j ≤ 1000000 := fun j h1 h2 => by
      have := Nat.pow_le_pow_right (n := 10) (by omega) h2
      have h3 : ((10 ^ j : Nat) : Int) ≤ ((10 ^ 6 : Nat) : Int) := by exact_mod_cast this
      simpa using h3
    refine w_iflt (n1 := 64) (n2 := 61) X0.here hx (hb hby d2_58) (by decide) (by decide) rfl (fun hc58 => ?_) (fun hc58 => ?_)
    · have hlt : v.toInt < 1000000 := by have := (lw_lt _ _).mp hc58; rw [Int64.lt_iff_toInt_lt, tP] at this; exact this
      refine t6 d ⟨hd.1, by have := hd.2.1; omega, hd.2.2.1, fun hdk => ?_⟩
      by_cases hk : d ≤ 5
      · exact hd.2.2.2 hk
      · have : d = 6 := by have := hd.2.1; omega
        subst this
        simpa using hlt
    · have hge : 1000000 ≤ v.toInt := by
        have h1 : ¬ v < 1000000 := fun q => hc58 ((lw_lt _ _).mpr q)
        rw [Int64.lt_iff_toInt_lt, tP] at h1; omega
      refine w_bipush (z := (7 : Int32)) (n := 63) X0.here hx (hb hby d2_61) rfl rfl ?_
      refine w_istoreN (Ls' := #[.val (.long v), .second, .val (.int (7 : Int32))]) (n := 64) X0.here hx (hb hby d2_63) rfl rfl ?_
      exact t6 7 ⟨by omega, by omega, Or.inr (by simpa using hge), fun hdk => absurd hdk (by omega)⟩
  have t4 : ∀ d : Nat, own_ln v 4 d → Endz p.tables e below (Finz s own_r0 (fun r h L => ∃ d, own_ln v 18 d ∧ r = some (.int (Int32.ofNat d)) ∧ h = h0 ∧ L = [])) T0 (mkF m 42 #[.val (.long v), .second, .val (.int (Int32.ofNat d))] []) := by
    intro d hd
    refine w_lloadN (n := 43) X0.here hx (hb hby d2_42) rfl rfl ?_
    refine k_J (n := 46) X0 hx hZ hown (hw _ (List.mem_of_getElem? (i := 21) rfl)) (hb hby d2_43) rfl ?_
    refine w_lcmp (n := 47) X0.here hx (hb hby d2_46) rfl ?_
    have tP : (100000 : Int64).toInt = 100000 := by decide
    have hm : ∀ j, 1 ≤ j → j ≤ 5 → (10 : Int) ^ j ≤ 100000 := fun j h1 h2 => by
      have := Nat.pow_le_pow_right (n := 10) (by omega) h2
      have h3 : ((10 ^ j : Nat) : Int) ≤ ((10 ^ 5 : Nat) : Int) := by exact_mod_cast this
      simpa using h3
    refine w_iflt (n1 := 53) (n2 := 50) X0.here hx (hb hby d2_47) (by decide) (by decide) rfl (fun hc47 => ?_) (fun hc47 => ?_)
    · have hlt : v.toInt < 100000 := by have := (lw_lt _ _).mp hc47; rw [Int64.lt_iff_toInt_lt, tP] at this; exact this
      refine t5 d ⟨hd.1, by have := hd.2.1; omega, hd.2.2.1, fun hdk => ?_⟩
      by_cases hk : d ≤ 4
      · exact hd.2.2.2 hk
      · have : d = 5 := by have := hd.2.1; omega
        subst this
        simpa using hlt
    · have hge : 100000 ≤ v.toInt := by
        have h1 : ¬ v < 100000 := fun q => hc47 ((lw_lt _ _).mpr q)
        rw [Int64.lt_iff_toInt_lt, tP] at h1; omega
      refine w_bipush (z := (6 : Int32)) (n := 52) X0.here hx (hb hby d2_50) rfl rfl ?_
      refine w_istoreN (Ls' := #[.val (.long v), .second, .val (.int (6 : Int32))]) (n := 53) X0.here hx (hb hby d2_52) rfl rfl ?_
      exact t5 6 ⟨by omega, by omega, Or.inr (by simpa using hge), fun hdk => absurd hdk (by omega)⟩
  have t3 : ∀ d : Nat, own_ln v 3 d → Endz p.tables e below (Finz s own_r0 (fun r h L => ∃ d, own_ln v 18 d ∧ r = some (.int (Int32.ofNat d)) ∧ h = h0 ∧ L = [])) T0 (mkF m 32 #[.val (.long v), .second, .val (.int (Int32.ofNat d))] []) := by
    intro d hd
    refine w_lloadN (n := 33) X0.here hx (hb hby d2_32) rfl rfl ?_
    refine k_J (n := 36) X0 hx hZ hown (hw _ (List.mem_of_getElem? (i := 22) rfl)) (hb hby d2_33) rfl ?_
    refine w_lcmp (n := 37) X0.here hx (hb hby d2_36) rfl ?_
    have tP : (10000 : Int64).toInt = 10000 := by decide
    have hm : ∀ j, 1 ≤ j → j ≤ 4 → (10 : Int) ^ j ≤ 10000 := fun j h1 h2 => by
      have := Nat.pow_le_pow_right (n := 10) (by omega) h2
      have h3 : ((10 ^ j : Nat) : Int) ≤ ((10 ^ 4 : Nat) : Int) := by exact_mod_cast this
      simpa using h3
    refine w_iflt (n1 := 42) (n2 := 40) X0.here hx (hb hby d2_37) (by decide) (by decide) rfl (fun hc37 => ?_) (fun hc37 => ?_)
    · have hlt : v.toInt < 10000 := by have := (lw_lt _ _).mp hc37; rw [Int64.lt_iff_toInt_lt, tP] at this; exact this
      refine t4 d ⟨hd.1, by have := hd.2.1; omega, hd.2.2.1, fun hdk => ?_⟩
      by_cases hk : d ≤ 3
      · exact hd.2.2.2 hk
      · have : d = 4 := by have := hd.2.1; omega
        subst this
        simpa using hlt
    · have hge : 10000 ≤ v.toInt := by
        have h1 : ¬ v < 10000 := fun q => hc37 ((lw_lt _ _).mpr q)
        rw [Int64.lt_iff_toInt_lt, tP] at h1; omega
      refine w_iconst (z := (5 : Int32)) (n := 41) X0.here hx (hb hby d2_40) rfl rfl ?_
      refine w_istoreN (Ls' := #[.val (.long v), .second, .val (.int (5 : Int32))]) (n := 42) X0.here hx (hb hby d2_41) rfl rfl ?_
      exact t4 5 ⟨by omega, by omega, Or.inr (by simpa using hge), fun hdk => absurd hdk (by omega)⟩
  have t2 : ∀ d : Nat, own_ln v 2 d → Endz p.tables e below (Finz s own_r0 (fun r h L => ∃ d, own_ln v 18 d ∧ r = some (.int (Int32.ofNat d)) ∧ h = h0 ∧ L = [])) T0 (mkF m 22 #[.val (.long v), .second, .val (.int (Int32.ofNat d))] []) := by
    intro d hd
    refine w_lloadN (n := 23) X0.here hx (hb hby d2_22) rfl rfl ?_
    refine k_J (n := 26) X0 hx hZ hown (hw _ (List.mem_of_getElem? (i := 23) rfl)) (hb hby d2_23) rfl ?_
    refine w_lcmp (n := 27) X0.here hx (hb hby d2_26) rfl ?_
    have tP : (1000 : Int64).toInt = 1000 := by decide
    have hm : ∀ j, 1 ≤ j → j ≤ 3 → (10 : Int) ^ j ≤ 1000 := fun j h1 h2 => by
      have := Nat.pow_le_pow_right (n := 10) (by omega) h2
      have h3 : ((10 ^ j : Nat) : Int) ≤ ((10 ^ 3 : Nat) : Int) := by exact_mod_cast this
      simpa using h3
    refine w_iflt (n1 := 32) (n2 := 30) X0.here hx (hb hby d2_27) (by decide) (by decide) rfl (fun hc27 => ?_) (fun hc27 => ?_)
    · have hlt : v.toInt < 1000 := by have := (lw_lt _ _).mp hc27; rw [Int64.lt_iff_toInt_lt, tP] at this; exact this
      refine t3 d ⟨hd.1, by have := hd.2.1; omega, hd.2.2.1, fun hdk => ?_⟩
      by_cases hk : d ≤ 2
      · exact hd.2.2.2 hk
      · have : d = 3 := by have := hd.2.1; omega
        subst this
        simpa using hlt
    · have hge : 1000 ≤ v.toInt := by
        have h1 : ¬ v < 1000 := fun q => hc27 ((lw_lt _ _).mpr q)
        rw [Int64.lt_iff_toInt_lt, tP] at h1; omega
      refine w_iconst (z := (4 : Int32)) (n := 31) X0.here hx (hb hby d2_30) rfl rfl ?_
      refine w_istoreN (Ls' := #[.val (.long v), .second, .val (.int (4 : Int32))]) (n := 32) X0.here hx (hb hby d2_31) rfl rfl ?_
      exact t3 4 ⟨by omega, by omega, Or.inr (by simpa using hge), fun hdk => absurd hdk (by omega)⟩
  have t1 : ∀ d : Nat, own_ln v 1 d → Endz p.tables e below (Finz s own_r0 (fun r h L => ∃ d, own_ln v 18 d ∧ r = some (.int (Int32.ofNat d)) ∧ h = h0 ∧ L = [])) T0 (mkF m 12 #[.val (.long v), .second, .val (.int (Int32.ofNat d))] []) := by
    intro d hd
    refine w_lloadN (n := 13) X0.here hx (hb hby d2_12) rfl rfl ?_
    refine k_J (n := 16) X0 hx hZ hown (hw _ (List.mem_of_getElem? (i := 24) rfl)) (hb hby d2_13) rfl ?_
    refine w_lcmp (n := 17) X0.here hx (hb hby d2_16) rfl ?_
    have tP : (100 : Int64).toInt = 100 := by decide
    have hm : ∀ j, 1 ≤ j → j ≤ 2 → (10 : Int) ^ j ≤ 100 := fun j h1 h2 => by
      have := Nat.pow_le_pow_right (n := 10) (by omega) h2
      have h3 : ((10 ^ j : Nat) : Int) ≤ ((10 ^ 2 : Nat) : Int) := by exact_mod_cast this
      simpa using h3
    refine w_iflt (n1 := 22) (n2 := 20) X0.here hx (hb hby d2_17) (by decide) (by decide) rfl (fun hc17 => ?_) (fun hc17 => ?_)
    · have hlt : v.toInt < 100 := by have := (lw_lt _ _).mp hc17; rw [Int64.lt_iff_toInt_lt, tP] at this; exact this
      refine t2 d ⟨hd.1, by have := hd.2.1; omega, hd.2.2.1, fun hdk => ?_⟩
      by_cases hk : d ≤ 1
      · exact hd.2.2.2 hk
      · have : d = 2 := by have := hd.2.1; omega
        subst this
        simpa using hlt
    · have hge : 100 ≤ v.toInt := by
        have h1 : ¬ v < 100 := fun q => hc17 ((lw_lt _ _).mpr q)
        rw [Int64.lt_iff_toInt_lt, tP] at h1; omega
      refine w_iconst (z := (3 : Int32)) (n := 21) X0.here hx (hb hby d2_20) rfl rfl ?_
      refine w_istoreN (Ls' := #[.val (.long v), .second, .val (.int (3 : Int32))]) (n := 22) X0.here hx (hb hby d2_21) rfl rfl ?_
      exact t2 3 ⟨by omega, by omega, Or.inr (by simpa using hge), fun hdk => absurd hdk (by omega)⟩
  have t0 : ∀ d : Nat, own_ln v 0 d → Endz p.tables e below (Finz s own_r0 (fun r h L => ∃ d, own_ln v 18 d ∧ r = some (.int (Int32.ofNat d)) ∧ h = h0 ∧ L = [])) T0 (mkF m 2 #[.val (.long v), .second, .val (.int (Int32.ofNat d))] []) := by
    intro d hd
    refine w_lloadN (n := 3) X0.here hx (hb hby d2_2) rfl rfl ?_
    refine k_J (n := 6) X0 hx hZ hown (hw _ (List.mem_of_getElem? (i := 8) rfl)) (hb hby d2_3) rfl ?_
    refine w_lcmp (n := 7) X0.here hx (hb hby d2_6) rfl ?_
    have tP : (10 : Int64).toInt = 10 := by decide
    have hm : ∀ j, 1 ≤ j → j ≤ 1 → (10 : Int) ^ j ≤ 10 := fun j h1 h2 => by
      have := Nat.pow_le_pow_right (n := 10) (by omega) h2
      have h3 : ((10 ^ j : Nat) : Int) ≤ ((10 ^ 1 : Nat) : Int) := by exact_mod_cast this
      simpa using h3
    refine w_iflt (n1 := 12) (n2 := 10) X0.here hx (hb hby d2_7) (by decide) (by decide) rfl (fun hc7 => ?_) (fun hc7 => ?_)
    · have hlt : v.toInt < 10 := by have := (lw_lt _ _).mp hc7; rw [Int64.lt_iff_toInt_lt, tP] at this; exact this
      refine t1 d ⟨hd.1, by have := hd.2.1; omega, hd.2.2.1, fun hdk => ?_⟩
      by_cases hk : d ≤ 0
      · exact hd.2.2.2 hk
      · have : d = 1 := by have := hd.2.1; omega
        subst this
        simpa using hlt
    · have hge : 10 ≤ v.toInt := by
        have h1 : ¬ v < 10 := fun q => hc7 ((lw_lt _ _).mpr q)
        rw [Int64.lt_iff_toInt_lt, tP] at h1; omega
      refine w_iconst (z := (2 : Int32)) (n := 11) X0.here hx (hb hby d2_10) rfl rfl ?_
      refine w_istoreN (Ls' := #[.val (.long v), .second, .val (.int (2 : Int32))]) (n := 12) X0.here hx (hb hby d2_11) rfl rfl ?_
      exact t1 2 ⟨by omega, by omega, Or.inr (by simpa using hge), fun hdk => absurd hdk (by omega)⟩
  refine w_iconst (z := (1 : Int32)) (n := 1) X0.here hx (hb hby d2_0) rfl rfl ?_
  refine w_istoreN (Ls' := #[.val (.long v), .second, .val (.int (1 : Int32))]) (n := 2) X0.here hx (hb hby d2_1) rfl rfl ?_
  exact t0 1 ⟨by omega, by omega, Or.inl rfl, fun q => absurd q (by omega)⟩
set_option maxRecDepth 65536 in
set_option maxHeartbeats 40000000 in
theorem rmi (l : Launch) (Z : State) (a0 : Array Value) (hw : ∀ d ∈ tables_1, d.before a0 Z = true) (ws : List Jvm.Cond) (b : Addr) (h0 : Heap) :
    Con l Z (⟨"com/example/portion/portion/quota/BoundedNumber", "<init>", "()V"⟩ : MethodName) prog_59_method_1_code 1 none ws own_ri #[.ref b] h0 (fun v h L => v = none ∧ h = h0 ∧ L = []) := by
  refine con_of (plainFor_of_name pn_1) ?_
  intro p e s m below meth c T0 X0 hx hZ hby hml hown hret hnm hlk e0
  refine Endz.eq (ef_i m b) ?_
  refine w_aloadN (n := 1) X0.here hx (hb hby d3_0) rfl rfl rfl ?_
  refine c_O (n := 4) X0 hx hZ hown (hw _ (List.mem_of_getElem? (i := 34) rfl)) (hw _ (List.mem_of_getElem? (i := 35) rfl)) (hw _ (List.mem_of_getElem? (i := 36) rfl)) e0 (by rw [hml]; rfl) (hb hby d3_1) rfl 0 (by decide) (by decide) (by decide) (fun T1 X1 e1 => ?_)
  exact fin_V X1 hx hlk e1 hret (hb hby d3_4) (by decide) (by decide) ⟨rfl, rfl, rfl⟩
/-- above the greatest count of seconds -/
def own_abv (wh na : Int64) (fi be : Int32) : Prop := ¬ be = 0 ∨ (9223372036 : Int64) < wh ∨ (wh = 9223372036 ∧ ((0 : Int64) < na ∨ ¬ fi = 0))
/-- what nanosAtMostMax() answers -/
def own_nan (wh na : Int64) (fi : Int32) : Int64 := wh * 1000000000 + na + (if fi = 0 then (0 : Int32) else 1).toInt64
set_option maxRecDepth 65536 in
set_option maxHeartbeats 40000000 in
theorem rmn (l : Launch) (Z : State) (a0 : Array Value) (hw : ∀ d ∈ tables_1, d.before a0 Z = true) (ws : List Jvm.Cond) (a : Addr) (ng : Int32) (wh na : Int64) (fi be : Int32) (h0 : Heap) (N : own_Num Z h0 a ng wh na fi be) :
    Con l Z (⟨"com/example/portion/portion/quota/BoundedNumber", "nanosAtMostMax", "()J"⟩ : MethodName) prog_59_method_5_code 2 (some .long) ws own_r0 #[.ref a] h0 (fun r h L => ((own_abv wh na fi be ∧ r = some (.long 9223372036000000000)) ∨ (¬ own_abv wh na fi be ∧ r = some (.long (own_nan wh na fi)))) ∧ h = h0 ∧ L = []) := by
  refine con_of (plainFor_of_name pn_1) ?_
  intro p e s m below meth c T0 X0 hx hZ hby hml hown hret hnm hlk e0
  refine Endz.eq (ef_n m a) ?_
  have up : own_abv wh na fi be → ∀ (T : State) (X : Stand p l e own_r0 s m #[.ref a] below meth c T [] 0 0) (eT : T.heap = h0), Endz p.tables e below (Finz s own_r0 (fun r h L => ((own_abv wh na fi be ∧ r = some (.long 9223372036000000000)) ∨ (¬ own_abv wh na fi be ∧ r = some (.long (own_nan wh na fi)))) ∧ h = h0 ∧ L = [])) T (mkF m 50 #[.val (.ref a), .unset] [.int 1]) := by
    intro hab T X eT
    refine w_istoreN (Ls' := #[.val (.ref a), .val (.int (1 : Int32))]) (n := 51) X.here hx (hb hby d6_50) rfl rfl ?_
    refine w_iloadN (n := 52) X.here hx (hb hby d6_51) rfl rfl ?_
    refine w_ifeq (n1 := 61) (n2 := 55) X.here hx (hb hby d6_52) (by decide) (by decide) rfl (fun hc52 => absurd hc52 (by decide)) (fun hc52 => ?_)
    refine k_J (n := 58) X hx hZ hown (hw _ (List.mem_of_getElem? (i := 69) rfl)) (hb hby d6_55) rfl ?_
    refine w_goto (n := 88) X.here hx (hb hby d6_58) (by decide) (by decide) ?_
    exact fin_J X hx hlk eT hret (hb hby d6_88) (by decide) (by decide) ⟨Or.inl ⟨hab, rfl⟩, rfl, rfl⟩
  have dn : ¬ own_abv wh na fi be → ∀ (T : State) (X : Stand p l e own_r0 s m #[.ref a] below meth c T [] 0 0) (eT : T.heap = h0), Endz p.tables e below (Finz s own_r0 (fun r h L => ((own_abv wh na fi be ∧ r = some (.long 9223372036000000000)) ∨ (¬ own_abv wh na fi be ∧ r = some (.long (own_nan wh na fi)))) ∧ h = h0 ∧ L = [])) T (mkF m 50 #[.val (.ref a), .unset] [.int 0]) := by
    intro hab T X eT
    refine w_istoreN (Ls' := #[.val (.ref a), .val (.int (0 : Int32))]) (n := 51) X.here hx (hb hby d6_50) rfl rfl ?_
    refine w_iloadN (n := 52) X.here hx (hb hby d6_51) rfl rfl ?_
    refine w_ifeq (n1 := 61) (n2 := 55) X.here hx (hb hby d6_52) (by decide) (by decide) rfl (fun hc52 => ?_) (fun hc52 => absurd rfl hc52)
    refine w_aloadN (n := 62) X.here hx (hb hby d6_61) rfl rfl rfl ?_
    refine g_F (n := 65) X hx hZ hown (hw _ (List.mem_of_getElem? (i := 44) rfl)) eT N.2.2.1 (hb hby d6_62) rfl (fun T1 X1 e1 => ?_)
    refine k_J (n := 68) X1 hx hZ hown (hw _ (List.mem_of_getElem? (i := 63) rfl)) (hb hby d6_65) rfl ?_
    refine w_lmul (n := 69) X1.here hx (hb hby d6_68) rfl ?_
    refine w_aloadN (n := 70) X1.here hx (hb hby d6_69) rfl rfl rfl ?_
    refine g_F (n := 73) X1 hx hZ hown (hw _ (List.mem_of_getElem? (i := 46) rfl)) e1 N.2.2.2.1 (hb hby d6_70) rfl (fun T2 X2 e2 => ?_)
    refine w_ladd (n := 74) X2.here hx (hb hby d6_73) rfl ?_
    refine w_aloadN (n := 75) X2.here hx (hb hby d6_74) rfl rfl rfl ?_
    refine g_F (n := 78) X2 hx hZ hown (hw _ (List.mem_of_getElem? (i := 48) rfl)) e2 N.2.2.2.2.1 (hb hby d6_75) rfl (fun T3 X3 e3 => ?_)
    refine w_ifeq (n1 := 85) (n2 := 81) X3.here hx (hb hby d6_78) (by decide) (by decide) rfl (fun hc78 => ?_) (fun hc78 => ?_)
    · refine w_iconst (z := (0 : Int32)) (n := 86) X3.here hx (hb hby d6_85) rfl rfl ?_
      refine w_i2l (n := 87) X3.here hx (hb hby d6_86) rfl ?_
      refine w_ladd (n := 88) X3.here hx (hb hby d6_87) rfl ?_
      exact fin_J X3 hx hlk e3 hret (hb hby d6_88) (by decide) (by decide) ⟨Or.inr ⟨hab, by rw [own_nan, if_pos hc78]⟩, rfl, rfl⟩
    · refine w_iconst (z := (1 : Int32)) (n := 82) X3.here hx (hb hby d6_81) rfl rfl ?_
      refine w_goto (n := 86) X3.here hx (hb hby d6_82) (by decide) (by decide) ?_
      refine w_i2l (n := 87) X3.here hx (hb hby d6_86) rfl ?_
      refine w_ladd (n := 88) X3.here hx (hb hby d6_87) rfl ?_
      exact fin_J X3 hx hlk e3 hret (hb hby d6_88) (by decide) (by decide) ⟨Or.inr ⟨hab, by rw [own_nan, if_neg hc78]⟩, rfl, rfl⟩
  refine w_aloadN (n := 1) X0.here hx (hb hby d6_0) rfl rfl rfl ?_
  refine g_F (n := 4) X0 hx hZ hown (hw _ (List.mem_of_getElem? (i := 50) rfl)) e0 N.2.2.2.2.2 (hb hby d6_1) rfl (fun T1 X1 e1 => ?_)
  refine w_ifne (n1 := 45) (n2 := 7) X1.here hx (hb hby d6_4) (by decide) (by decide) rfl (fun hc4 => ?_) (fun hc4 => ?_)
  · refine w_iconst (z := (1 : Int32)) (n := 46) X1.here hx (hb hby d6_45) rfl rfl ?_
    refine w_goto (n := 50) X1.here hx (hb hby d6_46) (by decide) (by decide) ?_
    exact up (Or.inl hc4) _ X1 e1
  · have hbe : be = 0 := Classical.not_not.mp hc4
    refine w_aloadN (n := 8) X1.here hx (hb hby d6_7) rfl rfl rfl ?_
    refine g_F (n := 11) X1 hx hZ hown (hw _ (List.mem_of_getElem? (i := 44) rfl)) e1 N.2.2.1 (hb hby d6_8) rfl (fun T2 X2 e2 => ?_)
    refine k_J (n := 14) X2 hx hZ hown (hw _ (List.mem_of_getElem? (i := 62) rfl)) (hb hby d6_11) rfl ?_
    refine w_lcmp (n := 15) X2.here hx (hb hby d6_14) rfl ?_
    refine w_ifgt (n1 := 45) (n2 := 18) X2.here hx (hb hby d6_15) (by decide) (by decide) rfl (fun hc15 => ?_) (fun hc15 => ?_)
    · refine w_iconst (z := (1 : Int32)) (n := 46) X2.here hx (hb hby d6_45) rfl rfl ?_
      refine w_goto (n := 50) X2.here hx (hb hby d6_46) (by decide) (by decide) ?_
      exact up (Or.inr (Or.inl ((lw_gt _ _).mp hc15))) _ X2 e2
    · have hw1 : ¬ (9223372036 : Int64) < wh := fun q => hc15 ((lw_gt _ _).mpr q)
      refine w_aloadN (n := 19) X2.here hx (hb hby d6_18) rfl rfl rfl ?_
      refine g_F (n := 22) X2 hx hZ hown (hw _ (List.mem_of_getElem? (i := 44) rfl)) e2 N.2.2.1 (hb hby d6_19) rfl (fun T3 X3 e3 => ?_)
      refine k_J (n := 25) X3 hx hZ hown (hw _ (List.mem_of_getElem? (i := 62) rfl)) (hb hby d6_22) rfl ?_
      refine w_lcmp (n := 26) X3.here hx (hb hby d6_25) rfl ?_
      refine w_ifne (n1 := 49) (n2 := 29) X3.here hx (hb hby d6_26) (by decide) (by decide) rfl (fun hc26 => ?_) (fun hc26 => ?_)
      · refine w_iconst (z := (0 : Int32)) (n := 50) X3.here hx (hb hby d6_49) rfl rfl ?_
        exact dn (fun q => q.elim (fun z => z hbe) (fun z => z.elim hw1 (fun y => hc26 ((lw_eq _ _).mpr y.1)))) _ X3 e3
      · have hw2 : wh = 9223372036 := (lw_eq _ _).mp (Classical.not_not.mp hc26)
        refine w_aloadN (n := 30) X3.here hx (hb hby d6_29) rfl rfl rfl ?_
        refine g_F (n := 33) X3 hx hZ hown (hw _ (List.mem_of_getElem? (i := 46) rfl)) e3 N.2.2.2.1 (hb hby d6_30) rfl (fun T4 X4 e4 => ?_)
        refine w_lconst (z := (0 : Int64)) (n := 34) X4.here hx (hb hby d6_33) rfl rfl ?_
        refine w_lcmp (n := 35) X4.here hx (hb hby d6_34) rfl ?_
        refine w_ifgt (n1 := 45) (n2 := 38) X4.here hx (hb hby d6_35) (by decide) (by decide) rfl (fun hc35 => ?_) (fun hc35 => ?_)
        · refine w_iconst (z := (1 : Int32)) (n := 46) X4.here hx (hb hby d6_45) rfl rfl ?_
          refine w_goto (n := 50) X4.here hx (hb hby d6_46) (by decide) (by decide) ?_
          exact up (Or.inr (Or.inr ⟨hw2, Or.inl ((lw_gt _ _).mp hc35)⟩)) _ X4 e4
        · have hn1 : ¬ (0 : Int64) < na := fun q => hc35 ((lw_gt _ _).mpr q)
          refine w_aloadN (n := 39) X4.here hx (hb hby d6_38) rfl rfl rfl ?_
          refine g_F (n := 42) X4 hx hZ hown (hw _ (List.mem_of_getElem? (i := 48) rfl)) e4 N.2.2.2.2.1 (hb hby d6_39) rfl (fun T5 X5 e5 => ?_)
          refine w_ifeq (n1 := 49) (n2 := 45) X5.here hx (hb hby d6_42) (by decide) (by decide) rfl (fun hc42 => ?_) (fun hc42 => ?_)
          · refine w_iconst (z := (0 : Int32)) (n := 50) X5.here hx (hb hby d6_49) rfl rfl ?_
            exact dn (fun q => q.elim (fun z => z hbe) (fun z => z.elim hw1 (fun y => y.2.elim hn1 (fun u => u hc42)))) _ X5 e5
          · refine w_iconst (z := (1 : Int32)) (n := 46) X5.here hx (hb hby d6_45) rfl rfl ?_
            refine w_goto (n := 50) X5.here hx (hb hby d6_46) (by decide) (by decide) ?_
            exact up (Or.inr (Or.inr ⟨hw2, Or.inr hc42⟩)) _ X5 e5
/-! THE PLAIN LAW: what read() makes of the digits -/
theorem own_lt {x y : Int64} : x < y ↔ x.toInt < y.toInt := Int64.lt_iff_toInt_lt
theorem own_mod {x y : Int64} {d : Int} (hy : y.toInt = d) (hx : 0 ≤ x.toInt) : (x % y).toInt = x.toInt % d := by rw [Int64.toInt_mod, hy]; exact (tr _ _).1 hx
theorem own_dg_val (v q : Int64) (P : Int) (hq : q.toInt = P) (hP : 0 < P) (hv : 0 ≤ v.toInt) : (own_dg v q).toInt = 48 + (v.toInt / P) % 10 := by
  have hne : q ≠ -1 := fun e => by
    rw [e] at hq
    have : (-1 : Int64).toInt = -1 := by decide
    omega
  have a := (c_ldiv v q P hq hne).1 hv
  have hx : 0 ≤ v.toInt / P := Int.ediv_nonneg hv (by omega)
  have t10 : (10 : Int64).toInt = 10 := by decide
  have t48 : (48 : Int64).toInt = 48 := by decide
  have b := own_mod (x := v / q) t10 (by rw [a]; exact hx)
  rw [a] at b
  generalize v.toInt / P = x at b hx ⊢
  have c1 := c_ladd 48 ((v / q) % 10); have c2 := rng64 (48 + (v / q) % 10); have c3 := c_l2i (48 + (v / q) % 10); have c4 := rng32 (48 + (v / q) % 10).toInt32; have c5 := c_i2b (48 + (v / q) % 10).toInt32
  rw [t48] at c1
  show ((48 + (v / q) % 10).toInt32.toInt8.toInt32).toInt = _
  omega
theorem own_dig {v q : Int64} {P : Int} (hq : q.toInt = P) (hP : 0 < P) (hv : 0 ≤ v.toInt) : (own_dg v q - 48).toInt = (v.toInt / P) % 10 := by
  have a := own_dg_val v q P hq hP hv
  have t48 : (48 : Int32).toInt = 48 := by decide
  have c1 := c_isub (own_dg v q) 48; have c2 := rng32 (own_dg v q - 48)
  rw [t48, a] at c1
  generalize v.toInt / P = x at c1 ⊢
  omega
theorem own_modstep (x P : Int) (hP : 0 < P) : x % (10 * P) = (x / P % 10) * P + x % P := by
  have h1 := Int.mul_ediv_add_emod x P
  have r0 := Int.emod_nonneg x (show P ≠ 0 by omega)
  have r1 := Int.emod_lt_of_pos x hP
  generalize x / P = q at h1 ⊢
  generalize x % P = r at h1 r0 r1 ⊢
  have hb0 : 0 ≤ q % 10 := by omega
  have hb1 : q % 10 ≤ 9 := by omega
  have hq : q = 10 * (q / 10) + q % 10 := by omega
  generalize q % 10 = b at hq hb0 hb1 ⊢
  generalize q / 10 = a at hq
  subst hq
  have e : x = (b * P + r) + (10 * P) * a := by rw [← h1]; rw [Int.mul_add, Int.mul_comm P b, Int.mul_comm 10 P, Int.mul_assoc]; omega
  have l1 : 0 ≤ b * P := Int.mul_nonneg hb0 (by omega)
  have l2 : b * P ≤ 9 * P := Int.mul_le_mul_of_nonneg_right hb1 (by omega)
  rw [e, Int.add_mul_emod_self_left, Int.emod_eq_of_lt (by omega) (by omega)]
theorem own_emod_le (x M : Int) (hx : 0 ≤ x) (hM : 0 < M) : x % M ≤ x := by
  have h1 := Int.mul_ediv_add_emod x M
  have h2 : 0 ≤ M * (x / M) := Int.mul_nonneg (by omega) (Int.ediv_nonneg hx (by omega))
  omega
/-- a digit added: whole or nanos -/
theorem own_add {w q q10 : Int64} {P : Int} {b : Int32} (hq : q.toInt = P) (hP : 0 < P) (hq10 : q10.toInt = 10 * P) (hw : 0 ≤ w.toInt) (hb : b = own_dg w q) : (b - 48 = 0 → w - w % q10 = w - w % q) ∧ (w - w % q10) + (b - 48).toInt64 * q = w - w % q := by
  subst hb
  have hd := own_dig hq hP hw
  have hm := own_modstep w.toInt P hP
  have m10 := own_mod hq10 hw
  have m1 := own_mod hq hw
  have hD0 : 0 ≤ w.toInt / P % 10 := by omega
  have hDP : 0 ≤ (w.toInt / P % 10) * P := Int.mul_nonneg hD0 (by omega)
  have r1 : 0 ≤ w.toInt % P := Int.emod_nonneg _ (by omega)
  have r10 : w.toInt % (10 * P) ≤ w.toInt := own_emod_le _ _ hw (by omega)
  have s10 := c_lsub w (w % q10); have s1 := c_lsub w (w % q); have t10 := rng64 (w - w % q10); have t1 := rng64 (w - w % q); have tw := rng64 w
  refine ⟨fun hz => ?_, ?_⟩
  · have hz' := congrArg Int32.toInt hz
    rw [hd, i0_toInt] at hz'
    rw [← Int64.toInt_inj]
    rw [hz'] at hm
    omega
  · have i1 := c_i2l (own_dg w q - 48)
    have i2 := c_lmul (own_dg w q - 48).toInt64 q
    rw [i1, hd, hq] at i2
    have i3 := rng64 ((own_dg w q - 48).toInt64 * q)
    have i4 := c_ladd (w - w % q10) ((own_dg w q - 48).toInt64 * q)
    have i5 := rng64 (w - w % q10 + (own_dg w q - 48).toInt64 * q)
    rw [← Int64.toInt_inj]
    generalize (w.toInt / P % 10) * P = z at hm hDP i2
    omega
theorem own_stepW {bs : List Int32} {pt : Int32} {i : Nat} {w q q10 k na : Int64} {P : Int} {fi be : Int32} (hq : q.toInt = P) (hP : 0 < P) (hq10 : q10.toInt = 10 * P) (hw : 0 ≤ w.toInt) (hb : bs.getD i 0 = own_dg w q) (hpt : ¬ Int32.ofNat i = pt) (hpl : own_pl 19 0 i = k) (h1 : k < 18) (h2 : ¬ k < 0) (hpw : own_pw k.toInt32 = q) :
    own_stp bs pt 19 0 i (w - w % q10, na, fi, be) = (w - w % q, na, fi, be) := by
  obtain ⟨a1, a2⟩ := own_add hq hP hq10 hw hb
  rw [own_stp, if_neg hpt]
  by_cases hz : bs.getD i 0 - 48 = 0
  · rw [if_pos hz, a1 hz]
  · rw [if_neg hz, hpl, if_neg (fun q => q h1), if_pos h2, hpw]
    show (w - w % q10 + (bs.getD i 0 - 48).toInt64 * q, na, fi, be) = _
    rw [a2]
theorem own_stepN {bs : List Int32} {pt : Int32} {i : Nat} {w q q10 k wh : Int64} {P : Int} {fi be : Int32} (hq : q.toInt = P) (hP : 0 < P) (hq10 : q10.toInt = 10 * P) (hw : 0 ≤ w.toInt) (hb : bs.getD i 0 = own_dg w q) (hpt : ¬ Int32.ofNat i = pt) (hpl : own_pl 19 0 i = k) (h1 : k < 18) (h2 : k < 0) (h3 : ¬ k < -9) (hpw : own_pw (9 + k).toInt32 = q) :
    own_stp bs pt 19 0 i (wh, w - w % q10, fi, be) = (wh, w - w % q, fi, be) := by
  obtain ⟨a1, a2⟩ := own_add hq hP hq10 hw hb
  rw [own_stp, if_neg hpt]
  by_cases hz : bs.getD i 0 - 48 = 0
  · rw [if_pos hz, a1 hz]
  · rw [if_neg hz, hpl, if_neg (fun q => q h1), if_neg (fun q => q h2), if_pos h3, hpw]
    show (wh, w - w % q10 + (bs.getD i 0 - 48).toInt64 * q, fi, be) = _
    rw [a2]
theorem own_rd1 {bs : List Int32} {pt poe : Int32} {ex : Int64} {k i : Nat} {wh na : Int64} {fi : Int32} : own_rd bs pt poe ex (k + 1) i (wh, na, fi, 0) = own_rd bs pt poe ex k (i + 1) (own_stp bs pt poe ex i (wh, na, fi, 0)) := by
  rw [own_rd, if_neg (fun q => q rfl)]
theorem own_rdS {bs : List Int32} {pt poe : Int32} {ex : Int64} {k i : Nat} {wh na : Int64} {fi be : Int32} (h : ¬ be = 0) : own_rd bs pt poe ex k i (wh, na, fi, be) = (wh, na, fi, be) := by
  cases k with
  | zero => rfl
  | succ k => rw [own_rd, if_pos h]
theorem own_pt_none {bs : List Int32} {S : Nat} : ∀ c, (∀ j, S ≤ j → j < S + c → ¬ bs.getD j 0 = 46) → own_ptc bs S c = -1
  | 0, _ => rfl
  | c + 1, h => by rw [own_ptc, if_neg (h (S + c) (by omega) (by omega))]; exact own_pt_none c fun j h1 h2 => h j h1 (by omega)
theorem own_pt_some {bs : List Int32} {S q : Nat} (hq : bs.getD q 0 = 46) (hS : S ≤ q) : ∀ c, q < S + c → (∀ j, q < j → j < S + c → ¬ bs.getD j 0 = 46) → own_ptc bs S c = Int32.ofNat q
  | 0, h, _ => absurd h (by omega)
  | c + 1, h, hn => by
    by_cases e : S + c = q
    · rw [own_ptc, e, if_pos hq]
    · rw [own_ptc, if_neg (hn (S + c) (by omega) (by omega))]
      exact own_pt_some hq hS c (by omega) fun j h1 h2 => hn j h1 (by omega)
/-- the text's thirty signs -/
def own_bs (w f t : Int64) : List Int32 := [own_dg w 1000000000000000000, own_dg w 100000000000000000, own_dg w 10000000000000000, own_dg w 1000000000000000, own_dg w 100000000000000, own_dg w 10000000000000, own_dg w 1000000000000, own_dg w 100000000000, own_dg w 10000000000, own_dg w 1000000000, own_dg w 100000000, own_dg w 10000000, own_dg w 1000000, own_dg w 100000, own_dg w 10000, own_dg w 1000, own_dg w 100, own_dg w 10, own_dg w 1, 46, own_dg f 100000000, own_dg f 10000000, own_dg f 1000000, own_dg f 100000, own_dg f 10000, own_dg f 1000, own_dg f 100, own_dg f 10, own_dg f 1, own_dg t 1]
theorem own_B {w f t : Int64} (hw : 0 ≤ w.toInt) (hf : 0 ≤ f.toInt) (ht : 0 ≤ t.toInt) : ∀ j, j < 30 → ¬ j = 19 → 48 ≤ ((own_bs w f t).getD j 0).toInt ∧ ((own_bs w f t).getD j 0).toInt ≤ 57 := by
  have hd : ∀ (v q : Int64) (P : Int), q.toInt = P → 0 < P → 0 ≤ v.toInt → 48 ≤ (own_dg v q).toInt ∧ (own_dg v q).toInt ≤ 57 := fun v q P h1 h2 h3 => by
    rw [own_dg_val v q P h1 h2 h3]; generalize v.toInt / P = x; omega
  intro j hj h19
  match j, hj, h19 with
  | 0, _, _ => exact hd w 1000000000000000000 1000000000000000000 (by decide) (by decide) hw
  | 1, _, _ => exact hd w 100000000000000000 100000000000000000 (by decide) (by decide) hw
  | 2, _, _ => exact hd w 10000000000000000 10000000000000000 (by decide) (by decide) hw
  | 3, _, _ => exact hd w 1000000000000000 1000000000000000 (by decide) (by decide) hw
  | 4, _, _ => exact hd w 100000000000000 100000000000000 (by decide) (by decide) hw
  | 5, _, _ => exact hd w 10000000000000 10000000000000 (by decide) (by decide) hw
  | 6, _, _ => exact hd w 1000000000000 1000000000000 (by decide) (by decide) hw
  | 7, _, _ => exact hd w 100000000000 100000000000 (by decide) (by decide) hw
  | 8, _, _ => exact hd w 10000000000 10000000000 (by decide) (by decide) hw
  | 9, _, _ => exact hd w 1000000000 1000000000 (by decide) (by decide) hw
  | 10, _, _ => exact hd w 100000000 100000000 (by decide) (by decide) hw
  | 11, _, _ => exact hd w 10000000 10000000 (by decide) (by decide) hw
  | 12, _, _ => exact hd w 1000000 1000000 (by decide) (by decide) hw
  | 13, _, _ => exact hd w 100000 100000 (by decide) (by decide) hw
  | 14, _, _ => exact hd w 10000 10000 (by decide) (by decide) hw
  | 15, _, _ => exact hd w 1000 1000 (by decide) (by decide) hw
  | 16, _, _ => exact hd w 100 100 (by decide) (by decide) hw
  | 17, _, _ => exact hd w 10 10 (by decide) (by decide) hw
  | 18, _, _ => exact hd w 1 1 (by decide) (by decide) hw
  | 20, _, _ => exact hd f 100000000 100000000 (by decide) (by decide) hf
  | 21, _, _ => exact hd f 10000000 10000000 (by decide) (by decide) hf
  | 22, _, _ => exact hd f 1000000 1000000 (by decide) (by decide) hf
  | 23, _, _ => exact hd f 100000 100000 (by decide) (by decide) hf
  | 24, _, _ => exact hd f 10000 10000 (by decide) (by decide) hf
  | 25, _, _ => exact hd f 1000 1000 (by decide) (by decide) hf
  | 26, _, _ => exact hd f 100 100 (by decide) (by decide) hf
  | 27, _, _ => exact hd f 10 10 (by decide) (by decide) hf
  | 28, _, _ => exact hd f 1 1 (by decide) (by decide) hf
  | 29, _, _ => exact hd t 1 1 (by decide) (by decide) ht
  | 19, _, h => exact absurd rfl h
  | j + 30, h, _ => exact absurd h (by omega)
theorem own_m1 (w : Int64) (hw : 0 ≤ w.toInt) : w - w % 1 = w := by
  have m := own_mod (x := w) (y := 1) (d := 1) (by decide) hw
  have a := c_lsub w (w % 1); have b := rng64 (w - w % 1); have c := rng64 w
  rw [← Int64.toInt_inj]; omega
theorem own_m0 {w q : Int64} {P : Int} (hq : q.toInt = P) (hw : 0 ≤ w.toInt) (h : w.toInt < P) : w - w % q = 0 := by
  have m := own_mod hq hw
  rw [Int.emod_eq_of_lt hw h] at m
  have a := c_lsub w (w % q); have b := rng64 (w - w % q); have c := rng64 w
  have z : (0 : Int64).toInt = 0 := by decide
  rw [← Int64.toInt_inj]; omega
theorem own_p1 {w f t : Int64} {pt : Int32} {K : Nat} (hw : 0 ≤ w.toInt) (hpt : pt = -1 ∨ pt = 19) : own_rd (own_bs w f t) pt 19 0 (K + 1) 18 (w - w % 10, 0, 0, 0) = own_rd (own_bs w f t) pt 19 0 K 19 (w, 0, 0, 0) := by
  have hp18 : ¬ Int32.ofNat 18 = pt := by rcases hpt with rfl | rfl <;> decide
  have h : own_rd (own_bs w f t) pt 19 0 (K + 1) 18 (w - w % 10, 0, 0, 0) = own_rd (own_bs w f t) pt 19 0 (K + 0) 19 (own_stp (own_bs w f t) pt 19 0 18 (w - w % 10, 0, 0, 0)) := own_rd1
  rw [h, own_stepW (q := 1) (q10 := 10) (P := 1) (k := 0) (by decide) (by decide) (by decide) hw rfl hp18 (by decide) (by decide) (by decide) (by decide)]
  rw [own_m1 w hw]; rfl
theorem own_p2 {w f t : Int64} {pt : Int32} {K : Nat} (hw : 0 ≤ w.toInt) (hpt : pt = -1 ∨ pt = 19) : own_rd (own_bs w f t) pt 19 0 (K + 2) 17 (w - w % 100, 0, 0, 0) = own_rd (own_bs w f t) pt 19 0 K 19 (w, 0, 0, 0) := by
  have hp17 : ¬ Int32.ofNat 17 = pt := by rcases hpt with rfl | rfl <;> decide
  have h : own_rd (own_bs w f t) pt 19 0 (K + 2) 17 (w - w % 100, 0, 0, 0) = own_rd (own_bs w f t) pt 19 0 (K + 1) 18 (own_stp (own_bs w f t) pt 19 0 17 (w - w % 100, 0, 0, 0)) := own_rd1
  rw [h, own_stepW (q := 10) (q10 := 100) (P := 10) (k := 1) (by decide) (by decide) (by decide) hw rfl hp17 (by decide) (by decide) (by decide) (by decide)]
  exact own_p1 hw hpt
theorem own_p3 {w f t : Int64} {pt : Int32} {K : Nat} (hw : 0 ≤ w.toInt) (hpt : pt = -1 ∨ pt = 19) : own_rd (own_bs w f t) pt 19 0 (K + 3) 16 (w - w % 1000, 0, 0, 0) = own_rd (own_bs w f t) pt 19 0 K 19 (w, 0, 0, 0) := by
  have hp16 : ¬ Int32.ofNat 16 = pt := by rcases hpt with rfl | rfl <;> decide
  have h : own_rd (own_bs w f t) pt 19 0 (K + 3) 16 (w - w % 1000, 0, 0, 0) = own_rd (own_bs w f t) pt 19 0 (K + 2) 17 (own_stp (own_bs w f t) pt 19 0 16 (w - w % 1000, 0, 0, 0)) := own_rd1
  rw [h, own_stepW (q := 100) (q10 := 1000) (P := 100) (k := 2) (by decide) (by decide) (by decide) hw rfl hp16 (by decide) (by decide) (by decide) (by decide)]
  exact own_p2 hw hpt
theorem own_p4 {w f t : Int64} {pt : Int32} {K : Nat} (hw : 0 ≤ w.toInt) (hpt : pt = -1 ∨ pt = 19) : own_rd (own_bs w f t) pt 19 0 (K + 4) 15 (w - w % 10000, 0, 0, 0) = own_rd (own_bs w f t) pt 19 0 K 19 (w, 0, 0, 0) := by
  have hp15 : ¬ Int32.ofNat 15 = pt := by rcases hpt with rfl | rfl <;> decide
  have h : own_rd (own_bs w f t) pt 19 0 (K + 4) 15 (w - w % 10000, 0, 0, 0) = own_rd (own_bs w f t) pt 19 0 (K + 3) 16 (own_stp (own_bs w f t) pt 19 0 15 (w - w % 10000, 0, 0, 0)) := own_rd1
  rw [h, own_stepW (q := 1000) (q10 := 10000) (P := 1000) (k := 3) (by decide) (by decide) (by decide) hw rfl hp15 (by decide) (by decide) (by decide) (by decide)]
  exact own_p3 hw hpt
theorem own_p5 {w f t : Int64} {pt : Int32} {K : Nat} (hw : 0 ≤ w.toInt) (hpt : pt = -1 ∨ pt = 19) : own_rd (own_bs w f t) pt 19 0 (K + 5) 14 (w - w % 100000, 0, 0, 0) = own_rd (own_bs w f t) pt 19 0 K 19 (w, 0, 0, 0) := by
  have hp14 : ¬ Int32.ofNat 14 = pt := by rcases hpt with rfl | rfl <;> decide
  have h : own_rd (own_bs w f t) pt 19 0 (K + 5) 14 (w - w % 100000, 0, 0, 0) = own_rd (own_bs w f t) pt 19 0 (K + 4) 15 (own_stp (own_bs w f t) pt 19 0 14 (w - w % 100000, 0, 0, 0)) := own_rd1
  rw [h, own_stepW (q := 10000) (q10 := 100000) (P := 10000) (k := 4) (by decide) (by decide) (by decide) hw rfl hp14 (by decide) (by decide) (by decide) (by decide)]
  exact own_p4 hw hpt
theorem own_p6 {w f t : Int64} {pt : Int32} {K : Nat} (hw : 0 ≤ w.toInt) (hpt : pt = -1 ∨ pt = 19) : own_rd (own_bs w f t) pt 19 0 (K + 6) 13 (w - w % 1000000, 0, 0, 0) = own_rd (own_bs w f t) pt 19 0 K 19 (w, 0, 0, 0) := by
  have hp13 : ¬ Int32.ofNat 13 = pt := by rcases hpt with rfl | rfl <;> decide
  have h : own_rd (own_bs w f t) pt 19 0 (K + 6) 13 (w - w % 1000000, 0, 0, 0) = own_rd (own_bs w f t) pt 19 0 (K + 5) 14 (own_stp (own_bs w f t) pt 19 0 13 (w - w % 1000000, 0, 0, 0)) := own_rd1
  rw [h, own_stepW (q := 100000) (q10 := 1000000) (P := 100000) (k := 5) (by decide) (by decide) (by decide) hw rfl hp13 (by decide) (by decide) (by decide) (by decide)]
  exact own_p5 hw hpt
theorem own_p7 {w f t : Int64} {pt : Int32} {K : Nat} (hw : 0 ≤ w.toInt) (hpt : pt = -1 ∨ pt = 19) : own_rd (own_bs w f t) pt 19 0 (K + 7) 12 (w - w % 10000000, 0, 0, 0) = own_rd (own_bs w f t) pt 19 0 K 19 (w, 0, 0, 0) := by
  have hp12 : ¬ Int32.ofNat 12 = pt := by rcases hpt with rfl | rfl <;> decide
  have h : own_rd (own_bs w f t) pt 19 0 (K + 7) 12 (w - w % 10000000, 0, 0, 0) = own_rd (own_bs w f t) pt 19 0 (K + 6) 13 (own_stp (own_bs w f t) pt 19 0 12 (w - w % 10000000, 0, 0, 0)) := own_rd1
  rw [h, own_stepW (q := 1000000) (q10 := 10000000) (P := 1000000) (k := 6) (by decide) (by decide) (by decide) hw rfl hp12 (by decide) (by decide) (by decide) (by decide)]
  exact own_p6 hw hpt
theorem own_p8 {w f t : Int64} {pt : Int32} {K : Nat} (hw : 0 ≤ w.toInt) (hpt : pt = -1 ∨ pt = 19) : own_rd (own_bs w f t) pt 19 0 (K + 8) 11 (w - w % 100000000, 0, 0, 0) = own_rd (own_bs w f t) pt 19 0 K 19 (w, 0, 0, 0) := by
  have hp11 : ¬ Int32.ofNat 11 = pt := by rcases hpt with rfl | rfl <;> decide
  have h : own_rd (own_bs w f t) pt 19 0 (K + 8) 11 (w - w % 100000000, 0, 0, 0) = own_rd (own_bs w f t) pt 19 0 (K + 7) 12 (own_stp (own_bs w f t) pt 19 0 11 (w - w % 100000000, 0, 0, 0)) := own_rd1
  rw [h, own_stepW (q := 10000000) (q10 := 100000000) (P := 10000000) (k := 7) (by decide) (by decide) (by decide) hw rfl hp11 (by decide) (by decide) (by decide) (by decide)]
  exact own_p7 hw hpt
theorem own_p9 {w f t : Int64} {pt : Int32} {K : Nat} (hw : 0 ≤ w.toInt) (hpt : pt = -1 ∨ pt = 19) : own_rd (own_bs w f t) pt 19 0 (K + 9) 10 (w - w % 1000000000, 0, 0, 0) = own_rd (own_bs w f t) pt 19 0 K 19 (w, 0, 0, 0) := by
  have hp10 : ¬ Int32.ofNat 10 = pt := by rcases hpt with rfl | rfl <;> decide
  have h : own_rd (own_bs w f t) pt 19 0 (K + 9) 10 (w - w % 1000000000, 0, 0, 0) = own_rd (own_bs w f t) pt 19 0 (K + 8) 11 (own_stp (own_bs w f t) pt 19 0 10 (w - w % 1000000000, 0, 0, 0)) := own_rd1
  rw [h, own_stepW (q := 100000000) (q10 := 1000000000) (P := 100000000) (k := 8) (by decide) (by decide) (by decide) hw rfl hp10 (by decide) (by decide) (by decide) (by decide)]
  exact own_p8 hw hpt
theorem own_p10 {w f t : Int64} {pt : Int32} {K : Nat} (hw : 0 ≤ w.toInt) (hpt : pt = -1 ∨ pt = 19) : own_rd (own_bs w f t) pt 19 0 (K + 10) 9 (w - w % 10000000000, 0, 0, 0) = own_rd (own_bs w f t) pt 19 0 K 19 (w, 0, 0, 0) := by
  have hp9 : ¬ Int32.ofNat 9 = pt := by rcases hpt with rfl | rfl <;> decide
  have h : own_rd (own_bs w f t) pt 19 0 (K + 10) 9 (w - w % 10000000000, 0, 0, 0) = own_rd (own_bs w f t) pt 19 0 (K + 9) 10 (own_stp (own_bs w f t) pt 19 0 9 (w - w % 10000000000, 0, 0, 0)) := own_rd1
  rw [h, own_stepW (q := 1000000000) (q10 := 10000000000) (P := 1000000000) (k := 9) (by decide) (by decide) (by decide) hw rfl hp9 (by decide) (by decide) (by decide) (by decide)]
  exact own_p9 hw hpt
theorem own_p11 {w f t : Int64} {pt : Int32} {K : Nat} (hw : 0 ≤ w.toInt) (hpt : pt = -1 ∨ pt = 19) : own_rd (own_bs w f t) pt 19 0 (K + 11) 8 (w - w % 100000000000, 0, 0, 0) = own_rd (own_bs w f t) pt 19 0 K 19 (w, 0, 0, 0) := by
  have hp8 : ¬ Int32.ofNat 8 = pt := by rcases hpt with rfl | rfl <;> decide
  have h : own_rd (own_bs w f t) pt 19 0 (K + 11) 8 (w - w % 100000000000, 0, 0, 0) = own_rd (own_bs w f t) pt 19 0 (K + 10) 9 (own_stp (own_bs w f t) pt 19 0 8 (w - w % 100000000000, 0, 0, 0)) := own_rd1
  rw [h, own_stepW (q := 10000000000) (q10 := 100000000000) (P := 10000000000) (k := 10) (by decide) (by decide) (by decide) hw rfl hp8 (by decide) (by decide) (by decide) (by decide)]
  exact own_p10 hw hpt
theorem own_p12 {w f t : Int64} {pt : Int32} {K : Nat} (hw : 0 ≤ w.toInt) (hpt : pt = -1 ∨ pt = 19) : own_rd (own_bs w f t) pt 19 0 (K + 12) 7 (w - w % 1000000000000, 0, 0, 0) = own_rd (own_bs w f t) pt 19 0 K 19 (w, 0, 0, 0) := by
  have hp7 : ¬ Int32.ofNat 7 = pt := by rcases hpt with rfl | rfl <;> decide
  have h : own_rd (own_bs w f t) pt 19 0 (K + 12) 7 (w - w % 1000000000000, 0, 0, 0) = own_rd (own_bs w f t) pt 19 0 (K + 11) 8 (own_stp (own_bs w f t) pt 19 0 7 (w - w % 1000000000000, 0, 0, 0)) := own_rd1
  rw [h, own_stepW (q := 100000000000) (q10 := 1000000000000) (P := 100000000000) (k := 11) (by decide) (by decide) (by decide) hw rfl hp7 (by decide) (by decide) (by decide) (by decide)]
  exact own_p11 hw hpt
theorem own_p13 {w f t : Int64} {pt : Int32} {K : Nat} (hw : 0 ≤ w.toInt) (hpt : pt = -1 ∨ pt = 19) : own_rd (own_bs w f t) pt 19 0 (K + 13) 6 (w - w % 10000000000000, 0, 0, 0) = own_rd (own_bs w f t) pt 19 0 K 19 (w, 0, 0, 0) := by
  have hp6 : ¬ Int32.ofNat 6 = pt := by rcases hpt with rfl | rfl <;> decide
  have h : own_rd (own_bs w f t) pt 19 0 (K + 13) 6 (w - w % 10000000000000, 0, 0, 0) = own_rd (own_bs w f t) pt 19 0 (K + 12) 7 (own_stp (own_bs w f t) pt 19 0 6 (w - w % 10000000000000, 0, 0, 0)) := own_rd1
  rw [h, own_stepW (q := 1000000000000) (q10 := 10000000000000) (P := 1000000000000) (k := 12) (by decide) (by decide) (by decide) hw rfl hp6 (by decide) (by decide) (by decide) (by decide)]
  exact own_p12 hw hpt
theorem own_p14 {w f t : Int64} {pt : Int32} {K : Nat} (hw : 0 ≤ w.toInt) (hpt : pt = -1 ∨ pt = 19) : own_rd (own_bs w f t) pt 19 0 (K + 14) 5 (w - w % 100000000000000, 0, 0, 0) = own_rd (own_bs w f t) pt 19 0 K 19 (w, 0, 0, 0) := by
  have hp5 : ¬ Int32.ofNat 5 = pt := by rcases hpt with rfl | rfl <;> decide
  have h : own_rd (own_bs w f t) pt 19 0 (K + 14) 5 (w - w % 100000000000000, 0, 0, 0) = own_rd (own_bs w f t) pt 19 0 (K + 13) 6 (own_stp (own_bs w f t) pt 19 0 5 (w - w % 100000000000000, 0, 0, 0)) := own_rd1
  rw [h, own_stepW (q := 10000000000000) (q10 := 100000000000000) (P := 10000000000000) (k := 13) (by decide) (by decide) (by decide) hw rfl hp5 (by decide) (by decide) (by decide) (by decide)]
  exact own_p13 hw hpt
theorem own_p15 {w f t : Int64} {pt : Int32} {K : Nat} (hw : 0 ≤ w.toInt) (hpt : pt = -1 ∨ pt = 19) : own_rd (own_bs w f t) pt 19 0 (K + 15) 4 (w - w % 1000000000000000, 0, 0, 0) = own_rd (own_bs w f t) pt 19 0 K 19 (w, 0, 0, 0) := by
  have hp4 : ¬ Int32.ofNat 4 = pt := by rcases hpt with rfl | rfl <;> decide
  have h : own_rd (own_bs w f t) pt 19 0 (K + 15) 4 (w - w % 1000000000000000, 0, 0, 0) = own_rd (own_bs w f t) pt 19 0 (K + 14) 5 (own_stp (own_bs w f t) pt 19 0 4 (w - w % 1000000000000000, 0, 0, 0)) := own_rd1
  rw [h, own_stepW (q := 100000000000000) (q10 := 1000000000000000) (P := 100000000000000) (k := 14) (by decide) (by decide) (by decide) hw rfl hp4 (by decide) (by decide) (by decide) (by decide)]
  exact own_p14 hw hpt
theorem own_p16 {w f t : Int64} {pt : Int32} {K : Nat} (hw : 0 ≤ w.toInt) (hpt : pt = -1 ∨ pt = 19) : own_rd (own_bs w f t) pt 19 0 (K + 16) 3 (w - w % 10000000000000000, 0, 0, 0) = own_rd (own_bs w f t) pt 19 0 K 19 (w, 0, 0, 0) := by
  have hp3 : ¬ Int32.ofNat 3 = pt := by rcases hpt with rfl | rfl <;> decide
  have h : own_rd (own_bs w f t) pt 19 0 (K + 16) 3 (w - w % 10000000000000000, 0, 0, 0) = own_rd (own_bs w f t) pt 19 0 (K + 15) 4 (own_stp (own_bs w f t) pt 19 0 3 (w - w % 10000000000000000, 0, 0, 0)) := own_rd1
  rw [h, own_stepW (q := 1000000000000000) (q10 := 10000000000000000) (P := 1000000000000000) (k := 15) (by decide) (by decide) (by decide) hw rfl hp3 (by decide) (by decide) (by decide) (by decide)]
  exact own_p15 hw hpt
theorem own_p17 {w f t : Int64} {pt : Int32} {K : Nat} (hw : 0 ≤ w.toInt) (hpt : pt = -1 ∨ pt = 19) : own_rd (own_bs w f t) pt 19 0 (K + 17) 2 (w - w % 100000000000000000, 0, 0, 0) = own_rd (own_bs w f t) pt 19 0 K 19 (w, 0, 0, 0) := by
  have hp2 : ¬ Int32.ofNat 2 = pt := by rcases hpt with rfl | rfl <;> decide
  have h : own_rd (own_bs w f t) pt 19 0 (K + 17) 2 (w - w % 100000000000000000, 0, 0, 0) = own_rd (own_bs w f t) pt 19 0 (K + 16) 3 (own_stp (own_bs w f t) pt 19 0 2 (w - w % 100000000000000000, 0, 0, 0)) := own_rd1
  rw [h, own_stepW (q := 10000000000000000) (q10 := 100000000000000000) (P := 10000000000000000) (k := 16) (by decide) (by decide) (by decide) hw rfl hp2 (by decide) (by decide) (by decide) (by decide)]
  exact own_p16 hw hpt
theorem own_p18 {w f t : Int64} {pt : Int32} {K : Nat} (hw : 0 ≤ w.toInt) (hpt : pt = -1 ∨ pt = 19) : own_rd (own_bs w f t) pt 19 0 (K + 18) 1 (w - w % 1000000000000000000, 0, 0, 0) = own_rd (own_bs w f t) pt 19 0 K 19 (w, 0, 0, 0) := by
  have hp1 : ¬ Int32.ofNat 1 = pt := by rcases hpt with rfl | rfl <;> decide
  have h : own_rd (own_bs w f t) pt 19 0 (K + 18) 1 (w - w % 1000000000000000000, 0, 0, 0) = own_rd (own_bs w f t) pt 19 0 (K + 17) 2 (own_stp (own_bs w f t) pt 19 0 1 (w - w % 1000000000000000000, 0, 0, 0)) := own_rd1
  rw [h, own_stepW (q := 100000000000000000) (q10 := 1000000000000000000) (P := 100000000000000000) (k := 17) (by decide) (by decide) (by decide) hw rfl hp1 (by decide) (by decide) (by decide) (by decide)]
  exact own_p17 hw hpt
theorem own_n1 {w f t : Int64} {K : Nat} (hf : 0 ≤ f.toInt) : own_rd (own_bs w f t) 19 19 0 (K + 1) 28 (w, f - f % 10, 0, 0) = own_rd (own_bs w f t) 19 19 0 K 29 (w, f, 0, 0) := by
  have h : own_rd (own_bs w f t) 19 19 0 (K + 1) 28 (w, f - f % 10, 0, 0) = own_rd (own_bs w f t) 19 19 0 (K + 0) 29 (own_stp (own_bs w f t) 19 19 0 28 (w, f - f % 10, 0, 0)) := own_rd1
  rw [h, own_stepN (q := 1) (q10 := 10) (P := 1) (k := -9) (by decide) (by decide) (by decide) hf rfl (by decide) (by decide) (by decide) (by decide) (by decide) (by decide)]
  rw [own_m1 f hf]; rfl
theorem own_n2 {w f t : Int64} {K : Nat} (hf : 0 ≤ f.toInt) : own_rd (own_bs w f t) 19 19 0 (K + 2) 27 (w, f - f % 100, 0, 0) = own_rd (own_bs w f t) 19 19 0 K 29 (w, f, 0, 0) := by
  have h : own_rd (own_bs w f t) 19 19 0 (K + 2) 27 (w, f - f % 100, 0, 0) = own_rd (own_bs w f t) 19 19 0 (K + 1) 28 (own_stp (own_bs w f t) 19 19 0 27 (w, f - f % 100, 0, 0)) := own_rd1
  rw [h, own_stepN (q := 10) (q10 := 100) (P := 10) (k := -8) (by decide) (by decide) (by decide) hf rfl (by decide) (by decide) (by decide) (by decide) (by decide) (by decide)]
  exact own_n1 hf
theorem own_n3 {w f t : Int64} {K : Nat} (hf : 0 ≤ f.toInt) : own_rd (own_bs w f t) 19 19 0 (K + 3) 26 (w, f - f % 1000, 0, 0) = own_rd (own_bs w f t) 19 19 0 K 29 (w, f, 0, 0) := by
  have h : own_rd (own_bs w f t) 19 19 0 (K + 3) 26 (w, f - f % 1000, 0, 0) = own_rd (own_bs w f t) 19 19 0 (K + 2) 27 (own_stp (own_bs w f t) 19 19 0 26 (w, f - f % 1000, 0, 0)) := own_rd1
  rw [h, own_stepN (q := 100) (q10 := 1000) (P := 100) (k := -7) (by decide) (by decide) (by decide) hf rfl (by decide) (by decide) (by decide) (by decide) (by decide) (by decide)]
  exact own_n2 hf
theorem own_n4 {w f t : Int64} {K : Nat} (hf : 0 ≤ f.toInt) : own_rd (own_bs w f t) 19 19 0 (K + 4) 25 (w, f - f % 10000, 0, 0) = own_rd (own_bs w f t) 19 19 0 K 29 (w, f, 0, 0) := by
  have h : own_rd (own_bs w f t) 19 19 0 (K + 4) 25 (w, f - f % 10000, 0, 0) = own_rd (own_bs w f t) 19 19 0 (K + 3) 26 (own_stp (own_bs w f t) 19 19 0 25 (w, f - f % 10000, 0, 0)) := own_rd1
  rw [h, own_stepN (q := 1000) (q10 := 10000) (P := 1000) (k := -6) (by decide) (by decide) (by decide) hf rfl (by decide) (by decide) (by decide) (by decide) (by decide) (by decide)]
  exact own_n3 hf
theorem own_n5 {w f t : Int64} {K : Nat} (hf : 0 ≤ f.toInt) : own_rd (own_bs w f t) 19 19 0 (K + 5) 24 (w, f - f % 100000, 0, 0) = own_rd (own_bs w f t) 19 19 0 K 29 (w, f, 0, 0) := by
  have h : own_rd (own_bs w f t) 19 19 0 (K + 5) 24 (w, f - f % 100000, 0, 0) = own_rd (own_bs w f t) 19 19 0 (K + 4) 25 (own_stp (own_bs w f t) 19 19 0 24 (w, f - f % 100000, 0, 0)) := own_rd1
  rw [h, own_stepN (q := 10000) (q10 := 100000) (P := 10000) (k := -5) (by decide) (by decide) (by decide) hf rfl (by decide) (by decide) (by decide) (by decide) (by decide) (by decide)]
  exact own_n4 hf
theorem own_n6 {w f t : Int64} {K : Nat} (hf : 0 ≤ f.toInt) : own_rd (own_bs w f t) 19 19 0 (K + 6) 23 (w, f - f % 1000000, 0, 0) = own_rd (own_bs w f t) 19 19 0 K 29 (w, f, 0, 0) := by
  have h : own_rd (own_bs w f t) 19 19 0 (K + 6) 23 (w, f - f % 1000000, 0, 0) = own_rd (own_bs w f t) 19 19 0 (K + 5) 24 (own_stp (own_bs w f t) 19 19 0 23 (w, f - f % 1000000, 0, 0)) := own_rd1
  rw [h, own_stepN (q := 100000) (q10 := 1000000) (P := 100000) (k := -4) (by decide) (by decide) (by decide) hf rfl (by decide) (by decide) (by decide) (by decide) (by decide) (by decide)]
  exact own_n5 hf
theorem own_n7 {w f t : Int64} {K : Nat} (hf : 0 ≤ f.toInt) : own_rd (own_bs w f t) 19 19 0 (K + 7) 22 (w, f - f % 10000000, 0, 0) = own_rd (own_bs w f t) 19 19 0 K 29 (w, f, 0, 0) := by
  have h : own_rd (own_bs w f t) 19 19 0 (K + 7) 22 (w, f - f % 10000000, 0, 0) = own_rd (own_bs w f t) 19 19 0 (K + 6) 23 (own_stp (own_bs w f t) 19 19 0 22 (w, f - f % 10000000, 0, 0)) := own_rd1
  rw [h, own_stepN (q := 1000000) (q10 := 10000000) (P := 1000000) (k := -3) (by decide) (by decide) (by decide) hf rfl (by decide) (by decide) (by decide) (by decide) (by decide) (by decide)]
  exact own_n6 hf
theorem own_n8 {w f t : Int64} {K : Nat} (hf : 0 ≤ f.toInt) : own_rd (own_bs w f t) 19 19 0 (K + 8) 21 (w, f - f % 100000000, 0, 0) = own_rd (own_bs w f t) 19 19 0 K 29 (w, f, 0, 0) := by
  have h : own_rd (own_bs w f t) 19 19 0 (K + 8) 21 (w, f - f % 100000000, 0, 0) = own_rd (own_bs w f t) 19 19 0 (K + 7) 22 (own_stp (own_bs w f t) 19 19 0 21 (w, f - f % 100000000, 0, 0)) := own_rd1
  rw [h, own_stepN (q := 10000000) (q10 := 100000000) (P := 10000000) (k := -2) (by decide) (by decide) (by decide) hf rfl (by decide) (by decide) (by decide) (by decide) (by decide) (by decide)]
  exact own_n7 hf
theorem own_n9 {w f t : Int64} {K : Nat} (hf : 0 ≤ f.toInt) : own_rd (own_bs w f t) 19 19 0 (K + 9) 20 (w, f - f % 1000000000, 0, 0) = own_rd (own_bs w f t) 19 19 0 K 29 (w, f, 0, 0) := by
  have h : own_rd (own_bs w f t) 19 19 0 (K + 9) 20 (w, f - f % 1000000000, 0, 0) = own_rd (own_bs w f t) 19 19 0 (K + 8) 21 (own_stp (own_bs w f t) 19 19 0 20 (w, f - f % 1000000000, 0, 0)) := own_rd1
  rw [h, own_stepN (q := 100000000) (q10 := 1000000000) (P := 100000000) (k := -1) (by decide) (by decide) (by decide) hf rfl (by decide) (by decide) (by decide) (by decide) (by decide) (by decide)]
  exact own_n8 hf
theorem own_frac {w f t : Int64} {K : Nat} (hf : 0 ≤ f.toInt) (hf9 : f.toInt < 1000000000) : own_rd (own_bs w f t) 19 19 0 (K + 10) 19 (w, 0, 0, 0) = own_rd (own_bs w f t) 19 19 0 K 29 (w, f, 0, 0) := by
  have h : own_rd (own_bs w f t) 19 19 0 (K + 10) 19 (w, 0, 0, 0) = own_rd (own_bs w f t) 19 19 0 (K + 9) 20 (own_stp (own_bs w f t) 19 19 0 19 (w, 0, 0, 0)) := own_rd1
  have h2 : own_stp (own_bs w f t) 19 19 0 19 (w, 0, 0, 0) = (w, f - f % 1000000000, 0, 0) := by
    rw [own_stp, if_pos (by decide), own_m0 (P := 1000000000) (by decide) hf hf9]
  rw [h, h2]
  exact own_n9 hf
theorem own_tenth {w f t : Int64} (ht : 0 ≤ t.toInt) (ht9 : t.toInt < 10) : own_rd (own_bs w f t) 19 19 0 1 29 (w, f, 0, 0) = (w, f, if t = 0 then 0 else 1, 0) := by
  have h : own_rd (own_bs w f t) 19 19 0 1 29 (w, f, 0, 0) = own_rd (own_bs w f t) 19 19 0 0 30 (own_stp (own_bs w f t) 19 19 0 29 (w, f, 0, 0)) := own_rd1
  have hd := own_dig (v := t) (q := 1) (P := 1) (by decide) (by decide) ht
  have hb : (own_bs w f t).getD 29 0 = own_dg t 1 := rfl
  have z : (0 : Int64).toInt = 0 := by decide
  rw [h]
  show own_stp (own_bs w f t) 19 19 0 29 (w, f, 0, 0) = _
  rw [own_stp, if_neg (by decide), hb]
  by_cases hz : t = 0
  · rw [if_pos (by rw [← Int32.toInt_inj, hd, i0_toInt, hz, z]; decide), if_pos hz]
  · have hne : ¬ own_dg t 1 - 48 = 0 := fun q => by
      have q' := congrArg Int32.toInt q
      rw [hd, i0_toInt] at q'
      exact hz (Int64.toInt_inj.mp (by rw [z]; omega))
    rw [if_neg hne, if_neg (by decide), if_neg (by decide), if_neg (by decide), if_neg hz]
set_option maxRecDepth 65536 in
set_option maxHeartbeats 40000000 in
theorem own_whole {w f t : Int64} {pt : Int32} {K : Nat} (hw : 0 ≤ w.toInt) (hpt : pt = -1 ∨ pt = 19) (L : Nat) (hL : 1 ≤ L ∧ L ≤ 18) (hlt : w.toInt < (10 : Int) ^ L) : own_rd (own_bs w f t) pt 19 0 (K + L) (19 - L) (0, 0, 0, 0) = own_rd (own_bs w f t) pt 19 0 K 19 (w, 0, 0, 0) := by
  have hc : L = 1 ∨ L = 2 ∨ L = 3 ∨ L = 4 ∨ L = 5 ∨ L = 6 ∨ L = 7 ∨ L = 8 ∨ L = 9 ∨ L = 10 ∨ L = 11 ∨ L = 12 ∨ L = 13 ∨ L = 14 ∨ L = 15 ∨ L = 16 ∨ L = 17 ∨ L = 18 := by omega
  rcases hc with rfl | rfl | rfl | rfl | rfl | rfl | rfl | rfl | rfl | rfl | rfl | rfl | rfl | rfl | rfl | rfl | rfl | rfl
  · have hz : w - w % 10 = 0 := own_m0 (P := 10) (by decide) hw (by rw [show (10 : Int) ^ 1 = 10 by decide] at hlt; exact hlt)
    have h := own_p1 (f := f) (t := t) (K := K) hw hpt
    rw [hz] at h; exact h
  · have hz : w - w % 100 = 0 := own_m0 (P := 100) (by decide) hw (by rw [show (10 : Int) ^ 2 = 100 by decide] at hlt; exact hlt)
    have h := own_p2 (f := f) (t := t) (K := K) hw hpt
    rw [hz] at h; exact h
  · have hz : w - w % 1000 = 0 := own_m0 (P := 1000) (by decide) hw (by rw [show (10 : Int) ^ 3 = 1000 by decide] at hlt; exact hlt)
    have h := own_p3 (f := f) (t := t) (K := K) hw hpt
    rw [hz] at h; exact h
  · have hz : w - w % 10000 = 0 := own_m0 (P := 10000) (by decide) hw (by rw [show (10 : Int) ^ 4 = 10000 by decide] at hlt; exact hlt)
    have h := own_p4 (f := f) (t := t) (K := K) hw hpt
    rw [hz] at h; exact h
  · have hz : w - w % 100000 = 0 := own_m0 (P := 100000) (by decide) hw (by rw [show (10 : Int) ^ 5 = 100000 by decide] at hlt; exact hlt)
    have h := own_p5 (f := f) (t := t) (K := K) hw hpt
    rw [hz] at h; exact h
  · have hz : w - w % 1000000 = 0 := own_m0 (P := 1000000) (by decide) hw (by rw [show (10 : Int) ^ 6 = 1000000 by decide] at hlt; exact hlt)
    have h := own_p6 (f := f) (t := t) (K := K) hw hpt
    rw [hz] at h; exact h
  · have hz : w - w % 10000000 = 0 := own_m0 (P := 10000000) (by decide) hw (by rw [show (10 : Int) ^ 7 = 10000000 by decide] at hlt; exact hlt)
    have h := own_p7 (f := f) (t := t) (K := K) hw hpt
    rw [hz] at h; exact h
  · have hz : w - w % 100000000 = 0 := own_m0 (P := 100000000) (by decide) hw (by rw [show (10 : Int) ^ 8 = 100000000 by decide] at hlt; exact hlt)
    have h := own_p8 (f := f) (t := t) (K := K) hw hpt
    rw [hz] at h; exact h
  · have hz : w - w % 1000000000 = 0 := own_m0 (P := 1000000000) (by decide) hw (by rw [show (10 : Int) ^ 9 = 1000000000 by decide] at hlt; exact hlt)
    have h := own_p9 (f := f) (t := t) (K := K) hw hpt
    rw [hz] at h; exact h
  · have hz : w - w % 10000000000 = 0 := own_m0 (P := 10000000000) (by decide) hw (by rw [show (10 : Int) ^ 10 = 10000000000 by decide] at hlt; exact hlt)
    have h := own_p10 (f := f) (t := t) (K := K) hw hpt
    rw [hz] at h; exact h
  · have hz : w - w % 100000000000 = 0 := own_m0 (P := 100000000000) (by decide) hw (by rw [show (10 : Int) ^ 11 = 100000000000 by decide] at hlt; exact hlt)
    have h := own_p11 (f := f) (t := t) (K := K) hw hpt
    rw [hz] at h; exact h
  · have hz : w - w % 1000000000000 = 0 := own_m0 (P := 1000000000000) (by decide) hw (by rw [show (10 : Int) ^ 12 = 1000000000000 by decide] at hlt; exact hlt)
    have h := own_p12 (f := f) (t := t) (K := K) hw hpt
    rw [hz] at h; exact h
  · have hz : w - w % 10000000000000 = 0 := own_m0 (P := 10000000000000) (by decide) hw (by rw [show (10 : Int) ^ 13 = 10000000000000 by decide] at hlt; exact hlt)
    have h := own_p13 (f := f) (t := t) (K := K) hw hpt
    rw [hz] at h; exact h
  · have hz : w - w % 100000000000000 = 0 := own_m0 (P := 100000000000000) (by decide) hw (by rw [show (10 : Int) ^ 14 = 100000000000000 by decide] at hlt; exact hlt)
    have h := own_p14 (f := f) (t := t) (K := K) hw hpt
    rw [hz] at h; exact h
  · have hz : w - w % 1000000000000000 = 0 := own_m0 (P := 1000000000000000) (by decide) hw (by rw [show (10 : Int) ^ 15 = 1000000000000000 by decide] at hlt; exact hlt)
    have h := own_p15 (f := f) (t := t) (K := K) hw hpt
    rw [hz] at h; exact h
  · have hz : w - w % 10000000000000000 = 0 := own_m0 (P := 10000000000000000) (by decide) hw (by rw [show (10 : Int) ^ 16 = 10000000000000000 by decide] at hlt; exact hlt)
    have h := own_p16 (f := f) (t := t) (K := K) hw hpt
    rw [hz] at h; exact h
  · have hz : w - w % 100000000000000000 = 0 := own_m0 (P := 100000000000000000) (by decide) hw (by rw [show (10 : Int) ^ 17 = 100000000000000000 by decide] at hlt; exact hlt)
    have h := own_p17 (f := f) (t := t) (K := K) hw hpt
    rw [hz] at h; exact h
  · have hz : w - w % 1000000000000000000 = 0 := own_m0 (P := 1000000000000000000) (by decide) hw (by rw [show (10 : Int) ^ 18 = 1000000000000000000 by decide] at hlt; exact hlt)
    have h := own_p18 (f := f) (t := t) (K := K) hw hpt
    rw [hz] at h; exact h
theorem own_law {w f t : Int64} {L S E : Nat} {pt poe : Int32} {σF : Int64 × Int64 × Int32 × Int32} (hw : 0 ≤ w.toInt) (hf : 0 ≤ f.toInt) (hf9 : f.toInt < 1000000000) (ht : 0 ≤ t.toInt) (ht9 : t.toInt < 10) (hL : own_ln w 18 L) (hS : S = 19 - L) (hE : (E = 19 ∧ f = 0 ∧ t = 0) ∨ (E = 29 ∧ t = 0) ∨ E = 30)
    (hpt : own_ptc (own_bs w f t) S (E - S) = pt) (hpoe : (if ¬ pt < 0 then pt else Int32.ofNat E) = poe) (hσ : own_rd (own_bs w f t) pt poe 0 (E - S) S (0, 0, 0, 0) = σF) :
    (1000000000000000000 ≤ w.toInt ∧ σF.2.2.2 = 1) ∨ (w.toInt < 1000000000000000000 ∧ σF = (w, f, if t = 0 then 0 else 1, 0)) := by
  obtain ⟨l1, l2, l3, l4⟩ := hL
  have hB := own_B (w := w) (f := f) (t := t) hw hf ht
  have t46 : (46 : Int32).toInt = 46 := by decide
  have nB : ∀ j, j < 30 → ¬ j = 19 → ¬ (own_bs w f t).getD j 0 = 46 := fun j h1 h2 q => by have := (hB j h1 h2).1; rw [q, t46] at this; omega
  have hS18 : S ≤ 18 := by omega
  have hp : (pt = -1 ∧ E = 19) ∨ (pt = 19 ∧ (E = 29 ∨ E = 30)) := by
    rcases hE with ⟨rfl, -⟩ | ⟨rfl, -⟩ | rfl
    · exact Or.inl ⟨hpt.symm.trans (own_pt_none _ fun j h1 h2 => nB j (by omega) (by omega)), rfl⟩
    · exact Or.inr ⟨hpt.symm.trans (own_pt_some (q := 19) rfl (by omega) _ (by omega) fun j h1 h2 => nB j (by omega) (by omega)), Or.inl rfl⟩
    · exact Or.inr ⟨hpt.symm.trans (own_pt_some (q := 19) rfl (by omega) _ (by omega) fun j h1 h2 => nB j (by omega) (by omega)), Or.inr rfl⟩
  have hpo : poe = 19 := by
    rcases hp with ⟨rfl, rfl⟩ | ⟨rfl, -⟩
    · exact hpoe.symm
    · exact hpoe.symm
  have hpt' : pt = -1 ∨ pt = 19 := hp.imp (·.1) (·.1)
  subst hpo
  by_cases hbig : 1000000000000000000 ≤ w.toInt
  · refine Or.inl ⟨hbig, ?_⟩
    have hL19 : L = 19 := by
      by_cases h : L ≤ 18
      · have h1 := l4 h
        have h2 := Nat.pow_le_pow_right (n := 10) (by omega) h
        have h3 : ((10 ^ L : Nat) : Int) ≤ ((10 ^ 18 : Nat) : Int) := by exact_mod_cast h2
        have h4 : w.toInt < ((10 ^ L : Nat) : Int) := by simpa using h1
        have h5 : ((10 ^ 18 : Nat) : Int) = 1000000000000000000 := by decide
        omega
      · omega
    have hS0 : S = 0 := by omega
    subst hS0
    obtain ⟨K, hK⟩ : ∃ K, E - 0 = K + 1 := ⟨E - 1, by omega⟩
    rw [hK] at hσ
    have hd := own_dig (v := w) (q := 1000000000000000000) (P := 1000000000000000000) (by decide) (by decide) hw
    have hb : (own_bs w f t).getD 0 0 = own_dg w 1000000000000000000 := rfl
    have hne : ¬ own_dg w 1000000000000000000 - 48 = 0 := fun q => by
      have q' := congrArg Int32.toInt q
      rw [hd, i0_toInt] at q'
      have := rng64 w
      omega
    have hs : own_stp (own_bs w f t) pt 19 0 0 (0, 0, 0, 0) = (0, 0, 0, 1) := by
      rw [own_stp, if_neg (by rcases hpt' with rfl | rfl <;> decide), hb, if_neg hne, if_pos (by decide)]
    rw [own_rd1, hs, own_rdS (by decide)] at hσ
    rw [← hσ]
  · have hlt : w.toInt < 1000000000000000000 := by omega
    refine Or.inr ⟨hlt, ?_⟩
    have hL18 : L ≤ 18 := by
      rcases l3 with h | h
      · omega
      · by_cases h' : L ≤ 18
        · exact h'
        · have : L = 19 := by omega
          subst this
          have h6 : (10 : Int) ^ (19 - 1) = 1000000000000000000 := by decide
          rw [h6] at h; omega
    have hk : E - S = (E - 19) + L := by rcases hE with ⟨rfl, -⟩ | ⟨rfl, -⟩ | rfl <;> omega
    subst hS
    rw [hk, own_whole hw hpt' L ⟨l1, hL18⟩ (l4 hL18)] at hσ
    rw [← hσ]
    rcases hE with ⟨rfl, rfl, rfl⟩ | ⟨rfl, rfl⟩ | rfl
    · rfl
    · obtain rfl : pt = 19 := hp.elim (fun q => absurd q.2 (by decide)) (·.1)
      exact (own_frac (K := 0) hf hf9).trans rfl
    · obtain rfl : pt = 19 := hp.elim (fun q => absurd q.2 (by decide)) (·.1)
      exact (own_frac (K := 1) hf hf9).trans (own_tenth ht ht9)
/-- the two answers are one -/
theorem own_fin {w f t : Int64} {σF : Int64 × Int64 × Int32 × Int32} {ex : Int64} (hw : 0 ≤ w.toInt) (hf : 0 ≤ f.toInt) (hf9 : f.toInt < 1000000000) (ht : 0 ≤ t.toInt) (hσ : (1000000000000000000 ≤ w.toInt ∧ σF.2.2.2 = 1) ∨ (w.toInt < 1000000000000000000 ∧ σF = (w, f, if t = 0 then 0 else 1, 0))) (e1 : ¬ w < 9223372036 → ex = 9223372036000000000) (e2 : w < 9223372036 → ex = w * 1000000000 + f + (if t = 0 then 0 else 1)) :
    (own_abv σF.1 σF.2.1 σF.2.2.1 σF.2.2.2 → 9223372036000000000 = ex) ∧ (¬ own_abv σF.1 σF.2.1 σF.2.2.1 σF.2.2.2 → own_nan σF.1 σF.2.1 σF.2.2.1 = ex) := by
  have tM : (9223372036 : Int64).toInt = 9223372036 := by decide
  have z : (0 : Int64).toInt = 0 := by decide
  rcases hσ with ⟨hb, h1⟩ | ⟨hlt, rfl⟩
  · have hn : ¬ w < 9223372036 := by rw [own_lt, tM]; omega
    exact ⟨fun _ => (e1 hn).symm, fun q => absurd (Or.inl (by rw [h1]; decide)) q⟩
  · refine ⟨fun q => ?_, fun q => ?_⟩
    · have hn : ¬ w < 9223372036 := by
        rcases q with q | q | q
        · exact absurd rfl q
        · rw [own_lt, tM] at q ⊢
          have q' : 9223372036 < w.toInt := q
          omega
        · have q' : w = 9223372036 := q.1
          rw [q']; decide
      exact (e1 hn).symm
    · have hle : ¬ (9223372036 : Int64) < w := fun r => q (Or.inr (Or.inl r))
      have hi : (if (if t = 0 then (0 : Int32) else 1) = 0 then (0 : Int32) else 1).toInt64 = (if t = 0 then (0 : Int64) else 1) := by by_cases ht0 : t = 0 <;> simp [ht0] <;> decide
      show w * 1000000000 + f + (if (if t = 0 then (0 : Int32) else 1) = 0 then (0 : Int32) else 1).toInt64 = ex
      rw [hi]
      by_cases hl : w < 9223372036
      · exact (e2 hl).symm
      · have hwM : w = 9223372036 := by
          rw [own_lt, tM] at hle hl
          exact Int64.toInt_inj.mp (by rw [tM]; omega)
        have hf0 : f = 0 := by
          have : ¬ (0 : Int64) < f := fun r => q (Or.inr (Or.inr ⟨hwM, Or.inl r⟩))
          rw [own_lt, z] at this
          exact Int64.toInt_inj.mp (by rw [z]; omega)
        have ht0 : t = 0 := Classical.byContradiction fun r => q (Or.inr (Or.inr ⟨hwM, Or.inr (by show ¬ (if t = 0 then (0 : Int32) else 1) = 0; rw [if_neg r]; decide)⟩))
        rw [e1 hl, hwM, hf0, if_pos ht0]; decide
theorem own_19 {L : Nat} (h : L ≤ 19) : (19 : Int32) - Int32.ofNat L = Int32.ofNat (19 - L) := by
  have t : (19 : Int32).toInt = 19 := by decide
  have a := c_isub 19 (Int32.ofNat L); have b := rng32 (19 - Int32.ofNat L)
  rw [t, nat_toInt (by omega)] at a
  rw [← Int32.toInt_inj, nat_toInt (by omega)]; omega
theorem own_pow_ne {q : Int64} {P : Int} (h : q.toInt = P) (hP : 0 < P) : q ≠ 0 := fun e => by
  rw [e] at h
  have z : (0 : Int64).toInt = 0 := by decide
  omega
theorem own_modR (x m : Int32) (M : Nat) (hm : m.toInt = M) (hM : 0 < M) : 0 ≤ ((x &&& 2147483647) % m).toInt64.toInt ∧ ((x &&& 2147483647) % m).toInt64.toInt < M := by
  obtain ⟨h1, h2, -⟩ := idx_mod x m M hm hM
  rw [Int32.lt_iff_toInt_lt, i0_toInt] at h1; rw [Int32.lt_iff_toInt_lt, hm] at h2
  rw [c_i2l]; omega
theorem own_maskL (x : Int64) : 0 ≤ (x &&& 9223372036854775807).toInt := by
  rw [c_maskL x 9223372036854775807 63 (by decide) (by decide)]; exact Int.emod_nonneg _ (by decide)
theorem own_edge (x : Int32) : 0 ≤ ((9223372035 : Int64) + (x &&& 3).toInt64).toInt := by
  have a := c_and x 3 (by decide)
  have b := c_ladd 9223372035 (x &&& 3).toInt64; have c := rng64 (9223372035 + (x &&& 3).toInt64)
  have t : (9223372035 : Int64).toInt = 9223372035 := by decide
  have t3 : (3 : Int32).toInt = 3 := by decide
  rw [c_i2l, t] at b; omega
set_option maxRecDepth 65536 in
set_option maxHeartbeats 40000000 in
theorem rm0 (l : Launch) (Z : State) (a0 : Array Value) (hw : ∀ d ∈ tables_1, d.before a0 Z = true) (ws : List Jvm.Cond) (wr : Int64) (fr tr fl : Int32) (pw : Addr) (kp : ClassId) (h0 : Heap) (SP : Sta Z h0 "com/example/portion/portion/quota/BoundedNumber" "POWERS_OF_TEN" "[J" (.ref pw)) (VP : Arv Z h0 pw kp .long 18 (own_pows.map Value.long) (.long 0)) :
    Con l Z x code maxLocals ret ws room_1 #[.long wr, .int fr, .int tr, .int fl] h0 (fun v _ L => v = some (.int 1) ∧ Fr h0.size L) := by
  refine con_of (plainFor_of_name pn_0) ?_
  intro p e s m below meth c T0 X0 hx hZ hby hml hown hret hnm hlk e0
  refine Endz.eq (ef_0 m wr fr tr fl) ?_
  have tail99 : ∀ (w f t : Int64) (hf ht : Int32), 0 ≤ w.toInt → 0 ≤ f.toInt → f.toInt < 1000000000 → 0 ≤ t.toInt → t.toInt < 10 → ((hf = 0 ∧ ht = 0 ∧ f = 0 ∧ t = 0) ∨ (hf = 1 ∧ ht = 0 ∧ t = 0) ∨ (hf = 1 ∧ ht = 1)) → Endz p.tables e below (Finz s room_1 (fun v _ L => v = some (.int 1) ∧ Fr h0.size L)) T0 (mkF m 99 #[.val (.long wr), .second, .val (.int fr), .val (.int tr), .val (.int fl), .val (.long w), .second, .val (.int hf), .val (.int ht), .val (.long f), .second, .val (.long t), .second, .unset, .unset, .unset, .unset, .unset, .unset, .unset, .unset] []) := by
    intro w f t hf ht hw0 hf0 hf9 ht0 ht9 hfl
    refine w_bipush (z := (30 : Int32)) (n := 101) X0.here hx (hb hby at_99) rfl rfl ?_
    refine n_P (n := 103) X0 hx hZ (hw _ (List.mem_of_getElem? (i := 1) rfl)) e0 (hb hby at_101) rfl (by decide) 30 (by decide) (by decide) (by decide) (by decide) (fun T1 h1 kt tx gtx X1 e1 E1 VB => ?_)
    have htx : h0.size ≤ tx := Nat.le_of_eq gtx.symm
    have V1 := pad0 VB 30
    have N1 := Fr.nil h0.size
    refine w_astore (Ls' := #[.val (.long wr), .second, .val (.int fr), .val (.int tr), .val (.int fl), .val (.long w), .second, .val (.int hf), .val (.int ht), .val (.long f), .second, .val (.long t), .second, .val (.ref tx), .unset, .unset, .unset, .unset, .unset, .unset, .unset]) (n := 105) X1.here hx (hb hby at_103) rfl rfl rfl ?_
    refine w_aload (n := 107) X1.here hx (hb hby at_105) rfl rfl rfl ?_
    refine w_iconst (z := (0 : Int32)) (n := 108) X1.here hx (hb hby at_107) rfl rfl ?_
    refine w_lload (n := 110) X1.here hx (hb hby at_108) rfl rfl ?_
    refine k_J (n := 113) X1 hx hZ hown (hw _ (List.mem_of_getElem? (i := 2) rfl)) (hb hby at_110) rfl ?_
    refine c_S (n := 116) (rest := [(.int (0 : Int32)), (.ref tx)]) (argsL := [.long w, .long (1000000000000000000 : Int64)]) X1 hx hZ hown (rmd l Z a0 hw [] w (1000000000000000000 : Int64) (own_pow_ne (P := 1000000000000000000) (by decide) (by decide)) h1) e1 (hw _ (List.mem_of_getElem? (i := 3) rfl)) (hw _ (List.mem_of_getElem? (i := 4) rfl)) (hw _ (List.mem_of_getElem? (i := 5) rfl)) (hw _ (List.mem_of_getElem? (i := 6) rfl)) (by decide) 2 (by decide) (by decide) (by decide) (by decide) (by rw [hml]; rfl) pd_0 rfl rfl (Nat.le_of_ble_eq_true rfl) (hb hby at_113) rfl (fun v2 T2 L2 X2 hQ2 => ?_)
    obtain ⟨rfl, e2, rfl⟩ := hQ2
    show Endz _ _ _ _ T2 (mkF m 116 #[.val (.long wr), .second, .val (.int fr), .val (.int tr), .val (.int fl), .val (.long w), .second, .val (.int hf), .val (.int ht), .val (.long f), .second, .val (.long t), .second, .val (.ref tx), .unset, .unset, .unset, .unset, .unset, .unset, .unset] [(.int (own_dg w (1000000000000000000 : Int64))), (.int (0 : Int32)), (.ref tx)])
    have N2 := Fr.app N1 (Fr.nil h0.size)
    refine s_B (n := 117) X2 hx hZ e2 V1 0 rfl (Nat.le_of_ble_eq_true rfl) (by decide) (by decide) (hb hby at_116) rfl (fun T3 h3 X3 e3 W3 V3' => ?_)
    rw [own_dgn] at V3'
    have V3 : Arv Z h3 tx kt .byte 30 [.int (own_dg w (1000000000000000000 : Int64)), .int (0 : Int32), .int (0 : Int32), .int (0 : Int32), .int (0 : Int32), .int (0 : Int32), .int (0 : Int32), .int (0 : Int32), .int (0 : Int32), .int (0 : Int32), .int (0 : Int32), .int (0 : Int32), .int (0 : Int32), .int (0 : Int32), .int (0 : Int32), .int (0 : Int32), .int (0 : Int32), .int (0 : Int32), .int (0 : Int32), .int (0 : Int32), .int (0 : Int32), .int (0 : Int32), .int (0 : Int32), .int (0 : Int32), .int (0 : Int32), .int (0 : Int32), .int (0 : Int32), .int (0 : Int32), .int (0 : Int32), .int (0 : Int32)] (.int 0) := V3'
    have E3 := Ext.wr E1 W3 htx
    have N3 := Fr.snoc X3 N2 htx
    refine w_aload (n := 119) X3.here hx (hb hby at_117) rfl rfl rfl ?_
    refine w_iconst (z := (1 : Int32)) (n := 120) X3.here hx (hb hby at_119) rfl rfl ?_
    refine w_lload (n := 122) X3.here hx (hb hby at_120) rfl rfl ?_
    refine k_J (n := 125) X3 hx hZ hown (hw _ (List.mem_of_getElem? (i := 9) rfl)) (hb hby at_122) rfl ?_
    refine c_S (n := 128) (rest := [(.int (1 : Int32)), (.ref tx)]) (argsL := [.long w, .long (100000000000000000 : Int64)]) X3 hx hZ hown (rmd l Z a0 hw [] w (100000000000000000 : Int64) (own_pow_ne (P := 100000000000000000) (by decide) (by decide)) h3) e3 (hw _ (List.mem_of_getElem? (i := 3) rfl)) (hw _ (List.mem_of_getElem? (i := 4) rfl)) (hw _ (List.mem_of_getElem? (i := 5) rfl)) (hw _ (List.mem_of_getElem? (i := 6) rfl)) (by decide) 2 (by decide) (by decide) (by decide) (by decide) (by rw [hml]; rfl) pd_0 rfl rfl (Nat.le_of_ble_eq_true rfl) (hb hby at_125) rfl (fun v4 T4 L4 X4 hQ4 => ?_)
    obtain ⟨rfl, e4, rfl⟩ := hQ4
    show Endz _ _ _ _ T4 (mkF m 128 #[.val (.long wr), .second, .val (.int fr), .val (.int tr), .val (.int fl), .val (.long w), .second, .val (.int hf), .val (.int ht), .val (.long f), .second, .val (.long t), .second, .val (.ref tx), .unset, .unset, .unset, .unset, .unset, .unset, .unset] [(.int (own_dg w (100000000000000000 : Int64))), (.int (1 : Int32)), (.ref tx)])
    have N4 := Fr.app N3 (Fr.nil h0.size)
    refine s_B (n := 129) X4 hx hZ e4 V3 1 rfl (Nat.le_of_ble_eq_true rfl) (by decide) (by decide) (hb hby at_128) rfl (fun T5 h5 X5 e5 W5 V5' => ?_)
    rw [own_dgn] at V5'
    have V5 : Arv Z h5 tx kt .byte 30 [.int (own_dg w (1000000000000000000 : Int64)), .int (own_dg w (100000000000000000 : Int64)), .int (0 : Int32), .int (0 : Int32), .int (0 : Int32), .int (0 : Int32), .int (0 : Int32), .int (0 : Int32), .int (0 : Int32), .int (0 : Int32), .int (0 : Int32), .int (0 : Int32), .int (0 : Int32), .int (0 : Int32), .int (0 : Int32), .int (0 : Int32), .int (0 : Int32), .int (0 : Int32), .int (0 : Int32), .int (0 : Int32), .int (0 : Int32), .int (0 : Int32), .int (0 : Int32), .int (0 : Int32), .int (0 : Int32), .int (0 : Int32), .int (0 : Int32), .int (0 : Int32), .int (0 : Int32), .int (0 : Int32)] (.int 0) := V5'
    have E5 := Ext.wr E3 W5 htx
    have N5 := Fr.snoc X5 N4 htx
    refine w_aload (n := 131) X5.here hx (hb hby at_129) rfl rfl rfl ?_
    refine w_iconst (z := (2 : Int32)) (n := 132) X5.here hx (hb hby at_131) rfl rfl ?_
    refine w_lload (n := 134) X5.here hx (hb hby at_132) rfl rfl ?_
    refine k_J (n := 137) X5 hx hZ hown (hw _ (List.mem_of_getElem? (i := 10) rfl)) (hb hby at_134) rfl ?_
    refine c_S (n := 140) (rest := [(.int (2 : Int32)), (.ref tx)]) (argsL := [.long w, .long (10000000000000000 : Int64)]) X5 hx hZ hown (rmd l Z a0 hw [] w (10000000000000000 : Int64) (own_pow_ne (P := 10000000000000000) (by decide) (by decide)) h5) e5 (hw _ (List.mem_of_getElem? (i := 3) rfl)) (hw _ (List.mem_of_getElem? (i := 4) rfl)) (hw _ (List.mem_of_getElem? (i := 5) rfl)) (hw _ (List.mem_of_getElem? (i := 6) rfl)) (by decide) 2 (by decide) (by decide) (by decide) (by decide) (by rw [hml]; rfl) pd_0 rfl rfl (Nat.le_of_ble_eq_true rfl) (hb hby at_137) rfl (fun v6 T6 L6 X6 hQ6 => ?_)
    obtain ⟨rfl, e6, rfl⟩ := hQ6
    show Endz _ _ _ _ T6 (mkF m 140 #[.val (.long wr), .second, .val (.int fr), .val (.int tr), .val (.int fl), .val (.long w), .second, .val (.int hf), .val (.int ht), .val (.long f), .second, .val (.long t), .second, .val (.ref tx), .unset, .unset, .unset, .unset, .unset, .unset, .unset] [(.int (own_dg w (10000000000000000 : Int64))), (.int (2 : Int32)), (.ref tx)])
    have N6 := Fr.app N5 (Fr.nil h0.size)
    refine s_B (n := 141) X6 hx hZ e6 V5 2 rfl (Nat.le_of_ble_eq_true rfl) (by decide) (by decide) (hb hby at_140) rfl (fun T7 h7 X7 e7 W7 V7' => ?_)
    rw [own_dgn] at V7'
    have V7 : Arv Z h7 tx kt .byte 30 [.int (own_dg w (1000000000000000000 : Int64)), .int (own_dg w (100000000000000000 : Int64)), .int (own_dg w (10000000000000000 : Int64)), .int (0 : Int32), .int (0 : Int32), .int (0 : Int32), .int (0 : Int32), .int (0 : Int32), .int (0 : Int32), .int (0 : Int32), .int (0 : Int32), .int (0 : Int32), .int (0 : Int32), .int (0 : Int32), .int (0 : Int32), .int (0 : Int32), .int (0 : Int32), .int (0 : Int32), .int (0 : Int32), .int (0 : Int32), .int (0 : Int32), .int (0 : Int32), .int (0 : Int32), .int (0 : Int32), .int (0 : Int32), .int (0 : Int32), .int (0 : Int32), .int (0 : Int32), .int (0 : Int32), .int (0 : Int32)] (.int 0) := V7'
    have E7 := Ext.wr E5 W7 htx
    have N7 := Fr.snoc X7 N6 htx
    refine w_aload (n := 143) X7.here hx (hb hby at_141) rfl rfl rfl ?_
    refine w_iconst (z := (3 : Int32)) (n := 144) X7.here hx (hb hby at_143) rfl rfl ?_
    refine w_lload (n := 146) X7.here hx (hb hby at_144) rfl rfl ?_
    refine k_J (n := 149) X7 hx hZ hown (hw _ (List.mem_of_getElem? (i := 11) rfl)) (hb hby at_146) rfl ?_
    refine c_S (n := 152) (rest := [(.int (3 : Int32)), (.ref tx)]) (argsL := [.long w, .long (1000000000000000 : Int64)]) X7 hx hZ hown (rmd l Z a0 hw [] w (1000000000000000 : Int64) (own_pow_ne (P := 1000000000000000) (by decide) (by decide)) h7) e7 (hw _ (List.mem_of_getElem? (i := 3) rfl)) (hw _ (List.mem_of_getElem? (i := 4) rfl)) (hw _ (List.mem_of_getElem? (i := 5) rfl)) (hw _ (List.mem_of_getElem? (i := 6) rfl)) (by decide) 2 (by decide) (by decide) (by decide) (by decide) (by rw [hml]; rfl) pd_0 rfl rfl (Nat.le_of_ble_eq_true rfl) (hb hby at_149) rfl (fun v8 T8 L8 X8 hQ8 => ?_)
    obtain ⟨rfl, e8, rfl⟩ := hQ8
    show Endz _ _ _ _ T8 (mkF m 152 #[.val (.long wr), .second, .val (.int fr), .val (.int tr), .val (.int fl), .val (.long w), .second, .val (.int hf), .val (.int ht), .val (.long f), .second, .val (.long t), .second, .val (.ref tx), .unset, .unset, .unset, .unset, .unset, .unset, .unset] [(.int (own_dg w (1000000000000000 : Int64))), (.int (3 : Int32)), (.ref tx)])
    have N8 := Fr.app N7 (Fr.nil h0.size)
    refine s_B (n := 153) X8 hx hZ e8 V7 3 rfl (Nat.le_of_ble_eq_true rfl) (by decide) (by decide) (hb hby at_152) rfl (fun T9 h9 X9 e9 W9 V9' => ?_)
    rw [own_dgn] at V9'
    have V9 : Arv Z h9 tx kt .byte 30 [.int (own_dg w (1000000000000000000 : Int64)), .int (own_dg w (100000000000000000 : Int64)), .int (own_dg w (10000000000000000 : Int64)), .int (own_dg w (1000000000000000 : Int64)), .int (0 : Int32), .int (0 : Int32), .int (0 : Int32), .int (0 : Int32), .int (0 : Int32), .int (0 : Int32), .int (0 : Int32), .int (0 : Int32), .int (0 : Int32), .int (0 : Int32), .int (0 : Int32), .int (0 : Int32), .int (0 : Int32), .int (0 : Int32), .int (0 : Int32), .int (0 : Int32), .int (0 : Int32), .int (0 : Int32), .int (0 : Int32), .int (0 : Int32), .int (0 : Int32), .int (0 : Int32), .int (0 : Int32), .int (0 : Int32), .int (0 : Int32), .int (0 : Int32)] (.int 0) := V9'
    have E9 := Ext.wr E7 W9 htx
    have N9 := Fr.snoc X9 N8 htx
    refine w_aload (n := 155) X9.here hx (hb hby at_153) rfl rfl rfl ?_
    refine w_iconst (z := (4 : Int32)) (n := 156) X9.here hx (hb hby at_155) rfl rfl ?_
    refine w_lload (n := 158) X9.here hx (hb hby at_156) rfl rfl ?_
    refine k_J (n := 161) X9 hx hZ hown (hw _ (List.mem_of_getElem? (i := 12) rfl)) (hb hby at_158) rfl ?_
    refine c_S (n := 164) (rest := [(.int (4 : Int32)), (.ref tx)]) (argsL := [.long w, .long (100000000000000 : Int64)]) X9 hx hZ hown (rmd l Z a0 hw [] w (100000000000000 : Int64) (own_pow_ne (P := 100000000000000) (by decide) (by decide)) h9) e9 (hw _ (List.mem_of_getElem? (i := 3) rfl)) (hw _ (List.mem_of_getElem? (i := 4) rfl)) (hw _ (List.mem_of_getElem? (i := 5) rfl)) (hw _ (List.mem_of_getElem? (i := 6) rfl)) (by decide) 2 (by decide) (by decide) (by decide) (by decide) (by rw [hml]; rfl) pd_0 rfl rfl (Nat.le_of_ble_eq_true rfl) (hb hby at_161) rfl (fun v10 T10 L10 X10 hQ10 => ?_)
    obtain ⟨rfl, e10, rfl⟩ := hQ10
    show Endz _ _ _ _ T10 (mkF m 164 #[.val (.long wr), .second, .val (.int fr), .val (.int tr), .val (.int fl), .val (.long w), .second, .val (.int hf), .val (.int ht), .val (.long f), .second, .val (.long t), .second, .val (.ref tx), .unset, .unset, .unset, .unset, .unset, .unset, .unset] [(.int (own_dg w (100000000000000 : Int64))), (.int (4 : Int32)), (.ref tx)])
    have N10 := Fr.app N9 (Fr.nil h0.size)
    refine s_B (n := 165) X10 hx hZ e10 V9 4 rfl (Nat.le_of_ble_eq_true rfl) (by decide) (by decide) (hb hby at_164) rfl (fun T11 h11 X11 e11 W11 V11' => ?_)
    rw [own_dgn] at V11'
    have V11 : Arv Z h11 tx kt .byte 30 [.int (own_dg w (1000000000000000000 : Int64)), .int (own_dg w (100000000000000000 : Int64)), .int (own_dg w (10000000000000000 : Int64)), .int (own_dg w (1000000000000000 : Int64)), .int (own_dg w (100000000000000 : Int64)), .int (0 : Int32), .int (0 : Int32), .int (0 : Int32), .int (0 : Int32), .int (0 : Int32), .int (0 : Int32), .int (0 : Int32), .int (0 : Int32), .int (0 : Int32), .int (0 : Int32), .int (0 : Int32), .int (0 : Int32), .int (0 : Int32), .int (0 : Int32), .int (0 : Int32), .int (0 : Int32), .int (0 : Int32), .int (0 : Int32), .int (0 : Int32), .int (0 : Int32), .int (0 : Int32), .int (0 : Int32), .int (0 : Int32), .int (0 : Int32), .int (0 : Int32)] (.int 0) := V11'
    have E11 := Ext.wr E9 W11 htx
    have N11 := Fr.snoc X11 N10 htx
    refine w_aload (n := 167) X11.here hx (hb hby at_165) rfl rfl rfl ?_
    refine w_iconst (z := (5 : Int32)) (n := 168) X11.here hx (hb hby at_167) rfl rfl ?_
    refine w_lload (n := 170) X11.here hx (hb hby at_168) rfl rfl ?_
    refine k_J (n := 173) X11 hx hZ hown (hw _ (List.mem_of_getElem? (i := 13) rfl)) (hb hby at_170) rfl ?_
    refine c_S (n := 176) (rest := [(.int (5 : Int32)), (.ref tx)]) (argsL := [.long w, .long (10000000000000 : Int64)]) X11 hx hZ hown (rmd l Z a0 hw [] w (10000000000000 : Int64) (own_pow_ne (P := 10000000000000) (by decide) (by decide)) h11) e11 (hw _ (List.mem_of_getElem? (i := 3) rfl)) (hw _ (List.mem_of_getElem? (i := 4) rfl)) (hw _ (List.mem_of_getElem? (i := 5) rfl)) (hw _ (List.mem_of_getElem? (i := 6) rfl)) (by decide) 2 (by decide) (by decide) (by decide) (by decide) (by rw [hml]; rfl) pd_0 rfl rfl (Nat.le_of_ble_eq_true rfl) (hb hby at_173) rfl (fun v12 T12 L12 X12 hQ12 => ?_)
    obtain ⟨rfl, e12, rfl⟩ := hQ12
    show Endz _ _ _ _ T12 (mkF m 176 #[.val (.long wr), .second, .val (.int fr), .val (.int tr), .val (.int fl), .val (.long w), .second, .val (.int hf), .val (.int ht), .val (.long f), .second, .val (.long t), .second, .val (.ref tx), .unset, .unset, .unset, .unset, .unset, .unset, .unset] [(.int (own_dg w (10000000000000 : Int64))), (.int (5 : Int32)), (.ref tx)])
    have N12 := Fr.app N11 (Fr.nil h0.size)
    refine s_B (n := 177) X12 hx hZ e12 V11 5 rfl (Nat.le_of_ble_eq_true rfl) (by decide) (by decide) (hb hby at_176) rfl (fun T13 h13 X13 e13 W13 V13' => ?_)
    rw [own_dgn] at V13'
    have V13 : Arv Z h13 tx kt .byte 30 [.int (own_dg w (1000000000000000000 : Int64)), .int (own_dg w (100000000000000000 : Int64)), .int (own_dg w (10000000000000000 : Int64)), .int (own_dg w (1000000000000000 : Int64)), .int (own_dg w (100000000000000 : Int64)), .int (own_dg w (10000000000000 : Int64)), .int (0 : Int32), .int (0 : Int32), .int (0 : Int32), .int (0 : Int32), .int (0 : Int32), .int (0 : Int32), .int (0 : Int32), .int (0 : Int32), .int (0 : Int32), .int (0 : Int32), .int (0 : Int32), .int (0 : Int32), .int (0 : Int32), .int (0 : Int32), .int (0 : Int32), .int (0 : Int32), .int (0 : Int32), .int (0 : Int32), .int (0 : Int32), .int (0 : Int32), .int (0 : Int32), .int (0 : Int32), .int (0 : Int32), .int (0 : Int32)] (.int 0) := V13'
    have E13 := Ext.wr E11 W13 htx
    have N13 := Fr.snoc X13 N12 htx
    refine w_aload (n := 179) X13.here hx (hb hby at_177) rfl rfl rfl ?_
    refine w_bipush (z := (6 : Int32)) (n := 181) X13.here hx (hb hby at_179) rfl rfl ?_
    refine w_lload (n := 183) X13.here hx (hb hby at_181) rfl rfl ?_
    refine k_J (n := 186) X13 hx hZ hown (hw _ (List.mem_of_getElem? (i := 14) rfl)) (hb hby at_183) rfl ?_
    refine c_S (n := 189) (rest := [(.int (6 : Int32)), (.ref tx)]) (argsL := [.long w, .long (1000000000000 : Int64)]) X13 hx hZ hown (rmd l Z a0 hw [] w (1000000000000 : Int64) (own_pow_ne (P := 1000000000000) (by decide) (by decide)) h13) e13 (hw _ (List.mem_of_getElem? (i := 3) rfl)) (hw _ (List.mem_of_getElem? (i := 4) rfl)) (hw _ (List.mem_of_getElem? (i := 5) rfl)) (hw _ (List.mem_of_getElem? (i := 6) rfl)) (by decide) 2 (by decide) (by decide) (by decide) (by decide) (by rw [hml]; rfl) pd_0 rfl rfl (Nat.le_of_ble_eq_true rfl) (hb hby at_186) rfl (fun v14 T14 L14 X14 hQ14 => ?_)
    obtain ⟨rfl, e14, rfl⟩ := hQ14
    show Endz _ _ _ _ T14 (mkF m 189 #[.val (.long wr), .second, .val (.int fr), .val (.int tr), .val (.int fl), .val (.long w), .second, .val (.int hf), .val (.int ht), .val (.long f), .second, .val (.long t), .second, .val (.ref tx), .unset, .unset, .unset, .unset, .unset, .unset, .unset] [(.int (own_dg w (1000000000000 : Int64))), (.int (6 : Int32)), (.ref tx)])
    have N14 := Fr.app N13 (Fr.nil h0.size)
    refine s_B (n := 190) X14 hx hZ e14 V13 6 rfl (Nat.le_of_ble_eq_true rfl) (by decide) (by decide) (hb hby at_189) rfl (fun T15 h15 X15 e15 W15 V15' => ?_)
    rw [own_dgn] at V15'
    have V15 : Arv Z h15 tx kt .byte 30 [.int (own_dg w (1000000000000000000 : Int64)), .int (own_dg w (100000000000000000 : Int64)), .int (own_dg w (10000000000000000 : Int64)), .int (own_dg w (1000000000000000 : Int64)), .int (own_dg w (100000000000000 : Int64)), .int (own_dg w (10000000000000 : Int64)), .int (own_dg w (1000000000000 : Int64)), .int (0 : Int32), .int (0 : Int32), .int (0 : Int32), .int (0 : Int32), .int (0 : Int32), .int (0 : Int32), .int (0 : Int32), .int (0 : Int32), .int (0 : Int32), .int (0 : Int32), .int (0 : Int32), .int (0 : Int32), .int (0 : Int32), .int (0 : Int32), .int (0 : Int32), .int (0 : Int32), .int (0 : Int32), .int (0 : Int32), .int (0 : Int32), .int (0 : Int32), .int (0 : Int32), .int (0 : Int32), .int (0 : Int32)] (.int 0) := V15'
    have E15 := Ext.wr E13 W15 htx
    have N15 := Fr.snoc X15 N14 htx
    refine w_aload (n := 192) X15.here hx (hb hby at_190) rfl rfl rfl ?_
    refine w_bipush (z := (7 : Int32)) (n := 194) X15.here hx (hb hby at_192) rfl rfl ?_
    refine w_lload (n := 196) X15.here hx (hb hby at_194) rfl rfl ?_
    refine k_J (n := 199) X15 hx hZ hown (hw _ (List.mem_of_getElem? (i := 15) rfl)) (hb hby at_196) rfl ?_
    refine c_S (n := 202) (rest := [(.int (7 : Int32)), (.ref tx)]) (argsL := [.long w, .long (100000000000 : Int64)]) X15 hx hZ hown (rmd l Z a0 hw [] w (100000000000 : Int64) (own_pow_ne (P := 100000000000) (by decide) (by decide)) h15) e15 (hw _ (List.mem_of_getElem? (i := 3) rfl)) (hw _ (List.mem_of_getElem? (i := 4) rfl)) (hw _ (List.mem_of_getElem? (i := 5) rfl)) (hw _ (List.mem_of_getElem? (i := 6) rfl)) (by decide) 2 (by decide) (by decide) (by decide) (by decide) (by rw [hml]; rfl) pd_0 rfl rfl (Nat.le_of_ble_eq_true rfl) (hb hby at_199) rfl (fun v16 T16 L16 X16 hQ16 => ?_)
    obtain ⟨rfl, e16, rfl⟩ := hQ16
    show Endz _ _ _ _ T16 (mkF m 202 #[.val (.long wr), .second, .val (.int fr), .val (.int tr), .val (.int fl), .val (.long w), .second, .val (.int hf), .val (.int ht), .val (.long f), .second, .val (.long t), .second, .val (.ref tx), .unset, .unset, .unset, .unset, .unset, .unset, .unset] [(.int (own_dg w (100000000000 : Int64))), (.int (7 : Int32)), (.ref tx)])
    have N16 := Fr.app N15 (Fr.nil h0.size)
    refine s_B (n := 203) X16 hx hZ e16 V15 7 rfl (Nat.le_of_ble_eq_true rfl) (by decide) (by decide) (hb hby at_202) rfl (fun T17 h17 X17 e17 W17 V17' => ?_)
    rw [own_dgn] at V17'
    have V17 : Arv Z h17 tx kt .byte 30 [.int (own_dg w (1000000000000000000 : Int64)), .int (own_dg w (100000000000000000 : Int64)), .int (own_dg w (10000000000000000 : Int64)), .int (own_dg w (1000000000000000 : Int64)), .int (own_dg w (100000000000000 : Int64)), .int (own_dg w (10000000000000 : Int64)), .int (own_dg w (1000000000000 : Int64)), .int (own_dg w (100000000000 : Int64)), .int (0 : Int32), .int (0 : Int32), .int (0 : Int32), .int (0 : Int32), .int (0 : Int32), .int (0 : Int32), .int (0 : Int32), .int (0 : Int32), .int (0 : Int32), .int (0 : Int32), .int (0 : Int32), .int (0 : Int32), .int (0 : Int32), .int (0 : Int32), .int (0 : Int32), .int (0 : Int32), .int (0 : Int32), .int (0 : Int32), .int (0 : Int32), .int (0 : Int32), .int (0 : Int32), .int (0 : Int32)] (.int 0) := V17'
    have E17 := Ext.wr E15 W17 htx
    have N17 := Fr.snoc X17 N16 htx
    refine w_aload (n := 205) X17.here hx (hb hby at_203) rfl rfl rfl ?_
    refine w_bipush (z := (8 : Int32)) (n := 207) X17.here hx (hb hby at_205) rfl rfl ?_
    refine w_lload (n := 209) X17.here hx (hb hby at_207) rfl rfl ?_
    refine k_J (n := 212) X17 hx hZ hown (hw _ (List.mem_of_getElem? (i := 16) rfl)) (hb hby at_209) rfl ?_
    refine c_S (n := 215) (rest := [(.int (8 : Int32)), (.ref tx)]) (argsL := [.long w, .long (10000000000 : Int64)]) X17 hx hZ hown (rmd l Z a0 hw [] w (10000000000 : Int64) (own_pow_ne (P := 10000000000) (by decide) (by decide)) h17) e17 (hw _ (List.mem_of_getElem? (i := 3) rfl)) (hw _ (List.mem_of_getElem? (i := 4) rfl)) (hw _ (List.mem_of_getElem? (i := 5) rfl)) (hw _ (List.mem_of_getElem? (i := 6) rfl)) (by decide) 2 (by decide) (by decide) (by decide) (by decide) (by rw [hml]; rfl) pd_0 rfl rfl (Nat.le_of_ble_eq_true rfl) (hb hby at_212) rfl (fun v18 T18 L18 X18 hQ18 => ?_)
    obtain ⟨rfl, e18, rfl⟩ := hQ18
    show Endz _ _ _ _ T18 (mkF m 215 #[.val (.long wr), .second, .val (.int fr), .val (.int tr), .val (.int fl), .val (.long w), .second, .val (.int hf), .val (.int ht), .val (.long f), .second, .val (.long t), .second, .val (.ref tx), .unset, .unset, .unset, .unset, .unset, .unset, .unset] [(.int (own_dg w (10000000000 : Int64))), (.int (8 : Int32)), (.ref tx)])
    have N18 := Fr.app N17 (Fr.nil h0.size)
    refine s_B (n := 216) X18 hx hZ e18 V17 8 rfl (Nat.le_of_ble_eq_true rfl) (by decide) (by decide) (hb hby at_215) rfl (fun T19 h19 X19 e19 W19 V19' => ?_)
    rw [own_dgn] at V19'
    have V19 : Arv Z h19 tx kt .byte 30 [.int (own_dg w (1000000000000000000 : Int64)), .int (own_dg w (100000000000000000 : Int64)), .int (own_dg w (10000000000000000 : Int64)), .int (own_dg w (1000000000000000 : Int64)), .int (own_dg w (100000000000000 : Int64)), .int (own_dg w (10000000000000 : Int64)), .int (own_dg w (1000000000000 : Int64)), .int (own_dg w (100000000000 : Int64)), .int (own_dg w (10000000000 : Int64)), .int (0 : Int32), .int (0 : Int32), .int (0 : Int32), .int (0 : Int32), .int (0 : Int32), .int (0 : Int32), .int (0 : Int32), .int (0 : Int32), .int (0 : Int32), .int (0 : Int32), .int (0 : Int32), .int (0 : Int32), .int (0 : Int32), .int (0 : Int32), .int (0 : Int32), .int (0 : Int32), .int (0 : Int32), .int (0 : Int32), .int (0 : Int32), .int (0 : Int32), .int (0 : Int32)] (.int 0) := V19'
    have E19 := Ext.wr E17 W19 htx
    have N19 := Fr.snoc X19 N18 htx
    refine w_aload (n := 218) X19.here hx (hb hby at_216) rfl rfl rfl ?_
    refine w_bipush (z := (9 : Int32)) (n := 220) X19.here hx (hb hby at_218) rfl rfl ?_
    refine w_lload (n := 222) X19.here hx (hb hby at_220) rfl rfl ?_
    refine k_J (n := 225) X19 hx hZ hown (hw _ (List.mem_of_getElem? (i := 17) rfl)) (hb hby at_222) rfl ?_
    refine c_S (n := 228) (rest := [(.int (9 : Int32)), (.ref tx)]) (argsL := [.long w, .long (1000000000 : Int64)]) X19 hx hZ hown (rmd l Z a0 hw [] w (1000000000 : Int64) (own_pow_ne (P := 1000000000) (by decide) (by decide)) h19) e19 (hw _ (List.mem_of_getElem? (i := 3) rfl)) (hw _ (List.mem_of_getElem? (i := 4) rfl)) (hw _ (List.mem_of_getElem? (i := 5) rfl)) (hw _ (List.mem_of_getElem? (i := 6) rfl)) (by decide) 2 (by decide) (by decide) (by decide) (by decide) (by rw [hml]; rfl) pd_0 rfl rfl (Nat.le_of_ble_eq_true rfl) (hb hby at_225) rfl (fun v20 T20 L20 X20 hQ20 => ?_)
    obtain ⟨rfl, e20, rfl⟩ := hQ20
    show Endz _ _ _ _ T20 (mkF m 228 #[.val (.long wr), .second, .val (.int fr), .val (.int tr), .val (.int fl), .val (.long w), .second, .val (.int hf), .val (.int ht), .val (.long f), .second, .val (.long t), .second, .val (.ref tx), .unset, .unset, .unset, .unset, .unset, .unset, .unset] [(.int (own_dg w (1000000000 : Int64))), (.int (9 : Int32)), (.ref tx)])
    have N20 := Fr.app N19 (Fr.nil h0.size)
    refine s_B (n := 229) X20 hx hZ e20 V19 9 rfl (Nat.le_of_ble_eq_true rfl) (by decide) (by decide) (hb hby at_228) rfl (fun T21 h21 X21 e21 W21 V21' => ?_)
    rw [own_dgn] at V21'
    have V21 : Arv Z h21 tx kt .byte 30 [.int (own_dg w (1000000000000000000 : Int64)), .int (own_dg w (100000000000000000 : Int64)), .int (own_dg w (10000000000000000 : Int64)), .int (own_dg w (1000000000000000 : Int64)), .int (own_dg w (100000000000000 : Int64)), .int (own_dg w (10000000000000 : Int64)), .int (own_dg w (1000000000000 : Int64)), .int (own_dg w (100000000000 : Int64)), .int (own_dg w (10000000000 : Int64)), .int (own_dg w (1000000000 : Int64)), .int (0 : Int32), .int (0 : Int32), .int (0 : Int32), .int (0 : Int32), .int (0 : Int32), .int (0 : Int32), .int (0 : Int32), .int (0 : Int32), .int (0 : Int32), .int (0 : Int32), .int (0 : Int32), .int (0 : Int32), .int (0 : Int32), .int (0 : Int32), .int (0 : Int32), .int (0 : Int32), .int (0 : Int32), .int (0 : Int32), .int (0 : Int32), .int (0 : Int32)] (.int 0) := V21'
    have E21 := Ext.wr E19 W21 htx
    have N21 := Fr.snoc X21 N20 htx
    refine w_aload (n := 231) X21.here hx (hb hby at_229) rfl rfl rfl ?_
    refine w_bipush (z := (10 : Int32)) (n := 233) X21.here hx (hb hby at_231) rfl rfl ?_
    refine w_lload (n := 235) X21.here hx (hb hby at_233) rfl rfl ?_
    refine k_J (n := 238) X21 hx hZ hown (hw _ (List.mem_of_getElem? (i := 18) rfl)) (hb hby at_235) rfl ?_
    refine c_S (n := 241) (rest := [(.int (10 : Int32)), (.ref tx)]) (argsL := [.long w, .long (100000000 : Int64)]) X21 hx hZ hown (rmd l Z a0 hw [] w (100000000 : Int64) (own_pow_ne (P := 100000000) (by decide) (by decide)) h21) e21 (hw _ (List.mem_of_getElem? (i := 3) rfl)) (hw _ (List.mem_of_getElem? (i := 4) rfl)) (hw _ (List.mem_of_getElem? (i := 5) rfl)) (hw _ (List.mem_of_getElem? (i := 6) rfl)) (by decide) 2 (by decide) (by decide) (by decide) (by decide) (by rw [hml]; rfl) pd_0 rfl rfl (Nat.le_of_ble_eq_true rfl) (hb hby at_238) rfl (fun v22 T22 L22 X22 hQ22 => ?_)
    obtain ⟨rfl, e22, rfl⟩ := hQ22
    show Endz _ _ _ _ T22 (mkF m 241 #[.val (.long wr), .second, .val (.int fr), .val (.int tr), .val (.int fl), .val (.long w), .second, .val (.int hf), .val (.int ht), .val (.long f), .second, .val (.long t), .second, .val (.ref tx), .unset, .unset, .unset, .unset, .unset, .unset, .unset] [(.int (own_dg w (100000000 : Int64))), (.int (10 : Int32)), (.ref tx)])
    have N22 := Fr.app N21 (Fr.nil h0.size)
    refine s_B (n := 242) X22 hx hZ e22 V21 10 rfl (Nat.le_of_ble_eq_true rfl) (by decide) (by decide) (hb hby at_241) rfl (fun T23 h23 X23 e23 W23 V23' => ?_)
    rw [own_dgn] at V23'
    have V23 : Arv Z h23 tx kt .byte 30 [.int (own_dg w (1000000000000000000 : Int64)), .int (own_dg w (100000000000000000 : Int64)), .int (own_dg w (10000000000000000 : Int64)), .int (own_dg w (1000000000000000 : Int64)), .int (own_dg w (100000000000000 : Int64)), .int (own_dg w (10000000000000 : Int64)), .int (own_dg w (1000000000000 : Int64)), .int (own_dg w (100000000000 : Int64)), .int (own_dg w (10000000000 : Int64)), .int (own_dg w (1000000000 : Int64)), .int (own_dg w (100000000 : Int64)), .int (0 : Int32), .int (0 : Int32), .int (0 : Int32), .int (0 : Int32), .int (0 : Int32), .int (0 : Int32), .int (0 : Int32), .int (0 : Int32), .int (0 : Int32), .int (0 : Int32), .int (0 : Int32), .int (0 : Int32), .int (0 : Int32), .int (0 : Int32), .int (0 : Int32), .int (0 : Int32), .int (0 : Int32), .int (0 : Int32), .int (0 : Int32)] (.int 0) := V23'
    have E23 := Ext.wr E21 W23 htx
    have N23 := Fr.snoc X23 N22 htx
    refine w_aload (n := 244) X23.here hx (hb hby at_242) rfl rfl rfl ?_
    refine w_bipush (z := (11 : Int32)) (n := 246) X23.here hx (hb hby at_244) rfl rfl ?_
    refine w_lload (n := 248) X23.here hx (hb hby at_246) rfl rfl ?_
    refine k_J (n := 251) X23 hx hZ hown (hw _ (List.mem_of_getElem? (i := 19) rfl)) (hb hby at_248) rfl ?_
    refine c_S (n := 254) (rest := [(.int (11 : Int32)), (.ref tx)]) (argsL := [.long w, .long (10000000 : Int64)]) X23 hx hZ hown (rmd l Z a0 hw [] w (10000000 : Int64) (own_pow_ne (P := 10000000) (by decide) (by decide)) h23) e23 (hw _ (List.mem_of_getElem? (i := 3) rfl)) (hw _ (List.mem_of_getElem? (i := 4) rfl)) (hw _ (List.mem_of_getElem? (i := 5) rfl)) (hw _ (List.mem_of_getElem? (i := 6) rfl)) (by decide) 2 (by decide) (by decide) (by decide) (by decide) (by rw [hml]; rfl) pd_0 rfl rfl (Nat.le_of_ble_eq_true rfl) (hb hby at_251) rfl (fun v24 T24 L24 X24 hQ24 => ?_)
    obtain ⟨rfl, e24, rfl⟩ := hQ24
    show Endz _ _ _ _ T24 (mkF m 254 #[.val (.long wr), .second, .val (.int fr), .val (.int tr), .val (.int fl), .val (.long w), .second, .val (.int hf), .val (.int ht), .val (.long f), .second, .val (.long t), .second, .val (.ref tx), .unset, .unset, .unset, .unset, .unset, .unset, .unset] [(.int (own_dg w (10000000 : Int64))), (.int (11 : Int32)), (.ref tx)])
    have N24 := Fr.app N23 (Fr.nil h0.size)
    refine s_B (n := 255) X24 hx hZ e24 V23 11 rfl (Nat.le_of_ble_eq_true rfl) (by decide) (by decide) (hb hby at_254) rfl (fun T25 h25 X25 e25 W25 V25' => ?_)
    rw [own_dgn] at V25'
    have V25 : Arv Z h25 tx kt .byte 30 [.int (own_dg w (1000000000000000000 : Int64)), .int (own_dg w (100000000000000000 : Int64)), .int (own_dg w (10000000000000000 : Int64)), .int (own_dg w (1000000000000000 : Int64)), .int (own_dg w (100000000000000 : Int64)), .int (own_dg w (10000000000000 : Int64)), .int (own_dg w (1000000000000 : Int64)), .int (own_dg w (100000000000 : Int64)), .int (own_dg w (10000000000 : Int64)), .int (own_dg w (1000000000 : Int64)), .int (own_dg w (100000000 : Int64)), .int (own_dg w (10000000 : Int64)), .int (0 : Int32), .int (0 : Int32), .int (0 : Int32), .int (0 : Int32), .int (0 : Int32), .int (0 : Int32), .int (0 : Int32), .int (0 : Int32), .int (0 : Int32), .int (0 : Int32), .int (0 : Int32), .int (0 : Int32), .int (0 : Int32), .int (0 : Int32), .int (0 : Int32), .int (0 : Int32), .int (0 : Int32), .int (0 : Int32)] (.int 0) := V25'
    have E25 := Ext.wr E23 W25 htx
    have N25 := Fr.snoc X25 N24 htx
    refine w_aload (n := 257) X25.here hx (hb hby at_255) rfl rfl rfl ?_
    refine w_bipush (z := (12 : Int32)) (n := 259) X25.here hx (hb hby at_257) rfl rfl ?_
    refine w_lload (n := 261) X25.here hx (hb hby at_259) rfl rfl ?_
    refine k_J (n := 264) X25 hx hZ hown (hw _ (List.mem_of_getElem? (i := 20) rfl)) (hb hby at_261) rfl ?_
    refine c_S (n := 267) (rest := [(.int (12 : Int32)), (.ref tx)]) (argsL := [.long w, .long (1000000 : Int64)]) X25 hx hZ hown (rmd l Z a0 hw [] w (1000000 : Int64) (own_pow_ne (P := 1000000) (by decide) (by decide)) h25) e25 (hw _ (List.mem_of_getElem? (i := 3) rfl)) (hw _ (List.mem_of_getElem? (i := 4) rfl)) (hw _ (List.mem_of_getElem? (i := 5) rfl)) (hw _ (List.mem_of_getElem? (i := 6) rfl)) (by decide) 2 (by decide) (by decide) (by decide) (by decide) (by rw [hml]; rfl) pd_0 rfl rfl (Nat.le_of_ble_eq_true rfl) (hb hby at_264) rfl (fun v26 T26 L26 X26 hQ26 => ?_)
    obtain ⟨rfl, e26, rfl⟩ := hQ26
    show Endz _ _ _ _ T26 (mkF m 267 #[.val (.long wr), .second, .val (.int fr), .val (.int tr), .val (.int fl), .val (.long w), .second, .val (.int hf), .val (.int ht), .val (.long f), .second, .val (.long t), .second, .val (.ref tx), .unset, .unset, .unset, .unset, .unset, .unset, .unset] [(.int (own_dg w (1000000 : Int64))), (.int (12 : Int32)), (.ref tx)])
    have N26 := Fr.app N25 (Fr.nil h0.size)
    refine s_B (n := 268) X26 hx hZ e26 V25 12 rfl (Nat.le_of_ble_eq_true rfl) (by decide) (by decide) (hb hby at_267) rfl (fun T27 h27 X27 e27 W27 V27' => ?_)
    rw [own_dgn] at V27'
    have V27 : Arv Z h27 tx kt .byte 30 [.int (own_dg w (1000000000000000000 : Int64)), .int (own_dg w (100000000000000000 : Int64)), .int (own_dg w (10000000000000000 : Int64)), .int (own_dg w (1000000000000000 : Int64)), .int (own_dg w (100000000000000 : Int64)), .int (own_dg w (10000000000000 : Int64)), .int (own_dg w (1000000000000 : Int64)), .int (own_dg w (100000000000 : Int64)), .int (own_dg w (10000000000 : Int64)), .int (own_dg w (1000000000 : Int64)), .int (own_dg w (100000000 : Int64)), .int (own_dg w (10000000 : Int64)), .int (own_dg w (1000000 : Int64)), .int (0 : Int32), .int (0 : Int32), .int (0 : Int32), .int (0 : Int32), .int (0 : Int32), .int (0 : Int32), .int (0 : Int32), .int (0 : Int32), .int (0 : Int32), .int (0 : Int32), .int (0 : Int32), .int (0 : Int32), .int (0 : Int32), .int (0 : Int32), .int (0 : Int32), .int (0 : Int32), .int (0 : Int32)] (.int 0) := V27'
    have E27 := Ext.wr E25 W27 htx
    have N27 := Fr.snoc X27 N26 htx
    refine w_aload (n := 270) X27.here hx (hb hby at_268) rfl rfl rfl ?_
    refine w_bipush (z := (13 : Int32)) (n := 272) X27.here hx (hb hby at_270) rfl rfl ?_
    refine w_lload (n := 274) X27.here hx (hb hby at_272) rfl rfl ?_
    refine k_J (n := 277) X27 hx hZ hown (hw _ (List.mem_of_getElem? (i := 21) rfl)) (hb hby at_274) rfl ?_
    refine c_S (n := 280) (rest := [(.int (13 : Int32)), (.ref tx)]) (argsL := [.long w, .long (100000 : Int64)]) X27 hx hZ hown (rmd l Z a0 hw [] w (100000 : Int64) (own_pow_ne (P := 100000) (by decide) (by decide)) h27) e27 (hw _ (List.mem_of_getElem? (i := 3) rfl)) (hw _ (List.mem_of_getElem? (i := 4) rfl)) (hw _ (List.mem_of_getElem? (i := 5) rfl)) (hw _ (List.mem_of_getElem? (i := 6) rfl)) (by decide) 2 (by decide) (by decide) (by decide) (by decide) (by rw [hml]; rfl) pd_0 rfl rfl (Nat.le_of_ble_eq_true rfl) (hb hby at_277) rfl (fun v28 T28 L28 X28 hQ28 => ?_)
    obtain ⟨rfl, e28, rfl⟩ := hQ28
    show Endz _ _ _ _ T28 (mkF m 280 #[.val (.long wr), .second, .val (.int fr), .val (.int tr), .val (.int fl), .val (.long w), .second, .val (.int hf), .val (.int ht), .val (.long f), .second, .val (.long t), .second, .val (.ref tx), .unset, .unset, .unset, .unset, .unset, .unset, .unset] [(.int (own_dg w (100000 : Int64))), (.int (13 : Int32)), (.ref tx)])
    have N28 := Fr.app N27 (Fr.nil h0.size)
    refine s_B (n := 281) X28 hx hZ e28 V27 13 rfl (Nat.le_of_ble_eq_true rfl) (by decide) (by decide) (hb hby at_280) rfl (fun T29 h29 X29 e29 W29 V29' => ?_)
    rw [own_dgn] at V29'
    have V29 : Arv Z h29 tx kt .byte 30 [.int (own_dg w (1000000000000000000 : Int64)), .int (own_dg w (100000000000000000 : Int64)), .int (own_dg w (10000000000000000 : Int64)), .int (own_dg w (1000000000000000 : Int64)), .int (own_dg w (100000000000000 : Int64)), .int (own_dg w (10000000000000 : Int64)), .int (own_dg w (1000000000000 : Int64)), .int (own_dg w (100000000000 : Int64)), .int (own_dg w (10000000000 : Int64)), .int (own_dg w (1000000000 : Int64)), .int (own_dg w (100000000 : Int64)), .int (own_dg w (10000000 : Int64)), .int (own_dg w (1000000 : Int64)), .int (own_dg w (100000 : Int64)), .int (0 : Int32), .int (0 : Int32), .int (0 : Int32), .int (0 : Int32), .int (0 : Int32), .int (0 : Int32), .int (0 : Int32), .int (0 : Int32), .int (0 : Int32), .int (0 : Int32), .int (0 : Int32), .int (0 : Int32), .int (0 : Int32), .int (0 : Int32), .int (0 : Int32), .int (0 : Int32)] (.int 0) := V29'
    have E29 := Ext.wr E27 W29 htx
    have N29 := Fr.snoc X29 N28 htx
    refine w_aload (n := 283) X29.here hx (hb hby at_281) rfl rfl rfl ?_
    refine w_bipush (z := (14 : Int32)) (n := 285) X29.here hx (hb hby at_283) rfl rfl ?_
    refine w_lload (n := 287) X29.here hx (hb hby at_285) rfl rfl ?_
    refine k_J (n := 290) X29 hx hZ hown (hw _ (List.mem_of_getElem? (i := 22) rfl)) (hb hby at_287) rfl ?_
    refine c_S (n := 293) (rest := [(.int (14 : Int32)), (.ref tx)]) (argsL := [.long w, .long (10000 : Int64)]) X29 hx hZ hown (rmd l Z a0 hw [] w (10000 : Int64) (own_pow_ne (P := 10000) (by decide) (by decide)) h29) e29 (hw _ (List.mem_of_getElem? (i := 3) rfl)) (hw _ (List.mem_of_getElem? (i := 4) rfl)) (hw _ (List.mem_of_getElem? (i := 5) rfl)) (hw _ (List.mem_of_getElem? (i := 6) rfl)) (by decide) 2 (by decide) (by decide) (by decide) (by decide) (by rw [hml]; rfl) pd_0 rfl rfl (Nat.le_of_ble_eq_true rfl) (hb hby at_290) rfl (fun v30 T30 L30 X30 hQ30 => ?_)
    obtain ⟨rfl, e30, rfl⟩ := hQ30
    show Endz _ _ _ _ T30 (mkF m 293 #[.val (.long wr), .second, .val (.int fr), .val (.int tr), .val (.int fl), .val (.long w), .second, .val (.int hf), .val (.int ht), .val (.long f), .second, .val (.long t), .second, .val (.ref tx), .unset, .unset, .unset, .unset, .unset, .unset, .unset] [(.int (own_dg w (10000 : Int64))), (.int (14 : Int32)), (.ref tx)])
    have N30 := Fr.app N29 (Fr.nil h0.size)
    refine s_B (n := 294) X30 hx hZ e30 V29 14 rfl (Nat.le_of_ble_eq_true rfl) (by decide) (by decide) (hb hby at_293) rfl (fun T31 h31 X31 e31 W31 V31' => ?_)
    rw [own_dgn] at V31'
    have V31 : Arv Z h31 tx kt .byte 30 [.int (own_dg w (1000000000000000000 : Int64)), .int (own_dg w (100000000000000000 : Int64)), .int (own_dg w (10000000000000000 : Int64)), .int (own_dg w (1000000000000000 : Int64)), .int (own_dg w (100000000000000 : Int64)), .int (own_dg w (10000000000000 : Int64)), .int (own_dg w (1000000000000 : Int64)), .int (own_dg w (100000000000 : Int64)), .int (own_dg w (10000000000 : Int64)), .int (own_dg w (1000000000 : Int64)), .int (own_dg w (100000000 : Int64)), .int (own_dg w (10000000 : Int64)), .int (own_dg w (1000000 : Int64)), .int (own_dg w (100000 : Int64)), .int (own_dg w (10000 : Int64)), .int (0 : Int32), .int (0 : Int32), .int (0 : Int32), .int (0 : Int32), .int (0 : Int32), .int (0 : Int32), .int (0 : Int32), .int (0 : Int32), .int (0 : Int32), .int (0 : Int32), .int (0 : Int32), .int (0 : Int32), .int (0 : Int32), .int (0 : Int32), .int (0 : Int32)] (.int 0) := V31'
    have E31 := Ext.wr E29 W31 htx
    have N31 := Fr.snoc X31 N30 htx
    refine w_aload (n := 296) X31.here hx (hb hby at_294) rfl rfl rfl ?_
    refine w_bipush (z := (15 : Int32)) (n := 298) X31.here hx (hb hby at_296) rfl rfl ?_
    refine w_lload (n := 300) X31.here hx (hb hby at_298) rfl rfl ?_
    refine k_J (n := 303) X31 hx hZ hown (hw _ (List.mem_of_getElem? (i := 23) rfl)) (hb hby at_300) rfl ?_
    refine c_S (n := 306) (rest := [(.int (15 : Int32)), (.ref tx)]) (argsL := [.long w, .long (1000 : Int64)]) X31 hx hZ hown (rmd l Z a0 hw [] w (1000 : Int64) (own_pow_ne (P := 1000) (by decide) (by decide)) h31) e31 (hw _ (List.mem_of_getElem? (i := 3) rfl)) (hw _ (List.mem_of_getElem? (i := 4) rfl)) (hw _ (List.mem_of_getElem? (i := 5) rfl)) (hw _ (List.mem_of_getElem? (i := 6) rfl)) (by decide) 2 (by decide) (by decide) (by decide) (by decide) (by rw [hml]; rfl) pd_0 rfl rfl (Nat.le_of_ble_eq_true rfl) (hb hby at_303) rfl (fun v32 T32 L32 X32 hQ32 => ?_)
    obtain ⟨rfl, e32, rfl⟩ := hQ32
    show Endz _ _ _ _ T32 (mkF m 306 #[.val (.long wr), .second, .val (.int fr), .val (.int tr), .val (.int fl), .val (.long w), .second, .val (.int hf), .val (.int ht), .val (.long f), .second, .val (.long t), .second, .val (.ref tx), .unset, .unset, .unset, .unset, .unset, .unset, .unset] [(.int (own_dg w (1000 : Int64))), (.int (15 : Int32)), (.ref tx)])
    have N32 := Fr.app N31 (Fr.nil h0.size)
    refine s_B (n := 307) X32 hx hZ e32 V31 15 rfl (Nat.le_of_ble_eq_true rfl) (by decide) (by decide) (hb hby at_306) rfl (fun T33 h33 X33 e33 W33 V33' => ?_)
    rw [own_dgn] at V33'
    have V33 : Arv Z h33 tx kt .byte 30 [.int (own_dg w (1000000000000000000 : Int64)), .int (own_dg w (100000000000000000 : Int64)), .int (own_dg w (10000000000000000 : Int64)), .int (own_dg w (1000000000000000 : Int64)), .int (own_dg w (100000000000000 : Int64)), .int (own_dg w (10000000000000 : Int64)), .int (own_dg w (1000000000000 : Int64)), .int (own_dg w (100000000000 : Int64)), .int (own_dg w (10000000000 : Int64)), .int (own_dg w (1000000000 : Int64)), .int (own_dg w (100000000 : Int64)), .int (own_dg w (10000000 : Int64)), .int (own_dg w (1000000 : Int64)), .int (own_dg w (100000 : Int64)), .int (own_dg w (10000 : Int64)), .int (own_dg w (1000 : Int64)), .int (0 : Int32), .int (0 : Int32), .int (0 : Int32), .int (0 : Int32), .int (0 : Int32), .int (0 : Int32), .int (0 : Int32), .int (0 : Int32), .int (0 : Int32), .int (0 : Int32), .int (0 : Int32), .int (0 : Int32), .int (0 : Int32), .int (0 : Int32)] (.int 0) := V33'
    have E33 := Ext.wr E31 W33 htx
    have N33 := Fr.snoc X33 N32 htx
    refine w_aload (n := 309) X33.here hx (hb hby at_307) rfl rfl rfl ?_
    refine w_bipush (z := (16 : Int32)) (n := 311) X33.here hx (hb hby at_309) rfl rfl ?_
    refine w_lload (n := 313) X33.here hx (hb hby at_311) rfl rfl ?_
    refine k_J (n := 316) X33 hx hZ hown (hw _ (List.mem_of_getElem? (i := 24) rfl)) (hb hby at_313) rfl ?_
    refine c_S (n := 319) (rest := [(.int (16 : Int32)), (.ref tx)]) (argsL := [.long w, .long (100 : Int64)]) X33 hx hZ hown (rmd l Z a0 hw [] w (100 : Int64) (own_pow_ne (P := 100) (by decide) (by decide)) h33) e33 (hw _ (List.mem_of_getElem? (i := 3) rfl)) (hw _ (List.mem_of_getElem? (i := 4) rfl)) (hw _ (List.mem_of_getElem? (i := 5) rfl)) (hw _ (List.mem_of_getElem? (i := 6) rfl)) (by decide) 2 (by decide) (by decide) (by decide) (by decide) (by rw [hml]; rfl) pd_0 rfl rfl (Nat.le_of_ble_eq_true rfl) (hb hby at_316) rfl (fun v34 T34 L34 X34 hQ34 => ?_)
    obtain ⟨rfl, e34, rfl⟩ := hQ34
    show Endz _ _ _ _ T34 (mkF m 319 #[.val (.long wr), .second, .val (.int fr), .val (.int tr), .val (.int fl), .val (.long w), .second, .val (.int hf), .val (.int ht), .val (.long f), .second, .val (.long t), .second, .val (.ref tx), .unset, .unset, .unset, .unset, .unset, .unset, .unset] [(.int (own_dg w (100 : Int64))), (.int (16 : Int32)), (.ref tx)])
    have N34 := Fr.app N33 (Fr.nil h0.size)
    refine s_B (n := 320) X34 hx hZ e34 V33 16 rfl (Nat.le_of_ble_eq_true rfl) (by decide) (by decide) (hb hby at_319) rfl (fun T35 h35 X35 e35 W35 V35' => ?_)
    rw [own_dgn] at V35'
    have V35 : Arv Z h35 tx kt .byte 30 [.int (own_dg w (1000000000000000000 : Int64)), .int (own_dg w (100000000000000000 : Int64)), .int (own_dg w (10000000000000000 : Int64)), .int (own_dg w (1000000000000000 : Int64)), .int (own_dg w (100000000000000 : Int64)), .int (own_dg w (10000000000000 : Int64)), .int (own_dg w (1000000000000 : Int64)), .int (own_dg w (100000000000 : Int64)), .int (own_dg w (10000000000 : Int64)), .int (own_dg w (1000000000 : Int64)), .int (own_dg w (100000000 : Int64)), .int (own_dg w (10000000 : Int64)), .int (own_dg w (1000000 : Int64)), .int (own_dg w (100000 : Int64)), .int (own_dg w (10000 : Int64)), .int (own_dg w (1000 : Int64)), .int (own_dg w (100 : Int64)), .int (0 : Int32), .int (0 : Int32), .int (0 : Int32), .int (0 : Int32), .int (0 : Int32), .int (0 : Int32), .int (0 : Int32), .int (0 : Int32), .int (0 : Int32), .int (0 : Int32), .int (0 : Int32), .int (0 : Int32), .int (0 : Int32)] (.int 0) := V35'
    have E35 := Ext.wr E33 W35 htx
    have N35 := Fr.snoc X35 N34 htx
    refine w_aload (n := 322) X35.here hx (hb hby at_320) rfl rfl rfl ?_
    refine w_bipush (z := (17 : Int32)) (n := 324) X35.here hx (hb hby at_322) rfl rfl ?_
    refine w_lload (n := 326) X35.here hx (hb hby at_324) rfl rfl ?_
    refine k_J (n := 329) X35 hx hZ hown (hw _ (List.mem_of_getElem? (i := 8) rfl)) (hb hby at_326) rfl ?_
    refine c_S (n := 332) (rest := [(.int (17 : Int32)), (.ref tx)]) (argsL := [.long w, .long (10 : Int64)]) X35 hx hZ hown (rmd l Z a0 hw [] w (10 : Int64) (own_pow_ne (P := 10) (by decide) (by decide)) h35) e35 (hw _ (List.mem_of_getElem? (i := 3) rfl)) (hw _ (List.mem_of_getElem? (i := 4) rfl)) (hw _ (List.mem_of_getElem? (i := 5) rfl)) (hw _ (List.mem_of_getElem? (i := 6) rfl)) (by decide) 2 (by decide) (by decide) (by decide) (by decide) (by rw [hml]; rfl) pd_0 rfl rfl (Nat.le_of_ble_eq_true rfl) (hb hby at_329) rfl (fun v36 T36 L36 X36 hQ36 => ?_)
    obtain ⟨rfl, e36, rfl⟩ := hQ36
    show Endz _ _ _ _ T36 (mkF m 332 #[.val (.long wr), .second, .val (.int fr), .val (.int tr), .val (.int fl), .val (.long w), .second, .val (.int hf), .val (.int ht), .val (.long f), .second, .val (.long t), .second, .val (.ref tx), .unset, .unset, .unset, .unset, .unset, .unset, .unset] [(.int (own_dg w (10 : Int64))), (.int (17 : Int32)), (.ref tx)])
    have N36 := Fr.app N35 (Fr.nil h0.size)
    refine s_B (n := 333) X36 hx hZ e36 V35 17 rfl (Nat.le_of_ble_eq_true rfl) (by decide) (by decide) (hb hby at_332) rfl (fun T37 h37 X37 e37 W37 V37' => ?_)
    rw [own_dgn] at V37'
    have V37 : Arv Z h37 tx kt .byte 30 [.int (own_dg w (1000000000000000000 : Int64)), .int (own_dg w (100000000000000000 : Int64)), .int (own_dg w (10000000000000000 : Int64)), .int (own_dg w (1000000000000000 : Int64)), .int (own_dg w (100000000000000 : Int64)), .int (own_dg w (10000000000000 : Int64)), .int (own_dg w (1000000000000 : Int64)), .int (own_dg w (100000000000 : Int64)), .int (own_dg w (10000000000 : Int64)), .int (own_dg w (1000000000 : Int64)), .int (own_dg w (100000000 : Int64)), .int (own_dg w (10000000 : Int64)), .int (own_dg w (1000000 : Int64)), .int (own_dg w (100000 : Int64)), .int (own_dg w (10000 : Int64)), .int (own_dg w (1000 : Int64)), .int (own_dg w (100 : Int64)), .int (own_dg w (10 : Int64)), .int (0 : Int32), .int (0 : Int32), .int (0 : Int32), .int (0 : Int32), .int (0 : Int32), .int (0 : Int32), .int (0 : Int32), .int (0 : Int32), .int (0 : Int32), .int (0 : Int32), .int (0 : Int32), .int (0 : Int32)] (.int 0) := V37'
    have E37 := Ext.wr E35 W37 htx
    have N37 := Fr.snoc X37 N36 htx
    refine w_aload (n := 335) X37.here hx (hb hby at_333) rfl rfl rfl ?_
    refine w_bipush (z := (18 : Int32)) (n := 337) X37.here hx (hb hby at_335) rfl rfl ?_
    refine w_lload (n := 339) X37.here hx (hb hby at_337) rfl rfl ?_
    refine w_lconst (z := (1 : Int64)) (n := 340) X37.here hx (hb hby at_339) rfl rfl ?_
    refine c_S (n := 343) (rest := [(.int (18 : Int32)), (.ref tx)]) (argsL := [.long w, .long (1 : Int64)]) X37 hx hZ hown (rmd l Z a0 hw [] w (1 : Int64) (own_pow_ne (P := 1) (by decide) (by decide)) h37) e37 (hw _ (List.mem_of_getElem? (i := 3) rfl)) (hw _ (List.mem_of_getElem? (i := 4) rfl)) (hw _ (List.mem_of_getElem? (i := 5) rfl)) (hw _ (List.mem_of_getElem? (i := 6) rfl)) (by decide) 2 (by decide) (by decide) (by decide) (by decide) (by rw [hml]; rfl) pd_0 rfl rfl (Nat.le_of_ble_eq_true rfl) (hb hby at_340) rfl (fun v38 T38 L38 X38 hQ38 => ?_)
    obtain ⟨rfl, e38, rfl⟩ := hQ38
    show Endz _ _ _ _ T38 (mkF m 343 #[.val (.long wr), .second, .val (.int fr), .val (.int tr), .val (.int fl), .val (.long w), .second, .val (.int hf), .val (.int ht), .val (.long f), .second, .val (.long t), .second, .val (.ref tx), .unset, .unset, .unset, .unset, .unset, .unset, .unset] [(.int (own_dg w (1 : Int64))), (.int (18 : Int32)), (.ref tx)])
    have N38 := Fr.app N37 (Fr.nil h0.size)
    refine s_B (n := 344) X38 hx hZ e38 V37 18 rfl (Nat.le_of_ble_eq_true rfl) (by decide) (by decide) (hb hby at_343) rfl (fun T39 h39 X39 e39 W39 V39' => ?_)
    rw [own_dgn] at V39'
    have V39 : Arv Z h39 tx kt .byte 30 [.int (own_dg w (1000000000000000000 : Int64)), .int (own_dg w (100000000000000000 : Int64)), .int (own_dg w (10000000000000000 : Int64)), .int (own_dg w (1000000000000000 : Int64)), .int (own_dg w (100000000000000 : Int64)), .int (own_dg w (10000000000000 : Int64)), .int (own_dg w (1000000000000 : Int64)), .int (own_dg w (100000000000 : Int64)), .int (own_dg w (10000000000 : Int64)), .int (own_dg w (1000000000 : Int64)), .int (own_dg w (100000000 : Int64)), .int (own_dg w (10000000 : Int64)), .int (own_dg w (1000000 : Int64)), .int (own_dg w (100000 : Int64)), .int (own_dg w (10000 : Int64)), .int (own_dg w (1000 : Int64)), .int (own_dg w (100 : Int64)), .int (own_dg w (10 : Int64)), .int (own_dg w (1 : Int64)), .int (0 : Int32), .int (0 : Int32), .int (0 : Int32), .int (0 : Int32), .int (0 : Int32), .int (0 : Int32), .int (0 : Int32), .int (0 : Int32), .int (0 : Int32), .int (0 : Int32), .int (0 : Int32)] (.int 0) := V39'
    have E39 := Ext.wr E37 W39 htx
    have N39 := Fr.snoc X39 N38 htx
    refine w_aload (n := 346) X39.here hx (hb hby at_344) rfl rfl rfl ?_
    refine w_bipush (z := (19 : Int32)) (n := 348) X39.here hx (hb hby at_346) rfl rfl ?_
    refine w_bipush (z := (46 : Int32)) (n := 350) X39.here hx (hb hby at_348) rfl rfl ?_
    refine s_B (n := 351) X39 hx hZ e39 V39 19 rfl (Nat.le_of_ble_eq_true rfl) (by decide) (by decide) (hb hby at_350) rfl (fun T40 h40 X40 e40 W40 V40' => ?_)
    have V40 : Arv Z h40 tx kt .byte 30 [.int (own_dg w (1000000000000000000 : Int64)), .int (own_dg w (100000000000000000 : Int64)), .int (own_dg w (10000000000000000 : Int64)), .int (own_dg w (1000000000000000 : Int64)), .int (own_dg w (100000000000000 : Int64)), .int (own_dg w (10000000000000 : Int64)), .int (own_dg w (1000000000000 : Int64)), .int (own_dg w (100000000000 : Int64)), .int (own_dg w (10000000000 : Int64)), .int (own_dg w (1000000000 : Int64)), .int (own_dg w (100000000 : Int64)), .int (own_dg w (10000000 : Int64)), .int (own_dg w (1000000 : Int64)), .int (own_dg w (100000 : Int64)), .int (own_dg w (10000 : Int64)), .int (own_dg w (1000 : Int64)), .int (own_dg w (100 : Int64)), .int (own_dg w (10 : Int64)), .int (own_dg w (1 : Int64)), .int (46 : Int32), .int (0 : Int32), .int (0 : Int32), .int (0 : Int32), .int (0 : Int32), .int (0 : Int32), .int (0 : Int32), .int (0 : Int32), .int (0 : Int32), .int (0 : Int32), .int (0 : Int32)] (.int 0) := V40'
    have E40 := Ext.wr E39 W40 htx
    have N40 := Fr.snoc X40 N39 htx
    refine w_aload (n := 353) X40.here hx (hb hby at_351) rfl rfl rfl ?_
    refine w_bipush (z := (20 : Int32)) (n := 355) X40.here hx (hb hby at_353) rfl rfl ?_
    refine w_lload (n := 357) X40.here hx (hb hby at_355) rfl rfl ?_
    refine k_J (n := 360) X40 hx hZ hown (hw _ (List.mem_of_getElem? (i := 18) rfl)) (hb hby at_357) rfl ?_
    refine c_S (n := 363) (rest := [(.int (20 : Int32)), (.ref tx)]) (argsL := [.long f, .long (100000000 : Int64)]) X40 hx hZ hown (rmd l Z a0 hw [] f (100000000 : Int64) (own_pow_ne (P := 100000000) (by decide) (by decide)) h40) e40 (hw _ (List.mem_of_getElem? (i := 3) rfl)) (hw _ (List.mem_of_getElem? (i := 4) rfl)) (hw _ (List.mem_of_getElem? (i := 5) rfl)) (hw _ (List.mem_of_getElem? (i := 6) rfl)) (by decide) 2 (by decide) (by decide) (by decide) (by decide) (by rw [hml]; rfl) pd_0 rfl rfl (Nat.le_of_ble_eq_true rfl) (hb hby at_360) rfl (fun v41 T41 L41 X41 hQ41 => ?_)
    obtain ⟨rfl, e41, rfl⟩ := hQ41
    show Endz _ _ _ _ T41 (mkF m 363 #[.val (.long wr), .second, .val (.int fr), .val (.int tr), .val (.int fl), .val (.long w), .second, .val (.int hf), .val (.int ht), .val (.long f), .second, .val (.long t), .second, .val (.ref tx), .unset, .unset, .unset, .unset, .unset, .unset, .unset] [(.int (own_dg f (100000000 : Int64))), (.int (20 : Int32)), (.ref tx)])
    have N41 := Fr.app N40 (Fr.nil h0.size)
    refine s_B (n := 364) X41 hx hZ e41 V40 20 rfl (Nat.le_of_ble_eq_true rfl) (by decide) (by decide) (hb hby at_363) rfl (fun T42 h42 X42 e42 W42 V42' => ?_)
    rw [own_dgn] at V42'
    have V42 : Arv Z h42 tx kt .byte 30 [.int (own_dg w (1000000000000000000 : Int64)), .int (own_dg w (100000000000000000 : Int64)), .int (own_dg w (10000000000000000 : Int64)), .int (own_dg w (1000000000000000 : Int64)), .int (own_dg w (100000000000000 : Int64)), .int (own_dg w (10000000000000 : Int64)), .int (own_dg w (1000000000000 : Int64)), .int (own_dg w (100000000000 : Int64)), .int (own_dg w (10000000000 : Int64)), .int (own_dg w (1000000000 : Int64)), .int (own_dg w (100000000 : Int64)), .int (own_dg w (10000000 : Int64)), .int (own_dg w (1000000 : Int64)), .int (own_dg w (100000 : Int64)), .int (own_dg w (10000 : Int64)), .int (own_dg w (1000 : Int64)), .int (own_dg w (100 : Int64)), .int (own_dg w (10 : Int64)), .int (own_dg w (1 : Int64)), .int (46 : Int32), .int (own_dg f (100000000 : Int64)), .int (0 : Int32), .int (0 : Int32), .int (0 : Int32), .int (0 : Int32), .int (0 : Int32), .int (0 : Int32), .int (0 : Int32), .int (0 : Int32), .int (0 : Int32)] (.int 0) := V42'
    have E42 := Ext.wr E40 W42 htx
    have N42 := Fr.snoc X42 N41 htx
    refine w_aload (n := 366) X42.here hx (hb hby at_364) rfl rfl rfl ?_
    refine w_bipush (z := (21 : Int32)) (n := 368) X42.here hx (hb hby at_366) rfl rfl ?_
    refine w_lload (n := 370) X42.here hx (hb hby at_368) rfl rfl ?_
    refine k_J (n := 373) X42 hx hZ hown (hw _ (List.mem_of_getElem? (i := 19) rfl)) (hb hby at_370) rfl ?_
    refine c_S (n := 376) (rest := [(.int (21 : Int32)), (.ref tx)]) (argsL := [.long f, .long (10000000 : Int64)]) X42 hx hZ hown (rmd l Z a0 hw [] f (10000000 : Int64) (own_pow_ne (P := 10000000) (by decide) (by decide)) h42) e42 (hw _ (List.mem_of_getElem? (i := 3) rfl)) (hw _ (List.mem_of_getElem? (i := 4) rfl)) (hw _ (List.mem_of_getElem? (i := 5) rfl)) (hw _ (List.mem_of_getElem? (i := 6) rfl)) (by decide) 2 (by decide) (by decide) (by decide) (by decide) (by rw [hml]; rfl) pd_0 rfl rfl (Nat.le_of_ble_eq_true rfl) (hb hby at_373) rfl (fun v43 T43 L43 X43 hQ43 => ?_)
    obtain ⟨rfl, e43, rfl⟩ := hQ43
    show Endz _ _ _ _ T43 (mkF m 376 #[.val (.long wr), .second, .val (.int fr), .val (.int tr), .val (.int fl), .val (.long w), .second, .val (.int hf), .val (.int ht), .val (.long f), .second, .val (.long t), .second, .val (.ref tx), .unset, .unset, .unset, .unset, .unset, .unset, .unset] [(.int (own_dg f (10000000 : Int64))), (.int (21 : Int32)), (.ref tx)])
    have N43 := Fr.app N42 (Fr.nil h0.size)
    refine s_B (n := 377) X43 hx hZ e43 V42 21 rfl (Nat.le_of_ble_eq_true rfl) (by decide) (by decide) (hb hby at_376) rfl (fun T44 h44 X44 e44 W44 V44' => ?_)
    rw [own_dgn] at V44'
    have V44 : Arv Z h44 tx kt .byte 30 [.int (own_dg w (1000000000000000000 : Int64)), .int (own_dg w (100000000000000000 : Int64)), .int (own_dg w (10000000000000000 : Int64)), .int (own_dg w (1000000000000000 : Int64)), .int (own_dg w (100000000000000 : Int64)), .int (own_dg w (10000000000000 : Int64)), .int (own_dg w (1000000000000 : Int64)), .int (own_dg w (100000000000 : Int64)), .int (own_dg w (10000000000 : Int64)), .int (own_dg w (1000000000 : Int64)), .int (own_dg w (100000000 : Int64)), .int (own_dg w (10000000 : Int64)), .int (own_dg w (1000000 : Int64)), .int (own_dg w (100000 : Int64)), .int (own_dg w (10000 : Int64)), .int (own_dg w (1000 : Int64)), .int (own_dg w (100 : Int64)), .int (own_dg w (10 : Int64)), .int (own_dg w (1 : Int64)), .int (46 : Int32), .int (own_dg f (100000000 : Int64)), .int (own_dg f (10000000 : Int64)), .int (0 : Int32), .int (0 : Int32), .int (0 : Int32), .int (0 : Int32), .int (0 : Int32), .int (0 : Int32), .int (0 : Int32), .int (0 : Int32)] (.int 0) := V44'
    have E44 := Ext.wr E42 W44 htx
    have N44 := Fr.snoc X44 N43 htx
    refine w_aload (n := 379) X44.here hx (hb hby at_377) rfl rfl rfl ?_
    refine w_bipush (z := (22 : Int32)) (n := 381) X44.here hx (hb hby at_379) rfl rfl ?_
    refine w_lload (n := 383) X44.here hx (hb hby at_381) rfl rfl ?_
    refine k_J (n := 386) X44 hx hZ hown (hw _ (List.mem_of_getElem? (i := 20) rfl)) (hb hby at_383) rfl ?_
    refine c_S (n := 389) (rest := [(.int (22 : Int32)), (.ref tx)]) (argsL := [.long f, .long (1000000 : Int64)]) X44 hx hZ hown (rmd l Z a0 hw [] f (1000000 : Int64) (own_pow_ne (P := 1000000) (by decide) (by decide)) h44) e44 (hw _ (List.mem_of_getElem? (i := 3) rfl)) (hw _ (List.mem_of_getElem? (i := 4) rfl)) (hw _ (List.mem_of_getElem? (i := 5) rfl)) (hw _ (List.mem_of_getElem? (i := 6) rfl)) (by decide) 2 (by decide) (by decide) (by decide) (by decide) (by rw [hml]; rfl) pd_0 rfl rfl (Nat.le_of_ble_eq_true rfl) (hb hby at_386) rfl (fun v45 T45 L45 X45 hQ45 => ?_)
    obtain ⟨rfl, e45, rfl⟩ := hQ45
    show Endz _ _ _ _ T45 (mkF m 389 #[.val (.long wr), .second, .val (.int fr), .val (.int tr), .val (.int fl), .val (.long w), .second, .val (.int hf), .val (.int ht), .val (.long f), .second, .val (.long t), .second, .val (.ref tx), .unset, .unset, .unset, .unset, .unset, .unset, .unset] [(.int (own_dg f (1000000 : Int64))), (.int (22 : Int32)), (.ref tx)])
    have N45 := Fr.app N44 (Fr.nil h0.size)
    refine s_B (n := 390) X45 hx hZ e45 V44 22 rfl (Nat.le_of_ble_eq_true rfl) (by decide) (by decide) (hb hby at_389) rfl (fun T46 h46 X46 e46 W46 V46' => ?_)
    rw [own_dgn] at V46'
    have V46 : Arv Z h46 tx kt .byte 30 [.int (own_dg w (1000000000000000000 : Int64)), .int (own_dg w (100000000000000000 : Int64)), .int (own_dg w (10000000000000000 : Int64)), .int (own_dg w (1000000000000000 : Int64)), .int (own_dg w (100000000000000 : Int64)), .int (own_dg w (10000000000000 : Int64)), .int (own_dg w (1000000000000 : Int64)), .int (own_dg w (100000000000 : Int64)), .int (own_dg w (10000000000 : Int64)), .int (own_dg w (1000000000 : Int64)), .int (own_dg w (100000000 : Int64)), .int (own_dg w (10000000 : Int64)), .int (own_dg w (1000000 : Int64)), .int (own_dg w (100000 : Int64)), .int (own_dg w (10000 : Int64)), .int (own_dg w (1000 : Int64)), .int (own_dg w (100 : Int64)), .int (own_dg w (10 : Int64)), .int (own_dg w (1 : Int64)), .int (46 : Int32), .int (own_dg f (100000000 : Int64)), .int (own_dg f (10000000 : Int64)), .int (own_dg f (1000000 : Int64)), .int (0 : Int32), .int (0 : Int32), .int (0 : Int32), .int (0 : Int32), .int (0 : Int32), .int (0 : Int32), .int (0 : Int32)] (.int 0) := V46'
    have E46 := Ext.wr E44 W46 htx
    have N46 := Fr.snoc X46 N45 htx
    refine w_aload (n := 392) X46.here hx (hb hby at_390) rfl rfl rfl ?_
    refine w_bipush (z := (23 : Int32)) (n := 394) X46.here hx (hb hby at_392) rfl rfl ?_
    refine w_lload (n := 396) X46.here hx (hb hby at_394) rfl rfl ?_
    refine k_J (n := 399) X46 hx hZ hown (hw _ (List.mem_of_getElem? (i := 21) rfl)) (hb hby at_396) rfl ?_
    refine c_S (n := 402) (rest := [(.int (23 : Int32)), (.ref tx)]) (argsL := [.long f, .long (100000 : Int64)]) X46 hx hZ hown (rmd l Z a0 hw [] f (100000 : Int64) (own_pow_ne (P := 100000) (by decide) (by decide)) h46) e46 (hw _ (List.mem_of_getElem? (i := 3) rfl)) (hw _ (List.mem_of_getElem? (i := 4) rfl)) (hw _ (List.mem_of_getElem? (i := 5) rfl)) (hw _ (List.mem_of_getElem? (i := 6) rfl)) (by decide) 2 (by decide) (by decide) (by decide) (by decide) (by rw [hml]; rfl) pd_0 rfl rfl (Nat.le_of_ble_eq_true rfl) (hb hby at_399) rfl (fun v47 T47 L47 X47 hQ47 => ?_)
    obtain ⟨rfl, e47, rfl⟩ := hQ47
    show Endz _ _ _ _ T47 (mkF m 402 #[.val (.long wr), .second, .val (.int fr), .val (.int tr), .val (.int fl), .val (.long w), .second, .val (.int hf), .val (.int ht), .val (.long f), .second, .val (.long t), .second, .val (.ref tx), .unset, .unset, .unset, .unset, .unset, .unset, .unset] [(.int (own_dg f (100000 : Int64))), (.int (23 : Int32)), (.ref tx)])
    have N47 := Fr.app N46 (Fr.nil h0.size)
    refine s_B (n := 403) X47 hx hZ e47 V46 23 rfl (Nat.le_of_ble_eq_true rfl) (by decide) (by decide) (hb hby at_402) rfl (fun T48 h48 X48 e48 W48 V48' => ?_)
    rw [own_dgn] at V48'
    have V48 : Arv Z h48 tx kt .byte 30 [.int (own_dg w (1000000000000000000 : Int64)), .int (own_dg w (100000000000000000 : Int64)), .int (own_dg w (10000000000000000 : Int64)), .int (own_dg w (1000000000000000 : Int64)), .int (own_dg w (100000000000000 : Int64)), .int (own_dg w (10000000000000 : Int64)), .int (own_dg w (1000000000000 : Int64)), .int (own_dg w (100000000000 : Int64)), .int (own_dg w (10000000000 : Int64)), .int (own_dg w (1000000000 : Int64)), .int (own_dg w (100000000 : Int64)), .int (own_dg w (10000000 : Int64)), .int (own_dg w (1000000 : Int64)), .int (own_dg w (100000 : Int64)), .int (own_dg w (10000 : Int64)), .int (own_dg w (1000 : Int64)), .int (own_dg w (100 : Int64)), .int (own_dg w (10 : Int64)), .int (own_dg w (1 : Int64)), .int (46 : Int32), .int (own_dg f (100000000 : Int64)), .int (own_dg f (10000000 : Int64)), .int (own_dg f (1000000 : Int64)), .int (own_dg f (100000 : Int64)), .int (0 : Int32), .int (0 : Int32), .int (0 : Int32), .int (0 : Int32), .int (0 : Int32), .int (0 : Int32)] (.int 0) := V48'
    have E48 := Ext.wr E46 W48 htx
    have N48 := Fr.snoc X48 N47 htx
    refine w_aload (n := 405) X48.here hx (hb hby at_403) rfl rfl rfl ?_
    refine w_bipush (z := (24 : Int32)) (n := 407) X48.here hx (hb hby at_405) rfl rfl ?_
    refine w_lload (n := 409) X48.here hx (hb hby at_407) rfl rfl ?_
    refine k_J (n := 412) X48 hx hZ hown (hw _ (List.mem_of_getElem? (i := 22) rfl)) (hb hby at_409) rfl ?_
    refine c_S (n := 415) (rest := [(.int (24 : Int32)), (.ref tx)]) (argsL := [.long f, .long (10000 : Int64)]) X48 hx hZ hown (rmd l Z a0 hw [] f (10000 : Int64) (own_pow_ne (P := 10000) (by decide) (by decide)) h48) e48 (hw _ (List.mem_of_getElem? (i := 3) rfl)) (hw _ (List.mem_of_getElem? (i := 4) rfl)) (hw _ (List.mem_of_getElem? (i := 5) rfl)) (hw _ (List.mem_of_getElem? (i := 6) rfl)) (by decide) 2 (by decide) (by decide) (by decide) (by decide) (by rw [hml]; rfl) pd_0 rfl rfl (Nat.le_of_ble_eq_true rfl) (hb hby at_412) rfl (fun v49 T49 L49 X49 hQ49 => ?_)
    obtain ⟨rfl, e49, rfl⟩ := hQ49
    show Endz _ _ _ _ T49 (mkF m 415 #[.val (.long wr), .second, .val (.int fr), .val (.int tr), .val (.int fl), .val (.long w), .second, .val (.int hf), .val (.int ht), .val (.long f), .second, .val (.long t), .second, .val (.ref tx), .unset, .unset, .unset, .unset, .unset, .unset, .unset] [(.int (own_dg f (10000 : Int64))), (.int (24 : Int32)), (.ref tx)])
    have N49 := Fr.app N48 (Fr.nil h0.size)
    refine s_B (n := 416) X49 hx hZ e49 V48 24 rfl (Nat.le_of_ble_eq_true rfl) (by decide) (by decide) (hb hby at_415) rfl (fun T50 h50 X50 e50 W50 V50' => ?_)
    rw [own_dgn] at V50'
    have V50 : Arv Z h50 tx kt .byte 30 [.int (own_dg w (1000000000000000000 : Int64)), .int (own_dg w (100000000000000000 : Int64)), .int (own_dg w (10000000000000000 : Int64)), .int (own_dg w (1000000000000000 : Int64)), .int (own_dg w (100000000000000 : Int64)), .int (own_dg w (10000000000000 : Int64)), .int (own_dg w (1000000000000 : Int64)), .int (own_dg w (100000000000 : Int64)), .int (own_dg w (10000000000 : Int64)), .int (own_dg w (1000000000 : Int64)), .int (own_dg w (100000000 : Int64)), .int (own_dg w (10000000 : Int64)), .int (own_dg w (1000000 : Int64)), .int (own_dg w (100000 : Int64)), .int (own_dg w (10000 : Int64)), .int (own_dg w (1000 : Int64)), .int (own_dg w (100 : Int64)), .int (own_dg w (10 : Int64)), .int (own_dg w (1 : Int64)), .int (46 : Int32), .int (own_dg f (100000000 : Int64)), .int (own_dg f (10000000 : Int64)), .int (own_dg f (1000000 : Int64)), .int (own_dg f (100000 : Int64)), .int (own_dg f (10000 : Int64)), .int (0 : Int32), .int (0 : Int32), .int (0 : Int32), .int (0 : Int32), .int (0 : Int32)] (.int 0) := V50'
    have E50 := Ext.wr E48 W50 htx
    have N50 := Fr.snoc X50 N49 htx
    refine w_aload (n := 418) X50.here hx (hb hby at_416) rfl rfl rfl ?_
    refine w_bipush (z := (25 : Int32)) (n := 420) X50.here hx (hb hby at_418) rfl rfl ?_
    refine w_lload (n := 422) X50.here hx (hb hby at_420) rfl rfl ?_
    refine k_J (n := 425) X50 hx hZ hown (hw _ (List.mem_of_getElem? (i := 23) rfl)) (hb hby at_422) rfl ?_
    refine c_S (n := 428) (rest := [(.int (25 : Int32)), (.ref tx)]) (argsL := [.long f, .long (1000 : Int64)]) X50 hx hZ hown (rmd l Z a0 hw [] f (1000 : Int64) (own_pow_ne (P := 1000) (by decide) (by decide)) h50) e50 (hw _ (List.mem_of_getElem? (i := 3) rfl)) (hw _ (List.mem_of_getElem? (i := 4) rfl)) (hw _ (List.mem_of_getElem? (i := 5) rfl)) (hw _ (List.mem_of_getElem? (i := 6) rfl)) (by decide) 2 (by decide) (by decide) (by decide) (by decide) (by rw [hml]; rfl) pd_0 rfl rfl (Nat.le_of_ble_eq_true rfl) (hb hby at_425) rfl (fun v51 T51 L51 X51 hQ51 => ?_)
    obtain ⟨rfl, e51, rfl⟩ := hQ51
    show Endz _ _ _ _ T51 (mkF m 428 #[.val (.long wr), .second, .val (.int fr), .val (.int tr), .val (.int fl), .val (.long w), .second, .val (.int hf), .val (.int ht), .val (.long f), .second, .val (.long t), .second, .val (.ref tx), .unset, .unset, .unset, .unset, .unset, .unset, .unset] [(.int (own_dg f (1000 : Int64))), (.int (25 : Int32)), (.ref tx)])
    have N51 := Fr.app N50 (Fr.nil h0.size)
    refine s_B (n := 429) X51 hx hZ e51 V50 25 rfl (Nat.le_of_ble_eq_true rfl) (by decide) (by decide) (hb hby at_428) rfl (fun T52 h52 X52 e52 W52 V52' => ?_)
    rw [own_dgn] at V52'
    have V52 : Arv Z h52 tx kt .byte 30 [.int (own_dg w (1000000000000000000 : Int64)), .int (own_dg w (100000000000000000 : Int64)), .int (own_dg w (10000000000000000 : Int64)), .int (own_dg w (1000000000000000 : Int64)), .int (own_dg w (100000000000000 : Int64)), .int (own_dg w (10000000000000 : Int64)), .int (own_dg w (1000000000000 : Int64)), .int (own_dg w (100000000000 : Int64)), .int (own_dg w (10000000000 : Int64)), .int (own_dg w (1000000000 : Int64)), .int (own_dg w (100000000 : Int64)), .int (own_dg w (10000000 : Int64)), .int (own_dg w (1000000 : Int64)), .int (own_dg w (100000 : Int64)), .int (own_dg w (10000 : Int64)), .int (own_dg w (1000 : Int64)), .int (own_dg w (100 : Int64)), .int (own_dg w (10 : Int64)), .int (own_dg w (1 : Int64)), .int (46 : Int32), .int (own_dg f (100000000 : Int64)), .int (own_dg f (10000000 : Int64)), .int (own_dg f (1000000 : Int64)), .int (own_dg f (100000 : Int64)), .int (own_dg f (10000 : Int64)), .int (own_dg f (1000 : Int64)), .int (0 : Int32), .int (0 : Int32), .int (0 : Int32), .int (0 : Int32)] (.int 0) := V52'
    have E52 := Ext.wr E50 W52 htx
    have N52 := Fr.snoc X52 N51 htx
    refine w_aload (n := 431) X52.here hx (hb hby at_429) rfl rfl rfl ?_
    refine w_bipush (z := (26 : Int32)) (n := 433) X52.here hx (hb hby at_431) rfl rfl ?_
    refine w_lload (n := 435) X52.here hx (hb hby at_433) rfl rfl ?_
    refine k_J (n := 438) X52 hx hZ hown (hw _ (List.mem_of_getElem? (i := 24) rfl)) (hb hby at_435) rfl ?_
    refine c_S (n := 441) (rest := [(.int (26 : Int32)), (.ref tx)]) (argsL := [.long f, .long (100 : Int64)]) X52 hx hZ hown (rmd l Z a0 hw [] f (100 : Int64) (own_pow_ne (P := 100) (by decide) (by decide)) h52) e52 (hw _ (List.mem_of_getElem? (i := 3) rfl)) (hw _ (List.mem_of_getElem? (i := 4) rfl)) (hw _ (List.mem_of_getElem? (i := 5) rfl)) (hw _ (List.mem_of_getElem? (i := 6) rfl)) (by decide) 2 (by decide) (by decide) (by decide) (by decide) (by rw [hml]; rfl) pd_0 rfl rfl (Nat.le_of_ble_eq_true rfl) (hb hby at_438) rfl (fun v53 T53 L53 X53 hQ53 => ?_)
    obtain ⟨rfl, e53, rfl⟩ := hQ53
    show Endz _ _ _ _ T53 (mkF m 441 #[.val (.long wr), .second, .val (.int fr), .val (.int tr), .val (.int fl), .val (.long w), .second, .val (.int hf), .val (.int ht), .val (.long f), .second, .val (.long t), .second, .val (.ref tx), .unset, .unset, .unset, .unset, .unset, .unset, .unset] [(.int (own_dg f (100 : Int64))), (.int (26 : Int32)), (.ref tx)])
    have N53 := Fr.app N52 (Fr.nil h0.size)
    refine s_B (n := 442) X53 hx hZ e53 V52 26 rfl (Nat.le_of_ble_eq_true rfl) (by decide) (by decide) (hb hby at_441) rfl (fun T54 h54 X54 e54 W54 V54' => ?_)
    rw [own_dgn] at V54'
    have V54 : Arv Z h54 tx kt .byte 30 [.int (own_dg w (1000000000000000000 : Int64)), .int (own_dg w (100000000000000000 : Int64)), .int (own_dg w (10000000000000000 : Int64)), .int (own_dg w (1000000000000000 : Int64)), .int (own_dg w (100000000000000 : Int64)), .int (own_dg w (10000000000000 : Int64)), .int (own_dg w (1000000000000 : Int64)), .int (own_dg w (100000000000 : Int64)), .int (own_dg w (10000000000 : Int64)), .int (own_dg w (1000000000 : Int64)), .int (own_dg w (100000000 : Int64)), .int (own_dg w (10000000 : Int64)), .int (own_dg w (1000000 : Int64)), .int (own_dg w (100000 : Int64)), .int (own_dg w (10000 : Int64)), .int (own_dg w (1000 : Int64)), .int (own_dg w (100 : Int64)), .int (own_dg w (10 : Int64)), .int (own_dg w (1 : Int64)), .int (46 : Int32), .int (own_dg f (100000000 : Int64)), .int (own_dg f (10000000 : Int64)), .int (own_dg f (1000000 : Int64)), .int (own_dg f (100000 : Int64)), .int (own_dg f (10000 : Int64)), .int (own_dg f (1000 : Int64)), .int (own_dg f (100 : Int64)), .int (0 : Int32), .int (0 : Int32), .int (0 : Int32)] (.int 0) := V54'
    have E54 := Ext.wr E52 W54 htx
    have N54 := Fr.snoc X54 N53 htx
    refine w_aload (n := 444) X54.here hx (hb hby at_442) rfl rfl rfl ?_
    refine w_bipush (z := (27 : Int32)) (n := 446) X54.here hx (hb hby at_444) rfl rfl ?_
    refine w_lload (n := 448) X54.here hx (hb hby at_446) rfl rfl ?_
    refine k_J (n := 451) X54 hx hZ hown (hw _ (List.mem_of_getElem? (i := 8) rfl)) (hb hby at_448) rfl ?_
    refine c_S (n := 454) (rest := [(.int (27 : Int32)), (.ref tx)]) (argsL := [.long f, .long (10 : Int64)]) X54 hx hZ hown (rmd l Z a0 hw [] f (10 : Int64) (own_pow_ne (P := 10) (by decide) (by decide)) h54) e54 (hw _ (List.mem_of_getElem? (i := 3) rfl)) (hw _ (List.mem_of_getElem? (i := 4) rfl)) (hw _ (List.mem_of_getElem? (i := 5) rfl)) (hw _ (List.mem_of_getElem? (i := 6) rfl)) (by decide) 2 (by decide) (by decide) (by decide) (by decide) (by rw [hml]; rfl) pd_0 rfl rfl (Nat.le_of_ble_eq_true rfl) (hb hby at_451) rfl (fun v55 T55 L55 X55 hQ55 => ?_)
    obtain ⟨rfl, e55, rfl⟩ := hQ55
    show Endz _ _ _ _ T55 (mkF m 454 #[.val (.long wr), .second, .val (.int fr), .val (.int tr), .val (.int fl), .val (.long w), .second, .val (.int hf), .val (.int ht), .val (.long f), .second, .val (.long t), .second, .val (.ref tx), .unset, .unset, .unset, .unset, .unset, .unset, .unset] [(.int (own_dg f (10 : Int64))), (.int (27 : Int32)), (.ref tx)])
    have N55 := Fr.app N54 (Fr.nil h0.size)
    refine s_B (n := 455) X55 hx hZ e55 V54 27 rfl (Nat.le_of_ble_eq_true rfl) (by decide) (by decide) (hb hby at_454) rfl (fun T56 h56 X56 e56 W56 V56' => ?_)
    rw [own_dgn] at V56'
    have V56 : Arv Z h56 tx kt .byte 30 [.int (own_dg w (1000000000000000000 : Int64)), .int (own_dg w (100000000000000000 : Int64)), .int (own_dg w (10000000000000000 : Int64)), .int (own_dg w (1000000000000000 : Int64)), .int (own_dg w (100000000000000 : Int64)), .int (own_dg w (10000000000000 : Int64)), .int (own_dg w (1000000000000 : Int64)), .int (own_dg w (100000000000 : Int64)), .int (own_dg w (10000000000 : Int64)), .int (own_dg w (1000000000 : Int64)), .int (own_dg w (100000000 : Int64)), .int (own_dg w (10000000 : Int64)), .int (own_dg w (1000000 : Int64)), .int (own_dg w (100000 : Int64)), .int (own_dg w (10000 : Int64)), .int (own_dg w (1000 : Int64)), .int (own_dg w (100 : Int64)), .int (own_dg w (10 : Int64)), .int (own_dg w (1 : Int64)), .int (46 : Int32), .int (own_dg f (100000000 : Int64)), .int (own_dg f (10000000 : Int64)), .int (own_dg f (1000000 : Int64)), .int (own_dg f (100000 : Int64)), .int (own_dg f (10000 : Int64)), .int (own_dg f (1000 : Int64)), .int (own_dg f (100 : Int64)), .int (own_dg f (10 : Int64)), .int (0 : Int32), .int (0 : Int32)] (.int 0) := V56'
    have E56 := Ext.wr E54 W56 htx
    have N56 := Fr.snoc X56 N55 htx
    refine w_aload (n := 457) X56.here hx (hb hby at_455) rfl rfl rfl ?_
    refine w_bipush (z := (28 : Int32)) (n := 459) X56.here hx (hb hby at_457) rfl rfl ?_
    refine w_lload (n := 461) X56.here hx (hb hby at_459) rfl rfl ?_
    refine w_lconst (z := (1 : Int64)) (n := 462) X56.here hx (hb hby at_461) rfl rfl ?_
    refine c_S (n := 465) (rest := [(.int (28 : Int32)), (.ref tx)]) (argsL := [.long f, .long (1 : Int64)]) X56 hx hZ hown (rmd l Z a0 hw [] f (1 : Int64) (own_pow_ne (P := 1) (by decide) (by decide)) h56) e56 (hw _ (List.mem_of_getElem? (i := 3) rfl)) (hw _ (List.mem_of_getElem? (i := 4) rfl)) (hw _ (List.mem_of_getElem? (i := 5) rfl)) (hw _ (List.mem_of_getElem? (i := 6) rfl)) (by decide) 2 (by decide) (by decide) (by decide) (by decide) (by rw [hml]; rfl) pd_0 rfl rfl (Nat.le_of_ble_eq_true rfl) (hb hby at_462) rfl (fun v57 T57 L57 X57 hQ57 => ?_)
    obtain ⟨rfl, e57, rfl⟩ := hQ57
    show Endz _ _ _ _ T57 (mkF m 465 #[.val (.long wr), .second, .val (.int fr), .val (.int tr), .val (.int fl), .val (.long w), .second, .val (.int hf), .val (.int ht), .val (.long f), .second, .val (.long t), .second, .val (.ref tx), .unset, .unset, .unset, .unset, .unset, .unset, .unset] [(.int (own_dg f (1 : Int64))), (.int (28 : Int32)), (.ref tx)])
    have N57 := Fr.app N56 (Fr.nil h0.size)
    refine s_B (n := 466) X57 hx hZ e57 V56 28 rfl (Nat.le_of_ble_eq_true rfl) (by decide) (by decide) (hb hby at_465) rfl (fun T58 h58 X58 e58 W58 V58' => ?_)
    rw [own_dgn] at V58'
    have V58 : Arv Z h58 tx kt .byte 30 [.int (own_dg w (1000000000000000000 : Int64)), .int (own_dg w (100000000000000000 : Int64)), .int (own_dg w (10000000000000000 : Int64)), .int (own_dg w (1000000000000000 : Int64)), .int (own_dg w (100000000000000 : Int64)), .int (own_dg w (10000000000000 : Int64)), .int (own_dg w (1000000000000 : Int64)), .int (own_dg w (100000000000 : Int64)), .int (own_dg w (10000000000 : Int64)), .int (own_dg w (1000000000 : Int64)), .int (own_dg w (100000000 : Int64)), .int (own_dg w (10000000 : Int64)), .int (own_dg w (1000000 : Int64)), .int (own_dg w (100000 : Int64)), .int (own_dg w (10000 : Int64)), .int (own_dg w (1000 : Int64)), .int (own_dg w (100 : Int64)), .int (own_dg w (10 : Int64)), .int (own_dg w (1 : Int64)), .int (46 : Int32), .int (own_dg f (100000000 : Int64)), .int (own_dg f (10000000 : Int64)), .int (own_dg f (1000000 : Int64)), .int (own_dg f (100000 : Int64)), .int (own_dg f (10000 : Int64)), .int (own_dg f (1000 : Int64)), .int (own_dg f (100 : Int64)), .int (own_dg f (10 : Int64)), .int (own_dg f (1 : Int64)), .int (0 : Int32)] (.int 0) := V58'
    have E58 := Ext.wr E56 W58 htx
    have N58 := Fr.snoc X58 N57 htx
    refine w_aload (n := 468) X58.here hx (hb hby at_466) rfl rfl rfl ?_
    refine w_bipush (z := (29 : Int32)) (n := 470) X58.here hx (hb hby at_468) rfl rfl ?_
    refine w_lload (n := 472) X58.here hx (hb hby at_470) rfl rfl ?_
    refine w_lconst (z := (1 : Int64)) (n := 473) X58.here hx (hb hby at_472) rfl rfl ?_
    refine c_S (n := 476) (rest := [(.int (29 : Int32)), (.ref tx)]) (argsL := [.long t, .long (1 : Int64)]) X58 hx hZ hown (rmd l Z a0 hw [] t (1 : Int64) (own_pow_ne (P := 1) (by decide) (by decide)) h58) e58 (hw _ (List.mem_of_getElem? (i := 3) rfl)) (hw _ (List.mem_of_getElem? (i := 4) rfl)) (hw _ (List.mem_of_getElem? (i := 5) rfl)) (hw _ (List.mem_of_getElem? (i := 6) rfl)) (by decide) 2 (by decide) (by decide) (by decide) (by decide) (by rw [hml]; rfl) pd_0 rfl rfl (Nat.le_of_ble_eq_true rfl) (hb hby at_473) rfl (fun v59 T59 L59 X59 hQ59 => ?_)
    obtain ⟨rfl, e59, rfl⟩ := hQ59
    show Endz _ _ _ _ T59 (mkF m 476 #[.val (.long wr), .second, .val (.int fr), .val (.int tr), .val (.int fl), .val (.long w), .second, .val (.int hf), .val (.int ht), .val (.long f), .second, .val (.long t), .second, .val (.ref tx), .unset, .unset, .unset, .unset, .unset, .unset, .unset] [(.int (own_dg t (1 : Int64))), (.int (29 : Int32)), (.ref tx)])
    have N59 := Fr.app N58 (Fr.nil h0.size)
    refine s_B (n := 477) X59 hx hZ e59 V58 29 rfl (Nat.le_of_ble_eq_true rfl) (by decide) (by decide) (hb hby at_476) rfl (fun T60 h60 X60 e60 W60 V60' => ?_)
    rw [own_dgn] at V60'
    have V60 : Arv Z h60 tx kt .byte 30 [.int (own_dg w (1000000000000000000 : Int64)), .int (own_dg w (100000000000000000 : Int64)), .int (own_dg w (10000000000000000 : Int64)), .int (own_dg w (1000000000000000 : Int64)), .int (own_dg w (100000000000000 : Int64)), .int (own_dg w (10000000000000 : Int64)), .int (own_dg w (1000000000000 : Int64)), .int (own_dg w (100000000000 : Int64)), .int (own_dg w (10000000000 : Int64)), .int (own_dg w (1000000000 : Int64)), .int (own_dg w (100000000 : Int64)), .int (own_dg w (10000000 : Int64)), .int (own_dg w (1000000 : Int64)), .int (own_dg w (100000 : Int64)), .int (own_dg w (10000 : Int64)), .int (own_dg w (1000 : Int64)), .int (own_dg w (100 : Int64)), .int (own_dg w (10 : Int64)), .int (own_dg w (1 : Int64)), .int (46 : Int32), .int (own_dg f (100000000 : Int64)), .int (own_dg f (10000000 : Int64)), .int (own_dg f (1000000 : Int64)), .int (own_dg f (100000 : Int64)), .int (own_dg f (10000 : Int64)), .int (own_dg f (1000 : Int64)), .int (own_dg f (100 : Int64)), .int (own_dg f (10 : Int64)), .int (own_dg f (1 : Int64)), .int (own_dg t (1 : Int64))] (.int 0) := V60'
    have E60 := Ext.wr E58 W60 htx
    have N60 := Fr.snoc X60 N59 htx
    refine w_bipush (z := (19 : Int32)) (n := 479) X60.here hx (hb hby at_477) rfl rfl ?_
    refine w_lload (n := 481) X60.here hx (hb hby at_479) rfl rfl ?_
    refine c_S (n := 484) (rest := [(.int (19 : Int32))]) (argsL := [.long w]) X60 hx hZ hown (rml l Z a0 hw [] w h60) e60 (hw _ (List.mem_of_getElem? (i := 25) rfl)) (hw _ (List.mem_of_getElem? (i := 26) rfl)) (hw _ (List.mem_of_getElem? (i := 5) rfl)) (hw _ (List.mem_of_getElem? (i := 27) rfl)) (by decide) 1 (by decide) (by decide) (by decide) (by decide) (by rw [hml]; rfl) pd_1 rfl rfl (Nat.le_of_ble_eq_true rfl) (hb hby at_481) rfl (fun v61 T61 L61 X61 hQ61 => ?_)
    obtain ⟨D, hD, rfl, e61, rfl⟩ := hQ61
    show Endz _ _ _ _ T61 (mkF m 484 #[.val (.long wr), .second, .val (.int fr), .val (.int tr), .val (.int fl), .val (.long w), .second, .val (.int hf), .val (.int ht), .val (.long f), .second, .val (.long t), .second, .val (.ref tx), .unset, .unset, .unset, .unset, .unset, .unset, .unset] [(.int (Int32.ofNat D)), (.int (19 : Int32))])
    have NB := Fr.app N60 (Fr.nil h0.size)
    refine w_isub (n := 485) X61.here hx (hb hby at_484) rfl ?_
    rw [own_19 (show D ≤ 19 by have := hD.2.1; omega)]
    refine w_istore (Ls' := #[.val (.long wr), .second, .val (.int fr), .val (.int tr), .val (.int fl), .val (.long w), .second, .val (.int hf), .val (.int ht), .val (.long f), .second, .val (.long t), .second, .val (.ref tx), .val (.int (Int32.ofNat (19 - D))), .unset, .unset, .unset, .unset, .unset, .unset]) (n := 487) X61.here hx (hb hby at_485) rfl rfl ?_
    refine w_iload (n := 489) X61.here hx (hb hby at_487) rfl rfl ?_
    have tail509 : ∀ E : Nat, ((E = 19 ∧ f = 0 ∧ t = 0) ∨ (E = 29 ∧ t = 0) ∨ E = 30) → Endz p.tables e below (Finz s room_1 (fun v _ L => v = some (.int 1) ∧ Fr h0.size L)) T61 (mkF m 509 #[.val (.long wr), .second, .val (.int fr), .val (.int tr), .val (.int fl), .val (.long w), .second, .val (.int hf), .val (.int ht), .val (.long f), .second, .val (.long t), .second, .val (.ref tx), .val (.int (Int32.ofNat (19 - D))), .unset, .unset, .unset, .unset, .unset, .unset] [(.int (Int32.ofNat E))]) := by
      intro E hE
      have hE1 : 19 ≤ E ∧ E ≤ 30 := by rcases hE with h | h | h <;> omega
      obtain ⟨hd1, hd2, -⟩ := id hD
      refine w_istore (Ls' := #[.val (.long wr), .second, .val (.int fr), .val (.int tr), .val (.int fl), .val (.long w), .second, .val (.int hf), .val (.int ht), .val (.long f), .second, .val (.long t), .second, .val (.ref tx), .val (.int (Int32.ofNat (19 - D))), .val (.int (Int32.ofNat E)), .unset, .unset, .unset, .unset, .unset]) (n := 511) X61.here hx (hb hby at_509) rfl rfl ?_
      refine n_O (n := 514) X61 hx hZ hown (hw _ (List.mem_of_getElem? (i := 28) rfl)) (hw _ (List.mem_of_getElem? (i := 29) rfl)) (hw _ (List.mem_of_getElem? (i := 30) rfl)) e61 (hb hby at_511) rfl (by decide) (by decide) (fun T62 h62 na gna X62 e62 EE62 A62 D62 _ => ?_)
      have hna : h60.size ≤ na := Nat.le_of_eq gna.symm
      have hna0 : h0.size ≤ na := Nat.le_trans E60.1 hna
      have NM : own_Num Z h62 na 0 0 0 0 0 := ⟨A62, D62 (Or.inl (hw _ (List.mem_of_getElem? (i := 43) rfl))) (ty := .boolean) (by decide), D62 (Or.inl (hw _ (List.mem_of_getElem? (i := 45) rfl))) (ty := .long) (by decide), D62 (Or.inl (hw _ (List.mem_of_getElem? (i := 47) rfl))) (ty := .long) (by decide), D62 (Or.inl (hw _ (List.mem_of_getElem? (i := 49) rfl))) (ty := .boolean) (by decide), D62 (Or.inl (hw _ (List.mem_of_getElem? (i := 51) rfl))) (ty := .boolean) (by decide)⟩
      have EX : Ext h0 h62 := Ext.tr E60 EE62
      have RI : own_RI Z h62 na tx pw kt kp 30 (own_bs w f t) h62 0 0 0 0 0 := ⟨Keep.refl _ _, V60.ext EE62, SP.ext EX, VP.ext EX, NM⟩
      have n1 : tx ≠ na := Nat.ne_of_lt (Nat.lt_of_lt_of_le V60.lt hna)
      have n2 : pw ≠ na := Nat.ne_of_lt (Nat.lt_of_lt_of_le (VP.ext E60).lt hna)
      refine w_dup (n := 515) X62.here hx (hb hby at_514) rfl rfl ?_
      refine c_N (n := 518) (argsL := []) (rest := [.ref na]) X62 hx hZ rfl hown (rmi l Z a0 hw [] na h62) e62 (hw _ (List.mem_of_getElem? (i := 31) rfl)) (hw _ (List.mem_of_getElem? (i := 32) rfl)) (hw _ (List.mem_of_getElem? (i := 30) rfl)) (hw _ (List.mem_of_getElem? (i := 33) rfl)) (by decide) 1 (by decide) (by decide) (by decide) (by decide) (by rw [hml]; rfl) pd_2 rfl rfl (Nat.le_of_ble_eq_true rfl) (hb hby at_515) rfl (fun v63 T63 L63 X63 hQ63 => ?_)
      obtain ⟨rfl, e63, rfl⟩ := hQ63
      show Endz _ _ _ _ T63 (mkF m 518 #[.val (.long wr), .second, .val (.int fr), .val (.int tr), .val (.int fl), .val (.long w), .second, .val (.int hf), .val (.int ht), .val (.long f), .second, .val (.long t), .second, .val (.ref tx), .val (.int (Int32.ofNat (19 - D))), .val (.int (Int32.ofNat E)), .unset, .unset, .unset, .unset, .unset] [(.ref na)])
      refine w_astore (Ls' := #[.val (.long wr), .second, .val (.int fr), .val (.int tr), .val (.int fl), .val (.long w), .second, .val (.int hf), .val (.int ht), .val (.long f), .second, .val (.long t), .second, .val (.ref tx), .val (.int (Int32.ofNat (19 - D))), .val (.int (Int32.ofNat E)), .val (.ref na), .unset, .unset, .unset, .unset]) (n := 520) X63.here hx (hb hby at_518) rfl rfl rfl ?_
      refine w_aload (n := 522) X63.here hx (hb hby at_520) rfl rfl rfl ?_
      refine w_aload (n := 524) X63.here hx (hb hby at_522) rfl rfl rfl ?_
      refine w_iload (n := 526) X63.here hx (hb hby at_524) rfl rfl ?_
      refine w_iload (n := 528) X63.here hx (hb hby at_526) rfl rfl ?_
      obtain ⟨pt, hpt⟩ : ∃ q, own_ptc (own_bs w f t) (19 - D) (E - (19 - D)) = q := ⟨_, rfl⟩
      obtain ⟨poe, hpoe⟩ : ∃ q, (if ¬ pt < 0 then pt else Int32.ofNat E) = q := ⟨_, rfl⟩
      obtain ⟨σF, hσ⟩ : ∃ q, own_rd (own_bs w f t) pt poe 0 (E - (19 - D)) (19 - D) (0, 0, 0, 0) = q := ⟨_, rfl⟩
      have hBB := own_B (w := w) (f := f) (t := t) hw0 hf0 ht0
      have tq1 : (45 : Int32).toInt = 45 := by decide
      have tq2 : (101 : Int32).toInt = 101 := by decide
      have tq3 : (69 : Int32).toInt = 69 := by decide
      have hne45 : ¬ (own_bs w f t).getD (19 - D) 0 = 45 := fun q => by have := (hBB (19 - D) (by omega) (by omega)).1; rw [q, tq1] at this; omega
      have hnoe : ∀ i, 19 - D ≤ i → i < E → ¬ (own_bs w f t).getD i 0 = 101 ∧ ¬ (own_bs w f t).getD i 0 = 69 := fun i h1 h2 => by
        by_cases h19 : i = 19
        · subst h19; exact ⟨by show ¬ (46 : Int32) = 101; decide, by show ¬ (46 : Int32) = 69; decide⟩
        · have := (hBB i (by omega) h19).2
          exact ⟨fun q => by rw [q, tq2] at this; omega, fun q => by rw [q, tq3] at this; omega⟩
      refine c_V (n := 531) (argsL := [.ref tx, .int (Int32.ofNat (19 - D)), .int (Int32.ofNat E)]) (rest := []) X63 hx hZ hown (rmr l Z a0 hw [] na tx pw kt kp 30 (own_bs w f t) (19 - D) E 30 h0.size 0 0 0 0 0 pt poe σF h62 RI n1 n2 hna0 rfl (by omega) (by omega) (by omega) hne45 hnoe hpt hpoe hσ) e63 A62 (hw _ (List.mem_of_getElem? (i := 37) rfl)) (hw _ (List.mem_of_getElem? (i := 38) rfl)) (notFace_of_selects (args := #[]) (mvT hZ (hw _ (List.mem_of_getElem? (i := 40) rfl)))) (hw _ (List.mem_of_getElem? (i := 40) rfl)) (hw _ (List.mem_of_getElem? (i := 39) rfl)) (hw _ (List.mem_of_getElem? (i := 30) rfl)) (hw _ (List.mem_of_getElem? (i := 41) rfl)) (by decide) 0 (by decide) (by decide) (by decide) (by decide) (by rw [hml]; rfl) pd_3 rfl rfl (Nat.le_of_ble_eq_true rfl) (hb hby at_528) rfl (fun v64 T64 L64 X64 hQ64 => ?_)
      obtain ⟨rfl, NR, RF⟩ := hQ64
      show Endz _ _ _ _ T64 (mkF m 531 #[.val (.long wr), .second, .val (.int fr), .val (.int tr), .val (.int fl), .val (.long w), .second, .val (.int hf), .val (.int ht), .val (.long f), .second, .val (.long t), .second, .val (.ref tx), .val (.int (Int32.ofNat (19 - D))), .val (.int (Int32.ofNat E)), .val (.ref na), .unset, .unset, .unset, .unset] [])
      have NF := Fr.app (Fr.app NB (Fr.nil h0.size)) NR
      have hlaw := own_law hw0 hf0 hf9 ht0 ht9 hD rfl hE hpt hpoe hσ
      refine k_J (n := 534) X64 hx hZ hown (hw _ (List.mem_of_getElem? (i := 55) rfl)) (hb hby at_531) rfl ?_
      refine w_lstore (Ls' := #[.val (.long wr), .second, .val (.int fr), .val (.int tr), .val (.int fl), .val (.long w), .second, .val (.int hf), .val (.int ht), .val (.long f), .second, .val (.long t), .second, .val (.ref tx), .val (.int (Int32.ofNat (19 - D))), .val (.int (Int32.ofNat E)), .val (.ref na), .val (.long (9223372036000000000 : Int64)), .second, .unset, .unset]) (n := 536) X64.here hx (hb hby at_534) rfl rfl ?_
      refine w_lload (n := 538) X64.here hx (hb hby at_536) rfl rfl ?_
      refine k_J (n := 541) X64 hx hZ hown (hw _ (List.mem_of_getElem? (i := 56) rfl)) (hb hby at_538) rfl ?_
      refine w_lcmp (n := 542) X64.here hx (hb hby at_541) rfl ?_
      have tail572 : ∀ ex : Int64, (¬ w < 9223372036 → ex = 9223372036000000000) → (w < 9223372036 → ex = w * 1000000000 + f + (if t = 0 then 0 else 1)) → Endz p.tables e below (Finz s room_1 (fun v _ L => v = some (.int 1) ∧ Fr h0.size L)) T64 (mkF m 572 #[.val (.long wr), .second, .val (.int fr), .val (.int tr), .val (.int fl), .val (.long w), .second, .val (.int hf), .val (.int ht), .val (.long f), .second, .val (.long t), .second, .val (.ref tx), .val (.int (Int32.ofNat (19 - D))), .val (.int (Int32.ofNat E)), .val (.ref na), .val (.long (9223372036000000000 : Int64)), .second, .unset, .unset] [(.long ex)]) := by
        intro ex x1 x2
        obtain ⟨f1, f2⟩ := own_fin hw0 hf0 hf9 ht0 hlaw x1 x2
        refine w_lstore (Ls' := #[.val (.long wr), .second, .val (.int fr), .val (.int tr), .val (.int fl), .val (.long w), .second, .val (.int hf), .val (.int ht), .val (.long f), .second, .val (.long t), .second, .val (.ref tx), .val (.int (Int32.ofNat (19 - D))), .val (.int (Int32.ofNat E)), .val (.ref na), .val (.long (9223372036000000000 : Int64)), .second, .val (.long ex), .second]) (n := 574) X64.here hx (hb hby at_572) rfl rfl ?_
        refine w_aload (n := 576) X64.here hx (hb hby at_574) rfl rfl rfl ?_
        refine c_V (n := 579) (argsL := []) (rest := []) X64 hx hZ hown (rmn l Z a0 hw [] na 0 σF.1 σF.2.1 σF.2.2.1 σF.2.2.2 _ RF.2.2.2.2) rfl RF.2.2.2.2.1 (hw _ (List.mem_of_getElem? (i := 57) rfl)) (hw _ (List.mem_of_getElem? (i := 58) rfl)) (notFace_of_selects (args := #[]) (mvT hZ (hw _ (List.mem_of_getElem? (i := 60) rfl)))) (hw _ (List.mem_of_getElem? (i := 60) rfl)) (hw _ (List.mem_of_getElem? (i := 59) rfl)) (hw _ (List.mem_of_getElem? (i := 30) rfl)) (hw _ (List.mem_of_getElem? (i := 61) rfl)) (by decide) 0 (by decide) (by decide) (by decide) (by decide) (by rw [hml]; rfl) pd_4 rfl rfl (Nat.le_of_ble_eq_true rfl) (hb hby at_576) rfl (fun v65 T65 L65 X65 hQ65 => ?_)
        obtain ⟨hv65, e65, rfl⟩ := hQ65
        obtain rfl : v65 = some (.long ex) := by
          rcases hv65 with ⟨q1, q2⟩ | ⟨q1, q2⟩
          · rw [q2, f1 q1]
          · rw [q2, f2 q1]
        show Endz _ _ _ _ T65 (mkF m 579 #[.val (.long wr), .second, .val (.int fr), .val (.int tr), .val (.int fl), .val (.long w), .second, .val (.int hf), .val (.int ht), .val (.long f), .second, .val (.long t), .second, .val (.ref tx), .val (.int (Int32.ofNat (19 - D))), .val (.int (Int32.ofNat E)), .val (.ref na), .val (.long (9223372036000000000 : Int64)), .second, .val (.long ex), .second] [(.long ex)])
        refine w_lload (n := 581) X65.here hx (hb hby at_579) rfl rfl ?_
        refine w_lcmp (n := 582) X65.here hx (hb hby at_581) rfl ?_
        refine w_ifne (n1 := 589) (n2 := 585) X65.here hx (hb hby at_582) (by decide) (by decide) rfl (fun hc582 => absurd ((lw_eq ex ex).mpr rfl) hc582) (fun hc582 => ?_)
        refine w_iconst (z := (1 : Int32)) (n := 586) X65.here hx (hb hby at_585) rfl rfl ?_
        refine w_goto (n := 590) X65.here hx (hb hby at_586) (by decide) (by decide) ?_
        exact fin_Z X65 hx hlk e65 hret (Or.inl rfl) (hb hby at_590) (by decide) (by decide) ⟨rfl, Fr.app NF (Fr.nil h0.size)⟩
      refine w_iflt (n1 := 550) (n2 := 545) X64.here hx (hb hby at_542) (by decide) (by decide) rfl (fun hc542 => ?_) (fun hc542 => ?_)
      · have hl : w < 9223372036 := (lw_lt _ _).mp hc542
        refine w_lload (n := 552) X64.here hx (hb hby at_550) rfl rfl ?_
        refine k_J (n := 555) X64 hx hZ hown (hw _ (List.mem_of_getElem? (i := 17) rfl)) (hb hby at_552) rfl ?_
        refine w_lmul (n := 556) X64.here hx (hb hby at_555) rfl ?_
        refine w_lload (n := 558) X64.here hx (hb hby at_556) rfl rfl ?_
        refine w_ladd (n := 559) X64.here hx (hb hby at_558) rfl ?_
        refine w_lload (n := 561) X64.here hx (hb hby at_559) rfl rfl ?_
        refine w_lconst (z := (0 : Int64)) (n := 562) X64.here hx (hb hby at_561) rfl rfl ?_
        refine w_lcmp (n := 563) X64.here hx (hb hby at_562) rfl ?_
        refine w_ifeq (n1 := 570) (n2 := 566) X64.here hx (hb hby at_563) (by decide) (by decide) rfl (fun hc563 => ?_) (fun hc563 => ?_)
        · refine w_lconst (z := (0 : Int64)) (n := 571) X64.here hx (hb hby at_570) rfl rfl ?_
          refine w_ladd (n := 572) X64.here hx (hb hby at_571) rfl ?_
          exact tail572 _ (fun q => absurd hl q) (fun _ => by rw [if_pos ((lw_eq t 0).mp hc563)])
        · refine w_lconst (z := (1 : Int64)) (n := 567) X64.here hx (hb hby at_566) rfl rfl ?_
          refine w_goto (n := 571) X64.here hx (hb hby at_567) (by decide) (by decide) ?_
          refine w_ladd (n := 572) X64.here hx (hb hby at_571) rfl ?_
          exact tail572 _ (fun q => absurd hl q) (fun _ => by rw [if_neg (fun q => hc563 ((lw_eq t 0).mpr q))])
      · have hl : ¬ w < 9223372036 := fun q => hc542 ((lw_lt _ _).mpr q)
        refine w_lload (n := 547) X64.here hx (hb hby at_545) rfl rfl ?_
        refine w_goto (n := 572) X64.here hx (hb hby at_547) (by decide) (by decide) ?_
        exact tail572 _ (fun _ => rfl) (fun q => absurd q hl)
    rcases hfl with ⟨rfl, rfl, rfl, rfl⟩ | ⟨rfl, rfl, rfl⟩ | ⟨rfl, rfl⟩
    · refine w_ifeq (n1 := 507) (n2 := 492) X61.here hx (hb hby at_489) (by decide) (by decide) rfl (fun hc489 => ?_) (fun hc489 => absurd rfl hc489)
      refine w_bipush (z := (19 : Int32)) (n := 509) X61.here hx (hb hby at_507) rfl rfl ?_
      exact tail509 19 (Or.inl ⟨rfl, rfl, rfl⟩)
    · refine w_ifeq (n1 := 507) (n2 := 492) X61.here hx (hb hby at_489) (by decide) (by decide) rfl (fun hc489 => absurd hc489 (by decide)) (fun hc489 => ?_)
      refine w_iload (n := 494) X61.here hx (hb hby at_492) rfl rfl ?_
      refine w_ifeq (n1 := 502) (n2 := 497) X61.here hx (hb hby at_494) (by decide) (by decide) rfl (fun hc494 => ?_) (fun hc494 => absurd rfl hc494)
      refine w_bipush (z := (29 : Int32)) (n := 504) X61.here hx (hb hby at_502) rfl rfl ?_
      refine w_goto (n := 509) X61.here hx (hb hby at_504) (by decide) (by decide) ?_
      exact tail509 29 (Or.inr (Or.inl ⟨rfl, rfl⟩))
    · refine w_ifeq (n1 := 507) (n2 := 492) X61.here hx (hb hby at_489) (by decide) (by decide) rfl (fun hc489 => absurd hc489 (by decide)) (fun hc489 => ?_)
      refine w_iload (n := 494) X61.here hx (hb hby at_492) rfl rfl ?_
      refine w_ifeq (n1 := 502) (n2 := 497) X61.here hx (hb hby at_494) (by decide) (by decide) rfl (fun hc494 => absurd hc494 (by decide)) (fun hc494 => ?_)
      refine w_bipush (z := (30 : Int32)) (n := 499) X61.here hx (hb hby at_497) rfl rfl ?_
      refine w_goto (n := 509) X61.here hx (hb hby at_499) (by decide) (by decide) ?_
      exact tail509 30 (Or.inr (Or.inr rfl))
  have tail26 : ∀ w : Int64, 0 ≤ w.toInt → Endz p.tables e below (Finz s room_1 (fun v _ L => v = some (.int 1) ∧ Fr h0.size L)) T0 (mkF m 26 #[.val (.long wr), .second, .val (.int fr), .val (.int tr), .val (.int fl), .unset, .unset, .unset, .unset, .unset, .unset, .unset, .unset, .unset, .unset, .unset, .unset, .unset, .unset, .unset, .unset] [.long w]) := by
    intro w hw0
    refine w_lstore (Ls' := #[.val (.long wr), .second, .val (.int fr), .val (.int tr), .val (.int fl), .val (.long w), .second, .unset, .unset, .unset, .unset, .unset, .unset, .unset, .unset, .unset, .unset, .unset, .unset, .unset, .unset]) (n := 28) X0.here hx (hb hby at_26) rfl rfl ?_
    refine w_iload (n := 30) X0.here hx (hb hby at_28) rfl rfl ?_
    refine w_iconst (z := (1 : Int32)) (n := 31) X0.here hx (hb hby at_30) rfl rfl ?_
    refine w_iand (n := 32) X0.here hx (hb hby at_31) rfl ?_
    refine w_ifeq (n1 := 39) (n2 := 35) X0.here hx (hb hby at_32) (by decide) (by decide) rfl (fun hc32 => ?_) (fun hc32 => ?_)
    · refine w_iconst (z := (0 : Int32)) (n := 40) X0.here hx (hb hby at_39) rfl rfl ?_
      refine w_istore (Ls' := #[.val (.long wr), .second, .val (.int fr), .val (.int tr), .val (.int fl), .val (.long w), .second, .val (.int (0 : Int32)), .unset, .unset, .unset, .unset, .unset, .unset, .unset, .unset, .unset, .unset, .unset, .unset, .unset]) (n := 42) X0.here hx (hb hby at_40) rfl rfl ?_
      refine w_iload (n := 44) X0.here hx (hb hby at_42) rfl rfl ?_
      refine w_ifeq (n1 := 58) (n2 := 47) X0.here hx (hb hby at_44) (by decide) (by decide) rfl (fun hc44 => ?_) (fun hc44 => absurd rfl hc44)
      refine w_iconst (z := (0 : Int32)) (n := 59) X0.here hx (hb hby at_58) rfl rfl ?_
      refine w_istore (Ls' := #[.val (.long wr), .second, .val (.int fr), .val (.int tr), .val (.int fl), .val (.long w), .second, .val (.int (0 : Int32)), .val (.int (0 : Int32)), .unset, .unset, .unset, .unset, .unset, .unset, .unset, .unset, .unset, .unset, .unset, .unset]) (n := 61) X0.here hx (hb hby at_59) rfl rfl ?_
      refine w_iload (n := 63) X0.here hx (hb hby at_61) rfl rfl ?_
      refine w_ifeq (n1 := 77) (n2 := 66) X0.here hx (hb hby at_63) (by decide) (by decide) rfl (fun hc63 => ?_) (fun hc63 => absurd rfl hc63)
      refine w_lconst (z := (0 : Int64)) (n := 78) X0.here hx (hb hby at_77) rfl rfl ?_
      refine w_lstore (Ls' := #[.val (.long wr), .second, .val (.int fr), .val (.int tr), .val (.int fl), .val (.long w), .second, .val (.int (0 : Int32)), .val (.int (0 : Int32)), .val (.long (0 : Int64)), .second, .unset, .unset, .unset, .unset, .unset, .unset, .unset, .unset, .unset, .unset]) (n := 80) X0.here hx (hb hby at_78) rfl rfl ?_
      refine w_iload (n := 82) X0.here hx (hb hby at_80) rfl rfl ?_
      refine w_ifeq (n1 := 96) (n2 := 85) X0.here hx (hb hby at_82) (by decide) (by decide) rfl (fun hc82 => ?_) (fun hc82 => absurd rfl hc82)
      refine w_lconst (z := (0 : Int64)) (n := 97) X0.here hx (hb hby at_96) rfl rfl ?_
      refine w_lstore (Ls' := #[.val (.long wr), .second, .val (.int fr), .val (.int tr), .val (.int fl), .val (.long w), .second, .val (.int (0 : Int32)), .val (.int (0 : Int32)), .val (.long (0 : Int64)), .second, .val (.long (0 : Int64)), .second, .unset, .unset, .unset, .unset, .unset, .unset, .unset, .unset]) (n := 99) X0.here hx (hb hby at_97) rfl rfl ?_
      exact tail99 w 0 0 0 0 hw0 (by decide) (by decide) (by decide) (by decide) (Or.inl ⟨rfl, rfl, rfl, rfl⟩)
    · refine w_iconst (z := (1 : Int32)) (n := 36) X0.here hx (hb hby at_35) rfl rfl ?_
      refine w_goto (n := 40) X0.here hx (hb hby at_36) (by decide) (by decide) ?_
      refine w_istore (Ls' := #[.val (.long wr), .second, .val (.int fr), .val (.int tr), .val (.int fl), .val (.long w), .second, .val (.int (1 : Int32)), .unset, .unset, .unset, .unset, .unset, .unset, .unset, .unset, .unset, .unset, .unset, .unset, .unset]) (n := 42) X0.here hx (hb hby at_40) rfl rfl ?_
      refine w_iload (n := 44) X0.here hx (hb hby at_42) rfl rfl ?_
      refine w_ifeq (n1 := 58) (n2 := 47) X0.here hx (hb hby at_44) (by decide) (by decide) rfl (fun hc44 => absurd hc44 (by decide)) (fun hc44 => ?_)
      refine w_iload (n := 49) X0.here hx (hb hby at_47) rfl rfl ?_
      refine w_iconst (z := (2 : Int32)) (n := 50) X0.here hx (hb hby at_49) rfl rfl ?_
      refine w_iand (n := 51) X0.here hx (hb hby at_50) rfl ?_
      refine w_ifeq (n1 := 58) (n2 := 54) X0.here hx (hb hby at_51) (by decide) (by decide) rfl (fun hc51 => ?_) (fun hc51 => ?_)
      · refine w_iconst (z := (0 : Int32)) (n := 59) X0.here hx (hb hby at_58) rfl rfl ?_
        refine w_istore (Ls' := #[.val (.long wr), .second, .val (.int fr), .val (.int tr), .val (.int fl), .val (.long w), .second, .val (.int (1 : Int32)), .val (.int (0 : Int32)), .unset, .unset, .unset, .unset, .unset, .unset, .unset, .unset, .unset, .unset, .unset, .unset]) (n := 61) X0.here hx (hb hby at_59) rfl rfl ?_
        refine w_iload (n := 63) X0.here hx (hb hby at_61) rfl rfl ?_
        refine w_ifeq (n1 := 77) (n2 := 66) X0.here hx (hb hby at_63) (by decide) (by decide) rfl (fun hc63 => absurd hc63 (by decide)) (fun hc63 => ?_)
        refine w_iloadN (n := 67) X0.here hx (hb hby at_66) rfl rfl ?_
        refine k_I (n := 69) X0 hx hZ hown (hw _ (List.mem_of_getElem? (i := 65) rfl)) (hb hby at_67) rfl ?_
        refine w_iand (n := 70) X0.here hx (hb hby at_69) rfl ?_
        refine k_I (n := 72) X0 hx hZ hown (hw _ (List.mem_of_getElem? (i := 66) rfl)) (hb hby at_70) rfl ?_
        refine w_irem (n := 73) X0.here hx (hb hby at_72) rfl (by decide) ?_
        refine w_i2l (n := 74) X0.here hx (hb hby at_73) rfl ?_
        refine w_goto (n := 78) X0.here hx (hb hby at_74) (by decide) (by decide) ?_
        refine w_lstore (Ls' := #[.val (.long wr), .second, .val (.int fr), .val (.int tr), .val (.int fl), .val (.long w), .second, .val (.int (1 : Int32)), .val (.int (0 : Int32)), .val (.long ((fr &&& (2147483647 : Int32)) % (1000000000 : Int32)).toInt64), .second, .unset, .unset, .unset, .unset, .unset, .unset, .unset, .unset, .unset, .unset]) (n := 80) X0.here hx (hb hby at_78) rfl rfl ?_
        refine w_iload (n := 82) X0.here hx (hb hby at_80) rfl rfl ?_
        have hF := own_modR fr 1000000000 1000000000 (by decide) (by decide)
        refine w_ifeq (n1 := 96) (n2 := 85) X0.here hx (hb hby at_82) (by decide) (by decide) rfl (fun hc82 => ?_) (fun hc82 => absurd rfl hc82)
        refine w_lconst (z := (0 : Int64)) (n := 97) X0.here hx (hb hby at_96) rfl rfl ?_
        refine w_lstore (Ls' := #[.val (.long wr), .second, .val (.int fr), .val (.int tr), .val (.int fl), .val (.long w), .second, .val (.int (1 : Int32)), .val (.int (0 : Int32)), .val (.long ((fr &&& (2147483647 : Int32)) % (1000000000 : Int32)).toInt64), .second, .val (.long (0 : Int64)), .second, .unset, .unset, .unset, .unset, .unset, .unset, .unset, .unset]) (n := 99) X0.here hx (hb hby at_97) rfl rfl ?_
        exact tail99 w _ 0 1 0 hw0 hF.1 hF.2 (by decide) (by decide) (Or.inr (Or.inl ⟨rfl, rfl, rfl⟩))
      · refine w_iconst (z := (1 : Int32)) (n := 55) X0.here hx (hb hby at_54) rfl rfl ?_
        refine w_goto (n := 59) X0.here hx (hb hby at_55) (by decide) (by decide) ?_
        refine w_istore (Ls' := #[.val (.long wr), .second, .val (.int fr), .val (.int tr), .val (.int fl), .val (.long w), .second, .val (.int (1 : Int32)), .val (.int (1 : Int32)), .unset, .unset, .unset, .unset, .unset, .unset, .unset, .unset, .unset, .unset, .unset, .unset]) (n := 61) X0.here hx (hb hby at_59) rfl rfl ?_
        refine w_iload (n := 63) X0.here hx (hb hby at_61) rfl rfl ?_
        refine w_ifeq (n1 := 77) (n2 := 66) X0.here hx (hb hby at_63) (by decide) (by decide) rfl (fun hc63 => absurd hc63 (by decide)) (fun hc63 => ?_)
        refine w_iloadN (n := 67) X0.here hx (hb hby at_66) rfl rfl ?_
        refine k_I (n := 69) X0 hx hZ hown (hw _ (List.mem_of_getElem? (i := 65) rfl)) (hb hby at_67) rfl ?_
        refine w_iand (n := 70) X0.here hx (hb hby at_69) rfl ?_
        refine k_I (n := 72) X0 hx hZ hown (hw _ (List.mem_of_getElem? (i := 66) rfl)) (hb hby at_70) rfl ?_
        refine w_irem (n := 73) X0.here hx (hb hby at_72) rfl (by decide) ?_
        refine w_i2l (n := 74) X0.here hx (hb hby at_73) rfl ?_
        refine w_goto (n := 78) X0.here hx (hb hby at_74) (by decide) (by decide) ?_
        refine w_lstore (Ls' := #[.val (.long wr), .second, .val (.int fr), .val (.int tr), .val (.int fl), .val (.long w), .second, .val (.int (1 : Int32)), .val (.int (1 : Int32)), .val (.long ((fr &&& (2147483647 : Int32)) % (1000000000 : Int32)).toInt64), .second, .unset, .unset, .unset, .unset, .unset, .unset, .unset, .unset, .unset, .unset]) (n := 80) X0.here hx (hb hby at_78) rfl rfl ?_
        refine w_iload (n := 82) X0.here hx (hb hby at_80) rfl rfl ?_
        have hF := own_modR fr 1000000000 1000000000 (by decide) (by decide)
        refine w_ifeq (n1 := 96) (n2 := 85) X0.here hx (hb hby at_82) (by decide) (by decide) rfl (fun hc82 => absurd hc82 (by decide)) (fun hc82 => ?_)
        refine w_iloadN (n := 86) X0.here hx (hb hby at_85) rfl rfl ?_
        refine k_I (n := 88) X0 hx hZ hown (hw _ (List.mem_of_getElem? (i := 65) rfl)) (hb hby at_86) rfl ?_
        refine w_iand (n := 89) X0.here hx (hb hby at_88) rfl ?_
        refine w_bipush (z := (10 : Int32)) (n := 91) X0.here hx (hb hby at_89) rfl rfl ?_
        refine w_irem (n := 92) X0.here hx (hb hby at_91) rfl (by decide) ?_
        refine w_i2l (n := 93) X0.here hx (hb hby at_92) rfl ?_
        refine w_goto (n := 97) X0.here hx (hb hby at_93) (by decide) (by decide) ?_
        refine w_lstore (Ls' := #[.val (.long wr), .second, .val (.int fr), .val (.int tr), .val (.int fl), .val (.long w), .second, .val (.int (1 : Int32)), .val (.int (1 : Int32)), .val (.long ((fr &&& (2147483647 : Int32)) % (1000000000 : Int32)).toInt64), .second, .val (.long ((tr &&& (2147483647 : Int32)) % (10 : Int32)).toInt64), .second, .unset, .unset, .unset, .unset, .unset, .unset, .unset, .unset]) (n := 99) X0.here hx (hb hby at_97) rfl rfl ?_
        have hT := own_modR tr 10 10 (by decide) (by decide)
        exact tail99 w _ _ 1 1 hw0 hF.1 hF.2 hT.1 hT.2 (Or.inr (Or.inr ⟨rfl, rfl⟩))
  refine w_iload (n := 2) X0.here hx (hb hby at_0) rfl rfl ?_
  refine w_iconst (z := (4 : Int32)) (n := 3) X0.here hx (hb hby at_2) rfl rfl ?_
  refine w_iand (n := 4) X0.here hx (hb hby at_3) rfl ?_
  refine w_ifeq (n1 := 21) (n2 := 7) X0.here hx (hb hby at_4) (by decide) (by decide) rfl (fun hc4 => ?_) (fun hc4 => ?_)
  · refine w_lloadN (n := 22) X0.here hx (hb hby at_21) rfl rfl ?_
    refine k_J (n := 25) X0 hx hZ hown (hw _ (List.mem_of_getElem? (i := 0) rfl)) (hb hby at_22) rfl ?_
    refine w_land (n := 26) X0.here hx (hb hby at_25) rfl ?_
    exact tail26 _ (own_maskL wr)
  · refine k_J (n := 10) X0 hx hZ hown (hw _ (List.mem_of_getElem? (i := 64) rfl)) (hb hby at_7) rfl ?_
    refine w_iload (n := 12) X0.here hx (hb hby at_10) rfl rfl ?_
    refine w_iconst (z := (3 : Int32)) (n := 13) X0.here hx (hb hby at_12) rfl rfl ?_
    refine w_iushr (n := 14) X0.here hx (hb hby at_13) rfl ?_
    refine w_iconst (z := (3 : Int32)) (n := 15) X0.here hx (hb hby at_14) rfl rfl ?_
    refine w_iand (n := 16) X0.here hx (hb hby at_15) rfl ?_
    refine w_i2l (n := 17) X0.here hx (hb hby at_16) rfl ?_
    refine w_ladd (n := 18) X0.here hx (hb hby at_17) rfl ?_
    refine w_goto (n := 26) X0.here hx (hb hby at_18) (by decide) (by decide) ?_
    exact tail26 _ (own_edge _)
set_option maxRecDepth 65536 in
set_option maxHeartbeats 40000000 in
theorem comes_1 {Post : Tables → Env → Array Value → State → Outcome → State → Prop} (hpost : ∀ tb e args s v u, (limb_1_1.after args s (.returned v) u = true ∧ limb_1_2.after args s (.returned v) u = true ∧ True) → FrameEnd s (.returned v) u (Jvm.fieldLocs frame_1_writes args s ++ Jvm.arrayLocs frame_1_arrays args s ++ Jvm.staticLocs frame_1_statics s) 16 192 → Post tb e args s (.returned v) u) :
    ArmFor flags0 classFile x code maxLocals ret World_1 tables_1 room_1 Calls_1 rest_1 Pre_1 Post := by
  intro l hfl _ _ p e ha hc hk s m args below hf hA hF happ hP
  obtain ⟨hcalls, hrest, hpre⟩ := hP
  obtain ⟨-, -, -, hnamed, -, -, -, hat⟩ := (Spec.applies_iff hf).mp happ
  obtain ⟨hg, hn⟩ := and_e (Cond.before_iff.mp (show (Jvm.Cond.and given_1 narrow_1).before args s = true from hpre))
  obtain ⟨q1, q2⟩ := and_e hg
  obtain ⟨q3, q4⟩ := and_e q2
  obtain ⟨q5, q6⟩ := and_e q4
  obtain ⟨q7, q8⟩ := and_e q6
  obtain ⟨w0, w1, w2, w3, rfl⟩ : ∃ w0 w1 w2 w3 : Value, args = #[w0, w1, w2, w3] := by
    have hs : args.size = 4 := by simpa [Cond.value, given_1] using q1
    obtain ⟨L⟩ := args
    match L, hs with
    | [w0, w1, w2, w3], _ => exact ⟨w0, w1, w2, w3, rfl⟩
  have hw := fun d (hd : d ∈ tables_1) => atoms_spec (ws := Jvm.Cond.code x code maxLocals ret :: tables_1) hat d (List.mem_cons_of_mem _ hd)
  have hfit : Fit s := fun {y c} hc i hi => by
    obtain ⟨ha, rfl⟩ := Array.getElem?_eq_some_iff.mp hc
    have q := List.all_eq_true.mp ((Array.all_eq_true_iff_forall_mem.mp hF) _ (Array.getElem_mem ha)) i (List.mem_range.mpr hi)
    simpa [Array.getElem?_eq_getElem hi] using q
  obtain ⟨i0, ei0⟩ := isL_v q3
  obtain rfl : w0 = (.long i0) := Option.some.inj ei0
  obtain ⟨i1, ei1⟩ := is_v q5
  obtain rfl : w1 = (.int i1) := Option.some.inj ei1
  obtain ⟨i2, ei2⟩ := is_v q7
  obtain rfl : w2 = (.int i2) := Option.some.inj ei2
  obtain ⟨i3, ei3⟩ := is_v q8
  obtain rfl : w3 = (.int i3) := Option.some.inj ei3
  obtain ⟨q101, q102⟩ := and_e hn
  obtain ⟨q103, q104⟩ := and_e q102
  obtain ⟨q105, q106⟩ := and_e q104
  obtain ⟨q107, q108⟩ := and_e q106
  obtain ⟨q109, q110⟩ := and_e q108
  obtain ⟨q111, q112⟩ := and_e q110
  obtain ⟨q113, q114⟩ := and_e q112
  obtain ⟨q115, q116⟩ := and_e q114
  obtain ⟨q117, q118⟩ := and_e q116
  obtain ⟨q119, q120⟩ := and_e q118
  obtain ⟨q121, q122⟩ := and_e q120
  obtain ⟨q123, q124⟩ := and_e q122
  obtain ⟨q125, q126⟩ := and_e q124
  obtain ⟨q127, q128⟩ := and_e q126
  obtain ⟨q129, q130⟩ := and_e q128
  obtain ⟨q131, q132⟩ := and_e q130
  obtain ⟨q133, q134⟩ := and_e q132
  obtain ⟨q135, q136⟩ := and_e q134
  obtain ⟨q137, q138⟩ := and_e q136
  obtain ⟨pw, evP⟩ := arr_v q101
  have SP : Sta s s.heap "com/example/portion/portion/quota/BoundedNumber" "POWERS_OF_TEN" "[J" (.ref pw) := Sta.start evP (Or.inr ⟨(hw _ (List.mem_of_getElem? (i := 30) rfl)), (hw _ (List.mem_of_getElem? (i := 54) rfl))⟩)
  obtain ⟨cP, arP⟩ := Arr.start evP q101
  obtain ⟨lP, zP⟩ := len_is evP arP.1 q103
  have el0 : cP.slots[0]? = some (.long 1) := eleml_is evP arP.1 q105
  have el1 : cP.slots[1]? = some (.long 10) := eleml_is evP arP.1 q107
  have el2 : cP.slots[2]? = some (.long 100) := eleml_is evP arP.1 q109
  have el3 : cP.slots[3]? = some (.long 1000) := eleml_is evP arP.1 q111
  have el4 : cP.slots[4]? = some (.long 10000) := eleml_is evP arP.1 q113
  have el5 : cP.slots[5]? = some (.long 100000) := eleml_is evP arP.1 q115
  have el6 : cP.slots[6]? = some (.long 1000000) := eleml_is evP arP.1 q117
  have el7 : cP.slots[7]? = some (.long 10000000) := eleml_is evP arP.1 q119
  have el8 : cP.slots[8]? = some (.long 100000000) := eleml_is evP arP.1 q121
  have el9 : cP.slots[9]? = some (.long 1000000000) := eleml_is evP arP.1 q123
  have el10 : cP.slots[10]? = some (.long 10000000000) := eleml_is evP arP.1 q125
  have el11 : cP.slots[11]? = some (.long 100000000000) := eleml_is evP arP.1 q127
  have el12 : cP.slots[12]? = some (.long 1000000000000) := eleml_is evP arP.1 q129
  have el13 : cP.slots[13]? = some (.long 10000000000000) := eleml_is evP arP.1 q131
  have el14 : cP.slots[14]? = some (.long 100000000000000) := eleml_is evP arP.1 q133
  have el15 : cP.slots[15]? = some (.long 1000000000000000) := eleml_is evP arP.1 q135
  have el16 : cP.slots[16]? = some (.long 10000000000000000) := eleml_is evP arP.1 q137
  have el17 : cP.slots[17]? = some (.long 100000000000000000) := eleml_is evP arP.1 q138
  have VP : Arv s s.heap pw cP.cls .long 18 (own_pows.map Value.long) (.long 0) := Arv.start hfit arP lP zP (by decide) rfl ⟨el0, el1, el2, el3, el4, el5, el6, el7, el8, el9, el10, el11, el12, el13, el14, el15, el16, el17, trivial⟩
  obtain ⟨n, o, h1, h2, h3, _, L, rfl, ⟨rfl, N⟩, hq⟩ := rm0 l s _ hw tables_1 i0 i1 i2 i3 pw cP.cls s.heap SP VP p e ha hc hk s m _ below hf ((Spec.applies_iff_loose hf).mp happ).1 ⟨rfl, State.Warmed39.refl s, rfl⟩ trivial
  exact ⟨n, _, h1, h2, h3, hpost _ _ _ _ _ _ ⟨Cond.after_iff.mpr rfl, Cond.after_iff.mpr (eq_i res_at (Term.int_eval (1)) rfl), trivial⟩ ⟨hq.1, hq.2.1, (hq.2.2.sift fun y hy => Or.inr (N y hy)).mono (by decide) (by decide)⟩⟩
theorem main_1_1 : Claimed_1_1 := comes_1 fun _ _ _ _ _ _ h hF => ⟨h.1, hF⟩
theorem main_1_2 : Claimed_1_2 := comes_1 fun _ _ _ _ _ _ h hF => ⟨h.2.1, hF⟩
end Jvm.Pilot.@@N@@
namespace Jvm.Pilot.@@N@@
open Jvm Jvm.ClassFile Sem Op Lib Jvm.Free Jvm.Stand Jvm.Pilot.@@N@@.Jvm.D
/-! MADE BY PROGRAM (witnessworld.py) out of the Statement's table words and the real class files: 11 classes; the members and pool entries that the words name. The judged class is class 1, her method 3. -/
namespace start1
open Jvm.ClassFile
def u (s : String) : CpInfo := .utf8 (stringToUtf16 s)
/-- a pool by its gaps: so many unusable entries, then the entry; so many at the end -/
def gap : Nat → List CpInfo → List CpInfo
  | 0, r => r
  | n + 1, r => .unusable :: gap n r
def poolList (es : List (Nat × CpInfo)) (last : Nat) : List CpInfo := es.foldr (fun e r => gap e.1 (e.2 :: r)) (gap last [])
def pool (es : List (Nat × CpInfo)) (last : Nat) : Array CpInfo := ⟨poolList es last⟩
def fileOf (pool : Array CpInfo) (this : Nat) (attrs : Array Attribute := #[]) (ms : Array MethodInfo := #[]) (fl : Nat := 33) (sup : Nat := 0) (ifs : Array Nat := #[]) (fds : Array FieldInfo := #[]) : ClassFile where
  minorVersion := 0
  majorVersion := 65
  constantPool := pool
  accessFlags := fl
  thisClass := this
  superClass := sup
  interfaces := ifs
  fields := fds
  methods := ms
  attributes := attrs
def plain (name : String) (sup : Option ClassId) : Class where
  name := name
  kind := .ordinary
  loader := none
  accessFlags := 33
  super := sup
  interfaces := #[]
  cf := none
  fields := #[]
  methods := #[]
  instanceTypes := #[]
  staticTypes := #[]
  resolved := #[]
  callSites := []
  init := .initialized
  statics := none
  mirror := none

def pool0 : Array CpInfo := pool [(5, u "<init>"), (0, u "()V"), (1, .class_ 10), (1, u "java/lang/Object")] 113

def k0c0 : Code := { maxStack := 0, maxLocals := 1, code := object_method_1_code, exceptionTable := #[], attributes := #[] }
def k0m0 : Method := { name := "<init>", desc := "()V", sig := { parameters := [], returnType := none }, accessFlags := 1, code := some k0c0 }
/-- java/lang/Object -/
def k0 : Class := { plain "java/lang/Object" none with
  accessFlags := 33
  interfaces := #[]
  cf := some (fileOf pool0 8 #[] #[{ accessFlags := 1, nameIndex := 5, descriptorIndex := 6, attributes := #[] }] 33 0 #[] #[])
  fields := #[]
  methods := #[k0m0]
  instanceTypes := #[]
  staticTypes := #[]
  resolved := Array.replicate 124 none
  statics := none }

def pool1 : Array CpInfo := pool [(2, .class_ 4), (0, .nameAndType 5 6), (0, u "java/lang/Object"), (0, u "<init>"), (0, u "()V"), (0, .long 48), (1, .long 10), (1, .long 100), (1, .long 1000), (1, .long 10000), (1, .long 100000), (1, .long 1000000), (1, .long 10000000), (1, .long 100000000), (1, .long 1000000000), (1, .long 10000000000), (1, .long 100000000000), (1, .long 1000000000000), (1, .long 10000000000000), (1, .long 100000000000000), (1, .long 1000000000000000), (1, .long 10000000000000000), (1, .long 100000000000000000), (1, .long 1000000000000000000), (3, .long 9223372035), (3, .long 9223372036854775807), (1, .integer 2147483647), (0, .integer 1000000000), (0, .methodref 56 57), (0, .class_ 58), (0, .nameAndType 59 60), (0, u "com/example/portion/portion/quota/BoundedNumberNanosAtMostMaxPinLaw"), (0, u "dig"), (0, u "(JJ)B"), (0, .methodref 56 62), (0, .nameAndType 63 64), (0, u "len"), (0, u "(J)I"), (0, .class_ 66), (0, u "com/example/portion/portion/quota/BoundedNumber"), (0, .methodref 65 3), (0, .methodref 65 69), (0, .nameAndType 70 71), (0, u "read"), (0, u "([BII)V"), (0, .long 9223372036000000000), (1, .long 9223372036), (1, .methodref 65 77), (0, .nameAndType 78 79), (0, u "nanosAtMostMax"), (0, u "()J"), (3, u "law"), (0, u "(JIII)Z")] 4

def k1m0 : Method := { name := "<init>", desc := "()V", sig := { parameters := [], returnType := none }, accessFlags := 1, code := none }
def k1c1 : Code := { maxStack := 6, maxLocals := 4, code := method_2_code, exceptionTable := #[], attributes := #[] }
def k1m1 : Method := { name := "dig", desc := "(JJ)B", sig := { parameters := [.long, .long], returnType := some .byte }, accessFlags := 10, code := some k1c1 }
def k1c2 : Code := { maxStack := 4, maxLocals := 3, code := method_3_code, exceptionTable := #[], attributes := #[] }
def k1m2 : Method := { name := "len", desc := "(J)I", sig := { parameters := [.long], returnType := some .int }, accessFlags := 10, code := some k1c2 }
def k1c3 : Code := { maxStack := 6, maxLocals := 21, code := code, exceptionTable := #[], attributes := #[] }
def k1m3 : Method := { name := "law", desc := "(JIII)Z", sig := { parameters := [.long, .int, .int, .int], returnType := some .boolean }, accessFlags := 9, code := some k1c3 }
/-- com/example/portion/portion/quota/BoundedNumberNanosAtMostMaxPinLaw -/
def k1 : Class := { plain "com/example/portion/portion/quota/BoundedNumberNanosAtMostMaxPinLaw" (some 0) with
  accessFlags := 49
  interfaces := #[]
  cf := some (fileOf pool1 56 #[] #[{ accessFlags := 1, nameIndex := 5, descriptorIndex := 6, attributes := #[] }, { accessFlags := 10, nameIndex := 59, descriptorIndex := 60, attributes := #[] }, { accessFlags := 10, nameIndex := 63, descriptorIndex := 64, attributes := #[] }, { accessFlags := 9, nameIndex := 83, descriptorIndex := 84, attributes := #[] }] 49 2 #[] #[])
  fields := #[]
  methods := #[k1m0, k1m1, k1m2, k1m3]
  instanceTypes := #[]
  staticTypes := #[]
  resolved := Array.replicate 89 none
  statics := none }

def pool2 : Array CpInfo := pool [(1, .methodref 2 3), (0, .class_ 4), (0, .nameAndType 5 6), (0, u "java/lang/Object"), (0, u "<init>"), (0, u "()V"), (0, .fieldref 8 9), (0, .class_ 10), (0, .nameAndType 11 12), (0, u "com/example/portion/portion/quota/BoundedNumber"), (0, u "negative"), (0, u "Z"), (4, .fieldref 8 18), (0, .nameAndType 19 20), (0, u "whole"), (0, u "J"), (0, .fieldref 8 22), (0, .nameAndType 23 20), (0, u "nanos"), (0, .fieldref 8 25), (0, .nameAndType 26 12), (0, u "finer"), (0, .fieldref 8 28), (0, .nameAndType 29 12), (0, u "beyond"), (0, .long 18), (1, .fieldref 8 33), (0, .nameAndType 34 35), (0, u "POWERS_OF_TEN"), (0, u "[J"), (0, .long 18446744073709551607), (1, .long 9), (9, .long 9223372036), (1, .long 9223372036000000000), (1, .long 1000000000), (7, u "WHOLE_DIGITS"), (0, u "I"), (2, u "FRACTION_DIGITS"), (1, u "NANOS_PER_SECOND"), (0, u "EXPONENT_BOUND"), (2, u "read"), (0, u "([BII)V"), (5, u "nanosAtMostMax"), (0, u "()J")] 3

def k2c0 : Code := { maxStack := 1, maxLocals := 1, code := prog_59_method_1_code, exceptionTable := #[], attributes := #[] }
def k2m0 : Method := { name := "<init>", desc := "()V", sig := { parameters := [], returnType := none }, accessFlags := 0, code := some k2c0 }
def k2c1 : Code := { maxStack := 10, maxLocals := 13, code := prog_59_method_2_code, exceptionTable := #[], attributes := #[] }
def k2m1 : Method := { name := "read", desc := "([BII)V", sig := { parameters := [(.array .byte), .int, .int], returnType := none }, accessFlags := 0, code := some k2c1 }
def k2c2 : Code := { maxStack := 4, maxLocals := 2, code := prog_59_method_5_code, exceptionTable := #[], attributes := #[] }
def k2m2 : Method := { name := "nanosAtMostMax", desc := "()J", sig := { parameters := [], returnType := some .long }, accessFlags := 0, code := some k2c2 }
/-- com/example/portion/portion/quota/BoundedNumber -/
def k2 : Class := { plain "com/example/portion/portion/quota/BoundedNumber" (some 0) with
  accessFlags := 48
  interfaces := #[]
  cf := some (fileOf pool2 8 #[] #[{ accessFlags := 0, nameIndex := 5, descriptorIndex := 6, attributes := #[] }, { accessFlags := 0, nameIndex := 70, descriptorIndex := 71, attributes := #[] }, { accessFlags := 0, nameIndex := 77, descriptorIndex := 78, attributes := #[] }] 48 2 #[] #[{ accessFlags := 26, nameIndex := 60, descriptorIndex := 61, attributes := #[] }, { accessFlags := 26, nameIndex := 64, descriptorIndex := 61, attributes := #[] }, { accessFlags := 26, nameIndex := 66, descriptorIndex := 20, attributes := #[] }, { accessFlags := 26, nameIndex := 67, descriptorIndex := 20, attributes := #[] }, { accessFlags := 26, nameIndex := 34, descriptorIndex := 35, attributes := #[] }, { accessFlags := 2, nameIndex := 11, descriptorIndex := 12, attributes := #[] }, { accessFlags := 2, nameIndex := 19, descriptorIndex := 20, attributes := #[] }, { accessFlags := 2, nameIndex := 23, descriptorIndex := 20, attributes := #[] }, { accessFlags := 2, nameIndex := 26, descriptorIndex := 12, attributes := #[] }, { accessFlags := 2, nameIndex := 29, descriptorIndex := 12, attributes := #[] }])
  fields := #[{ name := "WHOLE_DIGITS", type := .int, accessFlags := 26, slot := 0, constantValue := 0 }, { name := "FRACTION_DIGITS", type := .int, accessFlags := 26, slot := 1, constantValue := 0 }, { name := "NANOS_PER_SECOND", type := .long, accessFlags := 26, slot := 2, constantValue := 0 }, { name := "EXPONENT_BOUND", type := .long, accessFlags := 26, slot := 3, constantValue := 0 }, { name := "POWERS_OF_TEN", type := (.array .long), accessFlags := 26, slot := 4, constantValue := 0 }, { name := "negative", type := .boolean, accessFlags := 2, slot := 0, constantValue := 0 }, { name := "whole", type := .long, accessFlags := 2, slot := 1, constantValue := 0 }, { name := "nanos", type := .long, accessFlags := 2, slot := 2, constantValue := 0 }, { name := "finer", type := .boolean, accessFlags := 2, slot := 3, constantValue := 0 }, { name := "beyond", type := .boolean, accessFlags := 2, slot := 4, constantValue := 0 }]
  methods := #[k2m0, k2m1, k2m2]
  instanceTypes := #[.boolean, .long, .long, .boolean, .boolean]
  staticTypes := #[.int, .int, .long, .long, (.array .long)]
  resolved := Array.replicate 82 none
  statics := some 0 }

def pool3 : Array CpInfo := pool [(1, u "java/lang/Cloneable"), (0, .class_ 1), (0, u "java/lang/Object"), (0, .class_ 3)] 3

/-- java/lang/Cloneable -/
def k3 : Class := { plain "java/lang/Cloneable" (some 0) with
  accessFlags := 1537
  interfaces := #[]
  cf := some (fileOf pool3 2 #[] #[] 1537 4 #[] #[])
  fields := #[]
  methods := #[]
  instanceTypes := #[]
  staticTypes := #[]
  resolved := Array.replicate 8 none
  statics := none }

def pool4 : Array CpInfo := pool [(1, u "java/io/Serializable"), (0, .class_ 1), (0, u "java/lang/Object"), (0, .class_ 3)] 3

/-- java/io/Serializable -/
def k4 : Class := { plain "java/io/Serializable" (some 0) with
  accessFlags := 1537
  interfaces := #[]
  cf := some (fileOf pool4 2 #[] #[] 1537 4 #[] #[])
  fields := #[]
  methods := #[]
  instanceTypes := #[]
  staticTypes := #[]
  resolved := Array.replicate 8 none
  statics := none }

/-- the primitive byte -/
def k5 : Class := { plain "byte" none with kind := .primitive 'B', accessFlags := 0x411 }
/-- [B -/
def k6 : Class := { plain "[B" (some 0) with kind := .array 5 .byte, interfaces := #[3, 4], accessFlags := 1041 }

/-- the primitive int -/
def k7 : Class := { plain "int" none with kind := .primitive 'I', accessFlags := 0x411 }
/-- [I -/
def k8 : Class := { plain "[I" (some 0) with kind := .array 7 .int, interfaces := #[3, 4], accessFlags := 1041 }

/-- the primitive long -/
def k9 : Class := { plain "long" none with kind := .primitive 'J', accessFlags := 0x411 }
/-- [J -/
def k10 : Class := { plain "[J" (some 0) with kind := .array 9 .long, interfaces := #[3, 4], accessFlags := 1041 }

def heap : Heap := #[{ cls := 2, slots := #[.int 0, .int 0, .long 0, .long 0, .ref 1], vm := .statics 2 },
  { cls := 10, slots := #[.long 1, .long 10, .long 100, .long 1000, .long 10000, .long 100000, .long 1000000, .long 10000000, .long 100000000, .long 1000000000, .long 10000000000, .long 100000000000, .long 1000000000000, .long 10000000000000, .long 100000000000000, .long 1000000000000000, .long 10000000000000000, .long 100000000000000000], vm := .none }]
def classes : Array Class := #[k0, k1, k2, k3, k4, k5, k6, k7, k8, k9, k10]
def interned : List (Array UInt16 × Addr) := []
def slotsUsed : Nat := 23
def theMethod : MethodId := ⟨1, 3⟩
def args0 : Array Value := #[.long 1234, .int 5, .int 6, .int 3]
def aboutOver (below : List Frame) : State where
  vm := { classes := classes, interned := interned.toArray }
  heap := heap
  slotsUsed := slotsUsed
  threads := #[{ frames := .invoking theMethod args0 :: below }]
def below0 : List Frame := [.native { method := ⟨0, 0⟩, args := #[] }]
def about1 : State := aboutOver below0
def p0 : Program := .bare "" "" ""
def e0 : Env := launch0.env 0 0 0
theorem w_frames : about1.frames = Frame.invoking theMethod args0 :: below0 := rfl
set_option maxRecDepth 65536 in
theorem w_args : argsFit about1.vm theMethod args0 = true := by decide +kernel
set_option maxRecDepth 65536 in
theorem w_heap : heapFits about1 = true := by decide +kernel
set_option maxRecDepth 65536 in
theorem w_runnable : about1.curStatus? = some .runnable := by decide +kernel
set_option maxRecDepth 65536 in
theorem w_alone : about1.alone = true := by decide +kernel
set_option maxRecDepth 65536 in
theorem w_named : about1.methodNamed? x = some theMethod := by decide +kernel
set_option maxRecDepth 65536 in
theorem w_hears : about1.hears theMethod below0 = true := by decide +kernel
set_option maxRecDepth 65536 in
theorem w_ripe : about1.ripe theMethod args0 below0 = true := by decide +kernel
theorem w_running : about1.status = .running := rfl
set_option maxRecDepth 65536 in
theorem w_room : about1.hasRoom e0.platform room_1 = true :=
  launch0.hasRoom_least _ room_1 (by decide +kernel) (by decide +kernel) (by decide +kernel) (by decide +kernel) (by decide +kernel) (by decide +kernel)
theorem allAtoms_all (ts : List Jvm.Cond) (a : Array Jvm.Value) (st : Jvm.State) : (allAtoms ts).before a st = ts.all (fun c => c.before a st) := by
  induction ts with
  | nil => rfl
  | cons c t ih =>
    show (Jvm.Cond.and c (allAtoms t)).before a st = _
    rw [Jvm.Cond.before_and, ih, List.all_cons]
def words1 : List Jvm.Cond := Jvm.Cond.code x code maxLocals ret :: tables_1
/-- a 'code' word, met by the world's own term for the bytes: nothing is compared byte by byte -/
theorem code_word {y : MethodName} {bytes : ByteArray} {mx : Nat} {rt : Option FieldType} {a : Array Value} {s : State} {m : MethodId} {meth : Method} {c : Code} (h1 : s.methodNamed? y = some m) (h2 : s.vm.method? m = some meth) (h3 : meth.code = some c) (h4 : c.code = bytes)
    (h5 : (c.maxLocals == mx && c.exceptionTable.isEmpty && decide (c.maxStack ≤ mostOperands) && decide (meth.sig.returnType = rt) && !meth.locks && decide (parseMethodDescriptor y.desc = some meth.sig)) = true) : (Jvm.Cond.code y bytes mx rt).before a s = true := by
  simp only [Bool.and_eq_true, beq_iff_eq, Bool.not_eq_true', decide_eq_true_eq] at h5
  obtain ⟨⟨⟨⟨⟨g1, g2⟩, g3⟩, g4⟩, g5⟩, g6⟩ := h5
  simp [Cond.before, Cond.holds, Cond.value, h1, h2, h3, h4, g1, g2, g3, g4, g5, g6]
def isCode : Jvm.Cond → Bool
  | .code _ _ _ _ => true
  | _ => false
theorem all_split {L : List Jvm.Cond} {P : Jvm.Cond → Bool} (h1 : L.all (fun c => isCode c || P c) = true) (h2 : ∀ c ∈ L.filter isCode, P c = true) : L.all P = true := by
  refine List.all_eq_true.mpr fun c hc => ?_
  have h := List.all_eq_true.mp h1 c hc
  rcases Bool.eq_false_or_eq_true (isCode c) with hi | hi
  · exact h2 c (List.mem_filter.mpr ⟨hc, hi⟩)
  · simpa [hi] using h
set_option maxRecDepth 65536 in
theorem w_c0 : (Jvm.Cond.code x code maxLocals ret).before args0 about1 = true := code_word (m := ⟨1, 3⟩) (meth := k1m3) (c := k1c3) (by decide +kernel) rfl rfl rfl (by decide +kernel)
set_option maxRecDepth 65536 in
theorem w_c1 : (Jvm.Cond.code ({ cls := "com/example/portion/portion/quota/BoundedNumberNanosAtMostMaxPinLaw", name := "dig", desc := "(JJ)B" } : Jvm.MethodName) method_2_code (4 : Nat) (Option.some Jvm.ClassFile.FieldType.byte)).before args0 about1 = true := code_word (m := ⟨1, 1⟩) (meth := k1m1) (c := k1c1) (by decide +kernel) rfl rfl rfl (by decide +kernel)
set_option maxRecDepth 65536 in
theorem w_c2 : (Jvm.Cond.code ({ cls := "com/example/portion/portion/quota/BoundedNumberNanosAtMostMaxPinLaw", name := "len", desc := "(J)I" } : Jvm.MethodName) method_3_code (3 : Nat) (Option.some Jvm.ClassFile.FieldType.int)).before args0 about1 = true := code_word (m := ⟨1, 2⟩) (meth := k1m2) (c := k1c2) (by decide +kernel) rfl rfl rfl (by decide +kernel)
set_option maxRecDepth 65536 in
theorem w_c3 : (Jvm.Cond.code ({ cls := "com/example/portion/portion/quota/BoundedNumber", name := "<init>", desc := "()V" } : Jvm.MethodName) prog_59_method_1_code (1 : Nat) (Option.none : Option Jvm.ClassFile.FieldType)).before args0 about1 = true := code_word (m := ⟨2, 0⟩) (meth := k2m0) (c := k2c0) (by decide +kernel) rfl rfl rfl (by decide +kernel)
set_option maxRecDepth 65536 in
theorem w_c4 : (Jvm.Cond.code ({ cls := "java/lang/Object", name := "<init>", desc := "()V" } : Jvm.MethodName) object_method_1_code (1 : Nat) (Option.none : Option Jvm.ClassFile.FieldType)).before args0 about1 = true := code_word (m := ⟨0, 0⟩) (meth := k0m0) (c := k0c0) (by decide +kernel) rfl rfl rfl (by decide +kernel)
set_option maxRecDepth 65536 in
theorem w_c5 : (Jvm.Cond.code ({ cls := "com/example/portion/portion/quota/BoundedNumber", name := "read", desc := "([BII)V" } : Jvm.MethodName) prog_59_method_2_code (13 : Nat) (Option.none : Option Jvm.ClassFile.FieldType)).before args0 about1 = true := code_word (m := ⟨2, 1⟩) (meth := k2m1) (c := k2c1) (by decide +kernel) rfl rfl rfl (by decide +kernel)
set_option maxRecDepth 65536 in
theorem w_c6 : (Jvm.Cond.code ({ cls := "com/example/portion/portion/quota/BoundedNumber", name := "nanosAtMostMax", desc := "()J" } : Jvm.MethodName) prog_59_method_5_code (2 : Nat) (Option.some Jvm.ClassFile.FieldType.long)).before args0 about1 = true := code_word (m := ⟨2, 2⟩) (meth := k2m2) (c := k2c2) (by decide +kernel) rfl rfl rfl (by decide +kernel)
def codes1 : List Jvm.Cond := [Jvm.Cond.code x code maxLocals ret, Jvm.Cond.code ({ cls := "com/example/portion/portion/quota/BoundedNumberNanosAtMostMaxPinLaw", name := "dig", desc := "(JJ)B" } : Jvm.MethodName) method_2_code (4 : Nat) (Option.some Jvm.ClassFile.FieldType.byte), Jvm.Cond.code ({ cls := "com/example/portion/portion/quota/BoundedNumberNanosAtMostMaxPinLaw", name := "len", desc := "(J)I" } : Jvm.MethodName) method_3_code (3 : Nat) (Option.some Jvm.ClassFile.FieldType.int), Jvm.Cond.code ({ cls := "com/example/portion/portion/quota/BoundedNumber", name := "<init>", desc := "()V" } : Jvm.MethodName) prog_59_method_1_code (1 : Nat) (Option.none : Option Jvm.ClassFile.FieldType), Jvm.Cond.code ({ cls := "java/lang/Object", name := "<init>", desc := "()V" } : Jvm.MethodName) object_method_1_code (1 : Nat) (Option.none : Option Jvm.ClassFile.FieldType), Jvm.Cond.code ({ cls := "com/example/portion/portion/quota/BoundedNumber", name := "read", desc := "([BII)V" } : Jvm.MethodName) prog_59_method_2_code (13 : Nat) (Option.none : Option Jvm.ClassFile.FieldType), Jvm.Cond.code ({ cls := "com/example/portion/portion/quota/BoundedNumber", name := "nanosAtMostMax", desc := "()J" } : Jvm.MethodName) prog_59_method_5_code (2 : Nat) (Option.some Jvm.ClassFile.FieldType.long)]
set_option maxRecDepth 65536 in
theorem codes_eq : words1.filter isCode = codes1 := rfl
theorem w_codes : ∀ c ∈ words1.filter isCode, c.before args0 about1 = true := by
  rw [codes_eq]
  intro c hc
  simp only [codes1, List.mem_cons, List.not_mem_nil, or_false] at hc
  rcases hc with rfl | rfl | rfl | rfl | rfl | rfl | rfl
  · exact w_c0
  · exact w_c1
  · exact w_c2
  · exact w_c3
  · exact w_c4
  · exact w_c5
  · exact w_c6
set_option maxRecDepth 65536 in
theorem w_t1 : (words1.take 24).all (fun c => isCode c || c.before args0 about1) = true := by decide +kernel
set_option maxRecDepth 65536 in
theorem w_t2 : ((words1.drop 24).take 24).all (fun c => isCode c || c.before args0 about1) = true := by decide +kernel
set_option maxRecDepth 65536 in
theorem w_t3 : ((words1.drop 24).drop 24).all (fun c => isCode c || c.before args0 about1) = true := by decide +kernel
theorem w_tables : (allAtoms (Jvm.Cond.code x code maxLocals ret :: tables_1)).before args0 about1 = true := by
  rw [allAtoms_all]
  show words1.all (fun c => c.before args0 about1) = true
  refine all_split ?_ w_codes
  rw [← List.take_append_drop 24 words1, List.all_append, w_t1, ← List.take_append_drop 24 (words1.drop 24), List.all_append, w_t2, w_t3]
  rfl
set_option maxRecDepth 65536 in
theorem w_case : (Jvm.Cond.and given_1 narrow_1).before args0 about1 = true := by decide +kernel
theorem w_applies : (headSpec (Jvm.Cond.code x code maxLocals ret :: tables_1) room_1).applies x e0.platform about1 = true :=
  (Spec.applies_iff w_frames).mpr ⟨w_running, w_runnable, w_alone, w_named, w_hears, w_ripe, w_room, w_tables⟩
theorem atStart : AtStart classFile x code maxLocals ret World_1 tables_1 room_1 Calls_1 rest_1 Pre_1 launch0 p0 e0 about1 theMethod args0 below0 :=
  ⟨lists_1, trivial, launch0.admits_env _ _ _, launch0.least_env, fairChoices_fair.cas, fairChoices_fair.clock, w_frames, w_args, w_heap, w_applies, trivial, trivial, w_case⟩
end start1
theorem witness_1 : WitnessClaimed_1 := ⟨start1.p0, start1.e0, start1.about1, start1.theMethod, start1.args0, start1.below0, start1.atStart⟩
end Jvm.Pilot.@@N@@
