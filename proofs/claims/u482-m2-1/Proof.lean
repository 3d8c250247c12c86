import JvmDerived
import JvmDerived.Pilot.@@N@@Statement
import JvmDerived.Pilot.@@N@@Code
set_option linter.unusedVariables false
set_option linter.unusedSimpArgs false
namespace Jvm.OwnKit
open Sem ClassFile Op Lib Jvm.Stand Jvm.Free Jvm.LawKit Jvm.RoadKit
/-- from this frame the run ends, and the end is as Q says -/
def Endz (tb : Tables) (e : Env) (below : List Frame) (Q : Outcome → State → Prop) (T : State) (g : JFrame) : Prop :=
  ∃ s₂ o, Steps tb e below (T.setTop g) s₂ ∧ s₂.status = .running ∧ Ended s₂ below o ∧ Q o s₂
theorem Endz.by {tb : Tables} {e : Env} {below : List Frame} {Q : Outcome → State → Prop} {T T' : State} {g g' : JFrame} (st : ∀ t, Steps tb e below (T'.setTop g') t → Steps tb e below (T.setTop g) t) (h : Endz tb e below Q T' g') : Endz tb e below Q T g := by
  obtain ⟨s₂, o, h1, h2⟩ := h; exact ⟨s₂, o, st _ h1, h2⟩
theorem Endz.tr {tb : Tables} {e : Env} {below : List Frame} {Q : Outcome → State → Prop} {T T' : State} {g g' : JFrame} (st : Steps tb e below (T.setTop g) (T'.setTop g')) (h : Endz tb e below Q T' g') : Endz tb e below Q T g := by
  obtain ⟨s₂, o, h1, h2⟩ := h; exact ⟨s₂, o, st.trans h1, h2⟩
theorem Endz.eq {tb : Tables} {e : Env} {below : List Frame} {Q : Outcome → State → Prop} {T : State} {g g' : JFrame} (q : g = g') (h : Endz tb e below Q T g') : Endz tb e below Q T g := q ▸ h
section Plain
variable {tb : Tables} [Ours tb] {e : Env} {below : List Frame} {Q : Outcome → State → Prop} {T : State} {m : MethodId} {c : Code} {pc n n1 n2 : Nat} {Ls Ls' : Array Slot} {st : List Value}
theorem w_iloadN (h : At T m c below) (hx : tb.exec = Jvm.exec) {k : Fin 4} {v : Int32} (hd : decode c.code pc = .ok (.iload_n k, 1)) (hn : pc + 1 = n) (hl : Ls[k.val]? = some (.val (.int v))) (hr : Endz tb e below Q T (mkF m n Ls (.int v :: st))) : Endz tb e below Q T (mkF m pc Ls (st)) := by
  subst hn; exact Endz.by (fun _ k => XS.iloadN h hx rfl hd hl k) hr
theorem w_iload (h : At T m c below) (hx : tb.exec = Jvm.exec) {k : Nat} {v : Int32} (hd : decode c.code pc = .ok (.iload k, 2)) (hn : pc + 2 = n) (hl : Ls[k]? = some (.val (.int v))) (hr : Endz tb e below Q T (mkF m n Ls (.int v :: st))) : Endz tb e below Q T (mkF m pc Ls (st)) := by
  subst hn; exact Endz.by (fun _ k => XS.iload h hx rfl hd hl k) hr
theorem w_lloadN (h : At T m c below) (hx : tb.exec = Jvm.exec) {k : Fin 4} {v : Int64} (hd : decode c.code pc = .ok (.lload_n k, 1)) (hn : pc + 1 = n) (hl : Ls[k.val]? = some (.val (.long v))) (hr : Endz tb e below Q T (mkF m n Ls (.long v :: st))) : Endz tb e below Q T (mkF m pc Ls (st)) := by
  subst hn; exact Endz.by (fun _ k => XS.lloadN h hx rfl hd hl k) hr
theorem w_lload (h : At T m c below) (hx : tb.exec = Jvm.exec) {k : Nat} {v : Int64} (hd : decode c.code pc = .ok (.lload k, 2)) (hn : pc + 2 = n) (hl : Ls[k]? = some (.val (.long v))) (hr : Endz tb e below Q T (mkF m n Ls (.long v :: st))) : Endz tb e below Q T (mkF m pc Ls (st)) := by
  subst hn; exact Endz.by (fun _ k => XS.lload h hx rfl hd hl k) hr
theorem w_aloadN (h : At T m c below) (hx : tb.exec = Jvm.exec) {k : Fin 4} {v : Value} (hd : decode c.code pc = .ok (.aload_n k, 1)) (hn : pc + 1 = n) (hl : Ls[k.val]? = some (.val v)) (hv : v.isRef = true) (hr : Endz tb e below Q T (mkF m n Ls (v :: st))) : Endz tb e below Q T (mkF m pc Ls (st)) := by
  subst hn; exact Endz.by (fun _ k => XS.aloadN h hx rfl hd hl hv k) hr
theorem w_aload (h : At T m c below) (hx : tb.exec = Jvm.exec) {k : Nat} {v : Value} (hd : decode c.code pc = .ok (.aload k, 2)) (hn : pc + 2 = n) (hl : Ls[k]? = some (.val v)) (hv : v.isRef = true) (hr : Endz tb e below Q T (mkF m n Ls (v :: st))) : Endz tb e below Q T (mkF m pc Ls (st)) := by
  subst hn; exact Endz.by (fun _ k => XS.aload h hx rfl hd hl hv k) hr
theorem w_istoreN (h : At T m c below) (hx : tb.exec = Jvm.exec) {k : Fin 4} {x : Int32} (hd : decode c.code pc = .ok (.istore_n k, 1)) (hn : pc + 1 = n) (hl : storeLocals Ls k.val (.int x) = some Ls') (hr : Endz tb e below Q T (mkF m n Ls' (st))) : Endz tb e below Q T (mkF m pc Ls (.int x :: st)) := by
  subst hn; exact Endz.by (fun _ k => XS.istoreN h hx rfl hd rfl hl k) hr
theorem w_istore (h : At T m c below) (hx : tb.exec = Jvm.exec) {k : Nat} {x : Int32} (hd : decode c.code pc = .ok (.istore k, 2)) (hn : pc + 2 = n) (hl : storeLocals Ls k (.int x) = some Ls') (hr : Endz tb e below Q T (mkF m n Ls' (st))) : Endz tb e below Q T (mkF m pc Ls (.int x :: st)) := by
  subst hn; exact Endz.by (fun _ k => XS.istore h hx rfl hd rfl hl k) hr
theorem w_lstoreN (h : At T m c below) (hx : tb.exec = Jvm.exec) {k : Fin 4} {x : Int64} (hd : decode c.code pc = .ok (.lstore_n k, 1)) (hn : pc + 1 = n) (hl : storeLocals Ls k.val (.long x) = some Ls') (hr : Endz tb e below Q T (mkF m n Ls' (st))) : Endz tb e below Q T (mkF m pc Ls (.long x :: st)) := by
  subst hn; exact Endz.by (fun _ k => XS.lstoreN h hx rfl hd rfl hl k) hr
theorem w_lstore (h : At T m c below) (hx : tb.exec = Jvm.exec) {k : Nat} {x : Int64} (hd : decode c.code pc = .ok (.lstore k, 2)) (hn : pc + 2 = n) (hl : storeLocals Ls k (.long x) = some Ls') (hr : Endz tb e below Q T (mkF m n Ls' (st))) : Endz tb e below Q T (mkF m pc Ls (.long x :: st)) := by
  subst hn; exact Endz.by (fun _ k => XS.lstore h hx rfl hd rfl hl k) hr
theorem w_astoreN (h : At T m c below) (hx : tb.exec = Jvm.exec) {k : Fin 4} {x : Value} (hd : decode c.code pc = .ok (.astore_n k, 1)) (hn : pc + 1 = n) (hv : x.isRef = true) (hl : storeLocals Ls k.val x = some Ls') (hr : Endz tb e below Q T (mkF m n Ls' (st))) : Endz tb e below Q T (mkF m pc Ls (x :: st)) := by
  subst hn; exact Endz.by (fun _ k => XS.astoreN h hx rfl hd rfl hv hl k) hr
theorem w_astore (h : At T m c below) (hx : tb.exec = Jvm.exec) {k : Nat} {x : Value} (hd : decode c.code pc = .ok (.astore k, 2)) (hn : pc + 2 = n) (hv : x.isRef = true) (hl : storeLocals Ls k x = some Ls') (hr : Endz tb e below Q T (mkF m n Ls' (st))) : Endz tb e below Q T (mkF m pc Ls (x :: st)) := by
  subst hn; exact Endz.by (fun _ k => XS.astore h hx rfl hd rfl hv hl k) hr
theorem w_iinc (h : At T m c below) (hx : tb.exec = Jvm.exec) {k : Nat} {i : Int} {x : Int32} (hd : decode c.code pc = .ok (.iinc k i, 3)) (hn : pc + 3 = n) (hl : Ls[k]? = some (.val (.int x))) (hl' : storeLocals Ls k (.int (x + Int32.ofInt i)) = some Ls') (hr : Endz tb e below Q T (mkF m n Ls' (st))) : Endz tb e below Q T (mkF m pc Ls (st)) := by
  subst hn; exact Endz.by (fun _ k => XS.iinc h hx rfl hd hl hl' k) hr
theorem w_iconst (h : At T m c below) (hx : tb.exec = Jvm.exec) {i : Int} {z : Int32} (hd : decode c.code pc = .ok (.iconst i, 1)) (hn : pc + 1 = n) (hz : Int32.ofInt i = z) (hr : Endz tb e below Q T (mkF m n Ls (.int z :: st))) : Endz tb e below Q T (mkF m pc Ls (st)) := by
  subst hn; exact Endz.by (fun _ k => XS.iconst h hx rfl hd (hz ▸ k)) hr
theorem w_bipush (h : At T m c below) (hx : tb.exec = Jvm.exec) {i : Int} {z : Int32} (hd : decode c.code pc = .ok (.bipush i, 2)) (hn : pc + 2 = n) (hz : (Int8.ofInt i).toInt32 = z) (hr : Endz tb e below Q T (mkF m n Ls (.int z :: st))) : Endz tb e below Q T (mkF m pc Ls (st)) := by
  subst hn; exact Endz.by (fun _ k => XS.bipush h hx rfl hd (hz ▸ k)) hr
theorem w_sipush (h : At T m c below) (hx : tb.exec = Jvm.exec) {i : Int} {z : Int32} (hd : decode c.code pc = .ok (.sipush i, 3)) (hn : pc + 3 = n) (hz : (Int16.ofInt i).toInt32 = z) (hr : Endz tb e below Q T (mkF m n Ls (.int z :: st))) : Endz tb e below Q T (mkF m pc Ls (st)) := by
  subst hn; exact Endz.by (fun _ k => XS.sipush h hx rfl hd (hz ▸ k)) hr
theorem w_lconst (h : At T m c below) (hx : tb.exec = Jvm.exec) {i : Fin 2} {z : Int64} (hd : decode c.code pc = .ok (.lconst i, 1)) (hn : pc + 1 = n) (hz : Int64.ofNat i = z) (hr : Endz tb e below Q T (mkF m n Ls (.long z :: st))) : Endz tb e below Q T (mkF m pc Ls (st)) := by
  subst hn; exact Endz.by (fun _ k => XS.lconst h hx rfl hd (hz ▸ k)) hr
theorem w_aconstNull (h : At T m c below) (hx : tb.exec = Jvm.exec)  (hd : decode c.code pc = .ok (.aconst_null, 1)) (hn : pc + 1 = n) (hr : Endz tb e below Q T (mkF m n Ls (.null :: st))) : Endz tb e below Q T (mkF m pc Ls (st)) := by
  subst hn; exact Endz.by (fun _ k => XS.aconstNull h hx rfl hd k) hr
theorem w_iadd (h : At T m c below) (hx : tb.exec = Jvm.exec) {x y : Int32} (hd : decode c.code pc = .ok (.iadd, 1)) (hn : pc + 1 = n) (hr : Endz tb e below Q T (mkF m n Ls (.int (x + y) :: st))) : Endz tb e below Q T (mkF m pc Ls (.int y :: .int x :: st)) := by
  subst hn; exact Endz.by (fun _ k => XS.iadd h hx rfl hd rfl k) hr
theorem w_isub (h : At T m c below) (hx : tb.exec = Jvm.exec) {x y : Int32} (hd : decode c.code pc = .ok (.isub, 1)) (hn : pc + 1 = n) (hr : Endz tb e below Q T (mkF m n Ls (.int (x - y) :: st))) : Endz tb e below Q T (mkF m pc Ls (.int y :: .int x :: st)) := by
  subst hn; exact Endz.by (fun _ k => XS.isub h hx rfl hd rfl k) hr
theorem w_imul (h : At T m c below) (hx : tb.exec = Jvm.exec) {x y : Int32} (hd : decode c.code pc = .ok (.imul, 1)) (hn : pc + 1 = n) (hr : Endz tb e below Q T (mkF m n Ls (.int (x * y) :: st))) : Endz tb e below Q T (mkF m pc Ls (.int y :: .int x :: st)) := by
  subst hn; exact Endz.by (fun _ k => XS.imul h hx rfl hd rfl k) hr
theorem w_iand (h : At T m c below) (hx : tb.exec = Jvm.exec) {x y : Int32} (hd : decode c.code pc = .ok (.iand, 1)) (hn : pc + 1 = n) (hr : Endz tb e below Q T (mkF m n Ls (.int (x &&& y) :: st))) : Endz tb e below Q T (mkF m pc Ls (.int y :: .int x :: st)) := by
  subst hn; exact Endz.by (fun _ k => XS.iand h hx rfl hd rfl k) hr
theorem w_ior (h : At T m c below) (hx : tb.exec = Jvm.exec) {x y : Int32} (hd : decode c.code pc = .ok (.ior, 1)) (hn : pc + 1 = n) (hr : Endz tb e below Q T (mkF m n Ls (.int (x ||| y) :: st))) : Endz tb e below Q T (mkF m pc Ls (.int y :: .int x :: st)) := by
  subst hn; exact Endz.by (fun _ k => XS.ior h hx rfl hd rfl k) hr
theorem w_ixor (h : At T m c below) (hx : tb.exec = Jvm.exec) {x y : Int32} (hd : decode c.code pc = .ok (.ixor, 1)) (hn : pc + 1 = n) (hr : Endz tb e below Q T (mkF m n Ls (.int (x ^^^ y) :: st))) : Endz tb e below Q T (mkF m pc Ls (.int y :: .int x :: st)) := by
  subst hn; exact Endz.by (fun _ k => XS.ixor h hx rfl hd rfl k) hr
theorem w_ishl (h : At T m c below) (hx : tb.exec = Jvm.exec) {x y : Int32} (hd : decode c.code pc = .ok (.ishl, 1)) (hn : pc + 1 = n) (hr : Endz tb e below Q T (mkF m n Ls (.int (x <<< (y &&& 31)) :: st))) : Endz tb e below Q T (mkF m pc Ls (.int y :: .int x :: st)) := by
  subst hn; exact Endz.by (fun _ k => XS.ishl h hx rfl hd rfl k) hr
theorem w_ishr (h : At T m c below) (hx : tb.exec = Jvm.exec) {x y : Int32} (hd : decode c.code pc = .ok (.ishr, 1)) (hn : pc + 1 = n) (hr : Endz tb e below Q T (mkF m n Ls (.int (x >>> (y &&& 31)) :: st))) : Endz tb e below Q T (mkF m pc Ls (.int y :: .int x :: st)) := by
  subst hn; exact Endz.by (fun _ k => XS.ishr h hx rfl hd rfl k) hr
theorem w_iushr (h : At T m c below) (hx : tb.exec = Jvm.exec) {x y : Int32} (hd : decode c.code pc = .ok (.iushr, 1)) (hn : pc + 1 = n) (hr : Endz tb e below Q T (mkF m n Ls (.int ((x.toUInt32 >>> (y &&& 31).toUInt32).toInt32) :: st))) : Endz tb e below Q T (mkF m pc Ls (.int y :: .int x :: st)) := by
  subst hn; exact Endz.by (fun _ k => XS.iushr h hx rfl hd rfl k) hr
theorem w_ladd (h : At T m c below) (hx : tb.exec = Jvm.exec) {x y : Int64} (hd : decode c.code pc = .ok (.ladd, 1)) (hn : pc + 1 = n) (hr : Endz tb e below Q T (mkF m n Ls (.long (x + y) :: st))) : Endz tb e below Q T (mkF m pc Ls (.long y :: .long x :: st)) := by
  subst hn; exact Endz.by (fun _ k => XS.ladd h hx rfl hd rfl k) hr
theorem w_lsub (h : At T m c below) (hx : tb.exec = Jvm.exec) {x y : Int64} (hd : decode c.code pc = .ok (.lsub, 1)) (hn : pc + 1 = n) (hr : Endz tb e below Q T (mkF m n Ls (.long (x - y) :: st))) : Endz tb e below Q T (mkF m pc Ls (.long y :: .long x :: st)) := by
  subst hn; exact Endz.by (fun _ k => XS.lsub h hx rfl hd rfl k) hr
theorem w_lmul (h : At T m c below) (hx : tb.exec = Jvm.exec) {x y : Int64} (hd : decode c.code pc = .ok (.lmul, 1)) (hn : pc + 1 = n) (hr : Endz tb e below Q T (mkF m n Ls (.long (x * y) :: st))) : Endz tb e below Q T (mkF m pc Ls (.long y :: .long x :: st)) := by
  subst hn; exact Endz.by (fun _ k => XS.lmul h hx rfl hd rfl k) hr
theorem w_land (h : At T m c below) (hx : tb.exec = Jvm.exec) {x y : Int64} (hd : decode c.code pc = .ok (.land, 1)) (hn : pc + 1 = n) (hr : Endz tb e below Q T (mkF m n Ls (.long (x &&& y) :: st))) : Endz tb e below Q T (mkF m pc Ls (.long y :: .long x :: st)) := by
  subst hn; exact Endz.by (fun _ k => XS.land h hx rfl hd rfl k) hr
theorem w_lor (h : At T m c below) (hx : tb.exec = Jvm.exec) {x y : Int64} (hd : decode c.code pc = .ok (.lor, 1)) (hn : pc + 1 = n) (hr : Endz tb e below Q T (mkF m n Ls (.long (x ||| y) :: st))) : Endz tb e below Q T (mkF m pc Ls (.long y :: .long x :: st)) := by
  subst hn; exact Endz.by (fun _ k => XS.lor h hx rfl hd rfl k) hr
theorem w_lxor (h : At T m c below) (hx : tb.exec = Jvm.exec) {x y : Int64} (hd : decode c.code pc = .ok (.lxor, 1)) (hn : pc + 1 = n) (hr : Endz tb e below Q T (mkF m n Ls (.long (x ^^^ y) :: st))) : Endz tb e below Q T (mkF m pc Ls (.long y :: .long x :: st)) := by
  subst hn; exact Endz.by (fun _ k => XS.lxor h hx rfl hd rfl k) hr
theorem w_idiv (h : At T m c below) (hx : tb.exec = Jvm.exec) {x y : Int32} (hd : decode c.code pc = .ok (.idiv, 1)) (hn : pc + 1 = n) (hy : y ≠ 0) (hr : Endz tb e below Q T (mkF m n Ls (.int (x / y) :: st))) : Endz tb e below Q T (mkF m pc Ls (.int y :: .int x :: st)) := by
  subst hn; exact Endz.by (fun _ k => XS.idiv h hx rfl hd rfl hy k) hr
theorem w_irem (h : At T m c below) (hx : tb.exec = Jvm.exec) {x y : Int32} (hd : decode c.code pc = .ok (.irem, 1)) (hn : pc + 1 = n) (hy : y ≠ 0) (hr : Endz tb e below Q T (mkF m n Ls (.int (x % y) :: st))) : Endz tb e below Q T (mkF m pc Ls (.int y :: .int x :: st)) := by
  subst hn; exact Endz.by (fun _ k => XS.irem h hx rfl hd rfl hy (by rw [show x - x / y * y = x % y from irem_eq_mod x y]; exact k)) hr
theorem w_ldiv (h : At T m c below) (hx : tb.exec = Jvm.exec) {x y : Int64} (hd : decode c.code pc = .ok (.ldiv, 1)) (hn : pc + 1 = n) (hy : y ≠ 0) (hr : Endz tb e below Q T (mkF m n Ls (.long (x / y) :: st))) : Endz tb e below Q T (mkF m pc Ls (.long y :: .long x :: st)) := by
  subst hn; exact Endz.by (fun _ k => XS.ldiv h hx rfl hd rfl hy k) hr
theorem w_lrem (h : At T m c below) (hx : tb.exec = Jvm.exec) {x y : Int64} (hd : decode c.code pc = .ok (.lrem, 1)) (hn : pc + 1 = n) (hy : y ≠ 0) (hr : Endz tb e below Q T (mkF m n Ls (.long (x % y) :: st))) : Endz tb e below Q T (mkF m pc Ls (.long y :: .long x :: st)) := by
  subst hn; exact Endz.by (fun _ k => XS.lrem h hx rfl hd rfl hy (by rw [show x - x / y * y = x % y from lrem_mod x y]; exact k)) hr
theorem w_ineg (h : At T m c below) (hx : tb.exec = Jvm.exec) {x : Int32} (hd : decode c.code pc = .ok (.ineg, 1)) (hn : pc + 1 = n) (hr : Endz tb e below Q T (mkF m n Ls (.int (-x) :: st))) : Endz tb e below Q T (mkF m pc Ls (.int x :: st)) := by
  subst hn; exact Endz.by (fun _ k => XS.ineg h hx rfl hd rfl k) hr
theorem w_lneg (h : At T m c below) (hx : tb.exec = Jvm.exec) {x : Int64} (hd : decode c.code pc = .ok (.lneg, 1)) (hn : pc + 1 = n) (hr : Endz tb e below Q T (mkF m n Ls (.long (-x) :: st))) : Endz tb e below Q T (mkF m pc Ls (.long x :: st)) := by
  subst hn; exact Endz.by (fun _ k => XS.lneg h hx rfl hd rfl k) hr
theorem w_i2l (h : At T m c below) (hx : tb.exec = Jvm.exec) {x : Int32} (hd : decode c.code pc = .ok (.i2l, 1)) (hn : pc + 1 = n) (hr : Endz tb e below Q T (mkF m n Ls (.long x.toInt64 :: st))) : Endz tb e below Q T (mkF m pc Ls (.int x :: st)) := by
  subst hn; exact Endz.by (fun _ k => XS.i2l h hx rfl hd rfl k) hr
theorem w_l2i (h : At T m c below) (hx : tb.exec = Jvm.exec) {x : Int64} (hd : decode c.code pc = .ok (.l2i, 1)) (hn : pc + 1 = n) (hr : Endz tb e below Q T (mkF m n Ls (.int x.toInt32 :: st))) : Endz tb e below Q T (mkF m pc Ls (.long x :: st)) := by
  subst hn; exact Endz.by (fun _ k => XS.l2i h hx rfl hd rfl k) hr
theorem w_i2b (h : At T m c below) (hx : tb.exec = Jvm.exec) {x : Int32} (hd : decode c.code pc = .ok (.i2b, 1)) (hn : pc + 1 = n) (hr : Endz tb e below Q T (mkF m n Ls (.int x.toInt8.toInt32 :: st))) : Endz tb e below Q T (mkF m pc Ls (.int x :: st)) := by
  subst hn; exact Endz.by (fun _ k => XS.i2b h hx rfl hd rfl k) hr
theorem w_i2c (h : At T m c below) (hx : tb.exec = Jvm.exec) {x : Int32} (hd : decode c.code pc = .ok (.i2c, 1)) (hn : pc + 1 = n) (hr : Endz tb e below Q T (mkF m n Ls (.int x.toUInt32.toUInt16.toUInt32.toInt32 :: st))) : Endz tb e below Q T (mkF m pc Ls (.int x :: st)) := by
  subst hn; exact Endz.by (fun _ k => XS.i2c h hx rfl hd rfl k) hr
theorem w_i2s (h : At T m c below) (hx : tb.exec = Jvm.exec) {x : Int32} (hd : decode c.code pc = .ok (.i2s, 1)) (hn : pc + 1 = n) (hr : Endz tb e below Q T (mkF m n Ls (.int x.toInt16.toInt32 :: st))) : Endz tb e below Q T (mkF m pc Ls (.int x :: st)) := by
  subst hn; exact Endz.by (fun _ k => XS.i2s h hx rfl hd rfl k) hr
theorem w_lcmp (h : At T m c below) (hx : tb.exec = Jvm.exec) {x y : Int64} (hd : decode c.code pc = .ok (.lcmp, 1)) (hn : pc + 1 = n) (hr : Endz tb e below Q T (mkF m n Ls (.int (lcmpW x y) :: st))) : Endz tb e below Q T (mkF m pc Ls (.long y :: .long x :: st)) := by
  subst hn; exact Endz.by (fun _ k => XS.lcmp h hx rfl hd rfl k) hr
theorem w_dup (h : At T m c below) (hx : tb.exec = Jvm.exec) {x : Value} (hd : decode c.code pc = .ok (.dup, 1)) (hn : pc + 1 = n) (hc : x.category = 1) (hr : Endz tb e below Q T (mkF m n Ls (x :: x :: st))) : Endz tb e below Q T (mkF m pc Ls (x :: st)) := by
  subst hn; exact Endz.by (fun _ k => XS.dup h hx rfl hd rfl hc k) hr
theorem w_dupX1 (h : At T m c below) (hx : tb.exec = Jvm.exec) {x y : Value} (hd : decode c.code pc = .ok (.dup_x1, 1)) (hn : pc + 1 = n) (hc : x.category = 1) (hc' : y.category = 1) (hr : Endz tb e below Q T (mkF m n Ls (x :: y :: x :: st))) : Endz tb e below Q T (mkF m pc Ls (x :: y :: st)) := by
  subst hn; exact Endz.by (fun _ k => XS.dupX1 h hx rfl hd rfl hc hc' k) hr
theorem w_pop (h : At T m c below) (hx : tb.exec = Jvm.exec) {x : Value} (hd : decode c.code pc = .ok (.pop, 1)) (hn : pc + 1 = n) (hc : x.category = 1) (hr : Endz tb e below Q T (mkF m n Ls (st))) : Endz tb e below Q T (mkF m pc Ls (x :: st)) := by
  subst hn; exact Endz.by (fun _ k => XS.pop h hx rfl hd rfl hc k) hr
theorem w_dup2 (h : At T m c below) (hx : tb.exec = Jvm.exec) {x y : Value} (hd : decode c.code pc = .ok (.dup2, 1)) (hn : pc + 1 = n) (hc : x.category = 1) (hc' : y.category = 1) (hr : Endz tb e below Q T (mkF m n Ls (x :: y :: x :: y :: st))) : Endz tb e below Q T (mkF m pc Ls (x :: y :: st)) := by
  subst hn; exact Endz.by (fun _ k => Jvm.Free.XT.dup2 h hx rfl hd rfl hc hc' k) hr
theorem w_goto (h : At T m c below) (hx : tb.exec = Jvm.exec) {o : Int} (hd : decode c.code pc = .ok (.goto o, 3)) (ho : 0 ≤ (pc : Int) + o) (hp : ((pc : Int) + o).toNat = n) (hr : Endz tb e below Q T (mkF m n Ls (st))) : Endz tb e below Q T (mkF m pc Ls (st)) :=
  Endz.by (fun _ k => XS.goto h hx rfl rfl hd ho hp k) hr
theorem w_ifeq (h : At T m c below) (hx : tb.exec = Jvm.exec) {x : Int32} {o : Int} (hd : decode c.code pc = .ok (.ifCond .eq o, 3)) (ho : 0 ≤ (pc : Int) + o) (hp : ((pc : Int) + o).toNat = n1) (hn : pc + 3 = n2) (h1 : x = 0 → Endz tb e below Q T (mkF m n1 Ls (st))) (h2 : ¬ (x = 0) → Endz tb e below Q T (mkF m n2 Ls (st))) : Endz tb e below Q T (mkF m pc Ls (.int x :: st)) := by
  subst hn
  by_cases q : x = 0
  · exact Endz.by (fun _ k => XS.ifYes h hx rfl rfl hd rfl ((if0 _ _).trans (teq q).1) ho hp k) (h1 q)
  · exact Endz.by (fun _ k => XS.ifNo h hx rfl hd rfl ((if0 _ _).trans (feq q).1) k) (h2 q)
theorem w_ifne (h : At T m c below) (hx : tb.exec = Jvm.exec) {x : Int32} {o : Int} (hd : decode c.code pc = .ok (.ifCond .ne o, 3)) (ho : 0 ≤ (pc : Int) + o) (hp : ((pc : Int) + o).toNat = n1) (hn : pc + 3 = n2) (h1 : ¬ x = 0 → Endz tb e below Q T (mkF m n1 Ls (st))) (h2 : ¬ (¬ x = 0) → Endz tb e below Q T (mkF m n2 Ls (st))) : Endz tb e below Q T (mkF m pc Ls (.int x :: st)) := by
  subst hn
  by_cases q : ¬ x = 0
  · exact Endz.by (fun _ k => XS.ifYes h hx rfl rfl hd rfl ((if0 _ _).trans (feq q).2) ho hp k) (h1 q)
  · exact Endz.by (fun _ k => XS.ifNo h hx rfl hd rfl ((if0 _ _).trans (teq (Classical.not_not.mp q)).2) k) (h2 q)
theorem w_iflt (h : At T m c below) (hx : tb.exec = Jvm.exec) {x : Int32} {o : Int} (hd : decode c.code pc = .ok (.ifCond .lt o, 3)) (ho : 0 ≤ (pc : Int) + o) (hp : ((pc : Int) + o).toNat = n1) (hn : pc + 3 = n2) (h1 : x < 0 → Endz tb e below Q T (mkF m n1 Ls (st))) (h2 : ¬ (x < 0) → Endz tb e below Q T (mkF m n2 Ls (st))) : Endz tb e below Q T (mkF m pc Ls (.int x :: st)) := by
  subst hn
  by_cases q : x < 0
  · exact Endz.by (fun _ k => XS.ifYes h hx rfl rfl hd rfl ((if0 _ _).trans (tlt q).1) ho hp k) (h1 q)
  · exact Endz.by (fun _ k => XS.ifNo h hx rfl hd rfl ((if0 _ _).trans (flt q).1) k) (h2 q)
theorem w_ifge (h : At T m c below) (hx : tb.exec = Jvm.exec) {x : Int32} {o : Int} (hd : decode c.code pc = .ok (.ifCond .ge o, 3)) (ho : 0 ≤ (pc : Int) + o) (hp : ((pc : Int) + o).toNat = n1) (hn : pc + 3 = n2) (h1 : ¬ x < 0 → Endz tb e below Q T (mkF m n1 Ls (st))) (h2 : ¬ (¬ x < 0) → Endz tb e below Q T (mkF m n2 Ls (st))) : Endz tb e below Q T (mkF m pc Ls (.int x :: st)) := by
  subst hn
  by_cases q : ¬ x < 0
  · exact Endz.by (fun _ k => XS.ifYes h hx rfl rfl hd rfl ((if0 _ _).trans (flt q).2.1) ho hp k) (h1 q)
  · exact Endz.by (fun _ k => XS.ifNo h hx rfl hd rfl ((if0 _ _).trans (tlt (Classical.not_not.mp q)).2.1) k) (h2 q)
theorem w_ifgt (h : At T m c below) (hx : tb.exec = Jvm.exec) {x : Int32} {o : Int} (hd : decode c.code pc = .ok (.ifCond .gt o, 3)) (ho : 0 ≤ (pc : Int) + o) (hp : ((pc : Int) + o).toNat = n1) (hn : pc + 3 = n2) (h1 : 0 < x → Endz tb e below Q T (mkF m n1 Ls (st))) (h2 : ¬ (0 < x) → Endz tb e below Q T (mkF m n2 Ls (st))) : Endz tb e below Q T (mkF m pc Ls (.int x :: st)) := by
  subst hn
  by_cases q : 0 < x
  · exact Endz.by (fun _ k => XS.ifYes h hx rfl rfl hd rfl ((if0 _ _).trans (tlt q).2.2.1) ho hp k) (h1 q)
  · exact Endz.by (fun _ k => XS.ifNo h hx rfl hd rfl ((if0 _ _).trans (flt q).2.2.1) k) (h2 q)
theorem w_ifle (h : At T m c below) (hx : tb.exec = Jvm.exec) {x : Int32} {o : Int} (hd : decode c.code pc = .ok (.ifCond .le o, 3)) (ho : 0 ≤ (pc : Int) + o) (hp : ((pc : Int) + o).toNat = n1) (hn : pc + 3 = n2) (h1 : ¬ 0 < x → Endz tb e below Q T (mkF m n1 Ls (st))) (h2 : ¬ (¬ 0 < x) → Endz tb e below Q T (mkF m n2 Ls (st))) : Endz tb e below Q T (mkF m pc Ls (.int x :: st)) := by
  subst hn
  by_cases q : ¬ 0 < x
  · exact Endz.by (fun _ k => XS.ifYes h hx rfl rfl hd rfl ((if0 _ _).trans (flt q).2.2.2) ho hp k) (h1 q)
  · exact Endz.by (fun _ k => XS.ifNo h hx rfl hd rfl ((if0 _ _).trans (tlt (Classical.not_not.mp q)).2.2.2) k) (h2 q)
theorem w_icmpeq (h : At T m c below) (hx : tb.exec = Jvm.exec) {x y : Int32} {o : Int} (hd : decode c.code pc = .ok (.if_icmp .eq o, 3)) (ho : 0 ≤ (pc : Int) + o) (hp : ((pc : Int) + o).toNat = n1) (hn : pc + 3 = n2) (h1 : x = y → Endz tb e below Q T (mkF m n1 Ls (st))) (h2 : ¬ (x = y) → Endz tb e below Q T (mkF m n2 Ls (st))) : Endz tb e below Q T (mkF m pc Ls (.int y :: .int x :: st)) := by
  subst hn
  by_cases q : x = y
  · exact Endz.by (fun _ k => XS.icmpYes h hx rfl rfl hd rfl ((teq q).1) ho hp k) (h1 q)
  · exact Endz.by (fun _ k => XS.icmpNo h hx rfl hd rfl ((feq q).1) k) (h2 q)
theorem w_icmpne (h : At T m c below) (hx : tb.exec = Jvm.exec) {x y : Int32} {o : Int} (hd : decode c.code pc = .ok (.if_icmp .ne o, 3)) (ho : 0 ≤ (pc : Int) + o) (hp : ((pc : Int) + o).toNat = n1) (hn : pc + 3 = n2) (h1 : ¬ x = y → Endz tb e below Q T (mkF m n1 Ls (st))) (h2 : ¬ (¬ x = y) → Endz tb e below Q T (mkF m n2 Ls (st))) : Endz tb e below Q T (mkF m pc Ls (.int y :: .int x :: st)) := by
  subst hn
  by_cases q : ¬ x = y
  · exact Endz.by (fun _ k => XS.icmpYes h hx rfl rfl hd rfl ((feq q).2) ho hp k) (h1 q)
  · exact Endz.by (fun _ k => XS.icmpNo h hx rfl hd rfl ((teq (Classical.not_not.mp q)).2) k) (h2 q)
theorem w_icmplt (h : At T m c below) (hx : tb.exec = Jvm.exec) {x y : Int32} {o : Int} (hd : decode c.code pc = .ok (.if_icmp .lt o, 3)) (ho : 0 ≤ (pc : Int) + o) (hp : ((pc : Int) + o).toNat = n1) (hn : pc + 3 = n2) (h1 : x < y → Endz tb e below Q T (mkF m n1 Ls (st))) (h2 : ¬ (x < y) → Endz tb e below Q T (mkF m n2 Ls (st))) : Endz tb e below Q T (mkF m pc Ls (.int y :: .int x :: st)) := by
  subst hn
  by_cases q : x < y
  · exact Endz.by (fun _ k => XS.icmpYes h hx rfl rfl hd rfl ((tlt q).1) ho hp k) (h1 q)
  · exact Endz.by (fun _ k => XS.icmpNo h hx rfl hd rfl ((flt q).1) k) (h2 q)
theorem w_icmpge (h : At T m c below) (hx : tb.exec = Jvm.exec) {x y : Int32} {o : Int} (hd : decode c.code pc = .ok (.if_icmp .ge o, 3)) (ho : 0 ≤ (pc : Int) + o) (hp : ((pc : Int) + o).toNat = n1) (hn : pc + 3 = n2) (h1 : ¬ x < y → Endz tb e below Q T (mkF m n1 Ls (st))) (h2 : ¬ (¬ x < y) → Endz tb e below Q T (mkF m n2 Ls (st))) : Endz tb e below Q T (mkF m pc Ls (.int y :: .int x :: st)) := by
  subst hn
  by_cases q : ¬ x < y
  · exact Endz.by (fun _ k => XS.icmpYes h hx rfl rfl hd rfl ((flt q).2.1) ho hp k) (h1 q)
  · exact Endz.by (fun _ k => XS.icmpNo h hx rfl hd rfl ((tlt (Classical.not_not.mp q)).2.1) k) (h2 q)
theorem w_icmpgt (h : At T m c below) (hx : tb.exec = Jvm.exec) {x y : Int32} {o : Int} (hd : decode c.code pc = .ok (.if_icmp .gt o, 3)) (ho : 0 ≤ (pc : Int) + o) (hp : ((pc : Int) + o).toNat = n1) (hn : pc + 3 = n2) (h1 : y < x → Endz tb e below Q T (mkF m n1 Ls (st))) (h2 : ¬ (y < x) → Endz tb e below Q T (mkF m n2 Ls (st))) : Endz tb e below Q T (mkF m pc Ls (.int y :: .int x :: st)) := by
  subst hn
  by_cases q : y < x
  · exact Endz.by (fun _ k => XS.icmpYes h hx rfl rfl hd rfl ((tlt q).2.2.1) ho hp k) (h1 q)
  · exact Endz.by (fun _ k => XS.icmpNo h hx rfl hd rfl ((flt q).2.2.1) k) (h2 q)
theorem w_icmple (h : At T m c below) (hx : tb.exec = Jvm.exec) {x y : Int32} {o : Int} (hd : decode c.code pc = .ok (.if_icmp .le o, 3)) (ho : 0 ≤ (pc : Int) + o) (hp : ((pc : Int) + o).toNat = n1) (hn : pc + 3 = n2) (h1 : ¬ y < x → Endz tb e below Q T (mkF m n1 Ls (st))) (h2 : ¬ (¬ y < x) → Endz tb e below Q T (mkF m n2 Ls (st))) : Endz tb e below Q T (mkF m pc Ls (.int y :: .int x :: st)) := by
  subst hn
  by_cases q : ¬ y < x
  · exact Endz.by (fun _ k => XS.icmpYes h hx rfl rfl hd rfl ((flt q).2.2.2) ho hp k) (h1 q)
  · exact Endz.by (fun _ k => XS.icmpNo h hx rfl hd rfl ((tlt (Classical.not_not.mp q)).2.2.2) k) (h2 q)
theorem w_ifnull (h : At T m c below) (hx : tb.exec = Jvm.exec) {v : Value} {o : Int} (hv : v.isRef = true) (hd : decode c.code pc = .ok (.ifnull o, 3)) (ho : 0 ≤ (pc : Int) + o) (hp : ((pc : Int) + o).toNat = n1) (hn : pc + 3 = n2) (h1 : v = .null → Endz tb e below Q T (mkF m n1 Ls (st))) (h2 : v ≠ .null → Endz tb e below Q T (mkF m n2 Ls (st))) : Endz tb e below Q T (mkF m pc Ls (v :: st)) := by
  subst hn
  rcases ref_cases hv with rfl | ⟨a, rfl⟩
  · exact Endz.by (fun _ k => XS.ifnullYes h hx rfl rfl hd rfl ho hp k) (h1 rfl)
  · exact Endz.by (fun _ k => XS.ifnullNo h hx rfl hd rfl k) (h2 (by simp))
theorem w_ifnonnull (h : At T m c below) (hx : tb.exec = Jvm.exec) {v : Value} {o : Int} (hv : v.isRef = true) (hd : decode c.code pc = .ok (.ifnonnull o, 3)) (ho : 0 ≤ (pc : Int) + o) (hp : ((pc : Int) + o).toNat = n1) (hn : pc + 3 = n2) (h1 : v ≠ .null → Endz tb e below Q T (mkF m n1 Ls (st))) (h2 : v = .null → Endz tb e below Q T (mkF m n2 Ls (st))) : Endz tb e below Q T (mkF m pc Ls (v :: st)) := by
  subst hn
  rcases ref_cases hv with rfl | ⟨a, rfl⟩
  · exact Endz.by (fun _ k => XS.ifnonnullNo h hx rfl hd rfl k) (h2 rfl)
  · exact Endz.by (fun _ k => XS.ifnonnullYes h hx rfl rfl hd rfl ho hp k) (h1 (by simp))
theorem w_acmpeq (h : At T m c below) (hx : tb.exec = Jvm.exec) {x y : Value} {o : Int} (hv : x.isRef = true) (hv' : y.isRef = true) (hd : decode c.code pc = .ok (.if_acmp .eq o, 3)) (ho : 0 ≤ (pc : Int) + o) (hp : ((pc : Int) + o).toNat = n1) (hn : pc + 3 = n2) (h1 : x = y → Endz tb e below Q T (mkF m n1 Ls (st))) (h2 : ¬ x = y → Endz tb e below Q T (mkF m n2 Ls (st))) : Endz tb e below Q T (mkF m pc Ls (y :: x :: st)) := by
  subst hn
  by_cases q : x = y
  · exact Endz.by (fun _ k => Jvm.Free.XT.acmpYes h hx rfl rfl hd rfl hv hv' (by simp [Jvm.Free.XT.acmp, q]) ho hp k) (h1 q)
  · exact Endz.by (fun _ k => Jvm.Free.XT.acmpNo h hx rfl hd rfl hv hv' (by simp [Jvm.Free.XT.acmp, q]) k) (h2 q)
theorem w_acmpne (h : At T m c below) (hx : tb.exec = Jvm.exec) {x y : Value} {o : Int} (hv : x.isRef = true) (hv' : y.isRef = true) (hd : decode c.code pc = .ok (.if_acmp .ne o, 3)) (ho : 0 ≤ (pc : Int) + o) (hp : ((pc : Int) + o).toNat = n1) (hn : pc + 3 = n2) (h1 : x ≠ y → Endz tb e below Q T (mkF m n1 Ls (st))) (h2 : x = y → Endz tb e below Q T (mkF m n2 Ls (st))) : Endz tb e below Q T (mkF m pc Ls (y :: x :: st)) := by
  subst hn
  by_cases q : x = y
  · exact Endz.by (fun _ k => Jvm.Free.XT.acmpNo h hx rfl hd rfl hv hv' (by simp [Jvm.Free.XT.acmp, q]) k) (h2 q)
  · exact Endz.by (fun _ k => Jvm.Free.XT.acmpYes h hx rfl rfl hd rfl hv hv' (by simp [Jvm.Free.XT.acmp, q]) ho hp k) (h1 q)
end Plain
section Heap
theorem Ext.rfl' (h : Heap) : Ext h h := ⟨Nat.le_refl _, fun _ _ q => q⟩
theorem Ext.tr {h0 h h' : Heap} (E : Ext h0 h) (E' : Ext h h') : Ext h0 h' := ⟨Nat.le_trans E.1 E'.1, fun a c q => E'.2 a c (E.2 a c q)⟩
theorem Ext.wr {h0 h h' : Heap} {a : Addr} {sl : Nat} {v : Value} (E : Ext h0 h) (W : Wr h h' a sl v) (q : h0.size ≤ a) : Ext h0 h' := by
  obtain ⟨cell, h1, h2, h3, rfl⟩ := W
  refine ⟨by simpa using E.1, fun b c hb => ?_⟩
  have hne : b ≠ a := fun e => by subst e; exact absurd (Array.getElem?_eq_some_iff.mp hb).1 (Nat.not_lt.mpr q)
  rw [Array.getElem?_setIfInBounds_ne (Ne.symm hne)]; exact E.2 b c hb
theorem Ext.kp {h0 h : Heap} (K : Keep h0 h []) : Ext h0 h := ⟨K.1, fun a c q => K.2.1 a c q nin0⟩
theorem Arv.ex {Z : State} {h h' : Heap} {a : Addr} {k : ClassId} {ty : FieldType} {z : Int32} {vs : List Value} {d : Value} (E : Ext h h') (F : Arv Z h a k ty z vs d) : Arv Z h' a k ty z vs d := F.ext E
/-- what the run leaves -/
abbrev Finz (s : State) (rm : Room) (Qv : Option Value → Heap → List Loc → Prop) : Outcome → State → Prop := fun o U' => ∃ v L, o = .returned v ∧ Qv v U'.heap L ∧ FrameEnd s o U' L rm.cells rm.slots
/-- a body's contract at given arguments and heap -/
abbrev Con (l : Launch) (Z : State) (y : MethodName) (bytes : ByteArray) (maxL : Nat) (ret : Option FieldType) (ws : List Jvm.Cond) (rm : Room) (as : Array Value) (h0 : Heap) (Qv : Option Value → Heap → List Loc → Prop) : Prop :=
  MetFree l y (head1 (Jvm.Cond.code y bytes maxL ret :: ws) rm) (fun a U => a = as ∧ Z.Warmed39 U.vm ∧ U.heap = h0) (fun _ _ _ _ _ => True) (fun _ U o U' => ∃ v L, o = .returned v ∧ Qv v U'.heap L ∧ FrameEnd U o U' L rm.cells rm.slots)
theorem con_of {l : Launch} {Z : State} {y : MethodName} {bytes : ByteArray} {maxL : Nat} {ret : Option FieldType} {ws : List Jvm.Cond} {rm : Room} {as : Array Value} {h0 : Heap} {Qv : Option Value → Heap → List Loc → Prop} (hn : plainFor y = true)
    (body : ∀ (p : Program) (e : Env) (s : State) (m : MethodId) (below : List Frame) (meth : Method) (c : Code) (T : State), Stand p l e rm s m as below meth c T [] 0 0 → p.tables.exec = Jvm.exec → Z.Warmed39 s.vm → c.code = bytes → c.maxLocals = maxL → s.vm.findClass y.cls = some m.cls → meth.sig.returnType = ret → meth.name = y.name → meth.locks = false → T.heap = h0 → Endz p.tables e below (Finz s rm Qv) T (entryFrame m as maxL)) :
    Con l Z y bytes maxL ret ws rm as h0 Qv := by
  refine MetFree.of_bodySF hn hisR ?_
  intro p e s m args below meth c s₁ Bd hml0 hP hK
  obtain ⟨rfl, hZ, hh⟩ := hP
  have X0 : Stand p l e rm s m args below meth c s₁ [] 0 0 := Stand.of_body Bd
  exact body p e s m below meth c s₁ X0 Bd.exec hZ Bd.bytes hml0 (findClass_of_methodNamed Bd.named) Bd.returns (name_of_methodNamed Bd.named Bd.method).1 Bd.notSynchronized (by rw [← hh, Bd.state]; rfl)
variable {p : Program} {l : Launch} {e : Env} {R : Room} {s : State} {m : MethodId} {args : Array Value} {below : List Frame} {meth : Method} {c : Code} {T : State} {locs : List Loc} {cells slots : Nat} {Z : State} {a0 : Array Value} {h : Heap} {pc n : Nat} {Ls : Array Slot} {st : List Value} {rm : Room} {Qv : Option Value → Heap → List Loc → Prop}
/-! the ends -/
theorem fin_of (X : Stand p l e R s m args below meth c T locs cells slots) (hlk : meth.locks = false) (eT : T.heap = h) {v : Option Value} {g : JFrame} (hv : meth.sig.returnType = none → v = none) (hc : cells ≤ rm.cells) (hs : slots ≤ rm.slots) (hQ : Qv v h locs)
    (hstep : ∀ fs, (∀ (f : JFrame) (acts : List Action), f.method = m → f.locked = none → f.entered = [] → (doReturn e (T.setTop f) acts v).1 = T.setFrames fs) → Steps p.tables e below (T.setTop g) (T.setFrames fs)) : Endz p.tables e below (Finz s rm Qv) T g := by
  obtain ⟨fs, hr, hrun, hended, hW, hsame⟩ := X.leave (v := v) hv hlk
  have hQ' : Qv v (T.setFrames fs).heap locs := by show Qv v T.heap locs; rw [eT]; exact hQ
  exact ⟨_, _, hstep fs hr, hrun, hended, v, locs, rfl, hQ', ⟨_, rfl⟩, hW, hsame.mono hc hs⟩
theorem fin_Z (X : Stand p l e R s m args below meth c T locs cells slots) (hx : p.tables.exec = Jvm.exec) (hlk : meth.locks = false) (eT : T.heap = h) {t : FieldType} {z : Int32} (hret : meth.sig.returnType = some t) (ht : t = .boolean ∨ t = .byte ∨ t = .char ∨ t = .short) (hd : decode c.code pc = .ok (.ireturn, 1)) (hc : cells ≤ rm.cells) (hs : slots ≤ rm.slots) (hQ : Qv (some (.int (nar t z))) h locs) :
    Endz p.tables e below (Finz s rm Qv) T (mkF m pc Ls (.int z :: st)) :=
  fin_of X hlk eT (fun q => by rw [hret] at q; cases q) hc hs hQ fun fs hl => retN X hx hret ht hd hl
theorem fin_I (X : Stand p l e R s m args below meth c T locs cells slots) (hx : p.tables.exec = Jvm.exec) (hlk : meth.locks = false) (eT : T.heap = h) {z : Int32} (hret : meth.sig.returnType = some .int) (hd : decode c.code pc = .ok (.ireturn, 1)) (hc : cells ≤ rm.cells) (hs : slots ≤ rm.slots) (hQ : Qv (some (.int z)) h locs) :
    Endz p.tables e below (Finz s rm Qv) T (mkF m pc Ls (.int z :: st)) :=
  fin_of X hlk eT (fun q => by rw [hret] at q; cases q) hc hs hQ fun fs hl => retOut X hx hret rfl (Or.inl ⟨rfl, Or.inl rfl, _, rfl⟩) hd hl
theorem fin_J (X : Stand p l e R s m args below meth c T locs cells slots) (hx : p.tables.exec = Jvm.exec) (hlk : meth.locks = false) (eT : T.heap = h) {z : Int64} (hret : meth.sig.returnType = some .long) (hd : decode c.code pc = .ok (.lreturn, 1)) (hc : cells ≤ rm.cells) (hs : slots ≤ rm.slots) (hQ : Qv (some (.long z)) h locs) :
    Endz p.tables e below (Finz s rm Qv) T (mkF m pc Ls (.long z :: st)) :=
  fin_of X hlk eT (fun q => by rw [hret] at q; cases q) hc hs hQ fun fs hl => retOut X hx hret rfl (Or.inr (Or.inl ⟨rfl, rfl, _, rfl⟩)) hd hl
theorem fin_A (X : Stand p l e R s m args below meth c T locs cells slots) (hx : p.tables.exec = Jvm.exec) (hlk : meth.locks = false) (eT : T.heap = h) {w : Value} {t : FieldType} (hret : meth.sig.returnType = some t) (hn : narrow t w = w) (ht : t.isReference = true) (hw : w.isRef = true) (hd : decode c.code pc = .ok (.areturn, 1)) (hc : cells ≤ rm.cells) (hs : slots ≤ rm.slots) (hQ : Qv (some w) h locs) :
    Endz p.tables e below (Finz s rm Qv) T (mkF m pc Ls (w :: st)) :=
  fin_of X hlk eT (fun q => by rw [hret] at q; cases q) hc hs hQ fun fs hl => retOut X hx hret hn (Or.inr (Or.inr (Or.inr (Or.inr ⟨rfl, ht, hw⟩)))) hd hl
theorem fin_V (X : Stand p l e R s m args below meth c T locs cells slots) (hx : p.tables.exec = Jvm.exec) (hlk : meth.locks = false) (eT : T.heap = h) (hret : meth.sig.returnType = none) (hd : decode c.code pc = .ok (.return_, 1)) (hc : cells ≤ rm.cells) (hs : slots ≤ rm.slots) (hQ : Qv none h locs) :
    Endz p.tables e below (Finz s rm Qv) T (mkF m pc Ls []) :=
  fin_of X hlk eT (fun _ => rfl) hc hs hQ fun fs hl => X.returnOut hx hret hd hl
variable {Q : Outcome → State → Prop}
/-! fields and statics: what comes behind is asked of every such state -/
theorem g_F (X : Stand p l e R s m args below meth c T locs cells slots) (hx : p.tables.exec = Jvm.exec) (hZ : Z.Warmed39 s.vm) {own O nm d : String} {idx : Nat} (hown : s.vm.findClass own = some m.cls) (w : (Jvm.Cond.fieldLink own idx O nm d).before a0 Z = true) (eT : T.heap = h) {a : Addr} {v : Value} (F : Fld Z h a O nm d v) (hd : decode c.code pc = .ok (.getfield idx, 3)) (hn : pc + 3 = n)
    (hr : ∀ T', Stand p l e R s m args below meth c T' locs cells slots → T'.heap = h → Endz p.tables e below Q T' (mkF m n Ls (v :: st))) : Endz p.tables e below Q T (mkF m pc Ls (.ref a :: st)) := by
  subst hn
  obtain ⟨T', X', e', st'⟩ := getF X hx hZ hown (host := "") (Or.inl w) Via.refl eT F (g := mkF m pc Ls (.ref a :: st)) rfl rfl hd
  exact Endz.by st' (hr T' X' e')
theorem g_FV (X : Stand p l e R s m args below meth c T locs cells slots) (hx : p.tables.exec = Jvm.exec) (hZ : Z.Warmed39 s.vm) {own R0 O nm d : String} {idx : Nat} (hown : s.vm.findClass own = some m.cls) (w : (Jvm.Cond.fieldLink own idx R0 nm d).before a0 Z = true) (via : Via Z R0 O nm d) (eT : T.heap = h) {a : Addr} {v : Value} (F : Fld Z h a O nm d v) (hd : decode c.code pc = .ok (.getfield idx, 3)) (hn : pc + 3 = n)
    (hr : ∀ T', Stand p l e R s m args below meth c T' locs cells slots → T'.heap = h → Endz p.tables e below Q T' (mkF m n Ls (v :: st))) : Endz p.tables e below Q T (mkF m pc Ls (.ref a :: st)) := by
  subst hn
  obtain ⟨T', X', e', st'⟩ := getF X hx hZ hown (host := "") (Or.inl w) via eT F (g := mkF m pc Ls (.ref a :: st)) rfl rfl hd
  exact Endz.by st' (hr T' X' e')
theorem g_S (X : Stand p l e R s m args below meth c T locs cells slots) (hx : p.tables.exec = Jvm.exec) (hZ : Z.Warmed39 s.vm) {own O nm d : String} {idx : Nat} (hown : s.vm.findClass own = some m.cls) (w : (Jvm.Cond.fieldLink own idx O nm d).before a0 Z = true) (eT : T.heap = h) {v : Value} (F : Sta Z h O nm d v) (hd : decode c.code pc = .ok (.getstatic idx, 3)) (hn : pc + 3 = n)
    (hr : ∀ T', Stand p l e R s m args below meth c T' locs cells slots → T'.heap = h → Endz p.tables e below Q T' (mkF m n Ls (v :: st))) : Endz p.tables e below Q T (mkF m pc Ls st) := by
  subst hn
  obtain ⟨T', X', e', st'⟩ := getS2 X hx hZ hown (host := "") (Or.inl w) Via.refl eT F (g := mkF m pc Ls st) rfl hd
  exact Endz.by st' (hr T' X' e')
theorem p_F (X : Stand p l e R s m args below meth c T locs cells slots) (hx : p.tables.exec = Jvm.exec) (hZ : Z.Warmed39 s.vm) {own O nm d C : String} {idx kk : Nat} {ty : FieldType} (hown : s.vm.findClass own = some m.cls) (w : (Jvm.Cond.fieldLink own idx O nm d).before a0 Z = true) (eT : T.heap = h) {a : Addr} {v old : Value} (F : Fld Z h a O nm d old) (A : Exa Z h a C)
    (L : (Jvm.Cond.lays C O nm d).before a0 Z = true ∨ ((Jvm.Cond.laysFinal C O nm d).before a0 Z = true ∧ own = O ∧ meth.name = "<init>")) (wi : (Jvm.Cond.instantiable C kk).before a0 Z = true) (hty : parseFieldDescriptor d = some ty) (hna : narrow ty v = v) (hf : fits ty v = true) (hd : decode c.code pc = .ok (.putfield idx, 3)) (hn : pc + 3 = n)
    (hr : ∀ T' h', Stand p l e R s m args below meth c T' (locs ++ [⟨a, Jvm.RoadKit.slotOf Z O nm d⟩]) cells slots → T'.heap = h' → Wr h h' a (Jvm.RoadKit.slotOf Z O nm d) v → Endz p.tables e below Q T' (mkF m n Ls st)) : Endz p.tables e below Q T (mkF m pc Ls (v :: .ref a :: st)) := by
  subst hn
  obtain ⟨T', h', X', e', W', st'⟩ := putF X hx hZ hown (host := "") (Or.inl w) Via.refl eT F A L wi hty hna hf (g := mkF m pc Ls (v :: .ref a :: st)) rfl rfl hd
  exact Endz.by st' (hr T' h' X' e' W')
/-- putfield of a boolean, byte, char or short: what lies there is the narrowed int -/
theorem p_FN (X : Stand p l e R s m args below meth c T locs cells slots) (hx : p.tables.exec = Jvm.exec) (hZ : Z.Warmed39 s.vm) {own O nm d C : String} {idx kk : Nat} {ty : FieldType} (hown : s.vm.findClass own = some m.cls) (w : (Jvm.Cond.fieldLink own idx O nm d).before a0 Z = true) (eT : T.heap = h) {a : Addr} {v v' old : Value} (F : Fld Z h a O nm d old) (A : Exa Z h a C)
    (L : (Jvm.Cond.lays C O nm d).before a0 Z = true ∨ ((Jvm.Cond.laysFinal C O nm d).before a0 Z = true ∧ own = O ∧ meth.name = "<init>")) (wi : (Jvm.Cond.instantiable C kk).before a0 Z = true) (hty : parseFieldDescriptor d = some ty) (hna : narrow ty v = v') (hf : fits ty v' = true) (hd : decode c.code pc = .ok (.putfield idx, 3)) (hn : pc + 3 = n)
    (hr : ∀ T' h', Stand p l e R s m args below meth c T' (locs ++ [⟨a, Jvm.RoadKit.slotOf Z O nm d⟩]) cells slots → T'.heap = h' → Wr h h' a (Jvm.RoadKit.slotOf Z O nm d) v' → Endz p.tables e below Q T' (mkF m n Ls st)) : Endz p.tables e below Q T (mkF m pc Ls (v :: .ref a :: st)) := by
  subst hn
  obtain ⟨T', h', X', e', W', st'⟩ := putFN X hx hZ hown w Via.refl eT F A L wi hty hna hf (g := mkF m pc Ls (v :: .ref a :: st)) rfl rfl hd
  exact Endz.by st' (hr T' h' X' e' W')
/-! constants of the pool -/
theorem k_I (X : Stand p l e R s m args below meth c T locs cells slots) (hx : p.tables.exec = Jvm.exec) (hZ : Z.Warmed39 s.vm) {own : String} {idx : Nat} {v : Int32} (hown : s.vm.findClass own = some m.cls) (w : (Jvm.Cond.constant own idx v).before a0 Z = true) (hd : decode c.code pc = .ok (.ldc idx, 2)) (hn : pc + 2 = n) (hr : Endz p.tables e below Q T (mkF m n Ls (.int v :: st))) : Endz p.tables e below Q T (mkF m pc Ls st) := by
  subst hn
  exact Endz.by (X.ldcInt hx hown (mvT hZ w) (g := mkF m pc Ls st) rfl hd) hr
theorem k_J (X : Stand p l e R s m args below meth c T locs cells slots) (hx : p.tables.exec = Jvm.exec) (hZ : Z.Warmed39 s.vm) {own : String} {idx : Nat} {v : Int64} (hown : s.vm.findClass own = some m.cls) (w : (Jvm.Cond.constantLong own idx v).before a0 Z = true) (hd : decode c.code pc = .ok (.ldc2_w idx, 3)) (hn : pc + 3 = n) (hr : Endz p.tables e below Q T (mkF m n Ls (.long v :: st))) : Endz p.tables e below Q T (mkF m pc Ls st) := by
  subst hn
  exact Endz.by (X.ldc2Long hx hown (mvT hZ w) (g := mkF m pc Ls st) rfl hd) hr
/-! objects and arrays made -/
theorem n_O (X : Stand p l e R s m args below meth c T locs cells slots) (hx : p.tables.exec = Jvm.exec) (hZ : Z.Warmed39 s.vm) {own C : String} {idx k : Nat} (hown : s.vm.findClass own = some m.cls) (w : (Jvm.Cond.classLink own idx C).before a0 Z = true) (wi : (Jvm.Cond.instantiable C k).before a0 Z = true) (wz : (Jvm.Cond.initialized C).before a0 Z = true) (eT : T.heap = h) (hd : decode c.code pc = .ok (.new idx, 3)) (hn : pc + 3 = n) (hc : cells + 1 ≤ R.cells) (hl : slots + k ≤ R.slots)
    (hr : ∀ T' h' b, b = h.size → Stand p l e R s m args below meth c T' locs (cells + 1) (slots + k) → T'.heap = h' → Ext h h' → Exa Z h' b C → (∀ {O nm d : String} {ty : FieldType}, Laid Z a0 C O nm d → parseFieldDescriptor d = some ty → Fld Z h' b O nm d (defaultValue ty)) → (∃ cell : Cell, h'[b]? = some cell ∧ cell.vm = .none ∧ cell.monitor = {}) → Endz p.tables e below Q T' (mkF m n Ls (.ref b :: st))) : Endz p.tables e below Q T (mkF m pc Ls st) := by
  subst hn
  obtain ⟨T', h', X', e', E', A', D', U', st'⟩ := newO X hx hZ hown w wi wz eT (g := mkF m pc Ls st) rfl hd hc hl
  exact Endz.by st' (hr T' h' _ rfl X' e' E' A' D' U')
theorem n_P (X : Stand p l e R s m args below meth c T locs cells slots) (hx : p.tables.exec = Jvm.exec) (hZ : Z.Warmed39 s.vm) {aty : ArrayType} (w : (Jvm.Cond.arrayClass (newarray.typeOf aty)).before a0 Z = true) (eT : T.heap = h) {z : Int32} (hd : decode c.code pc = .ok (.newarray aty, 2)) (hn : pc + 2 = n) (hz : ¬ z < 0) (cap : Nat) (hcap : z.toNatClampNeg ≤ cap) (hb : cap * 8 ≤ 536870912) (hc : cells + 1 ≤ R.cells) (hl : slots + cap ≤ R.slots)
    (hr : ∀ T' h' k b, b = h.size → Stand p l e R s m args below meth c T' locs (cells + 1) (slots + cap) → T'.heap = h' → Ext h h' → Arv Z h' b k (newarray.typeOf aty) z [] (defaultValue (newarray.typeOf aty)) → Endz p.tables e below Q T' (mkF m n Ls (.ref b :: st))) : Endz p.tables e below Q T (mkF m pc Ls (.int z :: st)) := by
  subst hn
  obtain ⟨T', h', k, X', e', E', A', st'⟩ := newP X hx hZ w eT (g := mkF m pc Ls (.int z :: st)) rfl hd rfl hz (cap := cap) hcap hb hc hl
  exact Endz.by st' (hr T' h' k _ rfl X' e' E' (Arv.new A' hz))
theorem n_R (X : Stand p l e R s m args below meth c T locs cells slots) (hx : p.tables.exec = Jvm.exec) (hZ : Z.Warmed39 s.vm) {own C : String} {idx : Nat} (hown : s.vm.findClass own = some m.cls) (w1 : (Jvm.Cond.classLink own idx C).before a0 Z = true) (w2 : (Jvm.Cond.arrayOver (.object C)).before a0 Z = true) (eT : T.heap = h) {z : Int32} (hd : decode c.code pc = .ok (.anewarray idx, 3)) (hn : pc + 3 = n) (hz : ¬ z < 0) (cap : Nat) (hcap : z.toNatClampNeg ≤ cap) (hb : cap * 8 ≤ 536870912) (hc : cells + 1 ≤ R.cells) (hl : slots + cap ≤ R.slots)
    (hr : ∀ T' h' k b, b = h.size → Stand p l e R s m args below meth c T' locs (cells + 1) (slots + cap) → T'.heap = h' → Ext h h' → Arv Z h' b k (.object C) z [] .null → Ovr Z k C → Endz p.tables e below Q T' (mkF m n Ls (.ref b :: st))) : Endz p.tables e below Q T (mkF m pc Ls (.int z :: st)) := by
  subst hn
  obtain ⟨T', h', k, X', e', E', A', O', st'⟩ := newR X hx hZ hown w1 w2 eT (g := mkF m pc Ls (.int z :: st)) rfl hd rfl hz (cap := cap) hcap hb hc hl
  exact Endz.by st' (hr T' h' k _ rfl X' e' E' (Arv.new A' hz) O')
/-! stores into arrays: the place is j, the i-th of the list -/
theorem pad0 {h : Heap} {a : Addr} {k : ClassId} {ty : FieldType} {z : Int32} {d : Value} (V : Arv Z h a k ty z [] d) (i : Nat) : Arv Z h a k ty z (List.replicate i d) d := V.pad (pad_rep [] d i)
theorem s_R (X : Stand p l e R s m args below meth c T locs cells slots) (hx : p.tables.exec = Jvm.exec) (hZ : Z.Warmed39 s.vm) (eT : T.heap = h) {b : Addr} {k : ClassId} {C : String} {z j : Int32} {vs : List Value} {y : Addr} (V : Arv Z h b k (.object C) z vs .null) (O : Ovr Z k C) (I : Ins Z h y C true) (i : Nat) (hj : j.toNatClampNeg = i) (hi : i < vs.length) (hj0 : ¬ j < 0) (hjz : j < z) (hd : decode c.code pc = .ok (.aastore, 1)) (hn : pc + 1 = n)
    (hr : ∀ T' h', Stand p l e R s m args below meth c T' (locs ++ [⟨b, j.toNatClampNeg⟩]) cells slots → T'.heap = h' → Wr h h' b j.toNatClampNeg (.ref y) → Arv Z h' b k (.object C) z (vs.set i (.ref y)) .null → Endz p.tables e below Q T' (mkF m n Ls st)) : Endz p.tables e below Q T (mkF m pc Ls (.ref y :: .int j :: .ref b :: st)) := by
  subst hn
  obtain ⟨cl, A, q1, S, N, H, G⟩ := V
  obtain ⟨T', h', X', e', W', st'⟩ := stR X hx hZ eT A (j := j) (inb_of S ⟨hj0, hjz⟩) rfl (Sto.ofV A q1 O I) (g := mkF m pc Ls (.ref y :: .int j :: .ref b :: st)) rfl rfl hd
  exact Endz.by st' (hr T' h' X' e' W' (Arv.set A q1 S N H G rfl W' i hj hi))
theorem s_I (X : Stand p l e R s m args below meth c T locs cells slots) (hx : p.tables.exec = Jvm.exec) (hZ : Z.Warmed39 s.vm) (eT : T.heap = h) {b : Addr} {k : ClassId} {z j x : Int32} {vs : List Value} {dv : Value} (V : Arv Z h b k .int z vs dv) (i : Nat) (hj : j.toNatClampNeg = i) (hi : i < vs.length) (hj0 : ¬ j < 0) (hjz : j < z) (hd : decode c.code pc = .ok (.iastore, 1)) (hn : pc + 1 = n)
    (hr : ∀ T' h', Stand p l e R s m args below meth c T' (locs ++ [⟨b, j.toNatClampNeg⟩]) cells slots → T'.heap = h' → Wr h h' b j.toNatClampNeg (.int x) → Arv Z h' b k .int z (vs.set i (.int x)) dv → Endz p.tables e below Q T' (mkF m n Ls st)) : Endz p.tables e below Q T (mkF m pc Ls (.int x :: .int j :: .ref b :: st)) := by
  subst hn
  obtain ⟨cl, A, q1, S, N, H, G⟩ := V
  obtain ⟨T', h', X', e', W', st'⟩ := stI X hx hZ eT A (j := j) (inb_of S ⟨hj0, hjz⟩) (g := mkF m pc Ls (.int x :: .int j :: .ref b :: st)) rfl rfl hd
  exact Endz.by st' (hr T' h' X' e' W' (Arv.set A q1 S N H G rfl W' i hj hi))
theorem s_B (X : Stand p l e R s m args below meth c T locs cells slots) (hx : p.tables.exec = Jvm.exec) (hZ : Z.Warmed39 s.vm) (eT : T.heap = h) {b : Addr} {k : ClassId} {z j x : Int32} {vs : List Value} {dv : Value} (V : Arv Z h b k .byte z vs dv) (i : Nat) (hj : j.toNatClampNeg = i) (hi : i < vs.length) (hj0 : ¬ j < 0) (hjz : j < z) (hd : decode c.code pc = .ok (.bastore, 1)) (hn : pc + 1 = n)
    (hr : ∀ T' h', Stand p l e R s m args below meth c T' (locs ++ [⟨b, j.toNatClampNeg⟩]) cells slots → T'.heap = h' → Wr h h' b j.toNatClampNeg (.int (nar .byte x)) → Arv Z h' b k .byte z (vs.set i (.int (nar .byte x))) dv → Endz p.tables e below Q T' (mkF m n Ls st)) : Endz p.tables e below Q T (mkF m pc Ls (.int x :: .int j :: .ref b :: st)) := by
  subst hn
  obtain ⟨cl, A, q1, S, N, H, G⟩ := V
  obtain ⟨T', h', X', e', W', st'⟩ := stB X hx hZ eT A (j := j) (inb_of S ⟨hj0, hjz⟩) (g := mkF m pc Ls (.int x :: .int j :: .ref b :: st)) rfl rfl hd
  exact Endz.by st' (hr T' h' X' e' W' (Arv.set A q1 S N H G (fits_nar_byte _) W' i hj hi))
theorem s_Z (X : Stand p l e R s m args below meth c T locs cells slots) (hx : p.tables.exec = Jvm.exec) (hZ : Z.Warmed39 s.vm) (eT : T.heap = h) {b : Addr} {k : ClassId} {z j x : Int32} {vs : List Value} {dv : Value} (V : Arv Z h b k .boolean z vs dv) (i : Nat) (hj : j.toNatClampNeg = i) (hi : i < vs.length) (hj0 : ¬ j < 0) (hjz : j < z) (hd : decode c.code pc = .ok (.bastore, 1)) (hn : pc + 1 = n)
    (hr : ∀ T' h', Stand p l e R s m args below meth c T' (locs ++ [⟨b, j.toNatClampNeg⟩]) cells slots → T'.heap = h' → Wr h h' b j.toNatClampNeg (.int (nar .boolean x)) → Arv Z h' b k .boolean z (vs.set i (.int (nar .boolean x))) dv → Endz p.tables e below Q T' (mkF m n Ls st)) : Endz p.tables e below Q T (mkF m pc Ls (.int x :: .int j :: .ref b :: st)) := by
  subst hn
  obtain ⟨cl, A, q1, S, N, H, G⟩ := V
  obtain ⟨T', h', X', e', W', st'⟩ := stZ X hx hZ eT A (j := j) (inb_of S ⟨hj0, hjz⟩) (g := mkF m pc Ls (.int x :: .int j :: .ref b :: st)) rfl rfl hd
  exact Endz.by st' (hr T' h' X' e' W' (Arv.set A q1 S N H G (fits_nar_bool _) W' i hj hi))
theorem s_C (X : Stand p l e R s m args below meth c T locs cells slots) (hx : p.tables.exec = Jvm.exec) (hZ : Z.Warmed39 s.vm) (eT : T.heap = h) {b : Addr} {k : ClassId} {z j x : Int32} {vs : List Value} {dv : Value} (V : Arv Z h b k .char z vs dv) (i : Nat) (hj : j.toNatClampNeg = i) (hi : i < vs.length) (hj0 : ¬ j < 0) (hjz : j < z) (hd : decode c.code pc = .ok (.castore, 1)) (hn : pc + 1 = n)
    (hr : ∀ T' h', Stand p l e R s m args below meth c T' (locs ++ [⟨b, j.toNatClampNeg⟩]) cells slots → T'.heap = h' → Wr h h' b j.toNatClampNeg (.int (nar .char x)) → Arv Z h' b k .char z (vs.set i (.int (nar .char x))) dv → Endz p.tables e below Q T' (mkF m n Ls st)) : Endz p.tables e below Q T (mkF m pc Ls (.int x :: .int j :: .ref b :: st)) := by
  subst hn
  obtain ⟨cl, A, q1, S, N, H, G⟩ := V
  obtain ⟨T', h', X', e', W', st'⟩ := stC X hx hZ eT A (j := j) (inb_of S ⟨hj0, hjz⟩) (g := mkF m pc Ls (.int x :: .int j :: .ref b :: st)) rfl rfl hd
  exact Endz.by st' (hr T' h' X' e' W' (Arv.set A q1 S N H G (fits_nar_char _) W' i hj hi))
/-! reads of arrays -/
theorem Arv.at {h : Heap} {b : Addr} {k : ClassId} {ty : FieldType} {z j : Int32} {vs : List Value} {dv v : Value} (V : Arv Z h b k ty z vs dv) (hj0 : ¬ j < 0) (hjz : j < z) (hv : vs.getD j.toNatClampNeg dv = v) : ∃ cl, Arr Z h b cl ty ∧ ¬ (j < 0 ∨ cl.slots.size ≤ j.toNatClampNeg) ∧ cl.slots[j.toNatClampNeg]? = some v := by
  obtain ⟨cl, A, q1, S, N, H, G⟩ := V
  exact ⟨cl, A, inb_of S ⟨hj0, hjz⟩, H.at (inb_of S ⟨hj0, hjz⟩) hv⟩
theorem l_I (X : Stand p l e R s m args below meth c T locs cells slots) (hx : p.tables.exec = Jvm.exec) (hZ : Z.Warmed39 s.vm) (eT : T.heap = h) {b : Addr} {k : ClassId} {z j : Int32} {vs : List Value} {dv v : Value} (V : Arv Z h b k .int z vs dv) (hj0 : ¬ j < 0) (hjz : j < z) (hv : vs.getD j.toNatClampNeg dv = v) (hd : decode c.code pc = .ok (.iaload, 1)) (hn : pc + 1 = n) (hr : Endz p.tables e below Q T (mkF m n Ls (v :: st))) : Endz p.tables e below Q T (mkF m pc Ls (.int j :: .ref b :: st)) := by
  subst hn
  obtain ⟨cl, A, hin, hat⟩ := Arv.at V hj0 hjz hv
  exact Endz.by (fun _ q => X.iaload hx (j := j) (v := v) (by rw [eT]; exact A.1) (State.isArrayOf_alike hZ.alike A.2.1) A.2.2 hin hat (g := mkF m pc Ls (.int j :: .ref b :: st)) rfl rfl hd _ q) hr
theorem l_B (X : Stand p l e R s m args below meth c T locs cells slots) (hx : p.tables.exec = Jvm.exec) (hZ : Z.Warmed39 s.vm) (eT : T.heap = h) {b : Addr} {k : ClassId} {z j : Int32} {vs : List Value} {dv v : Value} (V : Arv Z h b k .byte z vs dv) (hj0 : ¬ j < 0) (hjz : j < z) (hv : vs.getD j.toNatClampNeg dv = v) (hd : decode c.code pc = .ok (.baload, 1)) (hn : pc + 1 = n) (hr : Endz p.tables e below Q T (mkF m n Ls (v :: st))) : Endz p.tables e below Q T (mkF m pc Ls (.int j :: .ref b :: st)) := by
  subst hn
  obtain ⟨cl, A, hin, hat⟩ := Arv.at V hj0 hjz hv
  exact Endz.by (fun _ q => X.baloadBytes hx (j := j) (v := v) (by rw [eT]; exact A.1) (State.isArrayOf_alike hZ.alike A.2.1) A.2.2 hin hat (g := mkF m pc Ls (.int j :: .ref b :: st)) rfl rfl hd _ q) hr
theorem l_Z (X : Stand p l e R s m args below meth c T locs cells slots) (hx : p.tables.exec = Jvm.exec) (hZ : Z.Warmed39 s.vm) (eT : T.heap = h) {b : Addr} {k : ClassId} {z j : Int32} {vs : List Value} {dv v : Value} (V : Arv Z h b k .boolean z vs dv) (hj0 : ¬ j < 0) (hjz : j < z) (hv : vs.getD j.toNatClampNeg dv = v) (hd : decode c.code pc = .ok (.baload, 1)) (hn : pc + 1 = n) (hr : Endz p.tables e below Q T (mkF m n Ls (v :: st))) : Endz p.tables e below Q T (mkF m pc Ls (.int j :: .ref b :: st)) := by
  subst hn
  obtain ⟨cl, A, hin, hat⟩ := Arv.at V hj0 hjz hv
  exact Endz.by (fun _ q => X.baloadBooleans hx (j := j) (v := v) (by rw [eT]; exact A.1) (State.isArrayOf_alike hZ.alike A.2.1) A.2.2 hin hat (g := mkF m pc Ls (.int j :: .ref b :: st)) rfl rfl hd _ q) hr
theorem l_C (X : Stand p l e R s m args below meth c T locs cells slots) (hx : p.tables.exec = Jvm.exec) (hZ : Z.Warmed39 s.vm) (eT : T.heap = h) {b : Addr} {k : ClassId} {z j : Int32} {vs : List Value} {dv v : Value} (V : Arv Z h b k .char z vs dv) (hj0 : ¬ j < 0) (hjz : j < z) (hv : vs.getD j.toNatClampNeg dv = v) (hd : decode c.code pc = .ok (.caload, 1)) (hn : pc + 1 = n) (hr : Endz p.tables e below Q T (mkF m n Ls (v :: st))) : Endz p.tables e below Q T (mkF m pc Ls (.int j :: .ref b :: st)) := by
  subst hn
  obtain ⟨cl, A, hin, hat⟩ := Arv.at V hj0 hjz hv
  exact Endz.by (fun _ q => X.caload hx (j := j) (v := v) (by rw [eT]; exact A.1) (State.isArrayOf_alike hZ.alike A.2.1) A.2.2 hin hat (g := mkF m pc Ls (.int j :: .ref b :: st)) rfl rfl hd _ q) hr
theorem l_A (X : Stand p l e R s m args below meth c T locs cells slots) (hx : p.tables.exec = Jvm.exec) (hZ : Z.Warmed39 s.vm) (eT : T.heap = h) {b : Addr} {k : ClassId} {z j : Int32} {vs : List Value} {dv v : Value} {ty : FieldType} (V : Arv Z h b k ty z vs dv) (hty : ty.isReference = true) (hj0 : ¬ j < 0) (hjz : j < z) (hv : vs.getD j.toNatClampNeg dv = v) (hd : decode c.code pc = .ok (.aaload, 1)) (hn : pc + 1 = n) (hr : Endz p.tables e below Q T (mkF m n Ls (v :: st))) : Endz p.tables e below Q T (mkF m pc Ls (.int j :: .ref b :: st)) := by
  subst hn
  obtain ⟨cl, A, hin, hat⟩ := Arv.at V hj0 hjz hv
  exact Endz.by (fun _ q => X.aaload hx (j := j) (v := v) (by rw [eT]; exact A.1) (State.isArrayOf_alike hZ.alike A.2.1) hty A.2.2 hin hat (g := mkF m pc Ls (.int j :: .ref b :: st)) rfl rfl hd _ q) hr
theorem l_J (X : Stand p l e R s m args below meth c T locs cells slots) (hx : p.tables.exec = Jvm.exec) (hZ : Z.Warmed39 s.vm) (eT : T.heap = h) {b : Addr} {k : ClassId} {z j : Int32} {vs : List Value} {dv v : Value} (V : Arv Z h b k .long z vs dv) (hj0 : ¬ j < 0) (hjz : j < z) (hv : vs.getD j.toNatClampNeg dv = v) (hd : decode c.code pc = .ok (.laload, 1)) (hn : pc + 1 = n) (hr : Endz p.tables e below Q T (mkF m n Ls (v :: st))) : Endz p.tables e below Q T (mkF m pc Ls (.int j :: .ref b :: st)) := by
  subst hn
  obtain ⟨cl, A, hin, hat⟩ := Arv.at V hj0 hjz hv
  exact Endz.by (fun _ q => X.laload hx (j := j) (v := v) (by rw [eT]; exact A.1) (State.isArrayOf_alike hZ.alike A.2.1) A.2.2 hin hat (g := mkF m pc Ls (.int j :: .ref b :: st)) rfl rfl hd _ q) hr
theorem a_L (X : Stand p l e R s m args below meth c T locs cells slots) (hx : p.tables.exec = Jvm.exec) (hZ : Z.Warmed39 s.vm) (eT : T.heap = h) {b : Addr} {k : ClassId} {ty : FieldType} {z : Int32} {vs : List Value} {dv : Value} (V : Arv Z h b k ty z vs dv) (hd : decode c.code pc = .ok (.arraylength, 1)) (hn : pc + 1 = n) (hr : Endz p.tables e below Q T (mkF m n Ls (.int z :: st))) : Endz p.tables e below Q T (mkF m pc Ls (.ref b :: st)) := by
  subst hn
  obtain ⟨cl, A, q1, S, N, H, G⟩ := V
  exact Endz.by (fun _ q => X.arraylength hx (by rw [eT]; exact A.1) (State.isArrayOf_alike hZ.alike A.2.1) (g := mkF m pc Ls (.ref b :: st)) rfl rfl hd _ (by rw [len_of S N]; exact q)) hr
/-! calls -/
theorem c_S (X : Stand p l e R s m args below meth c T locs cells slots) (hx : p.tables.exec = Jvm.exec) (hZ : Z.Warmed39 s.vm) {own : String} {idx : Nat} {y : MethodName} {bytes : ByteArray} {maxL : Nat} {ret : Option FieldType} {argsL rest stk : List Value} {ps : List FieldType} {r : Option FieldType} (hown : s.vm.findClass own = some m.cls) (hM : Con l Z y bytes maxL ret [] rm argsL.toArray h Qv) (eT : T.heap = h)
    (w1 : (Jvm.Cond.methodLink own idx y).before a0 Z = true) (w2 : (Jvm.Cond.static y).before a0 Z = true) (w3 : (Jvm.Cond.initialized y.cls).before a0 Z = true) (w4 : (Jvm.Cond.code y bytes maxL ret).before a0 Z = true) (hy : y.cls ≠ "java/lang/invoke/MethodHandle" ∧ y.cls ≠ "java/lang/invoke/VarHandle")
    (W : Nat) (hf : rm.frames + 1 ≤ R.frames) (hl : W + (maxL + 11) + rm.locals ≤ R.locals) (hcl : cells + rm.cells ≤ R.cells) (hsl : slots + rm.slots ≤ R.slots) (hml : Ls.size = c.maxLocals) (hpd : parseMethodDescriptor y.desc = some ⟨ps, r⟩) (hlen : argsL.length = ps.length) (hstk : stk = argsL.reverse ++ rest) (hW : 2 * 0 + (rest.map fun v => v.category).sum ≤ W) (hd : decode c.code pc = .ok (.invokestatic idx, 3)) (hn : pc + 3 = n)
    (hr : ∀ v T' L, Stand p l e R s m args below meth c T' (locs ++ L) (cells + rm.cells) (slots + rm.slots) → Qv v T'.heap L → Endz p.tables e below Q T' (mkF m n Ls (v.toList ++ rest))) : Endz p.tables e below Q T (mkF m pc Ls stk) := by
  subst hn hstk
  obtain ⟨v, _, ⟨T', L', k', n'⟩, -, X', ⟨L, hQ, l1, y1, z1⟩, st'⟩ := Jvm.LawKit.callS X hx (y := y) hown (mvT hZ w1) (mvT hZ w2) (mvT hZ w3) (mvT hZ w4) hy (backOf (W := W) hM hZ w4 w3 hf hl) (g := mkF m pc Ls (argsL.reverse ++ rest)) rfl hml (argsL := argsL) (rest := rest) (lenOf hpd hlen) rfl hW hd (fun _ _ => ⟨rfl, eT, hcl, hsl⟩)
  dsimp only [Pt.U, Pt.locs, Pt.cells, Pt.slots] at X' l1 y1 z1 st' hQ
  subst l1 y1 z1
  exact Endz.by st' (hr v T' L X' hQ)
theorem c_N (X : Stand p l e R s m args below meth c T locs cells slots) (hx : p.tables.exec = Jvm.exec) (hZ : Z.Warmed39 s.vm) {own : String} {idx : Nat} {y : MethodName} {bytes : ByteArray} {maxL : Nat} {b : Addr} {argsL rest stk : List Value} {ps : List FieldType} {r : Option FieldType} (hy1 : y.name = "<init>") (hown : s.vm.findClass own = some m.cls) (hM : Con l Z y bytes maxL none [] rm (.ref b :: argsL).toArray h Qv) (eT : T.heap = h)
    (w1 : (Jvm.Cond.methodLink own idx y).before a0 Z = true) (w2 : (Jvm.Cond.instanceMethod y).before a0 Z = true) (w3 : (Jvm.Cond.initialized y.cls).before a0 Z = true) (w4 : (Jvm.Cond.code y bytes maxL none).before a0 Z = true) (hy : y.cls ≠ "java/lang/invoke/MethodHandle" ∧ y.cls ≠ "java/lang/invoke/VarHandle")
    (W : Nat) (hf : rm.frames + 1 ≤ R.frames) (hl : W + (maxL + 11) + rm.locals ≤ R.locals) (hcl : cells + rm.cells ≤ R.cells) (hsl : slots + rm.slots ≤ R.slots) (hml : Ls.size = c.maxLocals) (hpd : parseMethodDescriptor y.desc = some ⟨ps, r⟩) (hlen : argsL.length = ps.length) (hstk : stk = argsL.reverse ++ .ref b :: rest) (hW : 2 * 0 + (rest.map fun v => v.category).sum ≤ W) (hd : decode c.code pc = .ok (.invokespecial idx, 3)) (hn : pc + 3 = n)
    (hr : ∀ v T' L, Stand p l e R s m args below meth c T' (locs ++ L) (cells + rm.cells) (slots + rm.slots) → Qv v T'.heap L → Endz p.tables e below Q T' (mkF m n Ls (v.toList ++ rest))) : Endz p.tables e below Q T (mkF m pc Ls stk) := by
  subst hn hstk
  obtain ⟨v, _, ⟨T', L', k', n'⟩, -, X', ⟨L, hQ, l1, y1, z1⟩, st'⟩ := X.specialBack hx (y := y) hy1 hown (mvT hZ w1) (mvT hZ w2) (mvT hZ w4) hy (backOf (W := W) hM hZ w4 w3 hf hl) (g := mkF m pc Ls (argsL.reverse ++ .ref b :: rest)) rfl hml (Steps.refl _) (a := b) (argsL := argsL) (rest := rest) (lenOf hpd hlen) rfl hW hd (fun _ _ => ⟨rfl, eT, hcl, hsl⟩)
  dsimp only [Pt.U, Pt.locs, Pt.cells, Pt.slots] at X' l1 y1 z1 st' hQ
  subst l1 y1 z1
  exact Endz.tr st' (hr v T' L X' hQ)
theorem c_V (X : Stand p l e R s m args below meth c T locs cells slots) (hx : p.tables.exec = Jvm.exec) (hZ : Z.Warmed39 s.vm) {own C : String} {idx : Nat} {y z : MethodName} {bytes : ByteArray} {maxL : Nat} {ret : Option FieldType} {b : Addr} {argsL rest stk : List Value} {ps : List FieldType} {r : Option FieldType} (hown : s.vm.findClass own = some m.cls) (hM : Con l Z z bytes maxL ret [] rm (.ref b :: argsL).toArray h Qv) (eT : T.heap = h) (A : Exa Z h b C)
    (w1 : (Jvm.Cond.methodLink own idx y).before a0 Z = true) (w2 : (Jvm.Cond.declares y).before a0 Z = true) (hnf : NotFace s y) (w5 : (Jvm.Cond.selects C y z).before a0 Z = true) (w6 : (Jvm.Cond.instanceMethod z).before a0 Z = true) (w3 : (Jvm.Cond.initialized z.cls).before a0 Z = true) (w4 : (Jvm.Cond.code z bytes maxL ret).before a0 Z = true) (hy : y.cls ≠ "java/lang/invoke/MethodHandle" ∧ y.cls ≠ "java/lang/invoke/VarHandle")
    (W : Nat) (hf : rm.frames + 1 ≤ R.frames) (hl : W + (maxL + 11) + rm.locals ≤ R.locals) (hcl : cells + rm.cells ≤ R.cells) (hsl : slots + rm.slots ≤ R.slots) (hml : Ls.size = c.maxLocals) (hpd : parseMethodDescriptor y.desc = some ⟨ps, r⟩) (hlen : argsL.length = ps.length) (hstk : stk = argsL.reverse ++ .ref b :: rest) (hW : 2 * 0 + (rest.map fun v => v.category).sum ≤ W) (hd : decode c.code pc = .ok (.invokevirtual idx, 3)) (hn : pc + 3 = n)
    (hr : ∀ v T' L, Stand p l e R s m args below meth c T' (locs ++ L) (cells + rm.cells) (slots + rm.slots) → Qv v T'.heap L → Endz p.tables e below Q T' (mkF m n Ls (v.toList ++ rest))) : Endz p.tables e below Q T (mkF m pc Ls stk) := by
  subst hn hstk
  obtain ⟨cq, kq, qa, qb, qc⟩ := isOf hZ eT A
  obtain ⟨v, _, ⟨T', L', k', n'⟩, -, X', ⟨L, hQ, l1, y1, z1⟩, st'⟩ := X.virtualBack hx (y := y) (z := z) hown (mvT hZ w1) (mvT hZ w2) hnf (mvT hZ w5) (mvT hZ w6) hy (backOf (W := W) hM hZ w4 w3 hf hl) qa qc (g := mkF m pc Ls (argsL.reverse ++ .ref b :: rest)) rfl hml (Steps.refl _) (argsL := argsL) (rest := rest) (lenOf hpd hlen) rfl hW hd (fun _ _ => ⟨rfl, eT, hcl, hsl⟩)
  dsimp only [Pt.U, Pt.locs, Pt.cells, Pt.slots] at X' l1 y1 z1 st' hQ
  subst l1 y1 z1
  exact Endz.tr st' (hr v T' L X' hQ)
/-- Object.<init> -/
theorem c_O (X : Stand p l e R s m args below meth c T locs cells slots) (hx : p.tables.exec = Jvm.exec) (hZ : Z.Warmed39 s.vm) {own : String} {idx : Nat} {b : Addr} (hown : s.vm.findClass own = some m.cls) (w1 : (Jvm.Cond.methodLink own idx Lib.objectInit).before a0 Z = true) (w2 : (Jvm.Cond.instanceMethod Lib.objectInit).before a0 Z = true) (w3 : (Jvm.Cond.code Lib.objectInit ⟨#[0xb1]⟩ 1 none).before a0 Z = true) (eT : T.heap = h) (hml : Ls.size = c.maxLocals) (hd : decode c.code pc = .ok (.invokespecial idx, 3)) (hn : pc + 3 = n)
    (W : Nat) (hf : 1 ≤ R.frames) (hW : 2 * 0 + (st.map fun v => v.category).sum ≤ W) (hl : W + 12 ≤ R.locals) (hr : ∀ T', Stand p l e R s m args below meth c T' locs cells slots → T'.heap = h → Endz p.tables e below Q T' (mkF m n Ls st)) : Endz p.tables e below Q T (mkF m pc Ls (.ref b :: st)) := by
  subst hn
  obtain ⟨T', X', e', st'⟩ := initO X hx hZ hown w1 w2 w3 eT (g := mkF m pc Ls (.ref b :: st)) rfl hml rfl hd hf (W := W) hW hl
  exact Endz.by st' (hr T' X' e')
/-- the clone of an array -/
theorem c_C (X : Stand p l e R s m args below meth c T locs cells slots) (hx : p.tables.exec = Jvm.exec) (hZ : Z.Warmed39 s.vm) {own ad : String} {idx : Nat} (hown : s.vm.findClass own = some m.cls)
    (w1 : (Jvm.Cond.methodLink own idx ⟨ad, "clone", "()Ljava/lang/Object;"⟩).before a0 Z = true) (w2 : (Jvm.Cond.sameMethod ad "java/lang/Object" "clone" "()Ljava/lang/Object;").before a0 Z = true) (w3 : (Jvm.Cond.native ⟨"java/lang/Object", "clone", "()Ljava/lang/Object;"⟩).before a0 Z = true)
    (w4 : (Jvm.Cond.instanceMethod ⟨"java/lang/Object", "clone", "()Ljava/lang/Object;"⟩).before a0 Z = true) (w5 : (Jvm.Cond.selects ad ⟨ad, "clone", "()Ljava/lang/Object;"⟩ ⟨"java/lang/Object", "clone", "()Ljava/lang/Object;"⟩).before a0 Z = true) (w6 : (Jvm.Cond.castable ad "java/lang/Cloneable").before a0 Z = true)
    (eT : T.heap = h) {a : Addr} {k : ClassId} {ty : FieldType} {z : Int32} {vs : List Value} {dv : Value} (F : Arv Z h a k ty z vs dv) (A : Exa Z h a ad) (hml : Ls.size = c.maxLocals) (hd : decode c.code pc = .ok (.invokevirtual idx, 3)) (hn : pc + 3 = n)
    (W cap : Nat) (hf : 1 ≤ R.frames) (hW : 2 * 0 + (st.map fun v => v.category).sum ≤ W) (hl : W + 14 ≤ R.locals) (hcap : z.toNatClampNeg ≤ cap) (hc : cells + 1 ≤ R.cells) (hsl : slots + cap ≤ R.slots)
    (hr : ∀ T' h' b, b = h.size → Stand p l e R s m args below meth c T' locs (cells + 1) (slots + cap) → T'.heap = h' → Ext h h' → Arv Z h' b k ty z vs dv → Exa Z h' b ad → Endz p.tables e below Q T' (mkF m n Ls (.ref b :: st))) : Endz p.tables e below Q T (mkF m pc Ls (.ref a :: st)) := by
  subst hn
  obtain ⟨T', h', X', e', E', V', A', st'⟩ := cloneH X hx hZ hown w1 w2 w3 w4 w5 w6 eT F.arh A (g := mkF m pc Ls (.ref a :: st)) rfl hml rfl hd hf (W := W) (cap := cap) hW hl hcap hc hsl
  exact Endz.by st' (hr T' h' _ rfl X' e' E' V' A')
theorem k_C (X : Stand p l e R s m args below meth c T locs cells slots) (hx : p.tables.exec = Jvm.exec) (hZ : Z.Warmed39 s.vm) {own K : String} {idx : Nat} (hown : s.vm.findClass own = some m.cls) (w : (Jvm.Cond.classLink own idx K).before a0 Z = true) (eT : T.heap = h) {a : Addr} (F : Ins Z h a K true) (hd : decode c.code pc = .ok (.checkcast idx, 3)) (hn : pc + 3 = n)
    (hr : ∀ T', Stand p l e R s m args below meth c T' locs cells slots → T'.heap = h → Endz p.tables e below Q T' (mkF m n Ls (.ref a :: st))) : Endz p.tables e below Q T (mkF m pc Ls (.ref a :: st)) := by
  subst hn
  obtain ⟨T', X', e', st'⟩ := castY X hx hZ hown w eT F (g := mkF m pc Ls (.ref a :: st)) rfl rfl hd
  exact Endz.by st' (hr T' X' e')
theorem i_Y (X : Stand p l e R s m args below meth c T locs cells slots) (hx : p.tables.exec = Jvm.exec) (hZ : Z.Warmed39 s.vm) {own K : String} {idx : Nat} (hown : s.vm.findClass own = some m.cls) (w : (Jvm.Cond.classLink own idx K).before a0 Z = true) (eT : T.heap = h) {a : Addr} (F : Ins Z h a K true) (hd : decode c.code pc = .ok (.instanceof idx, 3)) (hn : pc + 3 = n)
    (hr : ∀ T', Stand p l e R s m args below meth c T' locs cells slots → T'.heap = h → Endz p.tables e below Q T' (mkF m n Ls (.int 1 :: st))) : Endz p.tables e below Q T (mkF m pc Ls (.ref a :: st)) := by
  subst hn
  obtain ⟨T', X', e', st'⟩ := instY X hx hZ hown w eT F (g := mkF m pc Ls (.ref a :: st)) rfl rfl hd
  exact Endz.by st' (hr T' X' e')
theorem Ext.keep1 {h0 h h' : Heap} {b : Addr} (E : Ext h0 h) (K : Keep h h' [b]) (q : h0.size ≤ b) : Ext h0 h' := ⟨Nat.le_trans E.1 K.1, fun a c z => K.2.1 a c (E.2 a c z) (ninS (fun e => by subst e; exact absurd (Array.getElem?_eq_some_iff.mp z).1 (Nat.not_lt.mpr q)) nin0)⟩
/-- System.arraycopy -/
theorem c_Y (X : Stand p l e R s m args below meth c T locs cells slots) (hx : p.tables.exec = Jvm.exec) (hZ : Z.Warmed39 s.vm) {own : String} {idx : Nat} (hown : s.vm.findClass own = some m.cls)
    (w1 : (Jvm.Cond.methodLink own idx Jvm.Stand.acN).before a0 Z = true) (w2 : (Jvm.Cond.native Jvm.Stand.acN).before a0 Z = true) (w3 : (Jvm.Cond.static Jvm.Stand.acN).before a0 Z = true) (w4 : (Jvm.Cond.initialized "java/lang/System").before a0 Z = true) (eT : T.heap = h)
    {a b : Addr} {k k' : ClassId} {ty : FieldType} {z z' sp dp nn : Int32} {vs vd us : List Value} {dv dd : Value} (A : Arv Z h a k ty z vs dv) (B : Arv Z h b k' ty z' vd dd) (hty : refKind ty = false)
    (h1 : ¬ sp < 0) (h2 : ¬ dp < 0) (h3 : ¬ nn < 0) (h4 : sp.toNatClampNeg + nn.toNatClampNeg ≤ z.toNatClampNeg) (h5 : dp.toNatClampNeg + nn.toNatClampNeg ≤ z'.toNatClampNeg)
    (hus : us = (List.range nn.toNatClampNeg).map fun i => vs.getD (sp.toNatClampNeg + i) dv) (hl : dp.toNatClampNeg + nn.toNatClampNeg ≤ vd.length) {n0 : Nat} (N : Fr n0 locs) (ge : n0 ≤ b) (hml : Ls.size = c.maxLocals) (hd : decode c.code pc = .ok (.invokestatic idx, 3)) (hn : pc + 3 = n)
    (W : Nat) (hf : 1 ≤ R.frames) (hW : 2 * 0 + (st.map fun v => v.category).sum ≤ W) (hlo : W + (nativeFrameWords "java/lang/System" "arraycopy" 5 + 11) ≤ R.locals)
    (hr : ∀ T' h' L, Stand p l e R s m args below meth c T' L cells slots → T'.heap = h' → Fr n0 L → Keep h h' [b] → Arv Z h' b k' ty z' (vd.take dp.toNatClampNeg ++ us ++ vd.drop (dp.toNatClampNeg + nn.toNatClampNeg)) dd → Endz p.tables e below Q T' (mkF m n Ls st)) : Endz p.tables e below Q T (mkF m pc Ls (.int nn :: .int dp :: .ref b :: .int sp :: .ref a :: st)) := by
  subst hn
  obtain ⟨T', h', L, X', e', N', K', V', st'⟩ := cpA X hx hZ hown w1 w2 w3 w4 eT A B (Or.inl ⟨rfl, hty⟩) h1 h2 h3 h4 h5 hus hl N ge (g := mkF m pc Ls (.int nn :: .int dp :: .ref b :: .int sp :: .ref a :: st)) rfl hml rfl hd hf (W := W) hW hlo
  exact Endz.by st' (hr T' h' L X' e' N' K' V')
end Heap
section Start
variable {args : Array Value} {s : State}
/-- a static that the case says to be exactly of a class -/
theorem sta_v {C nm d K : String} (h : (Jvm.Cond.exactly (.static C nm d) K).value args s none s [] = some true) (wi : (Jvm.Cond.initialized C).before args s = true) (wl : (Jvm.Cond.laysStatic C nm d).before args s = true) : ∃ a, (Term.static C nm d).eval args s none [] s = some (.ref a) ∧ Exa s s.heap a K ∧ Sta s s.heap C nm d (.ref a) := by
  obtain ⟨a, ev⟩ := exa_v h
  exact ⟨a, ev, Exa.start ev h, Sta.start ev (Or.inr ⟨wi, wl⟩)⟩
/-- a field of it that the case says to be an int -/
theorem fldi_v {t : Term} {a : Addr} {C nm d : String} {k : Int32} (ev : t.eval args s none [] s = some (.ref a)) (h : (Jvm.Cond.eq (.field t C nm d) (.int k)).value args s none s [] = some true) : Fld s s.heap a C nm d (.int k) := by
  obtain ⟨x, y, e1, e2, k1, k2⟩ := cmp_v (Or.inl h)
  have hy : y = .int k := by have := (Term.int_eval (args := args) (first := s) (o := none) (idx := []) (s := s) k).symm.trans e2; exact (Option.some.inj this).symm
  subst hy
  obtain ⟨z, rfl⟩ := k2
  have := gotT (Cond.eq_ints e1 e2) h
  subst this
  exact Fld.start (by rw [← fld_at ev]; exact e1)
theorem len_is {t : Term} {a : Addr} {cl : Cell} {z : Int32} (ev : t.eval args s none [] s = some (.ref a)) (hc : s.heap[a]? = some cl) (h : (Jvm.Cond.eq (.length t) (.int z)).value args s none s [] = some true) : cl.slots.size < 2 ^ 31 ∧ cl.slots.size.toInt32 = z := by
  obtain ⟨x, y, e1, e2, -, k2⟩ := cmp_v (Or.inl h)
  cases (Term.int_eval (args := args) (first := s) (o := none) (idx := []) (s := s) z).symm.trans e2
  obtain ⟨w, rfl⟩ := k2
  have hw := gotT (Cond.eq_ints e1 e2) h
  subst hw
  simp only [Term.eval, ev, Option.bind_eq_bind, Option.bind_some] at e1
  cases ha : s.arrayAt? a with
  | none => simp [ha] at e1
  | some c2 =>
    cases hc.symm.trans (State.arrayAt?_spec ha).1
    by_cases hb : cl.slots.size < 2 ^ 31
    · simp [ha, hb] at e1; exact ⟨hb, e1⟩
    · simp [ha, hb] at e1
theorem elem_is {t u : Term} {a : Addr} {cl : Cell} {j : Int32} {v : Value} (ev : t.eval args s none [] s = some (.ref a)) (hc : s.heap[a]? = some cl) (eu : u.eval args s none [] s = some v) (hv : v.isRef = true) (h : (Jvm.Cond.eq (.elem t (.int j)) u).value args s none s [] = some true) : cl.slots[j.toNatClampNeg]? = some v := by
  obtain ⟨x, y, e1, e2, k1, k2⟩ := cmp_v (Or.inl h)
  cases eu.symm.trans e2
  have hx : x.isRef = true := by
    rcases ref_cases hv with rfl | ⟨b, rfl⟩
    · exact k2.2
    · exact k2.2
  have hw := gotT (eq_R e1 eu hx hv) h
  subst hw
  exact (elem_in e1 ev (Term.int_eval _) hc).2
theorem elemi_is {t : Term} {a : Addr} {cl : Cell} {j k : Int32} (ev : t.eval args s none [] s = some (.ref a)) (hc : s.heap[a]? = some cl) (h : (Jvm.Cond.eq (.elem t (.int j)) (.int k)).value args s none s [] = some true) : cl.slots[j.toNatClampNeg]? = some (.int k) := by
  obtain ⟨x, y, e1, e2, -, k2⟩ := cmp_v (Or.inl h)
  cases (Term.int_eval (args := args) (first := s) (o := none) (idx := []) (s := s) k).symm.trans e2
  obtain ⟨w, rfl⟩ := k2
  have hw := gotT (Cond.eq_ints e1 e2) h
  subst hw
  exact (elem_in e1 ev (Term.int_eval _) hc).2
theorem fldr_v {t : Term} {a b : Addr} {C nm d : String} (ev : t.eval args s none [] s = some (.ref a)) (h : (Term.field t C nm d).eval args s none [] s = some (.ref b)) : Fld s s.heap a C nm d (.ref b) := Fld.start (by rw [← fld_at ev]; exact h)
theorem eleml_is {t : Term} {a : Addr} {cl : Cell} {j : Int32} {k : Int64} (ev : t.eval args s none [] s = some (.ref a)) (hc : s.heap[a]? = some cl) (h : (Jvm.Cond.eq (.elem t (.int j)) (.long k)).value args s none s [] = some true) : cl.slots[j.toNatClampNeg]? = some (.long k) := by
  obtain ⟨x, y, e1, e2, -, k2⟩ := cmp_v (Or.inl h)
  have hk : (Term.long k).eval args s none [] s = some (.long k) := rfl
  cases hk.symm.trans e2
  obtain ⟨w, rfl⟩ := k2
  have hw := gotT (eq_L e1 e2) h
  subst hw
  exact (elem_in e1 ev (Term.int_eval _) hc).2
end Start
section Index
theorem i0_toInt : (0 : Int32).toInt = 0 := by decide
/-- (x & MAX) mod m is a place below m -/
theorem idx_mod (x m : Int32) (M : Nat) (hm : m.toInt = M) (hM : 0 < M) : ¬ ((x &&& 2147483647) % m < 0) ∧ (x &&& 2147483647) % m < m ∧ ((x &&& 2147483647) % m).toNatClampNeg < M := by
  have h1 := c_mask x 2147483647 31 (by decide) (by decide)
  have h2 := (c_irem (x &&& 2147483647) m M hm).1 (by rw [h1]; exact Int.emod_nonneg _ (by decide))
  have h3 := Int.emod_nonneg (x &&& 2147483647).toInt (show (M : Int) ≠ 0 by omega)
  have h4 := Int.emod_lt_of_pos (x &&& 2147483647).toInt (show (0 : Int) < M by omega)
  generalize (x &&& 2147483647) % m = n at h2 ⊢
  have h5 : ¬ n < 0 := by rw [Int32.lt_iff_toInt_lt, i0_toInt]; omega
  have h6 := nat_of h5
  exact ⟨h5, by rw [Int32.lt_iff_toInt_lt, hm]; omega, by omega⟩
theorem idx_eq {n k : Int32} {j : Nat} (h : ¬ n < 0) (hk : k.toInt = j) : n = k ↔ n.toNatClampNeg = j := by
  have h6 := nat_of h
  rw [← Int32.toInt_inj]; omega
theorem getD_map (ws : List Addr) (j : Nat) (h : j < ws.length) : (ws.map Value.ref).getD j .null = .ref (ws.getD j 0) := by
  simp [List.getD_eq_getElem?_getD, List.getElem?_eq_getElem, h]
theorem getD_mapI (ws : List Int32) (j : Nat) : (ws.map Value.int).getD j (.int 0) = .int (ws.getD j 0) := by
  simp only [List.getD_eq_getElem?_getD, List.getElem?_map]
  cases ws[j]? <;> rfl
theorem getD_mapJ (ws : List Int64) (j : Nat) : (ws.map Value.long).getD j (.long 0) = .long (ws.getD j 0) := by
  simp only [List.getD_eq_getElem?_getD, List.getElem?_map]
  cases ws[j]? <;> rfl
/-! small naturals as ints -/
theorem nat_toInt {n : Nat} (h : n < 2147483648) : (Int32.ofNat n).toInt = n := Int32.toInt_ofNat_small h
theorem nat_clamp {n : Nat} (h : n < 2147483648) : (Int32.ofNat n).toNatClampNeg = n := by
  show (Int32.ofNat n).toInt.toNat = n
  rw [nat_toInt h]; rfl
theorem nat_nn {n : Nat} (h : n < 2147483648) : ¬ Int32.ofNat n < 0 := by rw [Int32.lt_iff_toInt_lt, nat_toInt h, i0_toInt]; omega
theorem nat_lt {n k : Nat} (h : n < 2147483648) (h' : k < 2147483648) : Int32.ofNat n < Int32.ofNat k ↔ n < k := by rw [Int32.lt_iff_toInt_lt, nat_toInt h, nat_toInt h']; omega
theorem nat_eq {n k : Nat} (h : n < 2147483648) (h' : k < 2147483648) : Int32.ofNat n = Int32.ofNat k ↔ n = k := by rw [← Int32.toInt_inj, nat_toInt h, nat_toInt h']; omega
theorem nat_up (n : Nat) : Int32.ofNat n + 1 = Int32.ofNat (n + 1) := by simp [Int32.ofNat_add]
theorem Fld.fun {Z : State} {h : Heap} {a : Addr} {C n d : String} {v w : Value} (F : Fld Z h a C n d v) (G : Fld Z h a C n d w) : v = w := Classical.byContradiction fun q => F.ne G q rfl
end Index
end Jvm.OwnKit
namespace Jvm.Pilot.@@N@@
open Jvm Jvm.ClassFile Sem Op Lib Jvm.Free Jvm.Stand Jvm.LawKit Jvm.RoadKit Bundle Jvm.Pilot.@@N@@.Jvm.D Jvm.OwnKit
theorem d4_0 : decode prog_59_method_2_code 0 = .ok (.aload_n 0, 1) := by decide +kernel
theorem d4_1 : decode prog_59_method_2_code 1 = .ok (.aload_n 1, 1) := by decide +kernel
theorem d4_2 : decode prog_59_method_2_code 2 = .ok (.iload_n 2, 1) := by decide +kernel
theorem d4_3 : decode prog_59_method_2_code 3 = .ok (.baload, 1) := by decide +kernel
theorem d4_4 : decode prog_59_method_2_code 4 = .ok (.bipush 45, 2) := by decide +kernel
theorem d4_6 : decode prog_59_method_2_code 6 = .ok (.if_icmp .ne 7, 3) := by decide +kernel
theorem d4_9 : decode prog_59_method_2_code 9 = .ok (.iconst 1, 1) := by decide +kernel
theorem d4_10 : decode prog_59_method_2_code 10 = .ok (.goto 4, 3) := by decide +kernel
theorem d4_13 : decode prog_59_method_2_code 13 = .ok (.iconst 0, 1) := by decide +kernel
theorem d4_14 : decode prog_59_method_2_code 14 = .ok (.putfield 7, 3) := by decide +kernel
theorem d4_17 : decode prog_59_method_2_code 17 = .ok (.iconst (-1), 1) := by decide +kernel
theorem d4_18 : decode prog_59_method_2_code 18 = .ok (.istore 4, 2) := by decide +kernel
theorem d4_20 : decode prog_59_method_2_code 20 = .ok (.iload_n 3, 1) := by decide +kernel
theorem d4_21 : decode prog_59_method_2_code 21 = .ok (.istore 5, 2) := by decide +kernel
theorem d4_23 : decode prog_59_method_2_code 23 = .ok (.lconst 0, 1) := by decide +kernel
theorem d4_24 : decode prog_59_method_2_code 24 = .ok (.lstore 6, 2) := by decide +kernel
theorem d4_26 : decode prog_59_method_2_code 26 = .ok (.iload_n 2, 1) := by decide +kernel
theorem d4_27 : decode prog_59_method_2_code 27 = .ok (.istore 8, 2) := by decide +kernel
theorem d4_29 : decode prog_59_method_2_code 29 = .ok (.iload 8, 2) := by decide +kernel
theorem d4_31 : decode prog_59_method_2_code 31 = .ok (.iload_n 3, 1) := by decide +kernel
theorem d4_32 : decode prog_59_method_2_code 32 = .ok (.if_icmp .ge 64, 3) := by decide +kernel
theorem d4_35 : decode prog_59_method_2_code 35 = .ok (.iload 5, 2) := by decide +kernel
theorem d4_37 : decode prog_59_method_2_code 37 = .ok (.iload_n 3, 1) := by decide +kernel
theorem d4_38 : decode prog_59_method_2_code 38 = .ok (.if_icmp .ne 58, 3) := by decide +kernel
theorem d4_41 : decode prog_59_method_2_code 41 = .ok (.aload_n 1, 1) := by decide +kernel
theorem d4_42 : decode prog_59_method_2_code 42 = .ok (.iload 8, 2) := by decide +kernel
theorem d4_44 : decode prog_59_method_2_code 44 = .ok (.baload, 1) := by decide +kernel
theorem d4_45 : decode prog_59_method_2_code 45 = .ok (.bipush 46, 2) := by decide +kernel
theorem d4_47 : decode prog_59_method_2_code 47 = .ok (.if_icmp .ne 10, 3) := by decide +kernel
theorem d4_50 : decode prog_59_method_2_code 50 = .ok (.iload 8, 2) := by decide +kernel
theorem d4_52 : decode prog_59_method_2_code 52 = .ok (.istore 4, 2) := by decide +kernel
theorem d4_54 : decode prog_59_method_2_code 54 = .ok (.goto 36, 3) := by decide +kernel
theorem d4_57 : decode prog_59_method_2_code 57 = .ok (.aload_n 1, 1) := by decide +kernel
theorem d4_58 : decode prog_59_method_2_code 58 = .ok (.iload 8, 2) := by decide +kernel
theorem d4_60 : decode prog_59_method_2_code 60 = .ok (.baload, 1) := by decide +kernel
theorem d4_61 : decode prog_59_method_2_code 61 = .ok (.bipush 101, 2) := by decide +kernel
theorem d4_63 : decode prog_59_method_2_code 63 = .ok (.if_icmp .eq 12, 3) := by decide +kernel
theorem d4_66 : decode prog_59_method_2_code 66 = .ok (.aload_n 1, 1) := by decide +kernel
theorem d4_67 : decode prog_59_method_2_code 67 = .ok (.iload 8, 2) := by decide +kernel
theorem d4_69 : decode prog_59_method_2_code 69 = .ok (.baload, 1) := by decide +kernel
theorem d4_70 : decode prog_59_method_2_code 70 = .ok (.bipush 69, 2) := by decide +kernel
theorem d4_72 : decode prog_59_method_2_code 72 = .ok (.if_icmp .ne 18, 3) := by decide +kernel
theorem d4_75 : decode prog_59_method_2_code 75 = .ok (.iload 8, 2) := by decide +kernel
theorem d4_77 : decode prog_59_method_2_code 77 = .ok (.istore 5, 2) := by decide +kernel
theorem d4_79 : decode prog_59_method_2_code 79 = .ok (.aload_n 1, 1) := by decide +kernel
theorem d4_80 : decode prog_59_method_2_code 80 = .ok (.iload 8, 2) := by decide +kernel
theorem d4_82 : decode prog_59_method_2_code 82 = .ok (.iconst 1, 1) := by decide +kernel
theorem d4_83 : decode prog_59_method_2_code 83 = .ok (.iadd, 1) := by decide +kernel
theorem d4_84 : decode prog_59_method_2_code 84 = .ok (.iload_n 3, 1) := by decide +kernel
theorem d4_85 : decode prog_59_method_2_code 85 = .ok (.invokestatic 13, 3) := by decide +kernel
theorem d4_88 : decode prog_59_method_2_code 88 = .ok (.lstore 6, 2) := by decide +kernel
theorem d4_90 : decode prog_59_method_2_code 90 = .ok (.iinc 8 1, 3) := by decide +kernel
theorem d4_93 : decode prog_59_method_2_code 93 = .ok (.goto (-64), 3) := by decide +kernel
theorem d4_96 : decode prog_59_method_2_code 96 = .ok (.iload 4, 2) := by decide +kernel
theorem d4_98 : decode prog_59_method_2_code 98 = .ok (.ifCond .ge 8, 3) := by decide +kernel
theorem d4_101 : decode prog_59_method_2_code 101 = .ok (.iload 5, 2) := by decide +kernel
theorem d4_103 : decode prog_59_method_2_code 103 = .ok (.goto 5, 3) := by decide +kernel
theorem d4_106 : decode prog_59_method_2_code 106 = .ok (.iload 4, 2) := by decide +kernel
theorem d4_108 : decode prog_59_method_2_code 108 = .ok (.istore 8, 2) := by decide +kernel
theorem d4_110 : decode prog_59_method_2_code 110 = .ok (.aload_n 0, 1) := by decide +kernel
theorem d4_111 : decode prog_59_method_2_code 111 = .ok (.lconst 0, 1) := by decide +kernel
theorem d4_112 : decode prog_59_method_2_code 112 = .ok (.putfield 17, 3) := by decide +kernel
theorem d4_115 : decode prog_59_method_2_code 115 = .ok (.aload_n 0, 1) := by decide +kernel
theorem d4_116 : decode prog_59_method_2_code 116 = .ok (.lconst 0, 1) := by decide +kernel
theorem d4_117 : decode prog_59_method_2_code 117 = .ok (.putfield 21, 3) := by decide +kernel
theorem d4_120 : decode prog_59_method_2_code 120 = .ok (.aload_n 0, 1) := by decide +kernel
theorem d4_121 : decode prog_59_method_2_code 121 = .ok (.iconst 0, 1) := by decide +kernel
theorem d4_122 : decode prog_59_method_2_code 122 = .ok (.putfield 24, 3) := by decide +kernel
theorem d4_125 : decode prog_59_method_2_code 125 = .ok (.aload_n 0, 1) := by decide +kernel
theorem d4_126 : decode prog_59_method_2_code 126 = .ok (.iconst 0, 1) := by decide +kernel
theorem d4_127 : decode prog_59_method_2_code 127 = .ok (.putfield 27, 3) := by decide +kernel
theorem d4_130 : decode prog_59_method_2_code 130 = .ok (.aload_n 0, 1) := by decide +kernel
theorem d4_131 : decode prog_59_method_2_code 131 = .ok (.getfield 7, 3) := by decide +kernel
theorem d4_134 : decode prog_59_method_2_code 134 = .ok (.ifCond .eq 9, 3) := by decide +kernel
theorem d4_137 : decode prog_59_method_2_code 137 = .ok (.iload_n 2, 1) := by decide +kernel
theorem d4_138 : decode prog_59_method_2_code 138 = .ok (.iconst 1, 1) := by decide +kernel
theorem d4_139 : decode prog_59_method_2_code 139 = .ok (.iadd, 1) := by decide +kernel
theorem d4_140 : decode prog_59_method_2_code 140 = .ok (.goto 4, 3) := by decide +kernel
theorem d4_143 : decode prog_59_method_2_code 143 = .ok (.iload_n 2, 1) := by decide +kernel
theorem d4_144 : decode prog_59_method_2_code 144 = .ok (.istore 9, 2) := by decide +kernel
theorem d4_146 : decode prog_59_method_2_code 146 = .ok (.iload 9, 2) := by decide +kernel
theorem d4_148 : decode prog_59_method_2_code 148 = .ok (.iload 5, 2) := by decide +kernel
theorem d4_150 : decode prog_59_method_2_code 150 = .ok (.if_icmp .ge 153, 3) := by decide +kernel
theorem d4_153 : decode prog_59_method_2_code 153 = .ok (.aload_n 0, 1) := by decide +kernel
theorem d4_154 : decode prog_59_method_2_code 154 = .ok (.getfield 27, 3) := by decide +kernel
theorem d4_157 : decode prog_59_method_2_code 157 = .ok (.ifCond .ne 146, 3) := by decide +kernel
theorem d4_160 : decode prog_59_method_2_code 160 = .ok (.aload_n 1, 1) := by decide +kernel
theorem d4_161 : decode prog_59_method_2_code 161 = .ok (.iload 9, 2) := by decide +kernel
theorem d4_163 : decode prog_59_method_2_code 163 = .ok (.baload, 1) := by decide +kernel
theorem d4_164 : decode prog_59_method_2_code 164 = .ok (.bipush 48, 2) := by decide +kernel
theorem d4_166 : decode prog_59_method_2_code 166 = .ok (.isub, 1) := by decide +kernel
theorem d4_167 : decode prog_59_method_2_code 167 = .ok (.istore 10, 2) := by decide +kernel
theorem d4_169 : decode prog_59_method_2_code 169 = .ok (.iload 9, 2) := by decide +kernel
theorem d4_171 : decode prog_59_method_2_code 171 = .ok (.iload 4, 2) := by decide +kernel
theorem d4_173 : decode prog_59_method_2_code 173 = .ok (.if_icmp .eq 124, 3) := by decide +kernel
theorem d4_176 : decode prog_59_method_2_code 176 = .ok (.iload 10, 2) := by decide +kernel
theorem d4_178 : decode prog_59_method_2_code 178 = .ok (.ifCond .eq 119, 3) := by decide +kernel
theorem d4_181 : decode prog_59_method_2_code 181 = .ok (.lload 6, 2) := by decide +kernel
theorem d4_183 : decode prog_59_method_2_code 183 = .ok (.iload 9, 2) := by decide +kernel
theorem d4_185 : decode prog_59_method_2_code 185 = .ok (.iload 8, 2) := by decide +kernel
theorem d4_187 : decode prog_59_method_2_code 187 = .ok (.if_icmp .ge 13, 3) := by decide +kernel
theorem d4_190 : decode prog_59_method_2_code 190 = .ok (.iload 8, 2) := by decide +kernel
theorem d4_192 : decode prog_59_method_2_code 192 = .ok (.iconst 1, 1) := by decide +kernel
theorem d4_193 : decode prog_59_method_2_code 193 = .ok (.isub, 1) := by decide +kernel
theorem d4_194 : decode prog_59_method_2_code 194 = .ok (.iload 9, 2) := by decide +kernel
theorem d4_196 : decode prog_59_method_2_code 196 = .ok (.isub, 1) := by decide +kernel
theorem d4_197 : decode prog_59_method_2_code 197 = .ok (.goto 8, 3) := by decide +kernel
theorem d4_200 : decode prog_59_method_2_code 200 = .ok (.iload 8, 2) := by decide +kernel
theorem d4_202 : decode prog_59_method_2_code 202 = .ok (.iload 9, 2) := by decide +kernel
theorem d4_204 : decode prog_59_method_2_code 204 = .ok (.isub, 1) := by decide +kernel
theorem d4_205 : decode prog_59_method_2_code 205 = .ok (.i2l, 1) := by decide +kernel
theorem d4_206 : decode prog_59_method_2_code 206 = .ok (.ladd, 1) := by decide +kernel
theorem d4_207 : decode prog_59_method_2_code 207 = .ok (.lstore 11, 2) := by decide +kernel
theorem d4_209 : decode prog_59_method_2_code 209 = .ok (.lload 11, 2) := by decide +kernel
theorem d4_211 : decode prog_59_method_2_code 211 = .ok (.ldc2_w 30, 3) := by decide +kernel
theorem d4_214 : decode prog_59_method_2_code 214 = .ok (.lcmp, 1) := by decide +kernel
theorem d4_215 : decode prog_59_method_2_code 215 = .ok (.ifCond .lt 11, 3) := by decide +kernel
theorem d4_218 : decode prog_59_method_2_code 218 = .ok (.aload_n 0, 1) := by decide +kernel
theorem d4_219 : decode prog_59_method_2_code 219 = .ok (.iconst 1, 1) := by decide +kernel
theorem d4_220 : decode prog_59_method_2_code 220 = .ok (.putfield 27, 3) := by decide +kernel
theorem d4_223 : decode prog_59_method_2_code 223 = .ok (.goto 74, 3) := by decide +kernel
theorem d4_226 : decode prog_59_method_2_code 226 = .ok (.lload 11, 2) := by decide +kernel
theorem d4_228 : decode prog_59_method_2_code 228 = .ok (.lconst 0, 1) := by decide +kernel
theorem d4_229 : decode prog_59_method_2_code 229 = .ok (.lcmp, 1) := by decide +kernel
theorem d4_230 : decode prog_59_method_2_code 230 = .ok (.ifCond .lt 26, 3) := by decide +kernel
theorem d4_233 : decode prog_59_method_2_code 233 = .ok (.aload_n 0, 1) := by decide +kernel
theorem d4_234 : decode prog_59_method_2_code 234 = .ok (.dup, 1) := by decide +kernel
theorem d4_235 : decode prog_59_method_2_code 235 = .ok (.getfield 17, 3) := by decide +kernel
theorem d4_238 : decode prog_59_method_2_code 238 = .ok (.iload 10, 2) := by decide +kernel
theorem d4_240 : decode prog_59_method_2_code 240 = .ok (.i2l, 1) := by decide +kernel
theorem d4_241 : decode prog_59_method_2_code 241 = .ok (.getstatic 32, 3) := by decide +kernel
theorem d4_244 : decode prog_59_method_2_code 244 = .ok (.lload 11, 2) := by decide +kernel
theorem d4_246 : decode prog_59_method_2_code 246 = .ok (.l2i, 1) := by decide +kernel
theorem d4_247 : decode prog_59_method_2_code 247 = .ok (.laload, 1) := by decide +kernel
theorem d4_248 : decode prog_59_method_2_code 248 = .ok (.lmul, 1) := by decide +kernel
theorem d4_249 : decode prog_59_method_2_code 249 = .ok (.ladd, 1) := by decide +kernel
theorem d4_250 : decode prog_59_method_2_code 250 = .ok (.putfield 17, 3) := by decide +kernel
theorem d4_253 : decode prog_59_method_2_code 253 = .ok (.goto 44, 3) := by decide +kernel
theorem d4_256 : decode prog_59_method_2_code 256 = .ok (.lload 11, 2) := by decide +kernel
theorem d4_258 : decode prog_59_method_2_code 258 = .ok (.ldc2_w 36, 3) := by decide +kernel
theorem d4_261 : decode prog_59_method_2_code 261 = .ok (.lcmp, 1) := by decide +kernel
theorem d4_262 : decode prog_59_method_2_code 262 = .ok (.ifCond .lt 30, 3) := by decide +kernel
theorem d4_265 : decode prog_59_method_2_code 265 = .ok (.aload_n 0, 1) := by decide +kernel
theorem d4_266 : decode prog_59_method_2_code 266 = .ok (.dup, 1) := by decide +kernel
theorem d4_267 : decode prog_59_method_2_code 267 = .ok (.getfield 21, 3) := by decide +kernel
theorem d4_270 : decode prog_59_method_2_code 270 = .ok (.iload 10, 2) := by decide +kernel
theorem d4_272 : decode prog_59_method_2_code 272 = .ok (.i2l, 1) := by decide +kernel
theorem d4_273 : decode prog_59_method_2_code 273 = .ok (.getstatic 32, 3) := by decide +kernel
theorem d4_276 : decode prog_59_method_2_code 276 = .ok (.ldc2_w 38, 3) := by decide +kernel
theorem d4_279 : decode prog_59_method_2_code 279 = .ok (.lload 11, 2) := by decide +kernel
theorem d4_281 : decode prog_59_method_2_code 281 = .ok (.ladd, 1) := by decide +kernel
theorem d4_282 : decode prog_59_method_2_code 282 = .ok (.l2i, 1) := by decide +kernel
theorem d4_283 : decode prog_59_method_2_code 283 = .ok (.laload, 1) := by decide +kernel
theorem d4_284 : decode prog_59_method_2_code 284 = .ok (.lmul, 1) := by decide +kernel
theorem d4_285 : decode prog_59_method_2_code 285 = .ok (.ladd, 1) := by decide +kernel
theorem d4_286 : decode prog_59_method_2_code 286 = .ok (.putfield 21, 3) := by decide +kernel
theorem d4_289 : decode prog_59_method_2_code 289 = .ok (.goto 8, 3) := by decide +kernel
theorem d4_292 : decode prog_59_method_2_code 292 = .ok (.aload_n 0, 1) := by decide +kernel
theorem d4_293 : decode prog_59_method_2_code 293 = .ok (.iconst 1, 1) := by decide +kernel
theorem d4_294 : decode prog_59_method_2_code 294 = .ok (.putfield 24, 3) := by decide +kernel
theorem d4_297 : decode prog_59_method_2_code 297 = .ok (.iinc 9 1, 3) := by decide +kernel
theorem d4_300 : decode prog_59_method_2_code 300 = .ok (.goto (-154), 3) := by decide +kernel
theorem d4_303 : decode prog_59_method_2_code 303 = .ok (.return_, 1) := by decide +kernel
theorem d1_0 : decode method_2_code 0 = .ok (.iload_n 0, 1) := by decide +kernel
theorem d1_1 : decode method_2_code 1 = .ok (.iconst 4, 1) := by decide +kernel
theorem d1_2 : decode method_2_code 2 = .ok (.iload_n 1, 1) := by decide +kernel
theorem d1_3 : decode method_2_code 3 = .ok (.imul, 1) := by decide +kernel
theorem d1_4 : decode method_2_code 4 = .ok (.iushr, 1) := by decide +kernel
theorem d1_5 : decode method_2_code 5 = .ok (.bipush 15, 2) := by decide +kernel
theorem d1_7 : decode method_2_code 7 = .ok (.iand, 1) := by decide +kernel
theorem d1_8 : decode method_2_code 8 = .ok (.bipush 10, 2) := by decide +kernel
theorem d1_10 : decode method_2_code 10 = .ok (.irem, 1) := by decide +kernel
theorem d1_11 : decode method_2_code 11 = .ok (.ireturn, 1) := by decide +kernel
theorem d2_0 : decode prog_59_method_1_code 0 = .ok (.aload_n 0, 1) := by decide +kernel
theorem d2_1 : decode prog_59_method_1_code 1 = .ok (.invokespecial 1, 3) := by decide +kernel
theorem d2_4 : decode prog_59_method_1_code 4 = .ok (.return_, 1) := by decide +kernel
theorem d5_0 : decode prog_59_method_3_code 0 = .ok (.aload_n 0, 1) := by decide +kernel
theorem d5_1 : decode prog_59_method_3_code 1 = .ok (.getfield 17, 3) := by decide +kernel
theorem d5_4 : decode prog_59_method_3_code 4 = .ok (.lconst 0, 1) := by decide +kernel
theorem d5_5 : decode prog_59_method_3_code 5 = .ok (.lcmp, 1) := by decide +kernel
theorem d5_6 : decode prog_59_method_3_code 6 = .ok (.ifCond .ne 30, 3) := by decide +kernel
theorem d5_9 : decode prog_59_method_3_code 9 = .ok (.aload_n 0, 1) := by decide +kernel
theorem d5_10 : decode prog_59_method_3_code 10 = .ok (.getfield 21, 3) := by decide +kernel
theorem d5_13 : decode prog_59_method_3_code 13 = .ok (.lconst 0, 1) := by decide +kernel
theorem d5_14 : decode prog_59_method_3_code 14 = .ok (.lcmp, 1) := by decide +kernel
theorem d5_15 : decode prog_59_method_3_code 15 = .ok (.ifCond .ne 21, 3) := by decide +kernel
theorem d5_18 : decode prog_59_method_3_code 18 = .ok (.aload_n 0, 1) := by decide +kernel
theorem d5_19 : decode prog_59_method_3_code 19 = .ok (.getfield 24, 3) := by decide +kernel
theorem d5_22 : decode prog_59_method_3_code 22 = .ok (.ifCond .ne 14, 3) := by decide +kernel
theorem d5_25 : decode prog_59_method_3_code 25 = .ok (.aload_n 0, 1) := by decide +kernel
theorem d5_26 : decode prog_59_method_3_code 26 = .ok (.getfield 27, 3) := by decide +kernel
theorem d5_29 : decode prog_59_method_3_code 29 = .ok (.ifCond .ne 7, 3) := by decide +kernel
theorem d5_32 : decode prog_59_method_3_code 32 = .ok (.iconst 1, 1) := by decide +kernel
theorem d5_33 : decode prog_59_method_3_code 33 = .ok (.goto 4, 3) := by decide +kernel
theorem d5_36 : decode prog_59_method_3_code 36 = .ok (.iconst 0, 1) := by decide +kernel
theorem d5_37 : decode prog_59_method_3_code 37 = .ok (.istore_n 1, 1) := by decide +kernel
theorem d5_38 : decode prog_59_method_3_code 38 = .ok (.aload_n 0, 1) := by decide +kernel
theorem d5_39 : decode prog_59_method_3_code 39 = .ok (.getfield 7, 3) := by decide +kernel
theorem d5_42 : decode prog_59_method_3_code 42 = .ok (.ifCond .eq 7, 3) := by decide +kernel
theorem d5_45 : decode prog_59_method_3_code 45 = .ok (.iconst (-1), 1) := by decide +kernel
theorem d5_46 : decode prog_59_method_3_code 46 = .ok (.goto 4, 3) := by decide +kernel
theorem d5_49 : decode prog_59_method_3_code 49 = .ok (.iconst 1, 1) := by decide +kernel
theorem d5_50 : decode prog_59_method_3_code 50 = .ok (.istore_n 2, 1) := by decide +kernel
theorem d5_51 : decode prog_59_method_3_code 51 = .ok (.iload_n 1, 1) := by decide +kernel
theorem d5_52 : decode prog_59_method_3_code 52 = .ok (.ifCond .eq 7, 3) := by decide +kernel
theorem d5_55 : decode prog_59_method_3_code 55 = .ok (.iconst 0, 1) := by decide +kernel
theorem d5_56 : decode prog_59_method_3_code 56 = .ok (.goto 4, 3) := by decide +kernel
theorem d5_59 : decode prog_59_method_3_code 59 = .ok (.iload_n 2, 1) := by decide +kernel
theorem d5_60 : decode prog_59_method_3_code 60 = .ok (.ireturn, 1) := by decide +kernel
theorem d6_0 : decode prog_59_method_6_code 0 = .ok (.aload_n 0, 1) := by decide +kernel
theorem d6_1 : decode prog_59_method_6_code 1 = .ok (.iload_n 1, 1) := by decide +kernel
theorem d6_2 : decode prog_59_method_6_code 2 = .ok (.baload, 1) := by decide +kernel
theorem d6_3 : decode prog_59_method_6_code 3 = .ok (.bipush 45, 2) := by decide +kernel
theorem d6_5 : decode prog_59_method_6_code 5 = .ok (.if_icmp .ne 7, 3) := by decide +kernel
theorem d6_8 : decode prog_59_method_6_code 8 = .ok (.iconst 1, 1) := by decide +kernel
theorem d6_9 : decode prog_59_method_6_code 9 = .ok (.goto 4, 3) := by decide +kernel
theorem d6_12 : decode prog_59_method_6_code 12 = .ok (.iconst 0, 1) := by decide +kernel
theorem d6_13 : decode prog_59_method_6_code 13 = .ok (.istore_n 3, 1) := by decide +kernel
theorem d6_14 : decode prog_59_method_6_code 14 = .ok (.iload_n 3, 1) := by decide +kernel
theorem d6_15 : decode prog_59_method_6_code 15 = .ok (.ifCond .ne 11, 3) := by decide +kernel
theorem d6_18 : decode prog_59_method_6_code 18 = .ok (.aload_n 0, 1) := by decide +kernel
theorem d6_19 : decode prog_59_method_6_code 19 = .ok (.iload_n 1, 1) := by decide +kernel
theorem d6_20 : decode prog_59_method_6_code 20 = .ok (.baload, 1) := by decide +kernel
theorem d6_21 : decode prog_59_method_6_code 21 = .ok (.bipush 43, 2) := by decide +kernel
theorem d6_23 : decode prog_59_method_6_code 23 = .ok (.if_icmp .ne 9, 3) := by decide +kernel
theorem d6_26 : decode prog_59_method_6_code 26 = .ok (.iload_n 1, 1) := by decide +kernel
theorem d6_27 : decode prog_59_method_6_code 27 = .ok (.iconst 1, 1) := by decide +kernel
theorem d6_28 : decode prog_59_method_6_code 28 = .ok (.iadd, 1) := by decide +kernel
theorem d6_29 : decode prog_59_method_6_code 29 = .ok (.goto 4, 3) := by decide +kernel
theorem d6_32 : decode prog_59_method_6_code 32 = .ok (.iload_n 1, 1) := by decide +kernel
theorem d6_33 : decode prog_59_method_6_code 33 = .ok (.istore 4, 2) := by decide +kernel
theorem d6_35 : decode prog_59_method_6_code 35 = .ok (.lconst 0, 1) := by decide +kernel
theorem d6_36 : decode prog_59_method_6_code 36 = .ok (.lstore 5, 2) := by decide +kernel
theorem d6_38 : decode prog_59_method_6_code 38 = .ok (.iload 4, 2) := by decide +kernel
theorem d6_40 : decode prog_59_method_6_code 40 = .ok (.iload_n 2, 1) := by decide +kernel
theorem d6_41 : decode prog_59_method_6_code 41 = .ok (.if_icmp .ge 36, 3) := by decide +kernel
theorem d6_44 : decode prog_59_method_6_code 44 = .ok (.lload 5, 2) := by decide +kernel
theorem d6_46 : decode prog_59_method_6_code 46 = .ok (.ldc2_w 54, 3) := by decide +kernel
theorem d6_49 : decode prog_59_method_6_code 49 = .ok (.lcmp, 1) := by decide +kernel
theorem d6_50 : decode prog_59_method_6_code 50 = .ok (.ifCond .ge 27, 3) := by decide +kernel
theorem d6_53 : decode prog_59_method_6_code 53 = .ok (.ldc2_w 56, 3) := by decide +kernel
theorem d6_56 : decode prog_59_method_6_code 56 = .ok (.lload 5, 2) := by decide +kernel
theorem d6_58 : decode prog_59_method_6_code 58 = .ok (.lmul, 1) := by decide +kernel
theorem d6_59 : decode prog_59_method_6_code 59 = .ok (.aload_n 0, 1) := by decide +kernel
theorem d6_60 : decode prog_59_method_6_code 60 = .ok (.iload 4, 2) := by decide +kernel
theorem d6_62 : decode prog_59_method_6_code 62 = .ok (.baload, 1) := by decide +kernel
theorem d6_63 : decode prog_59_method_6_code 63 = .ok (.i2l, 1) := by decide +kernel
theorem d6_64 : decode prog_59_method_6_code 64 = .ok (.ladd, 1) := by decide +kernel
theorem d6_65 : decode prog_59_method_6_code 65 = .ok (.ldc2_w 58, 3) := by decide +kernel
theorem d6_68 : decode prog_59_method_6_code 68 = .ok (.lsub, 1) := by decide +kernel
theorem d6_69 : decode prog_59_method_6_code 69 = .ok (.lstore 5, 2) := by decide +kernel
theorem d6_71 : decode prog_59_method_6_code 71 = .ok (.iinc 4 1, 3) := by decide +kernel
theorem d6_74 : decode prog_59_method_6_code 74 = .ok (.goto (-36), 3) := by decide +kernel
theorem d6_77 : decode prog_59_method_6_code 77 = .ok (.iload_n 3, 1) := by decide +kernel
theorem d6_78 : decode prog_59_method_6_code 78 = .ok (.ifCond .eq 9, 3) := by decide +kernel
theorem d6_81 : decode prog_59_method_6_code 81 = .ok (.lload 5, 2) := by decide +kernel
theorem d6_83 : decode prog_59_method_6_code 83 = .ok (.lneg, 1) := by decide +kernel
theorem d6_84 : decode prog_59_method_6_code 84 = .ok (.goto 5, 3) := by decide +kernel
theorem d6_87 : decode prog_59_method_6_code 87 = .ok (.lload 5, 2) := by decide +kernel
theorem d6_89 : decode prog_59_method_6_code 89 = .ok (.lreturn, 1) := by decide +kernel
theorem pn_0 : plainName "com/example/portion/portion/quota/BoundedNumberSignumPinLaw" = true := by first | (simp [plainName, overriddenIn]; done) | decide +kernel
theorem pn_1 : plainName "com/example/portion/portion/quota/BoundedNumber" = true := by first | (simp [plainName, overriddenIn]; done) | decide +kernel
theorem pd_d : parseMethodDescriptor "(II)I" = some ⟨[.int, .int], some .int⟩ := by decide +kernel
theorem pd_2 : parseMethodDescriptor "()V" = some ⟨[], none⟩ := by decide +kernel
theorem pd_3 : parseMethodDescriptor "([BII)V" = some ⟨[(.array .byte), .int, .int], none⟩ := by decide +kernel
theorem pd_4 : parseMethodDescriptor "()I" = some ⟨[], some .int⟩ := by decide +kernel
theorem pd_x : parseMethodDescriptor "([BII)J" = some ⟨[(.array .byte), .int, .int], some .long⟩ := by decide +kernel
theorem ef_d (m : MethodId) (v : Int32) (j : Int32) : entryFrame m #[(.int v), (.int j)] 2 = mkF m 0 #[.val (.int v), .val (.int j)] [] := by first | (simp [entryFrame, mkF, argsToLocals, Value.category]; done) | rfl
theorem ef_i (m : MethodId) (b : Addr) : entryFrame m #[(.ref b)] 1 = mkF m 0 #[.val (.ref b)] [] := by first | (simp [entryFrame, mkF, argsToLocals, Value.category]; done) | rfl
theorem ef_n (m : MethodId) (a : Addr) : entryFrame m #[(.ref a)] 3 = mkF m 0 #[.val (.ref a), .unset, .unset] [] := by first | (simp [entryFrame, mkF, argsToLocals, Value.category]; done) | rfl
theorem ef_0 (m : MethodId) (sh : Int32) (wo : Int32) (fr : Int32) (xp : Int32) : entryFrame m #[(.int sh), (.int wo), (.int fr), (.int xp)] maxLocals = mkF m 0 #[.val (.int sh), .val (.int wo), .val (.int fr), .val (.int xp), .unset, .unset, .unset, .unset, .unset, .unset, .unset, .unset, .unset, .unset, .unset, .unset, .unset, .unset, .unset, .unset, .unset, .unset, .unset, .unset, .unset, .unset] [] := by first | (simp [entryFrame, mkF, argsToLocals, Value.category, maxLocals]; done) | rfl
/-- a BoundedNumber's fields -/
def own_Num (Z : State) (h : Heap) (a : Addr) (ng : Int32) (wh na : Int64) (fi be : Int32) : Prop := Exa Z h a "com/example/portion/portion/quota/BoundedNumber" ∧ Fld Z h a "com/example/portion/portion/quota/BoundedNumber" "negative" "Z" (.int ng) ∧ Fld Z h a "com/example/portion/portion/quota/BoundedNumber" "whole" "J" (.long wh) ∧ Fld Z h a "com/example/portion/portion/quota/BoundedNumber" "nanos" "J" (.long na) ∧ Fld Z h a "com/example/portion/portion/quota/BoundedNumber" "finer" "Z" (.int fi) ∧ Fld Z h a "com/example/portion/portion/quota/BoundedNumber" "beyond" "Z" (.int be)
abbrev own_pows : List Int64 := [1, 10, 100, 1000, 10000, 100000, 1000000, 10000000, 100000000, 1000000000, 10000000000, 100000000000, 1000000000000, 10000000000000, 100000000000000, 1000000000000000, 10000000000000000, 100000000000000000]
/-- what stands while read() runs: all but the number is kept; the text, the powers, the number -/
def own_RI (Z : State) (h0 : Heap) (a tx pw : Addr) (kt kp : ClassId) (tz : Int32) (bs : List Int32) (h : Heap) (ng : Int32) (wh na : Int64) (fi be : Int32) : Prop :=
  Keep h0 h [a] ∧ Arv Z h tx kt .byte tz (bs.map Value.int) (.int 0) ∧ Sta Z h "com/example/portion/portion/quota/BoundedNumber" "POWERS_OF_TEN" "[J" (.ref pw) ∧ Arv Z h pw kp .long 18 (own_pows.map Value.long) (.long 0) ∧ own_Num Z h a ng wh na fi be
theorem own_num_negative {Z : State} {a0 : Array Value} (hw : ∀ d ∈ tables_1, d.before a0 Z = true) {h h' : Heap} {a : Addr} {ng : Int32} {wh na : Int64} {fi be : Int32} {v' : Int32} (N : own_Num Z h a ng wh na fi be) (W : Wr h h' a (Jvm.RoadKit.slotOf Z "com/example/portion/portion/quota/BoundedNumber" "negative" "Z") (.int v')) : own_Num Z h' a v' wh na fi be :=
  ⟨N.1.wr W, N.2.1.same W, N.2.2.1.other W (Or.inr (slot_ne (Or.inl (hw _ (List.mem_of_getElem? (i := 22) rfl))) (Or.inl (hw _ (List.mem_of_getElem? (i := 20) rfl))) (by decide) (t := .long) (t' := .boolean) (by decide) (by decide))), N.2.2.2.1.other W (Or.inr (slot_ne (Or.inl (hw _ (List.mem_of_getElem? (i := 24) rfl))) (Or.inl (hw _ (List.mem_of_getElem? (i := 20) rfl))) (by decide) (t := .long) (t' := .boolean) (by decide) (by decide))), N.2.2.2.2.1.other W (Or.inr (slot_ne (Or.inl (hw _ (List.mem_of_getElem? (i := 26) rfl))) (Or.inl (hw _ (List.mem_of_getElem? (i := 20) rfl))) (by decide) (t := .boolean) (t' := .boolean) (by decide) (by decide))), N.2.2.2.2.2.other W (Or.inr (slot_ne (Or.inl (hw _ (List.mem_of_getElem? (i := 28) rfl))) (Or.inl (hw _ (List.mem_of_getElem? (i := 20) rfl))) (by decide) (t := .boolean) (t' := .boolean) (by decide) (by decide)))⟩
theorem own_ri_negative {Z : State} {a0 : Array Value} (hw : ∀ d ∈ tables_1, d.before a0 Z = true) {h0 h h' : Heap} {a tx pw : Addr} {kt kp : ClassId} {tz : Int32} {bs : List Int32} {ng : Int32} {wh na : Int64} {fi be : Int32} {v' : Int32} (n1 : tx ≠ a) (n2 : pw ≠ a) (R : own_RI Z h0 a tx pw kt kp tz bs h ng wh na fi be) (W : Wr h h' a (Jvm.RoadKit.slotOf Z "com/example/portion/portion/quota/BoundedNumber" "negative" "Z") (.int v')) : own_RI Z h0 a tx pw kt kp tz bs h' v' wh na fi be :=
  ⟨R.1.wr W (Or.inl (List.mem_singleton.mpr rfl)), R.2.1.other W n1, R.2.2.1.wr W, R.2.2.2.1.other W n2, own_num_negative hw R.2.2.2.2 W⟩
theorem own_num_whole {Z : State} {a0 : Array Value} (hw : ∀ d ∈ tables_1, d.before a0 Z = true) {h h' : Heap} {a : Addr} {ng : Int32} {wh na : Int64} {fi be : Int32} {v' : Int64} (N : own_Num Z h a ng wh na fi be) (W : Wr h h' a (Jvm.RoadKit.slotOf Z "com/example/portion/portion/quota/BoundedNumber" "whole" "J") (.long v')) : own_Num Z h' a ng v' na fi be :=
  ⟨N.1.wr W, N.2.1.other W (Or.inr (slot_ne (Or.inl (hw _ (List.mem_of_getElem? (i := 20) rfl))) (Or.inl (hw _ (List.mem_of_getElem? (i := 22) rfl))) (by decide) (t := .boolean) (t' := .long) (by decide) (by decide))), N.2.2.1.same W, N.2.2.2.1.other W (Or.inr (slot_ne (Or.inl (hw _ (List.mem_of_getElem? (i := 24) rfl))) (Or.inl (hw _ (List.mem_of_getElem? (i := 22) rfl))) (by decide) (t := .long) (t' := .long) (by decide) (by decide))), N.2.2.2.2.1.other W (Or.inr (slot_ne (Or.inl (hw _ (List.mem_of_getElem? (i := 26) rfl))) (Or.inl (hw _ (List.mem_of_getElem? (i := 22) rfl))) (by decide) (t := .boolean) (t' := .long) (by decide) (by decide))), N.2.2.2.2.2.other W (Or.inr (slot_ne (Or.inl (hw _ (List.mem_of_getElem? (i := 28) rfl))) (Or.inl (hw _ (List.mem_of_getElem? (i := 22) rfl))) (by decide) (t := .boolean) (t' := .long) (by decide) (by decide)))⟩
theorem own_ri_whole {Z : State} {a0 : Array Value} (hw : ∀ d ∈ tables_1, d.before a0 Z = true) {h0 h h' : Heap} {a tx pw : Addr} {kt kp : ClassId} {tz : Int32} {bs : List Int32} {ng : Int32} {wh na : Int64} {fi be : Int32} {v' : Int64} (n1 : tx ≠ a) (n2 : pw ≠ a) (R : own_RI Z h0 a tx pw kt kp tz bs h ng wh na fi be) (W : Wr h h' a (Jvm.RoadKit.slotOf Z "com/example/portion/portion/quota/BoundedNumber" "whole" "J") (.long v')) : own_RI Z h0 a tx pw kt kp tz bs h' ng v' na fi be :=
  ⟨R.1.wr W (Or.inl (List.mem_singleton.mpr rfl)), R.2.1.other W n1, R.2.2.1.wr W, R.2.2.2.1.other W n2, own_num_whole hw R.2.2.2.2 W⟩
theorem own_num_nanos {Z : State} {a0 : Array Value} (hw : ∀ d ∈ tables_1, d.before a0 Z = true) {h h' : Heap} {a : Addr} {ng : Int32} {wh na : Int64} {fi be : Int32} {v' : Int64} (N : own_Num Z h a ng wh na fi be) (W : Wr h h' a (Jvm.RoadKit.slotOf Z "com/example/portion/portion/quota/BoundedNumber" "nanos" "J") (.long v')) : own_Num Z h' a ng wh v' fi be :=
  ⟨N.1.wr W, N.2.1.other W (Or.inr (slot_ne (Or.inl (hw _ (List.mem_of_getElem? (i := 20) rfl))) (Or.inl (hw _ (List.mem_of_getElem? (i := 24) rfl))) (by decide) (t := .boolean) (t' := .long) (by decide) (by decide))), N.2.2.1.other W (Or.inr (slot_ne (Or.inl (hw _ (List.mem_of_getElem? (i := 22) rfl))) (Or.inl (hw _ (List.mem_of_getElem? (i := 24) rfl))) (by decide) (t := .long) (t' := .long) (by decide) (by decide))), N.2.2.2.1.same W, N.2.2.2.2.1.other W (Or.inr (slot_ne (Or.inl (hw _ (List.mem_of_getElem? (i := 26) rfl))) (Or.inl (hw _ (List.mem_of_getElem? (i := 24) rfl))) (by decide) (t := .boolean) (t' := .long) (by decide) (by decide))), N.2.2.2.2.2.other W (Or.inr (slot_ne (Or.inl (hw _ (List.mem_of_getElem? (i := 28) rfl))) (Or.inl (hw _ (List.mem_of_getElem? (i := 24) rfl))) (by decide) (t := .boolean) (t' := .long) (by decide) (by decide)))⟩
theorem own_ri_nanos {Z : State} {a0 : Array Value} (hw : ∀ d ∈ tables_1, d.before a0 Z = true) {h0 h h' : Heap} {a tx pw : Addr} {kt kp : ClassId} {tz : Int32} {bs : List Int32} {ng : Int32} {wh na : Int64} {fi be : Int32} {v' : Int64} (n1 : tx ≠ a) (n2 : pw ≠ a) (R : own_RI Z h0 a tx pw kt kp tz bs h ng wh na fi be) (W : Wr h h' a (Jvm.RoadKit.slotOf Z "com/example/portion/portion/quota/BoundedNumber" "nanos" "J") (.long v')) : own_RI Z h0 a tx pw kt kp tz bs h' ng wh v' fi be :=
  ⟨R.1.wr W (Or.inl (List.mem_singleton.mpr rfl)), R.2.1.other W n1, R.2.2.1.wr W, R.2.2.2.1.other W n2, own_num_nanos hw R.2.2.2.2 W⟩
theorem own_num_finer {Z : State} {a0 : Array Value} (hw : ∀ d ∈ tables_1, d.before a0 Z = true) {h h' : Heap} {a : Addr} {ng : Int32} {wh na : Int64} {fi be : Int32} {v' : Int32} (N : own_Num Z h a ng wh na fi be) (W : Wr h h' a (Jvm.RoadKit.slotOf Z "com/example/portion/portion/quota/BoundedNumber" "finer" "Z") (.int v')) : own_Num Z h' a ng wh na v' be :=
  ⟨N.1.wr W, N.2.1.other W (Or.inr (slot_ne (Or.inl (hw _ (List.mem_of_getElem? (i := 20) rfl))) (Or.inl (hw _ (List.mem_of_getElem? (i := 26) rfl))) (by decide) (t := .boolean) (t' := .boolean) (by decide) (by decide))), N.2.2.1.other W (Or.inr (slot_ne (Or.inl (hw _ (List.mem_of_getElem? (i := 22) rfl))) (Or.inl (hw _ (List.mem_of_getElem? (i := 26) rfl))) (by decide) (t := .long) (t' := .boolean) (by decide) (by decide))), N.2.2.2.1.other W (Or.inr (slot_ne (Or.inl (hw _ (List.mem_of_getElem? (i := 24) rfl))) (Or.inl (hw _ (List.mem_of_getElem? (i := 26) rfl))) (by decide) (t := .long) (t' := .boolean) (by decide) (by decide))), N.2.2.2.2.1.same W, N.2.2.2.2.2.other W (Or.inr (slot_ne (Or.inl (hw _ (List.mem_of_getElem? (i := 28) rfl))) (Or.inl (hw _ (List.mem_of_getElem? (i := 26) rfl))) (by decide) (t := .boolean) (t' := .boolean) (by decide) (by decide)))⟩
theorem own_ri_finer {Z : State} {a0 : Array Value} (hw : ∀ d ∈ tables_1, d.before a0 Z = true) {h0 h h' : Heap} {a tx pw : Addr} {kt kp : ClassId} {tz : Int32} {bs : List Int32} {ng : Int32} {wh na : Int64} {fi be : Int32} {v' : Int32} (n1 : tx ≠ a) (n2 : pw ≠ a) (R : own_RI Z h0 a tx pw kt kp tz bs h ng wh na fi be) (W : Wr h h' a (Jvm.RoadKit.slotOf Z "com/example/portion/portion/quota/BoundedNumber" "finer" "Z") (.int v')) : own_RI Z h0 a tx pw kt kp tz bs h' ng wh na v' be :=
  ⟨R.1.wr W (Or.inl (List.mem_singleton.mpr rfl)), R.2.1.other W n1, R.2.2.1.wr W, R.2.2.2.1.other W n2, own_num_finer hw R.2.2.2.2 W⟩
theorem own_num_beyond {Z : State} {a0 : Array Value} (hw : ∀ d ∈ tables_1, d.before a0 Z = true) {h h' : Heap} {a : Addr} {ng : Int32} {wh na : Int64} {fi be : Int32} {v' : Int32} (N : own_Num Z h a ng wh na fi be) (W : Wr h h' a (Jvm.RoadKit.slotOf Z "com/example/portion/portion/quota/BoundedNumber" "beyond" "Z") (.int v')) : own_Num Z h' a ng wh na fi v' :=
  ⟨N.1.wr W, N.2.1.other W (Or.inr (slot_ne (Or.inl (hw _ (List.mem_of_getElem? (i := 20) rfl))) (Or.inl (hw _ (List.mem_of_getElem? (i := 28) rfl))) (by decide) (t := .boolean) (t' := .boolean) (by decide) (by decide))), N.2.2.1.other W (Or.inr (slot_ne (Or.inl (hw _ (List.mem_of_getElem? (i := 22) rfl))) (Or.inl (hw _ (List.mem_of_getElem? (i := 28) rfl))) (by decide) (t := .long) (t' := .boolean) (by decide) (by decide))), N.2.2.2.1.other W (Or.inr (slot_ne (Or.inl (hw _ (List.mem_of_getElem? (i := 24) rfl))) (Or.inl (hw _ (List.mem_of_getElem? (i := 28) rfl))) (by decide) (t := .long) (t' := .boolean) (by decide) (by decide))), N.2.2.2.2.1.other W (Or.inr (slot_ne (Or.inl (hw _ (List.mem_of_getElem? (i := 26) rfl))) (Or.inl (hw _ (List.mem_of_getElem? (i := 28) rfl))) (by decide) (t := .boolean) (t' := .boolean) (by decide) (by decide))), N.2.2.2.2.2.same W⟩
theorem own_ri_beyond {Z : State} {a0 : Array Value} (hw : ∀ d ∈ tables_1, d.before a0 Z = true) {h0 h h' : Heap} {a tx pw : Addr} {kt kp : ClassId} {tz : Int32} {bs : List Int32} {ng : Int32} {wh na : Int64} {fi be : Int32} {v' : Int32} (n1 : tx ≠ a) (n2 : pw ≠ a) (R : own_RI Z h0 a tx pw kt kp tz bs h ng wh na fi be) (W : Wr h h' a (Jvm.RoadKit.slotOf Z "com/example/portion/portion/quota/BoundedNumber" "beyond" "Z") (.int v')) : own_RI Z h0 a tx pw kt kp tz bs h' ng wh na fi v' :=
  ⟨R.1.wr W (Or.inl (List.mem_singleton.mpr rfl)), R.2.1.other W n1, R.2.2.1.wr W, R.2.2.2.1.other W n2, own_num_beyond hw R.2.2.2.2 W⟩
/-- the place of the last point among the first c of them from s on -/
def own_ptc (bs : List Int32) (s : Nat) : Nat → Int32
  | 0 => -1
  | c + 1 => if bs.getD (s + c) 0 = 46 then Int32.ofNat (s + c) else own_ptc bs s c
/-- a power of ten -/
def own_pw (j : Int32) : Int64 := own_pows.getD j.toNatClampNeg 0
/-- the place of the digit at i -/
def own_pl (poe : Int32) (ex : Int64) (i : Nat) : Int64 := ex + (if ¬ Int32.ofNat i < poe then poe - Int32.ofNat i else poe - 1 - Int32.ofNat i).toInt64
/-- one turn of the second loop: (whole, nanos, finer, beyond) -/
def own_stp (bs : List Int32) (pt poe : Int32) (ex : Int64) (i : Nat) (σ : Int64 × Int64 × Int32 × Int32) : Int64 × Int64 × Int32 × Int32 :=
  if Int32.ofNat i = pt then σ
  else if bs.getD i 0 - 48 = 0 then σ
  else if ¬ own_pl poe ex i < 18 then (σ.1, σ.2.1, σ.2.2.1, 1)
  else if ¬ own_pl poe ex i < 0 then (σ.1 + (bs.getD i 0 - 48).toInt64 * own_pw (own_pl poe ex i).toInt32, σ.2.1, σ.2.2.1, σ.2.2.2)
  else if ¬ own_pl poe ex i < -9 then (σ.1, σ.2.1 + (bs.getD i 0 - 48).toInt64 * own_pw (9 + own_pl poe ex i).toInt32, σ.2.2.1, σ.2.2.2)
  else (σ.1, σ.2.1, 1, σ.2.2.2)
/-- the second loop -/
def own_rd (bs : List Int32) (pt poe : Int32) (ex : Int64) : Nat → Nat → Int64 × Int64 × Int32 × Int32 → Int64 × Int64 × Int32 × Int32
  | 0, _, σ => σ
  | k + 1, i, σ => if ¬ σ.2.2.2 = 0 then σ else own_rd bs pt poe ex k (i + 1) (own_stp bs pt poe ex i σ)
/-- a slot for an int, a pair of slots for a long: unset or set -/
def own_S1 (o : Slot) : Prop := o = .unset ∨ ∃ q, o = .val (.int q)
def own_S2 (o o' : Slot) : Prop := (o = .unset ∧ o' = .unset) ∨ ∃ q, o = .val (.long q) ∧ o' = .second
theorem own_pl_idx {q : Int64} (h1 : q < 18) (h2 : ¬ q < 0) : ¬ q.toInt32 < 0 ∧ q.toInt32 < 18 := by
  have t1 : (18 : Int64).toInt = 18 := by decide
  have t2 : (0 : Int64).toInt = 0 := by decide
  have t3 : (18 : Int32).toInt = 18 := by decide
  rw [Int64.lt_iff_toInt_lt, t1] at h1; rw [Int64.lt_iff_toInt_lt, t2] at h2
  rw [Int32.lt_iff_toInt_lt, Int32.lt_iff_toInt_lt, i0_toInt, t3]
  have a1 := c_l2i q; have a2 := rng32 q.toInt32
  omega
theorem own_pl_idx9 {q : Int64} (h1 : q < 0) (h2 : ¬ q < -9) : ¬ (9 + q).toInt32 < 0 ∧ (9 + q).toInt32 < 18 := by
  have t1 : (0 : Int64).toInt = 0 := by decide
  have t2 : (-9 : Int64).toInt = -9 := by decide
  have t3 : (9 : Int64).toInt = 9 := by decide
  rw [Int64.lt_iff_toInt_lt, t1] at h1; rw [Int64.lt_iff_toInt_lt, t2] at h2
  have a3 := c_ladd 9 q; have a4 := rng64 (9 + q); rw [t3] at a3
  refine own_pl_idx ?_ ?_
  · have t4 : (18 : Int64).toInt = 18 := by decide
    rw [Int64.lt_iff_toInt_lt, t4]; omega
  · rw [Int64.lt_iff_toInt_lt, t1]; omega
abbrev own_r0 : Room := { frames := 0, cells := 0, slots := 0, locals := 0 }
theorem ef_x (m : MethodId) (tx : Addr) (F : Int32) (E : Int32) : entryFrame m #[(.ref tx), (.int F), (.int E)] 7 = mkF m 0 #[.val (.ref tx), .val (.int F), .val (.int E), .unset, .unset, .unset, .unset] [] := by first | (simp [entryFrame, mkF, argsToLocals, Value.category]; done) | rfl
set_option maxRecDepth 65536 in
set_option maxHeartbeats 40000000 in
theorem rmx (l : Launch) (Z : State) (a0 : Array Value) (hw : ∀ d ∈ tables_1, d.before a0 Z = true) (ws : List Jvm.Cond) (tx : Addr) (kt : ClassId) (tz : Int32) (bs : List Int32) (F E TZ : Nat) (h0 : Heap) (VT : Arv Z h0 tx kt .byte tz (bs.map Value.int) (.int 0)) (hTZ : tz = Int32.ofNat TZ) (hTZ' : TZ < 2147483648) (hFE : F < E) (hET : E ≤ TZ) :
    Con l Z (⟨"com/example/portion/portion/quota/BoundedNumber", "exponent", "([BII)J"⟩ : MethodName) prog_59_method_6_code 7 (some .long) ws own_r0 #[.ref tx, .int (Int32.ofNat F), .int (Int32.ofNat E)] h0 (fun v h L => (∃ q, v = some (.long q)) ∧ h = h0 ∧ L = []) := by
  refine con_of (plainFor_of_name pn_1) ?_
  intro p e s m below meth c T0 X0 hx hZ hby hml hown hret hnm hlk e0
  refine Endz.eq (ef_x m tx (Int32.ofNat F) (Int32.ofNat E)) ?_
  have htz : ∀ {i : Nat}, i < E → Int32.ofNat i < tz := fun {i} hi => by rw [hTZ, nat_lt (by omega) hTZ']; omega
  have fin : ∀ (g iv : Int32) (mag : Int64), Endz p.tables e below (Finz s own_r0 (fun v h L => (∃ q, v = some (.long q)) ∧ h = h0 ∧ L = [])) T0 (mkF m 77 #[.val (.ref tx), .val (.int (Int32.ofNat F)), .val (.int (Int32.ofNat E)), .val (.int g), .val (.int iv), .val (.long mag), .second] []) := by
    intro g iv mag
    refine w_iloadN (n := 78) X0.here hx (hb hby d6_77) rfl rfl ?_
    refine w_ifeq (n1 := 87) (n2 := 81) X0.here hx (hb hby d6_78) (by decide) (by decide) rfl (fun hc78 => ?_) (fun hc78 => ?_)
    · refine w_lload (n := 89) X0.here hx (hb hby d6_87) rfl rfl ?_
      exact fin_J X0 hx hlk e0 hret (hb hby d6_89) (by decide) (by decide) ⟨⟨_, rfl⟩, rfl, rfl⟩
    · refine w_lload (n := 83) X0.here hx (hb hby d6_81) rfl rfl ?_
      refine w_lneg (n := 84) X0.here hx (hb hby d6_83) rfl ?_
      refine w_goto (n := 89) X0.here hx (hb hby d6_84) (by decide) (by decide) ?_
      exact fin_J X0 hx hlk e0 hret (hb hby d6_89) (by decide) (by decide) ⟨⟨_, rfl⟩, rfl, rfl⟩
  have loop : ∀ (g : Int32) (k i : Nat) (mag : Int64), i + k = E → Endz p.tables e below (Finz s own_r0 (fun v h L => (∃ q, v = some (.long q)) ∧ h = h0 ∧ L = [])) T0 (mkF m 38 #[.val (.ref tx), .val (.int (Int32.ofNat F)), .val (.int (Int32.ofNat E)), .val (.int g), .val (.int (Int32.ofNat i)), .val (.long mag), .second] []) := by
    intro g k
    induction k with
    | zero =>
      intro i mag hk
      have hie : i = E := by omega
      subst hie
      refine w_iload (n := 40) X0.here hx (hb hby d6_38) rfl rfl ?_
      refine w_iloadN (n := 41) X0.here hx (hb hby d6_40) rfl rfl ?_
      refine w_icmpge (n1 := 77) (n2 := 44) X0.here hx (hb hby d6_41) (by decide) (by decide) rfl (fun hc41 => ?_) (fun hc41 => absurd (fun q => Nat.lt_irrefl _ ((nat_lt (by omega) (by omega)).mp q)) hc41)
      exact fin _ _ _
    | succ k ih =>
      intro i mag hk
      have hiE : i < E := by omega
      refine w_iload (n := 40) X0.here hx (hb hby d6_38) rfl rfl ?_
      refine w_iloadN (n := 41) X0.here hx (hb hby d6_40) rfl rfl ?_
      refine w_icmpge (n1 := 77) (n2 := 44) X0.here hx (hb hby d6_41) (by decide) (by decide) rfl (fun hc41 => absurd ((nat_lt (by omega) (by omega)).mpr hiE) hc41) (fun hc41 => ?_)
      refine w_lload (n := 46) X0.here hx (hb hby d6_44) rfl rfl ?_
      refine k_J (n := 49) X0 hx hZ hown (hw _ (List.mem_of_getElem? (i := 42) rfl)) (hb hby d6_46) rfl ?_
      refine w_lcmp (n := 50) X0.here hx (hb hby d6_49) rfl ?_
      refine w_ifge (n1 := 77) (n2 := 53) X0.here hx (hb hby d6_50) (by decide) (by decide) rfl (fun hc50 => ?_) (fun hc50 => ?_)
      · exact fin _ _ _
      · refine k_J (n := 56) X0 hx hZ hown (hw _ (List.mem_of_getElem? (i := 43) rfl)) (hb hby d6_53) rfl ?_
        refine w_lload (n := 58) X0.here hx (hb hby d6_56) rfl rfl ?_
        refine w_lmul (n := 59) X0.here hx (hb hby d6_58) rfl ?_
        refine w_aloadN (n := 60) X0.here hx (hb hby d6_59) rfl rfl rfl ?_
        refine w_iload (n := 62) X0.here hx (hb hby d6_60) rfl rfl ?_
        refine l_B (n := 63) X0 hx hZ e0 VT (nat_nn (by omega)) (htz hiE) (getD_mapI bs _) (hb hby d6_62) rfl ?_
        rw [nat_clamp (show i < 2147483648 by omega)]
        refine w_i2l (n := 64) X0.here hx (hb hby d6_63) rfl ?_
        refine w_ladd (n := 65) X0.here hx (hb hby d6_64) rfl ?_
        refine k_J (n := 68) X0 hx hZ hown (hw _ (List.mem_of_getElem? (i := 44) rfl)) (hb hby d6_65) rfl ?_
        refine w_lsub (n := 69) X0.here hx (hb hby d6_68) rfl ?_
        refine w_lstore (Ls' := #[.val (.ref tx), .val (.int (Int32.ofNat F)), .val (.int (Int32.ofNat E)), .val (.int g), .val (.int (Int32.ofNat i)), .val (.long ((((10 : Int64) * mag) + (bs.getD (i) 0).toInt64) - (48 : Int64))), .second]) (n := 71) X0.here hx (hb hby d6_69) rfl rfl ?_
        refine w_iinc (Ls' := #[.val (.ref tx), .val (.int (Int32.ofNat F)), .val (.int (Int32.ofNat E)), .val (.int g), .val (.int ((Int32.ofNat i) + (1 : Int32))), .val (.long ((((10 : Int64) * mag) + (bs.getD (i) 0).toInt64) - (48 : Int64))), .second]) (n := 74) X0.here hx (hb hby d6_71) rfl rfl rfl ?_
        refine w_goto (n := 38) X0.here hx (hb hby d6_74) (by decide) (by decide) ?_
        rw [nat_up]
        exact ih (i + 1) _ (by omega)
  have t33 : ∀ (g : Int32) (i : Nat), i ≤ E → Endz p.tables e below (Finz s own_r0 (fun v h L => (∃ q, v = some (.long q)) ∧ h = h0 ∧ L = [])) T0 (mkF m 33 #[.val (.ref tx), .val (.int (Int32.ofNat F)), .val (.int (Int32.ofNat E)), .val (.int g), .unset, .unset, .unset] [.int (Int32.ofNat i)]) := by
    intro g i hi
    refine w_istore (Ls' := #[.val (.ref tx), .val (.int (Int32.ofNat F)), .val (.int (Int32.ofNat E)), .val (.int g), .val (.int (Int32.ofNat i)), .unset, .unset]) (n := 35) X0.here hx (hb hby d6_33) rfl rfl ?_
    refine w_lconst (z := (0 : Int64)) (n := 36) X0.here hx (hb hby d6_35) rfl rfl ?_
    refine w_lstore (Ls' := #[.val (.ref tx), .val (.int (Int32.ofNat F)), .val (.int (Int32.ofNat E)), .val (.int g), .val (.int (Int32.ofNat i)), .val (.long (0 : Int64)), .second]) (n := 38) X0.here hx (hb hby d6_36) rfl rfl ?_
    exact loop g (E - i) i _ (by omega)
  have t13 : ∀ g : Int32, Endz p.tables e below (Finz s own_r0 (fun v h L => (∃ q, v = some (.long q)) ∧ h = h0 ∧ L = [])) T0 (mkF m 13 #[.val (.ref tx), .val (.int (Int32.ofNat F)), .val (.int (Int32.ofNat E)), .unset, .unset, .unset, .unset] [.int g]) := by
    intro g
    refine w_istoreN (Ls' := #[.val (.ref tx), .val (.int (Int32.ofNat F)), .val (.int (Int32.ofNat E)), .val (.int g), .unset, .unset, .unset]) (n := 14) X0.here hx (hb hby d6_13) rfl rfl ?_
    refine w_iloadN (n := 15) X0.here hx (hb hby d6_14) rfl rfl ?_
    refine w_ifne (n1 := 26) (n2 := 18) X0.here hx (hb hby d6_15) (by decide) (by decide) rfl (fun hc15 => ?_) (fun hc15 => ?_)
    · refine w_iloadN (n := 27) X0.here hx (hb hby d6_26) rfl rfl ?_
      refine w_iconst (z := (1 : Int32)) (n := 28) X0.here hx (hb hby d6_27) rfl rfl ?_
      refine w_iadd (n := 29) X0.here hx (hb hby d6_28) rfl ?_
      refine w_goto (n := 33) X0.here hx (hb hby d6_29) (by decide) (by decide) ?_
      rw [nat_up]
      exact t33 g (F + 1) (by omega)
    · refine w_aloadN (n := 19) X0.here hx (hb hby d6_18) rfl rfl rfl ?_
      refine w_iloadN (n := 20) X0.here hx (hb hby d6_19) rfl rfl ?_
      refine l_B (n := 21) X0 hx hZ e0 VT (nat_nn (by omega)) (htz hFE) (getD_mapI bs _) (hb hby d6_20) rfl ?_
      rw [nat_clamp (show F < 2147483648 by omega)]
      refine w_bipush (z := (43 : Int32)) (n := 23) X0.here hx (hb hby d6_21) rfl rfl ?_
      refine w_icmpne (n1 := 32) (n2 := 26) X0.here hx (hb hby d6_23) (by decide) (by decide) rfl (fun hc23 => ?_) (fun hc23 => ?_)
      · refine w_iloadN (n := 33) X0.here hx (hb hby d6_32) rfl rfl ?_
        exact t33 g F (by omega)
      · refine w_iloadN (n := 27) X0.here hx (hb hby d6_26) rfl rfl ?_
        refine w_iconst (z := (1 : Int32)) (n := 28) X0.here hx (hb hby d6_27) rfl rfl ?_
        refine w_iadd (n := 29) X0.here hx (hb hby d6_28) rfl ?_
        refine w_goto (n := 33) X0.here hx (hb hby d6_29) (by decide) (by decide) ?_
        rw [nat_up]
        exact t33 g (F + 1) (by omega)
  refine w_aloadN (n := 1) X0.here hx (hb hby d6_0) rfl rfl rfl ?_
  refine w_iloadN (n := 2) X0.here hx (hb hby d6_1) rfl rfl ?_
  refine l_B (n := 3) X0 hx hZ e0 VT (nat_nn (by omega)) (htz hFE) (getD_mapI bs _) (hb hby d6_2) rfl ?_
  rw [nat_clamp (show F < 2147483648 by omega)]
  refine w_bipush (z := (45 : Int32)) (n := 5) X0.here hx (hb hby d6_3) rfl rfl ?_
  refine w_icmpne (n1 := 12) (n2 := 8) X0.here hx (hb hby d6_5) (by decide) (by decide) rfl (fun hc5 => ?_) (fun hc5 => ?_)
  · refine w_iconst (z := (0 : Int32)) (n := 13) X0.here hx (hb hby d6_12) rfl rfl ?_
    exact t13 _
  · refine w_iconst (z := (1 : Int32)) (n := 9) X0.here hx (hb hby d6_8) rfl rfl ?_
    refine w_goto (n := 13) X0.here hx (hb hby d6_9) (by decide) (by decide) ?_
    exact t13 _
abbrev own_rr : Room := { frames := 1, cells := 0, slots := 0, locals := 18 }
theorem ef_r (m : MethodId) (a : Addr) (tx : Addr) (S : Int32) (E : Int32) : entryFrame m #[(.ref a), (.ref tx), (.int S), (.int E)] 13 = mkF m 0 #[.val (.ref a), .val (.ref tx), .val (.int S), .val (.int E), .unset, .unset, .unset, .unset, .unset, .unset, .unset, .unset, .unset] [] := by first | (simp [entryFrame, mkF, argsToLocals, Value.category]; done) | rfl
set_option maxRecDepth 65536 in
set_option maxHeartbeats 40000000 in
theorem rmr (l : Launch) (Z : State) (a0 : Array Value) (hw : ∀ d ∈ tables_1, d.before a0 Z = true) (ws : List Jvm.Cond) (a tx pw : Addr) (kt kp : ClassId) (tz : Int32) (bs : List Int32) (S E TZ n0 de is : Nat) (ng0 ng : Int32) (wh0 na0 : Int64) (fi0 be0 : Int32) (pt poe : Int32) (h0 : Heap) (R0 : own_RI Z h0 a tx pw kt kp tz bs h0 ng0 wh0 na0 fi0 be0) (n1 : tx ≠ a) (n2 : pw ≠ a) (g : n0 ≤ a)
    (hTZ : tz = Int32.ofNat TZ) (hTZ' : TZ < 2147483648) (hSd : S < de) (hdE : de ≤ E) (hET : E ≤ TZ) (hng : (if bs.getD S 0 = 45 then (1 : Int32) else 0) = ng) (hnoe : ∀ i, S ≤ i → i < de → ¬ bs.getD i 0 = 101 ∧ ¬ bs.getD i 0 = 69) (hde : de = E ∨ (de + 1 < E ∧ (bs.getD de 0 = 101 ∨ bs.getD de 0 = 69))) (hpt : own_ptc bs S (de - S) = pt) (hpoe : (if ¬ pt < 0 then pt else Int32.ofNat de) = poe) (his : (if ng = 0 then S else S + 1) = is) :
    Con l Z (⟨"com/example/portion/portion/quota/BoundedNumber", "read", "([BII)V"⟩ : MethodName) prog_59_method_2_code 13 none ws own_rr #[.ref a, .ref tx, .int (Int32.ofNat S), .int (Int32.ofNat E)] h0 (fun v h L => v = none ∧ Fr n0 L ∧ ∃ ex σ, own_rd bs pt poe ex (de - is) is (0, 0, 0, 0) = σ ∧ own_RI Z h0 a tx pw kt kp tz bs h ng σ.1 σ.2.1 σ.2.2.1 σ.2.2.2) := by
  refine con_of (plainFor_of_name pn_1) ?_
  intro p e s m below meth c T0 X0 hx hZ hby hml hown hret hnm hlk e0
  refine Endz.eq (ef_r m a tx (Int32.ofNat S) (Int32.ofNat E)) ?_
  have hSE : S < E := by omega
  have htz : ∀ {i : Nat}, i < E → Int32.ofNat i < tz := fun {i} hi => by rw [hTZ, nat_lt (by omega) hTZ']; omega
  have htz' : ∀ {i : Nat}, i < de → Int32.ofNat i < tz := fun {i} hi => htz (by omega)
  have hng01 : ng = 0 ∨ ng = 1 := by rw [← hng]; split; exact Or.inr rfl; exact Or.inl rfl
  have rest : ∀ (T : State) (h : Heap) (locs : List Loc) (X : Stand p l e own_rr s m #[.ref a, .ref tx, .int (Int32.ofNat S), .int (Int32.ofNat E)] below meth c T locs 0 0) (eT : T.heap = h) (R : own_RI Z h0 a tx pw kt kp tz bs h ng wh0 na0 fi0 be0) (N : Fr n0 locs) (ex : Int64) (iv : Int32), Endz p.tables e below (Finz s own_rr (fun v h L => v = none ∧ Fr n0 L ∧ ∃ ex σ, own_rd bs pt poe ex (de - is) is (0, 0, 0, 0) = σ ∧ own_RI Z h0 a tx pw kt kp tz bs h ng σ.1 σ.2.1 σ.2.2.1 σ.2.2.2)) T (mkF m 96 #[.val (.ref a), .val (.ref tx), .val (.int (Int32.ofNat S)), .val (.int (Int32.ofNat E)), .val (.int pt), .val (.int (Int32.ofNat de)), .val (.long ex), .second, .val (.int iv), .unset, .unset, .unset, .unset] []) := by
    intro T h locs X eT R N ex iv
    obtain ⟨σF, hσF⟩ : ∃ q, own_rd bs pt poe ex (de - is) is (0, 0, 0, 0) = q := ⟨_, rfl⟩
    have loop2 : ∀ (k i : Nat) (wh na : Int64) (fi be : Int32) (T : State) (h : Heap) (locs : List Loc) (s10 s11 s12 : Slot), i + k = de → own_rd bs pt poe ex k i (wh, na, fi, be) = σF → Stand p l e own_rr s m #[.ref a, .ref tx, .int (Int32.ofNat S), .int (Int32.ofNat E)] below meth c T locs 0 0 → T.heap = h → own_RI Z h0 a tx pw kt kp tz bs h ng wh na fi be → Fr n0 locs → own_S1 s10 → own_S2 s11 s12 → Endz p.tables e below (Finz s own_rr (fun v h L => v = none ∧ Fr n0 L ∧ ∃ ex σ, own_rd bs pt poe ex (de - is) is (0, 0, 0, 0) = σ ∧ own_RI Z h0 a tx pw kt kp tz bs h ng σ.1 σ.2.1 σ.2.2.1 σ.2.2.2)) T (mkF m 146 #[.val (.ref a), .val (.ref tx), .val (.int (Int32.ofNat S)), .val (.int (Int32.ofNat E)), .val (.int pt), .val (.int (Int32.ofNat de)), .val (.long ex), .second, .val (.int poe), .val (.int (Int32.ofNat i)), s10, s11, s12] []) := by
      intro k
      induction k with
      | zero =>
        intro i wh na fi be T h locs s10 s11 s12 hik hrd X eT R N h10 h11
        obtain rfl : i = de := by omega
        subst hrd
        refine w_iload (n := 148) X.here hx (hb hby d4_146) rfl rfl ?_
        refine w_iload (n := 150) X.here hx (hb hby d4_148) rfl rfl ?_
        refine w_icmpge (n1 := 303) (n2 := 153) X.here hx (hb hby d4_150) (by decide) (by decide) rfl (fun hc150 => ?_) (fun hc150 => absurd (fun q => Nat.lt_irrefl _ ((nat_lt (by omega) (by omega)).mp q)) hc150)
        exact fin_V X hx hlk eT hret (hb hby d4_303) (by decide) (by decide) ⟨rfl, N, ex, _, hσF, R⟩
      | succ k ih =>
        intro i wh na fi be T h locs s10 s11 s12 hik hrd X eT R N h10 h11
        have hiE : i < de := by omega
        have tail : ∀ (wh' na' : Int64) (fi' be' : Int32) (T : State) (h : Heap) (locs : List Loc) (s10 s11 s12 : Slot), be = 0 → own_stp bs pt poe ex i (wh, na, fi, be) = (wh', na', fi', be') → Stand p l e own_rr s m #[.ref a, .ref tx, .int (Int32.ofNat S), .int (Int32.ofNat E)] below meth c T locs 0 0 → T.heap = h → own_RI Z h0 a tx pw kt kp tz bs h ng wh' na' fi' be' → Fr n0 locs → own_S1 s10 → own_S2 s11 s12 → Endz p.tables e below (Finz s own_rr (fun v h L => v = none ∧ Fr n0 L ∧ ∃ ex σ, own_rd bs pt poe ex (de - is) is (0, 0, 0, 0) = σ ∧ own_RI Z h0 a tx pw kt kp tz bs h ng σ.1 σ.2.1 σ.2.2.1 σ.2.2.2)) T (mkF m 297 #[.val (.ref a), .val (.ref tx), .val (.int (Int32.ofNat S)), .val (.int (Int32.ofNat E)), .val (.int pt), .val (.int (Int32.ofNat de)), .val (.long ex), .second, .val (.int poe), .val (.int (Int32.ofNat i)), s10, s11, s12] []) := by
          intro wh' na' fi' be' T h locs s10 s11 s12 hbe hstp X eT R N h10 h11
          refine w_iinc (Ls' := #[.val (.ref a), .val (.ref tx), .val (.int (Int32.ofNat S)), .val (.int (Int32.ofNat E)), .val (.int pt), .val (.int (Int32.ofNat de)), .val (.long ex), .second, .val (.int poe), .val (.int ((Int32.ofNat i) + (1 : Int32))), s10, s11, s12]) (n := 300) X.here hx (hb hby d4_297) rfl rfl (by rcases h10 with rfl | ⟨_, rfl⟩ <;> rcases h11 with ⟨rfl, rfl⟩ | ⟨_, rfl, rfl⟩ <;> rfl) ?_
          refine w_goto (n := 146) X.here hx (hb hby d4_300) (by decide) (by decide) ?_
          rw [nat_up]
          refine ih (i + 1) wh' na' fi' be' T h locs s10 s11 s12 (by omega) ?_ X eT R N h10 h11
          rw [own_rd, if_neg (fun q => q hbe), hstp] at hrd
          exact hrd
        refine w_iload (n := 148) X.here hx (hb hby d4_146) rfl rfl ?_
        refine w_iload (n := 150) X.here hx (hb hby d4_148) rfl rfl ?_
        refine w_icmpge (n1 := 303) (n2 := 153) X.here hx (hb hby d4_150) (by decide) (by decide) rfl (fun hc150 => absurd ((nat_lt (by omega) (by omega)).mpr hiE) hc150) (fun hc150 => ?_)
        refine w_aloadN (n := 154) X.here hx (hb hby d4_153) rfl rfl rfl ?_
        refine g_F (n := 157) X hx hZ hown (hw _ (List.mem_of_getElem? (i := 27) rfl)) eT R.2.2.2.2.2.2.2.2.2 (hb hby d4_154) rfl (fun T101 X101 e101 => ?_)
        refine w_ifne (n1 := 303) (n2 := 160) X101.here hx (hb hby d4_157) (by decide) (by decide) rfl (fun hc157 => ?_) (fun hc157 => ?_)
        · rw [own_rd, if_pos hc157] at hrd
          subst hrd
          exact fin_V X101 hx hlk e101 hret (hb hby d4_303) (by decide) (by decide) ⟨rfl, N, ex, _, hσF, R⟩
        · have hbe : be = 0 := Classical.not_not.mp hc157
          refine w_aloadN (n := 161) X101.here hx (hb hby d4_160) rfl rfl rfl ?_
          refine w_iload (n := 163) X101.here hx (hb hby d4_161) rfl rfl ?_
          refine l_B (n := 164) X101 hx hZ e101 R.2.1 (nat_nn (by omega)) (htz' hiE) (getD_mapI bs _) (hb hby d4_163) rfl ?_
          rw [nat_clamp (show i < 2147483648 by omega)]
          refine w_bipush (z := (48 : Int32)) (n := 166) X101.here hx (hb hby d4_164) rfl rfl ?_
          refine w_isub (n := 167) X101.here hx (hb hby d4_166) rfl ?_
          refine w_istore (Ls' := #[.val (.ref a), .val (.ref tx), .val (.int (Int32.ofNat S)), .val (.int (Int32.ofNat E)), .val (.int pt), .val (.int (Int32.ofNat de)), .val (.long ex), .second, .val (.int poe), .val (.int (Int32.ofNat i)), .val (.int ((bs.getD (i) 0) - (48 : Int32))), s11, s12]) (n := 169) X101.here hx (hb hby d4_167) rfl (by rcases h10 with rfl | ⟨_, rfl⟩ <;> rcases h11 with ⟨rfl, rfl⟩ | ⟨_, rfl, rfl⟩ <;> rfl) ?_
          refine w_iload (n := 171) X101.here hx (hb hby d4_169) rfl rfl ?_
          refine w_iload (n := 173) X101.here hx (hb hby d4_171) rfl rfl ?_
          refine w_icmpeq (n1 := 297) (n2 := 176) X101.here hx (hb hby d4_173) (by decide) (by decide) rfl (fun hc173 => ?_) (fun hc173 => ?_)
          · exact tail _ _ _ _ _ _ _ _ _ _ hbe (by rw [own_stp, if_pos hc173]) X101 e101 R N (Or.inr ⟨_, rfl⟩) (h11)
          · refine w_iload (n := 178) X101.here hx (hb hby d4_176) rfl rfl ?_
            refine w_ifeq (n1 := 297) (n2 := 181) X101.here hx (hb hby d4_178) (by decide) (by decide) rfl (fun hc178 => ?_) (fun hc178 => ?_)
            · exact tail _ _ _ _ _ _ _ _ _ _ hbe (by rw [own_stp, if_neg hc173, if_pos hc178]) X101 e101 R N (Or.inr ⟨_, rfl⟩) (h11)
            · have hs0 : own_stp bs pt poe ex i (wh, na, fi, be) = (if ¬ own_pl poe ex i < 18 then (wh, na, fi, 1) else if ¬ own_pl poe ex i < 0 then (wh + (bs.getD i 0 - 48).toInt64 * own_pw (own_pl poe ex i).toInt32, na, fi, be) else if ¬ own_pl poe ex i < -9 then (wh, na + (bs.getD i 0 - 48).toInt64 * own_pw (9 + own_pl poe ex i).toInt32, fi, be) else (wh, na, 1, be)) := by rw [own_stp, if_neg hc173, if_neg hc178]
              refine w_lload (n := 183) X101.here hx (hb hby d4_181) rfl rfl ?_
              refine w_iload (n := 185) X101.here hx (hb hby d4_183) rfl rfl ?_
              refine w_iload (n := 187) X101.here hx (hb hby d4_185) rfl rfl ?_
              have tail2 : ∀ pi : Int32, (if ¬ Int32.ofNat i < poe then poe - Int32.ofNat i else poe - 1 - Int32.ofNat i) = pi → Endz p.tables e below (Finz s own_rr (fun v h L => v = none ∧ Fr n0 L ∧ ∃ ex σ, own_rd bs pt poe ex (de - is) is (0, 0, 0, 0) = σ ∧ own_RI Z h0 a tx pw kt kp tz bs h ng σ.1 σ.2.1 σ.2.2.1 σ.2.2.2)) T101 (mkF m 205 #[.val (.ref a), .val (.ref tx), .val (.int (Int32.ofNat S)), .val (.int (Int32.ofNat E)), .val (.int pt), .val (.int (Int32.ofNat de)), .val (.long ex), .second, .val (.int poe), .val (.int (Int32.ofNat i)), .val (.int ((bs.getD (i) 0) - (48 : Int32))), s11, s12] [(.int pi), (.long ex)]) := by
                intro pi hpi
                have hpl : own_pl poe ex i = ex + pi.toInt64 := by rw [own_pl, hpi]
                refine w_i2l (n := 206) X101.here hx (hb hby d4_205) rfl ?_
                refine w_ladd (n := 207) X101.here hx (hb hby d4_206) rfl ?_
                rw [← hpl]
                refine w_lstore (Ls' := #[.val (.ref a), .val (.ref tx), .val (.int (Int32.ofNat S)), .val (.int (Int32.ofNat E)), .val (.int pt), .val (.int (Int32.ofNat de)), .val (.long ex), .second, .val (.int poe), .val (.int (Int32.ofNat i)), .val (.int ((bs.getD (i) 0) - (48 : Int32))), .val (.long (own_pl poe ex i)), .second]) (n := 209) X101.here hx (hb hby d4_207) rfl (by rcases h11 with ⟨rfl, rfl⟩ | ⟨_, rfl, rfl⟩ <;> rfl) ?_
                refine w_lload (n := 211) X101.here hx (hb hby d4_209) rfl rfl ?_
                refine k_J (n := 214) X101 hx hZ hown (hw _ (List.mem_of_getElem? (i := 29) rfl)) (hb hby d4_211) rfl ?_
                refine w_lcmp (n := 215) X101.here hx (hb hby d4_214) rfl ?_
                refine w_iflt (n1 := 226) (n2 := 218) X101.here hx (hb hby d4_215) (by decide) (by decide) rfl (fun hc215 => ?_) (fun hc215 => ?_)
                · have q1 : (own_pl poe ex i) < 18 := (lw_lt _ _).mp hc215
                  refine w_lload (n := 228) X101.here hx (hb hby d4_226) rfl rfl ?_
                  refine w_lconst (z := (0 : Int64)) (n := 229) X101.here hx (hb hby d4_228) rfl rfl ?_
                  refine w_lcmp (n := 230) X101.here hx (hb hby d4_229) rfl ?_
                  refine w_iflt (n1 := 256) (n2 := 233) X101.here hx (hb hby d4_230) (by decide) (by decide) rfl (fun hc230 => ?_) (fun hc230 => ?_)
                  · have q2 : (own_pl poe ex i) < 0 := (lw_lt _ _).mp hc230
                    refine w_lload (n := 258) X101.here hx (hb hby d4_256) rfl rfl ?_
                    refine k_J (n := 261) X101 hx hZ hown (hw _ (List.mem_of_getElem? (i := 37) rfl)) (hb hby d4_258) rfl ?_
                    refine w_lcmp (n := 262) X101.here hx (hb hby d4_261) rfl ?_
                    refine w_iflt (n1 := 292) (n2 := 265) X101.here hx (hb hby d4_262) (by decide) (by decide) rfl (fun hc262 => ?_) (fun hc262 => ?_)
                    · have q3 : (own_pl poe ex i) < -9 := (lw_lt _ _).mp hc262
                      refine w_aloadN (n := 293) X101.here hx (hb hby d4_292) rfl rfl rfl ?_
                      refine w_iconst (z := (1 : Int32)) (n := 294) X101.here hx (hb hby d4_293) rfl rfl ?_
                      refine p_FN (ty := .boolean) (v' := (.int (1 : Int32))) (n := 297) X101 hx hZ hown (hw _ (List.mem_of_getElem? (i := 25) rfl)) e101 R.2.2.2.2.2.2.2.2.1 R.2.2.2.2.1 (Or.inl (hw _ (List.mem_of_getElem? (i := 26) rfl))) (hw _ (List.mem_of_getElem? (i := 6) rfl)) (by decide) rfl rfl (hb hby d4_294) rfl (fun T102 h102 X102 e102 W102 => ?_)
                      have R102 := own_ri_finer hw n1 n2 R W102
                      have N102 := Fr.snoc X102 N g
                      exact tail _ _ _ _ _ _ _ _ _ _ hbe (hs0.trans ((if_neg (fun q => q q1)).trans ((if_neg (fun q => q q2)).trans (if_neg (fun q => q q3))))) X102 e102 R102 N102 (Or.inr ⟨_, rfl⟩) (Or.inr ⟨_, rfl, rfl⟩)
                    · have q3 : ¬ (own_pl poe ex i) < -9 := fun q => hc262 ((lw_lt _ _).mpr q)
                      refine w_aloadN (n := 266) X101.here hx (hb hby d4_265) rfl rfl rfl ?_
                      refine w_dup (n := 267) X101.here hx (hb hby d4_266) rfl rfl ?_
                      refine g_F (n := 270) X101 hx hZ hown (hw _ (List.mem_of_getElem? (i := 23) rfl)) e101 R.2.2.2.2.2.2.2.1 (hb hby d4_267) rfl (fun T103 X103 e103 => ?_)
                      refine w_iload (n := 272) X103.here hx (hb hby d4_270) rfl rfl ?_
                      refine w_i2l (n := 273) X103.here hx (hb hby d4_272) rfl ?_
                      refine g_S (n := 276) X103 hx hZ hown (hw _ (List.mem_of_getElem? (i := 30) rfl)) e103 R.2.2.1 (hb hby d4_273) rfl (fun T104 X104 e104 => ?_)
                      refine k_J (n := 279) X104 hx hZ hown (hw _ (List.mem_of_getElem? (i := 38) rfl)) (hb hby d4_276) rfl ?_
                      refine w_lload (n := 281) X104.here hx (hb hby d4_279) rfl rfl ?_
                      refine w_ladd (n := 282) X104.here hx (hb hby d4_281) rfl ?_
                      refine w_l2i (n := 283) X104.here hx (hb hby d4_282) rfl ?_
                      obtain ⟨j1, j2⟩ := own_pl_idx9 q2 q3
                      refine l_J (n := 284) X104 hx hZ e104 R.2.2.2.1 j1 j2 (getD_mapJ own_pows _) (hb hby d4_283) rfl ?_
                      show Endz _ _ _ _ T104 (mkF m 284 #[.val (.ref a), .val (.ref tx), .val (.int (Int32.ofNat S)), .val (.int (Int32.ofNat E)), .val (.int pt), .val (.int (Int32.ofNat de)), .val (.long ex), .second, .val (.int poe), .val (.int (Int32.ofNat i)), .val (.int ((bs.getD (i) 0) - (48 : Int32))), .val (.long (own_pl poe ex i)), .second] [(.long (own_pw (9 + (own_pl poe ex i)).toInt32)), (.long ((bs.getD (i) 0) - (48 : Int32)).toInt64), (.long na), (.ref a)])
                      refine w_lmul (n := 285) X104.here hx (hb hby d4_284) rfl ?_
                      refine w_ladd (n := 286) X104.here hx (hb hby d4_285) rfl ?_
                      refine p_F (ty := .long) (n := 289) X104 hx hZ hown (hw _ (List.mem_of_getElem? (i := 23) rfl)) e104 R.2.2.2.2.2.2.2.1 R.2.2.2.2.1 (Or.inl (hw _ (List.mem_of_getElem? (i := 24) rfl))) (hw _ (List.mem_of_getElem? (i := 6) rfl)) (by decide) rfl rfl (hb hby d4_286) rfl (fun T105 h105 X105 e105 W105 => ?_)
                      have R105 := own_ri_nanos hw n1 n2 R W105
                      have N105 := Fr.snoc X105 N g
                      refine w_goto (n := 297) X105.here hx (hb hby d4_289) (by decide) (by decide) ?_
                      exact tail _ _ _ _ _ _ _ _ _ _ hbe (hs0.trans ((if_neg (fun q => q q1)).trans ((if_neg (fun q => q q2)).trans (if_pos q3)))) X105 e105 R105 N105 (Or.inr ⟨_, rfl⟩) (Or.inr ⟨_, rfl, rfl⟩)
                  · have q2 : ¬ (own_pl poe ex i) < 0 := fun q => hc230 ((lw_lt _ _).mpr q)
                    refine w_aloadN (n := 234) X101.here hx (hb hby d4_233) rfl rfl rfl ?_
                    refine w_dup (n := 235) X101.here hx (hb hby d4_234) rfl rfl ?_
                    refine g_F (n := 238) X101 hx hZ hown (hw _ (List.mem_of_getElem? (i := 21) rfl)) e101 R.2.2.2.2.2.2.1 (hb hby d4_235) rfl (fun T106 X106 e106 => ?_)
                    refine w_iload (n := 240) X106.here hx (hb hby d4_238) rfl rfl ?_
                    refine w_i2l (n := 241) X106.here hx (hb hby d4_240) rfl ?_
                    refine g_S (n := 244) X106 hx hZ hown (hw _ (List.mem_of_getElem? (i := 30) rfl)) e106 R.2.2.1 (hb hby d4_241) rfl (fun T107 X107 e107 => ?_)
                    refine w_lload (n := 246) X107.here hx (hb hby d4_244) rfl rfl ?_
                    refine w_l2i (n := 247) X107.here hx (hb hby d4_246) rfl ?_
                    obtain ⟨j1, j2⟩ := own_pl_idx q1 q2
                    refine l_J (n := 248) X107 hx hZ e107 R.2.2.2.1 j1 j2 (getD_mapJ own_pows _) (hb hby d4_247) rfl ?_
                    show Endz _ _ _ _ T107 (mkF m 248 #[.val (.ref a), .val (.ref tx), .val (.int (Int32.ofNat S)), .val (.int (Int32.ofNat E)), .val (.int pt), .val (.int (Int32.ofNat de)), .val (.long ex), .second, .val (.int poe), .val (.int (Int32.ofNat i)), .val (.int ((bs.getD (i) 0) - (48 : Int32))), .val (.long (own_pl poe ex i)), .second] [(.long (own_pw (own_pl poe ex i).toInt32)), (.long ((bs.getD (i) 0) - (48 : Int32)).toInt64), (.long wh), (.ref a)])
                    refine w_lmul (n := 249) X107.here hx (hb hby d4_248) rfl ?_
                    refine w_ladd (n := 250) X107.here hx (hb hby d4_249) rfl ?_
                    refine p_F (ty := .long) (n := 253) X107 hx hZ hown (hw _ (List.mem_of_getElem? (i := 21) rfl)) e107 R.2.2.2.2.2.2.1 R.2.2.2.2.1 (Or.inl (hw _ (List.mem_of_getElem? (i := 22) rfl))) (hw _ (List.mem_of_getElem? (i := 6) rfl)) (by decide) rfl rfl (hb hby d4_250) rfl (fun T108 h108 X108 e108 W108 => ?_)
                    have R108 := own_ri_whole hw n1 n2 R W108
                    have N108 := Fr.snoc X108 N g
                    refine w_goto (n := 297) X108.here hx (hb hby d4_253) (by decide) (by decide) ?_
                    exact tail _ _ _ _ _ _ _ _ _ _ hbe (hs0.trans ((if_neg (fun q => q q1)).trans (if_pos q2))) X108 e108 R108 N108 (Or.inr ⟨_, rfl⟩) (Or.inr ⟨_, rfl, rfl⟩)
                · refine w_aloadN (n := 219) X101.here hx (hb hby d4_218) rfl rfl rfl ?_
                  refine w_iconst (z := (1 : Int32)) (n := 220) X101.here hx (hb hby d4_219) rfl rfl ?_
                  refine p_FN (ty := .boolean) (v' := (.int (1 : Int32))) (n := 223) X101 hx hZ hown (hw _ (List.mem_of_getElem? (i := 27) rfl)) e101 R.2.2.2.2.2.2.2.2.2 R.2.2.2.2.1 (Or.inl (hw _ (List.mem_of_getElem? (i := 28) rfl))) (hw _ (List.mem_of_getElem? (i := 6) rfl)) (by decide) rfl rfl (hb hby d4_220) rfl (fun T109 h109 X109 e109 W109 => ?_)
                  have R109 := own_ri_beyond hw n1 n2 R W109
                  have N109 := Fr.snoc X109 N g
                  refine w_goto (n := 297) X109.here hx (hb hby d4_223) (by decide) (by decide) ?_
                  exact tail _ _ _ _ _ _ _ _ _ _ hbe (hs0.trans (if_pos (fun q => hc215 ((lw_lt _ _).mpr q)))) X109 e109 R109 N109 (Or.inr ⟨_, rfl⟩) (Or.inr ⟨_, rfl, rfl⟩)
              refine w_icmpge (n1 := 200) (n2 := 190) X101.here hx (hb hby d4_187) (by decide) (by decide) rfl (fun hc187 => ?_) (fun hc187 => ?_)
              · refine w_iload (n := 202) X101.here hx (hb hby d4_200) rfl rfl ?_
                refine w_iload (n := 204) X101.here hx (hb hby d4_202) rfl rfl ?_
                refine w_isub (n := 205) X101.here hx (hb hby d4_204) rfl ?_
                exact tail2 _ (if_pos hc187)
              · refine w_iload (n := 192) X101.here hx (hb hby d4_190) rfl rfl ?_
                refine w_iconst (z := (1 : Int32)) (n := 193) X101.here hx (hb hby d4_192) rfl rfl ?_
                refine w_isub (n := 194) X101.here hx (hb hby d4_193) rfl ?_
                refine w_iload (n := 196) X101.here hx (hb hby d4_194) rfl rfl ?_
                refine w_isub (n := 197) X101.here hx (hb hby d4_196) rfl ?_
                refine w_goto (n := 205) X101.here hx (hb hby d4_197) (by decide) (by decide) ?_
                exact tail2 _ (if_neg hc187)
    have tail1 : ∀ po, (if ¬ pt < 0 then pt else Int32.ofNat de) = po → Endz p.tables e below (Finz s own_rr (fun v h L => v = none ∧ Fr n0 L ∧ ∃ ex σ, own_rd bs pt poe ex (de - is) is (0, 0, 0, 0) = σ ∧ own_RI Z h0 a tx pw kt kp tz bs h ng σ.1 σ.2.1 σ.2.2.1 σ.2.2.2)) T (mkF m 108 #[.val (.ref a), .val (.ref tx), .val (.int (Int32.ofNat S)), .val (.int (Int32.ofNat E)), .val (.int pt), .val (.int (Int32.ofNat de)), .val (.long ex), .second, .val (.int iv), .unset, .unset, .unset, .unset] [(.int po)]) := by
      intro po hpo
      have hpp : po = poe := hpo.symm.trans hpoe
      rw [hpp]
      refine w_istore (Ls' := #[.val (.ref a), .val (.ref tx), .val (.int (Int32.ofNat S)), .val (.int (Int32.ofNat E)), .val (.int pt), .val (.int (Int32.ofNat de)), .val (.long ex), .second, .val (.int poe), .unset, .unset, .unset, .unset]) (n := 110) X.here hx (hb hby d4_108) rfl rfl ?_
      refine w_aloadN (n := 111) X.here hx (hb hby d4_110) rfl rfl rfl ?_
      refine w_lconst (z := (0 : Int64)) (n := 112) X.here hx (hb hby d4_111) rfl rfl ?_
      refine p_F (ty := .long) (n := 115) X hx hZ hown (hw _ (List.mem_of_getElem? (i := 21) rfl)) eT R.2.2.2.2.2.2.1 R.2.2.2.2.1 (Or.inl (hw _ (List.mem_of_getElem? (i := 22) rfl))) (hw _ (List.mem_of_getElem? (i := 6) rfl)) (by decide) rfl rfl (hb hby d4_112) rfl (fun T201 h201 X201 e201 W201 => ?_)
      have R201 := own_ri_whole hw n1 n2 R W201
      have N201 := Fr.snoc X201 N g
      refine w_aloadN (n := 116) X201.here hx (hb hby d4_115) rfl rfl rfl ?_
      refine w_lconst (z := (0 : Int64)) (n := 117) X201.here hx (hb hby d4_116) rfl rfl ?_
      refine p_F (ty := .long) (n := 120) X201 hx hZ hown (hw _ (List.mem_of_getElem? (i := 23) rfl)) e201 R201.2.2.2.2.2.2.2.1 R201.2.2.2.2.1 (Or.inl (hw _ (List.mem_of_getElem? (i := 24) rfl))) (hw _ (List.mem_of_getElem? (i := 6) rfl)) (by decide) rfl rfl (hb hby d4_117) rfl (fun T202 h202 X202 e202 W202 => ?_)
      have R202 := own_ri_nanos hw n1 n2 R201 W202
      have N202 := Fr.snoc X202 N201 g
      refine w_aloadN (n := 121) X202.here hx (hb hby d4_120) rfl rfl rfl ?_
      refine w_iconst (z := (0 : Int32)) (n := 122) X202.here hx (hb hby d4_121) rfl rfl ?_
      refine p_FN (ty := .boolean) (v' := (.int (0 : Int32))) (n := 125) X202 hx hZ hown (hw _ (List.mem_of_getElem? (i := 25) rfl)) e202 R202.2.2.2.2.2.2.2.2.1 R202.2.2.2.2.1 (Or.inl (hw _ (List.mem_of_getElem? (i := 26) rfl))) (hw _ (List.mem_of_getElem? (i := 6) rfl)) (by decide) rfl rfl (hb hby d4_122) rfl (fun T203 h203 X203 e203 W203 => ?_)
      have R203 := own_ri_finer hw n1 n2 R202 W203
      have N203 := Fr.snoc X203 N202 g
      refine w_aloadN (n := 126) X203.here hx (hb hby d4_125) rfl rfl rfl ?_
      refine w_iconst (z := (0 : Int32)) (n := 127) X203.here hx (hb hby d4_126) rfl rfl ?_
      refine p_FN (ty := .boolean) (v' := (.int (0 : Int32))) (n := 130) X203 hx hZ hown (hw _ (List.mem_of_getElem? (i := 27) rfl)) e203 R203.2.2.2.2.2.2.2.2.2 R203.2.2.2.2.1 (Or.inl (hw _ (List.mem_of_getElem? (i := 28) rfl))) (hw _ (List.mem_of_getElem? (i := 6) rfl)) (by decide) rfl rfl (hb hby d4_127) rfl (fun T204 h204 X204 e204 W204 => ?_)
      have R204 := own_ri_beyond hw n1 n2 R203 W204
      have N204 := Fr.snoc X204 N203 g
      refine w_aloadN (n := 131) X204.here hx (hb hby d4_130) rfl rfl rfl ?_
      refine g_F (n := 134) X204 hx hZ hown (hw _ (List.mem_of_getElem? (i := 19) rfl)) e204 R204.2.2.2.2.2.1 (hb hby d4_131) rfl (fun T205 X205 e205 => ?_)
      refine w_ifeq (n1 := 143) (n2 := 137) X205.here hx (hb hby d4_134) (by decide) (by decide) rfl (fun hc134 => ?_) (fun hc134 => ?_)
      · have hi : is = S := by rw [← his, if_pos hc134]
        refine w_iloadN (n := 144) X205.here hx (hb hby d4_143) rfl rfl ?_
        refine w_istore (Ls' := #[.val (.ref a), .val (.ref tx), .val (.int (Int32.ofNat S)), .val (.int (Int32.ofNat E)), .val (.int pt), .val (.int (Int32.ofNat de)), .val (.long ex), .second, .val (.int poe), .val (.int (Int32.ofNat S)), .unset, .unset, .unset]) (n := 146) X205.here hx (hb hby d4_144) rfl rfl ?_
        rw [hi] at hσF
        exact loop2 (de - S) S 0 0 0 0 _ _ _ _ _ _ (by omega) hσF X205 e205 R204 N204 (Or.inl rfl) (Or.inl ⟨rfl, rfl⟩)
      · have hi : is = S + 1 := by rw [← his, if_neg hc134]
        refine w_iloadN (n := 138) X205.here hx (hb hby d4_137) rfl rfl ?_
        refine w_iconst (z := (1 : Int32)) (n := 139) X205.here hx (hb hby d4_138) rfl rfl ?_
        refine w_iadd (n := 140) X205.here hx (hb hby d4_139) rfl ?_
        refine w_goto (n := 144) X205.here hx (hb hby d4_140) (by decide) (by decide) ?_
        rw [nat_up]
        refine w_istore (Ls' := #[.val (.ref a), .val (.ref tx), .val (.int (Int32.ofNat S)), .val (.int (Int32.ofNat E)), .val (.int pt), .val (.int (Int32.ofNat de)), .val (.long ex), .second, .val (.int poe), .val (.int (Int32.ofNat (S + 1))), .unset, .unset, .unset]) (n := 146) X205.here hx (hb hby d4_144) rfl rfl ?_
        rw [hi] at hσF
        exact loop2 (de - (S + 1)) (S + 1) 0 0 0 0 _ _ _ _ _ _ (by omega) hσF X205 e205 R204 N204 (Or.inl rfl) (Or.inl ⟨rfl, rfl⟩)
    refine w_iload (n := 98) X.here hx (hb hby d4_96) rfl rfl ?_
    refine w_ifge (n1 := 106) (n2 := 101) X.here hx (hb hby d4_98) (by decide) (by decide) rfl (fun hc98 => ?_) (fun hc98 => ?_)
    · refine w_iload (n := 108) X.here hx (hb hby d4_106) rfl rfl ?_
      exact tail1 _ (if_pos hc98)
    · refine w_iload (n := 103) X.here hx (hb hby d4_101) rfl rfl ?_
      refine w_goto (n := 108) X.here hx (hb hby d4_103) (by decide) (by decide) ?_
      exact tail1 _ (if_neg hc98)
  have loop1 : ∀ (T : State) (h : Heap) (locs : List Loc) (X : Stand p l e own_rr s m #[.ref a, .ref tx, .int (Int32.ofNat S), .int (Int32.ofNat E)] below meth c T locs 0 0) (eT : T.heap = h) (R : own_RI Z h0 a tx pw kt kp tz bs h ng wh0 na0 fi0 be0) (N : Fr n0 locs) (k c' : Nat), S + c' + k = de → Endz p.tables e below (Finz s own_rr (fun v h L => v = none ∧ Fr n0 L ∧ ∃ ex σ, own_rd bs pt poe ex (de - is) is (0, 0, 0, 0) = σ ∧ own_RI Z h0 a tx pw kt kp tz bs h ng σ.1 σ.2.1 σ.2.2.1 σ.2.2.2)) T (mkF m 29 #[.val (.ref a), .val (.ref tx), .val (.int (Int32.ofNat S)), .val (.int (Int32.ofNat E)), .val (.int (own_ptc bs S c')), .val (.int (Int32.ofNat E)), .val (.long (0 : Int64)), .second, .val (.int (Int32.ofNat (S + c'))), .unset, .unset, .unset, .unset] []) := by
    intro T h locs X eT R N k
    induction k with
    | zero =>
      intro c' hk
      obtain rfl : c' = de - S := by omega
      have hD : S + (de - S) = de := by omega
      rw [hpt, hD]
      rcases hde with hE | ⟨hlt, hch⟩
      · refine w_iload (n := 31) X.here hx (hb hby d4_29) rfl rfl ?_
        refine w_iloadN (n := 32) X.here hx (hb hby d4_31) rfl rfl ?_
        refine w_icmpge (n1 := 96) (n2 := 35) X.here hx (hb hby d4_32) (by decide) (by decide) rfl (fun hc32 => ?_) (fun hc32 => absurd (fun q => absurd ((nat_lt (by omega) (by omega)).mp q) (by omega)) hc32)
        have z := rest T h locs X eT R N 0 (Int32.ofNat de)
        rw [hE] at z ⊢
        exact z
      · have hdE' : de < E := by omega
        refine w_iload (n := 31) X.here hx (hb hby d4_29) rfl rfl ?_
        refine w_iloadN (n := 32) X.here hx (hb hby d4_31) rfl rfl ?_
        refine w_icmpge (n1 := 96) (n2 := 35) X.here hx (hb hby d4_32) (by decide) (by decide) rfl (fun hc32 => absurd ((nat_lt (by omega) (by omega)).mpr hdE') hc32) (fun hc32 => ?_)
        refine w_iload (n := 37) X.here hx (hb hby d4_35) rfl rfl ?_
        refine w_iloadN (n := 38) X.here hx (hb hby d4_37) rfl rfl ?_
        refine w_icmpne (n1 := 96) (n2 := 41) X.here hx (hb hby d4_38) (by decide) (by decide) rfl (fun hc38 => absurd rfl hc38) (fun hc38 => ?_)
        refine w_aloadN (n := 42) X.here hx (hb hby d4_41) rfl rfl rfl ?_
        refine w_iload (n := 44) X.here hx (hb hby d4_42) rfl rfl ?_
        refine l_B (n := 45) X hx hZ eT R.2.1 (nat_nn (by omega)) (htz hdE') (getD_mapI bs _) (hb hby d4_44) rfl ?_
        rw [nat_clamp (show de < 2147483648 by omega)]
        refine w_bipush (z := (46 : Int32)) (n := 47) X.here hx (hb hby d4_45) rfl rfl ?_
        refine w_icmpne (n1 := 57) (n2 := 50) X.here hx (hb hby d4_47) (by decide) (by decide) rfl (fun hc47 => ?_) (fun hc47 => absurd (fun q => by rcases hch with z | z <;> (rw [z] at q; exact absurd q (by decide))) hc47)
        refine w_aloadN (n := 58) X.here hx (hb hby d4_57) rfl rfl rfl ?_
        refine w_iload (n := 60) X.here hx (hb hby d4_58) rfl rfl ?_
        refine l_B (n := 61) X hx hZ eT R.2.1 (nat_nn (by omega)) (htz hdE') (getD_mapI bs _) (hb hby d4_60) rfl ?_
        rw [nat_clamp (show de < 2147483648 by omega)]
        refine w_bipush (z := (101 : Int32)) (n := 63) X.here hx (hb hby d4_61) rfl rfl ?_
        refine w_icmpeq (n1 := 75) (n2 := 66) X.here hx (hb hby d4_63) (by decide) (by decide) rfl (fun hc63 => ?_) (fun hc63 => ?_)
        · refine w_iload (n := 77) X.here hx (hb hby d4_75) rfl rfl ?_
          refine w_istore (Ls' := #[.val (.ref a), .val (.ref tx), .val (.int (Int32.ofNat S)), .val (.int (Int32.ofNat E)), .val (.int pt), .val (.int (Int32.ofNat de)), .val (.long (0 : Int64)), .second, .val (.int (Int32.ofNat de)), .unset, .unset, .unset, .unset]) (n := 79) X.here hx (hb hby d4_77) rfl rfl ?_
          refine w_aloadN (n := 80) X.here hx (hb hby d4_79) rfl rfl rfl ?_
          refine w_iload (n := 82) X.here hx (hb hby d4_80) rfl rfl ?_
          refine w_iconst (z := (1 : Int32)) (n := 83) X.here hx (hb hby d4_82) rfl rfl ?_
          refine w_iadd (n := 84) X.here hx (hb hby d4_83) rfl ?_
          refine w_iloadN (n := 85) X.here hx (hb hby d4_84) rfl rfl ?_
          rw [nat_up]
          refine c_S (n := 88) (rest := []) (argsL := [.ref tx, .int (Int32.ofNat (de + 1)), .int (Int32.ofNat E)]) X hx hZ hown (rmx l Z a0 hw [] tx kt tz bs (de + 1) E TZ h R.2.1 hTZ hTZ' (by omega) hET) eT (hw _ (List.mem_of_getElem? (i := 39) rfl)) (hw _ (List.mem_of_getElem? (i := 40) rfl)) (hw _ (List.mem_of_getElem? (i := 7) rfl)) (hw _ (List.mem_of_getElem? (i := 41) rfl)) (by decide) 0 (by decide) (by decide) (by decide) (by decide) (by rw [hml]; rfl) pd_x rfl rfl (Nat.le_of_ble_eq_true rfl) (hb hby d4_85) rfl (fun v401 T401 L401 X401 hQ401 => ?_)
          obtain ⟨⟨q, rfl⟩, e401, rfl⟩ := hQ401
          show Endz _ _ _ _ T401 (mkF m 88 #[.val (.ref a), .val (.ref tx), .val (.int (Int32.ofNat S)), .val (.int (Int32.ofNat E)), .val (.int pt), .val (.int (Int32.ofNat de)), .val (.long (0 : Int64)), .second, .val (.int (Int32.ofNat de)), .unset, .unset, .unset, .unset] [(.long q)])
          refine w_lstore (Ls' := #[.val (.ref a), .val (.ref tx), .val (.int (Int32.ofNat S)), .val (.int (Int32.ofNat E)), .val (.int pt), .val (.int (Int32.ofNat de)), .val (.long q), .second, .val (.int (Int32.ofNat de)), .unset, .unset, .unset, .unset]) (n := 90) X401.here hx (hb hby d4_88) rfl rfl ?_
          refine w_iinc (Ls' := #[.val (.ref a), .val (.ref tx), .val (.int (Int32.ofNat S)), .val (.int (Int32.ofNat E)), .val (.int pt), .val (.int (Int32.ofNat de)), .val (.long q), .second, .val (.int ((Int32.ofNat de) + (1 : Int32))), .unset, .unset, .unset, .unset]) (n := 93) X401.here hx (hb hby d4_90) rfl rfl rfl ?_
          refine w_goto (n := 29) X401.here hx (hb hby d4_93) (by decide) (by decide) ?_
          rw [nat_up]
          refine w_iload (n := 31) X401.here hx (hb hby d4_29) rfl rfl ?_
          refine w_iloadN (n := 32) X401.here hx (hb hby d4_31) rfl rfl ?_
          refine w_icmpge (n1 := 96) (n2 := 35) X401.here hx (hb hby d4_32) (by decide) (by decide) rfl (fun hc32' => absurd ((nat_lt (by omega) (by omega)).mpr hlt) hc32') (fun hc32' => ?_)
          refine w_iload (n := 37) X401.here hx (hb hby d4_35) rfl rfl ?_
          refine w_iloadN (n := 38) X401.here hx (hb hby d4_37) rfl rfl ?_
          refine w_icmpne (n1 := 96) (n2 := 41) X401.here hx (hb hby d4_38) (by decide) (by decide) rfl (fun hc38' => ?_) (fun hc38' => absurd (fun q => absurd ((nat_eq (by omega) (by omega)).mp q) (by omega)) hc38')
          exact rest _ _ _ X401 e401 R (Fr.app N (Fr.nil n0)) q _
        · refine w_aloadN (n := 67) X.here hx (hb hby d4_66) rfl rfl rfl ?_
          refine w_iload (n := 69) X.here hx (hb hby d4_67) rfl rfl ?_
          refine l_B (n := 70) X hx hZ eT R.2.1 (nat_nn (by omega)) (htz hdE') (getD_mapI bs _) (hb hby d4_69) rfl ?_
          rw [nat_clamp (show de < 2147483648 by omega)]
          refine w_bipush (z := (69 : Int32)) (n := 72) X.here hx (hb hby d4_70) rfl rfl ?_
          refine w_icmpne (n1 := 90) (n2 := 75) X.here hx (hb hby d4_72) (by decide) (by decide) rfl (fun hc72 => absurd (hch.resolve_left hc63) hc72) (fun hc72 => ?_)
          refine w_iload (n := 77) X.here hx (hb hby d4_75) rfl rfl ?_
          refine w_istore (Ls' := #[.val (.ref a), .val (.ref tx), .val (.int (Int32.ofNat S)), .val (.int (Int32.ofNat E)), .val (.int pt), .val (.int (Int32.ofNat de)), .val (.long (0 : Int64)), .second, .val (.int (Int32.ofNat de)), .unset, .unset, .unset, .unset]) (n := 79) X.here hx (hb hby d4_77) rfl rfl ?_
          refine w_aloadN (n := 80) X.here hx (hb hby d4_79) rfl rfl rfl ?_
          refine w_iload (n := 82) X.here hx (hb hby d4_80) rfl rfl ?_
          refine w_iconst (z := (1 : Int32)) (n := 83) X.here hx (hb hby d4_82) rfl rfl ?_
          refine w_iadd (n := 84) X.here hx (hb hby d4_83) rfl ?_
          refine w_iloadN (n := 85) X.here hx (hb hby d4_84) rfl rfl ?_
          rw [nat_up]
          refine c_S (n := 88) (rest := []) (argsL := [.ref tx, .int (Int32.ofNat (de + 1)), .int (Int32.ofNat E)]) X hx hZ hown (rmx l Z a0 hw [] tx kt tz bs (de + 1) E TZ h R.2.1 hTZ hTZ' (by omega) hET) eT (hw _ (List.mem_of_getElem? (i := 39) rfl)) (hw _ (List.mem_of_getElem? (i := 40) rfl)) (hw _ (List.mem_of_getElem? (i := 7) rfl)) (hw _ (List.mem_of_getElem? (i := 41) rfl)) (by decide) 0 (by decide) (by decide) (by decide) (by decide) (by rw [hml]; rfl) pd_x rfl rfl (Nat.le_of_ble_eq_true rfl) (hb hby d4_85) rfl (fun v402 T402 L402 X402 hQ402 => ?_)
          obtain ⟨⟨q, rfl⟩, e402, rfl⟩ := hQ402
          show Endz _ _ _ _ T402 (mkF m 88 #[.val (.ref a), .val (.ref tx), .val (.int (Int32.ofNat S)), .val (.int (Int32.ofNat E)), .val (.int pt), .val (.int (Int32.ofNat de)), .val (.long (0 : Int64)), .second, .val (.int (Int32.ofNat de)), .unset, .unset, .unset, .unset] [(.long q)])
          refine w_lstore (Ls' := #[.val (.ref a), .val (.ref tx), .val (.int (Int32.ofNat S)), .val (.int (Int32.ofNat E)), .val (.int pt), .val (.int (Int32.ofNat de)), .val (.long q), .second, .val (.int (Int32.ofNat de)), .unset, .unset, .unset, .unset]) (n := 90) X402.here hx (hb hby d4_88) rfl rfl ?_
          refine w_iinc (Ls' := #[.val (.ref a), .val (.ref tx), .val (.int (Int32.ofNat S)), .val (.int (Int32.ofNat E)), .val (.int pt), .val (.int (Int32.ofNat de)), .val (.long q), .second, .val (.int ((Int32.ofNat de) + (1 : Int32))), .unset, .unset, .unset, .unset]) (n := 93) X402.here hx (hb hby d4_90) rfl rfl rfl ?_
          refine w_goto (n := 29) X402.here hx (hb hby d4_93) (by decide) (by decide) ?_
          rw [nat_up]
          refine w_iload (n := 31) X402.here hx (hb hby d4_29) rfl rfl ?_
          refine w_iloadN (n := 32) X402.here hx (hb hby d4_31) rfl rfl ?_
          refine w_icmpge (n1 := 96) (n2 := 35) X402.here hx (hb hby d4_32) (by decide) (by decide) rfl (fun hc32' => absurd ((nat_lt (by omega) (by omega)).mpr hlt) hc32') (fun hc32' => ?_)
          refine w_iload (n := 37) X402.here hx (hb hby d4_35) rfl rfl ?_
          refine w_iloadN (n := 38) X402.here hx (hb hby d4_37) rfl rfl ?_
          refine w_icmpne (n1 := 96) (n2 := 41) X402.here hx (hb hby d4_38) (by decide) (by decide) rfl (fun hc38' => ?_) (fun hc38' => absurd (fun q => absurd ((nat_eq (by omega) (by omega)).mp q) (by omega)) hc38')
          exact rest _ _ _ X402 e402 R (Fr.app N (Fr.nil n0)) q _
    | succ k ih =>
      intro c' hk
      have hiE : S + c' < de := by omega
      have hiE' : S + c' < E := by omega
      obtain ⟨ne1, ne2⟩ := hnoe (S + c') (by omega) hiE
      refine w_iload (n := 31) X.here hx (hb hby d4_29) rfl rfl ?_
      refine w_iloadN (n := 32) X.here hx (hb hby d4_31) rfl rfl ?_
      refine w_icmpge (n1 := 96) (n2 := 35) X.here hx (hb hby d4_32) (by decide) (by decide) rfl (fun hc32 => absurd ((nat_lt (by omega) (by omega)).mpr hiE') hc32) (fun hc32 => ?_)
      refine w_iload (n := 37) X.here hx (hb hby d4_35) rfl rfl ?_
      refine w_iloadN (n := 38) X.here hx (hb hby d4_37) rfl rfl ?_
      refine w_icmpne (n1 := 96) (n2 := 41) X.here hx (hb hby d4_38) (by decide) (by decide) rfl (fun hc38 => absurd rfl hc38) (fun hc38 => ?_)
      refine w_aloadN (n := 42) X.here hx (hb hby d4_41) rfl rfl rfl ?_
      refine w_iload (n := 44) X.here hx (hb hby d4_42) rfl rfl ?_
      refine l_B (n := 45) X hx hZ eT R.2.1 (nat_nn (by omega)) (htz hiE') (getD_mapI bs _) (hb hby d4_44) rfl ?_
      rw [nat_clamp (show S + c' < 2147483648 by omega)]
      refine w_bipush (z := (46 : Int32)) (n := 47) X.here hx (hb hby d4_45) rfl rfl ?_
      refine w_icmpne (n1 := 57) (n2 := 50) X.here hx (hb hby d4_47) (by decide) (by decide) rfl (fun hc47 => ?_) (fun hc47 => ?_)
      · refine w_aloadN (n := 58) X.here hx (hb hby d4_57) rfl rfl rfl ?_
        refine w_iload (n := 60) X.here hx (hb hby d4_58) rfl rfl ?_
        refine l_B (n := 61) X hx hZ eT R.2.1 (nat_nn (by omega)) (htz hiE') (getD_mapI bs _) (hb hby d4_60) rfl ?_
        rw [nat_clamp (show S + c' < 2147483648 by omega)]
        refine w_bipush (z := (101 : Int32)) (n := 63) X.here hx (hb hby d4_61) rfl rfl ?_
        refine w_icmpeq (n1 := 75) (n2 := 66) X.here hx (hb hby d4_63) (by decide) (by decide) rfl (fun hc63 => absurd hc63 ne1) (fun hc63 => ?_)
        refine w_aloadN (n := 67) X.here hx (hb hby d4_66) rfl rfl rfl ?_
        refine w_iload (n := 69) X.here hx (hb hby d4_67) rfl rfl ?_
        refine l_B (n := 70) X hx hZ eT R.2.1 (nat_nn (by omega)) (htz hiE') (getD_mapI bs _) (hb hby d4_69) rfl ?_
        rw [nat_clamp (show S + c' < 2147483648 by omega)]
        refine w_bipush (z := (69 : Int32)) (n := 72) X.here hx (hb hby d4_70) rfl rfl ?_
        refine w_icmpne (n1 := 90) (n2 := 75) X.here hx (hb hby d4_72) (by decide) (by decide) rfl (fun hc72 => ?_) (fun hc72 => absurd ne2 hc72)
        refine w_iinc (Ls' := #[.val (.ref a), .val (.ref tx), .val (.int (Int32.ofNat S)), .val (.int (Int32.ofNat E)), .val (.int (own_ptc bs S c')), .val (.int (Int32.ofNat E)), .val (.long (0 : Int64)), .second, .val (.int ((Int32.ofNat (S + c')) + (1 : Int32))), .unset, .unset, .unset, .unset]) (n := 93) X.here hx (hb hby d4_90) rfl rfl rfl ?_
        refine w_goto (n := 29) X.here hx (hb hby d4_93) (by decide) (by decide) ?_
        rw [nat_up]
        have z := ih (c' + 1) (by omega)
        rw [own_ptc, if_neg hc47] at z
        exact z
      · refine w_iload (n := 52) X.here hx (hb hby d4_50) rfl rfl ?_
        refine w_istore (Ls' := #[.val (.ref a), .val (.ref tx), .val (.int (Int32.ofNat S)), .val (.int (Int32.ofNat E)), .val (.int (Int32.ofNat (S + c'))), .val (.int (Int32.ofNat E)), .val (.long (0 : Int64)), .second, .val (.int (Int32.ofNat (S + c'))), .unset, .unset, .unset, .unset]) (n := 54) X.here hx (hb hby d4_52) rfl rfl ?_
        refine w_goto (n := 90) X.here hx (hb hby d4_54) (by decide) (by decide) ?_
        refine w_iinc (Ls' := #[.val (.ref a), .val (.ref tx), .val (.int (Int32.ofNat S)), .val (.int (Int32.ofNat E)), .val (.int (Int32.ofNat (S + c'))), .val (.int (Int32.ofNat E)), .val (.long (0 : Int64)), .second, .val (.int ((Int32.ofNat (S + c')) + (1 : Int32))), .unset, .unset, .unset, .unset]) (n := 93) X.here hx (hb hby d4_90) rfl rfl rfl ?_
        refine w_goto (n := 29) X.here hx (hb hby d4_93) (by decide) (by decide) ?_
        rw [nat_up]
        have z := ih (c' + 1) (by omega)
        rw [own_ptc, if_pos (Classical.not_not.mp hc47)] at z
        exact z
  have t14 : ∀ gg : Int32, gg = ng → Endz p.tables e below (Finz s own_rr (fun v h L => v = none ∧ Fr n0 L ∧ ∃ ex σ, own_rd bs pt poe ex (de - is) is (0, 0, 0, 0) = σ ∧ own_RI Z h0 a tx pw kt kp tz bs h ng σ.1 σ.2.1 σ.2.2.1 σ.2.2.2)) T0 (mkF m 14 #[.val (.ref a), .val (.ref tx), .val (.int (Int32.ofNat S)), .val (.int (Int32.ofNat E)), .unset, .unset, .unset, .unset, .unset, .unset, .unset, .unset, .unset] [(.int gg), (.ref a)]) := by
    intro gg hgg
    rw [hgg]
    refine p_FN (ty := .boolean) (v' := (.int ng)) (n := 17) X0 hx hZ hown (hw _ (List.mem_of_getElem? (i := 19) rfl)) e0 R0.2.2.2.2.2.1 R0.2.2.2.2.1 (Or.inl (hw _ (List.mem_of_getElem? (i := 20) rfl))) (hw _ (List.mem_of_getElem? (i := 6) rfl)) (by decide) (by rcases hng01 with z | z <;> rw [z] <;> rfl) (by rcases hng01 with z | z <;> rw [z] <;> rfl) (hb hby d4_14) rfl (fun T301 h301 X301 e301 W301 => ?_)
    have R301 := own_ri_negative hw n1 n2 R0 W301
    have N301 := Fr.snoc X301 (Fr.nil n0) g
    refine w_iconst (z := (-1 : Int32)) (n := 18) X301.here hx (hb hby d4_17) rfl rfl ?_
    refine w_istore (Ls' := #[.val (.ref a), .val (.ref tx), .val (.int (Int32.ofNat S)), .val (.int (Int32.ofNat E)), .val (.int (-1 : Int32)), .unset, .unset, .unset, .unset, .unset, .unset, .unset, .unset]) (n := 20) X301.here hx (hb hby d4_18) rfl rfl ?_
    refine w_iloadN (n := 21) X301.here hx (hb hby d4_20) rfl rfl ?_
    refine w_istore (Ls' := #[.val (.ref a), .val (.ref tx), .val (.int (Int32.ofNat S)), .val (.int (Int32.ofNat E)), .val (.int (-1 : Int32)), .val (.int (Int32.ofNat E)), .unset, .unset, .unset, .unset, .unset, .unset, .unset]) (n := 23) X301.here hx (hb hby d4_21) rfl rfl ?_
    refine w_lconst (z := (0 : Int64)) (n := 24) X301.here hx (hb hby d4_23) rfl rfl ?_
    refine w_lstore (Ls' := #[.val (.ref a), .val (.ref tx), .val (.int (Int32.ofNat S)), .val (.int (Int32.ofNat E)), .val (.int (-1 : Int32)), .val (.int (Int32.ofNat E)), .val (.long (0 : Int64)), .second, .unset, .unset, .unset, .unset, .unset]) (n := 26) X301.here hx (hb hby d4_24) rfl rfl ?_
    refine w_iloadN (n := 27) X301.here hx (hb hby d4_26) rfl rfl ?_
    refine w_istore (Ls' := #[.val (.ref a), .val (.ref tx), .val (.int (Int32.ofNat S)), .val (.int (Int32.ofNat E)), .val (.int (-1 : Int32)), .val (.int (Int32.ofNat E)), .val (.long (0 : Int64)), .second, .val (.int (Int32.ofNat S)), .unset, .unset, .unset, .unset]) (n := 29) X301.here hx (hb hby d4_27) rfl rfl ?_
    exact loop1 _ _ _ X301 e301 R301 N301 (de - S) 0 (by omega)
  refine w_aloadN (n := 1) X0.here hx (hb hby d4_0) rfl rfl rfl ?_
  refine w_aloadN (n := 2) X0.here hx (hb hby d4_1) rfl rfl rfl ?_
  refine w_iloadN (n := 3) X0.here hx (hb hby d4_2) rfl rfl ?_
  refine l_B (n := 4) X0 hx hZ e0 R0.2.1 (nat_nn (by omega)) (htz hSE) (getD_mapI bs _) (hb hby d4_3) rfl ?_
  rw [nat_clamp (show S < 2147483648 by omega)]
  refine w_bipush (z := (45 : Int32)) (n := 6) X0.here hx (hb hby d4_4) rfl rfl ?_
  refine w_icmpne (n1 := 13) (n2 := 9) X0.here hx (hb hby d4_6) (by decide) (by decide) rfl (fun hc6 => ?_) (fun hc6 => ?_)
  · refine w_iconst (z := (0 : Int32)) (n := 14) X0.here hx (hb hby d4_13) rfl rfl ?_
    exact t14 _ (by rw [← hng, if_neg hc6])
  · refine w_iconst (z := (1 : Int32)) (n := 10) X0.here hx (hb hby d4_9) rfl rfl ?_
    refine w_goto (n := 14) X0.here hx (hb hby d4_10) (by decide) (by decide) ?_
    exact t14 _ (by rw [← hng, if_pos (Classical.not_not.mp hc6)])
abbrev own_ri : Room := { frames := 1, cells := 0, slots := 0, locals := 12 }
/-- the j-th digit -/
def own_d (v j : Int32) : Int32 := ((v.toUInt32 >>> (((4 : Int32) * j) &&& 31).toUInt32).toInt32 &&& 15) % 10
set_option maxRecDepth 65536 in
set_option maxHeartbeats 40000000 in
theorem rmd (l : Launch) (Z : State) (a0 : Array Value) (hw : ∀ d ∈ tables_1, d.before a0 Z = true) (ws : List Jvm.Cond) (v j : Int32) (h0 : Heap) :
    Con l Z (⟨"com/example/portion/portion/quota/BoundedNumberSignumPinLaw", "dig", "(II)I"⟩ : MethodName) method_2_code 2 (some .int) ws own_r0 #[.int v, .int j] h0 (fun r h L => r = some (.int (own_d v j)) ∧ h = h0 ∧ L = []) := by
  refine con_of (plainFor_of_name pn_0) ?_
  intro p e s m below meth c T0 X0 hx hZ hby hml hown hret hnm hlk e0
  refine Endz.eq (ef_d m v j) ?_
  refine w_iloadN (n := 1) X0.here hx (hb hby d1_0) rfl rfl ?_
  refine w_iconst (z := (4 : Int32)) (n := 2) X0.here hx (hb hby d1_1) rfl rfl ?_
  refine w_iloadN (n := 3) X0.here hx (hb hby d1_2) rfl rfl ?_
  refine w_imul (n := 4) X0.here hx (hb hby d1_3) rfl ?_
  refine w_iushr (n := 5) X0.here hx (hb hby d1_4) rfl ?_
  refine w_bipush (z := (15 : Int32)) (n := 7) X0.here hx (hb hby d1_5) rfl rfl ?_
  refine w_iand (n := 8) X0.here hx (hb hby d1_7) rfl ?_
  refine w_bipush (z := (10 : Int32)) (n := 10) X0.here hx (hb hby d1_8) rfl rfl ?_
  refine w_irem (n := 11) X0.here hx (hb hby d1_10) rfl (by decide) ?_
  exact fin_I X0 hx hlk e0 hret (hb hby d1_11) (by decide) (by decide) ⟨rfl, rfl, rfl⟩
set_option maxRecDepth 65536 in
set_option maxHeartbeats 40000000 in
theorem rmi (l : Launch) (Z : State) (a0 : Array Value) (hw : ∀ d ∈ tables_1, d.before a0 Z = true) (ws : List Jvm.Cond) (b : Addr) (h0 : Heap) :
    Con l Z (⟨"com/example/portion/portion/quota/BoundedNumber", "<init>", "()V"⟩ : MethodName) prog_59_method_1_code 1 none ws own_ri #[.ref b] h0 (fun v h L => v = none ∧ h = h0 ∧ L = []) := by
  refine con_of (plainFor_of_name pn_1) ?_
  intro p e s m below meth c T0 X0 hx hZ hby hml hown hret hnm hlk e0
  refine Endz.eq (ef_i m b) ?_
  refine w_aloadN (n := 1) X0.here hx (hb hby d2_0) rfl rfl rfl ?_
  refine c_O (n := 4) X0 hx hZ hown (hw _ (List.mem_of_getElem? (i := 11) rfl)) (hw _ (List.mem_of_getElem? (i := 12) rfl)) (hw _ (List.mem_of_getElem? (i := 13) rfl)) e0 (by rw [hml]; rfl) (hb hby d2_1) rfl 0 (by decide) (by decide) (by decide) (fun T1 X1 e1 => ?_)
  exact fin_V X1 hx hlk e1 hret (hb hby d2_4) (by decide) (by decide) ⟨rfl, rfl, rfl⟩
/-- nothing is there -/
abbrev own_z (wh na : Int64) (fi be : Int32) : Prop := wh = 0 ∧ na = 0 ∧ fi = 0 ∧ be = 0
/-- what signum() answers -/
def own_sn (ng : Int32) (wh na : Int64) (fi be : Int32) : Int32 := if own_z wh na fi be then 0 else if ng = 0 then 1 else -1
set_option maxRecDepth 65536 in
set_option maxHeartbeats 40000000 in
theorem rms (l : Launch) (Z : State) (a0 : Array Value) (hw : ∀ d ∈ tables_1, d.before a0 Z = true) (ws : List Jvm.Cond) (a : Addr) (ng : Int32) (wh na : Int64) (fi be : Int32) (h0 : Heap) (N : own_Num Z h0 a ng wh na fi be) :
    Con l Z (⟨"com/example/portion/portion/quota/BoundedNumber", "signum", "()I"⟩ : MethodName) prog_59_method_3_code 3 (some .int) ws own_r0 #[.ref a] h0 (fun r h L => r = some (.int (own_sn ng wh na fi be)) ∧ h = h0 ∧ L = []) := by
  refine con_of (plainFor_of_name pn_1) ?_
  intro p e s m below meth c T0 X0 hx hZ hby hml hown hret hnm hlk e0
  refine Endz.eq (ef_n m a) ?_
  have t1 : own_z wh na fi be → ∀ (T : State) (X : Stand p l e own_r0 s m #[.ref a] below meth c T [] 0 0) (eT : T.heap = h0), Endz p.tables e below (Finz s own_r0 (fun r h L => r = some (.int (own_sn ng wh na fi be)) ∧ h = h0 ∧ L = [])) T (mkF m 37 #[.val (.ref a), .unset, .unset] [.int 1]) := by
    intro hz T X eT
    refine w_istoreN (Ls' := #[.val (.ref a), .val (.int (1 : Int32)), .unset]) (n := 38) X.here hx (hb hby d5_37) rfl rfl ?_
    refine w_aloadN (n := 39) X.here hx (hb hby d5_38) rfl rfl rfl ?_
    refine g_F (n := 42) X hx hZ hown (hw _ (List.mem_of_getElem? (i := 19) rfl)) eT N.2.1 (hb hby d5_39) rfl (fun T1 X1 e1 => ?_)
    refine w_ifeq (n1 := 49) (n2 := 45) X1.here hx (hb hby d5_42) (by decide) (by decide) rfl (fun hc42 => ?_) (fun hc42 => ?_)
    · refine w_iconst (z := (1 : Int32)) (n := 50) X1.here hx (hb hby d5_49) rfl rfl ?_
      refine w_istoreN (Ls' := #[.val (.ref a), .val (.int (1 : Int32)), .val (.int (1 : Int32))]) (n := 51) X1.here hx (hb hby d5_50) rfl rfl ?_
      refine w_iloadN (n := 52) X1.here hx (hb hby d5_51) rfl rfl ?_
      refine w_ifeq (n1 := 59) (n2 := 55) X1.here hx (hb hby d5_52) (by decide) (by decide) rfl (fun hc52 => absurd hc52 (by decide)) (fun hc52 => ?_)
      refine w_iconst (z := (0 : Int32)) (n := 56) X1.here hx (hb hby d5_55) rfl rfl ?_
      refine w_goto (n := 60) X1.here hx (hb hby d5_56) (by decide) (by decide) ?_
      exact fin_I X1 hx hlk e1 hret (hb hby d5_60) (by decide) (by decide) ⟨by rw [own_sn, if_pos hz], rfl, rfl⟩
    · refine w_iconst (z := (-1 : Int32)) (n := 46) X1.here hx (hb hby d5_45) rfl rfl ?_
      refine w_goto (n := 50) X1.here hx (hb hby d5_46) (by decide) (by decide) ?_
      refine w_istoreN (Ls' := #[.val (.ref a), .val (.int (1 : Int32)), .val (.int (-1 : Int32))]) (n := 51) X1.here hx (hb hby d5_50) rfl rfl ?_
      refine w_iloadN (n := 52) X1.here hx (hb hby d5_51) rfl rfl ?_
      refine w_ifeq (n1 := 59) (n2 := 55) X1.here hx (hb hby d5_52) (by decide) (by decide) rfl (fun hc52 => absurd hc52 (by decide)) (fun hc52 => ?_)
      refine w_iconst (z := (0 : Int32)) (n := 56) X1.here hx (hb hby d5_55) rfl rfl ?_
      refine w_goto (n := 60) X1.here hx (hb hby d5_56) (by decide) (by decide) ?_
      exact fin_I X1 hx hlk e1 hret (hb hby d5_60) (by decide) (by decide) ⟨by rw [own_sn, if_pos hz], rfl, rfl⟩
  have t0 : ¬ own_z wh na fi be → ∀ (T : State) (X : Stand p l e own_r0 s m #[.ref a] below meth c T [] 0 0) (eT : T.heap = h0), Endz p.tables e below (Finz s own_r0 (fun r h L => r = some (.int (own_sn ng wh na fi be)) ∧ h = h0 ∧ L = [])) T (mkF m 37 #[.val (.ref a), .unset, .unset] [.int 0]) := by
    intro hz T X eT
    refine w_istoreN (Ls' := #[.val (.ref a), .val (.int (0 : Int32)), .unset]) (n := 38) X.here hx (hb hby d5_37) rfl rfl ?_
    refine w_aloadN (n := 39) X.here hx (hb hby d5_38) rfl rfl rfl ?_
    refine g_F (n := 42) X hx hZ hown (hw _ (List.mem_of_getElem? (i := 19) rfl)) eT N.2.1 (hb hby d5_39) rfl (fun T1 X1 e1 => ?_)
    refine w_ifeq (n1 := 49) (n2 := 45) X1.here hx (hb hby d5_42) (by decide) (by decide) rfl (fun hc42 => ?_) (fun hc42 => ?_)
    · refine w_iconst (z := (1 : Int32)) (n := 50) X1.here hx (hb hby d5_49) rfl rfl ?_
      refine w_istoreN (Ls' := #[.val (.ref a), .val (.int (0 : Int32)), .val (.int (1 : Int32))]) (n := 51) X1.here hx (hb hby d5_50) rfl rfl ?_
      refine w_iloadN (n := 52) X1.here hx (hb hby d5_51) rfl rfl ?_
      refine w_ifeq (n1 := 59) (n2 := 55) X1.here hx (hb hby d5_52) (by decide) (by decide) rfl (fun hc52 => ?_) (fun hc52 => absurd rfl hc52)
      refine w_iloadN (n := 60) X1.here hx (hb hby d5_59) rfl rfl ?_
      exact fin_I X1 hx hlk e1 hret (hb hby d5_60) (by decide) (by decide) ⟨by rw [own_sn, if_neg hz, if_pos hc42], rfl, rfl⟩
    · refine w_iconst (z := (-1 : Int32)) (n := 46) X1.here hx (hb hby d5_45) rfl rfl ?_
      refine w_goto (n := 50) X1.here hx (hb hby d5_46) (by decide) (by decide) ?_
      refine w_istoreN (Ls' := #[.val (.ref a), .val (.int (0 : Int32)), .val (.int (-1 : Int32))]) (n := 51) X1.here hx (hb hby d5_50) rfl rfl ?_
      refine w_iloadN (n := 52) X1.here hx (hb hby d5_51) rfl rfl ?_
      refine w_ifeq (n1 := 59) (n2 := 55) X1.here hx (hb hby d5_52) (by decide) (by decide) rfl (fun hc52 => ?_) (fun hc52 => absurd rfl hc52)
      refine w_iloadN (n := 60) X1.here hx (hb hby d5_59) rfl rfl ?_
      exact fin_I X1 hx hlk e1 hret (hb hby d5_60) (by decide) (by decide) ⟨by rw [own_sn, if_neg hz, if_neg hc42], rfl, rfl⟩
  refine w_aloadN (n := 1) X0.here hx (hb hby d5_0) rfl rfl rfl ?_
  refine g_F (n := 4) X0 hx hZ hown (hw _ (List.mem_of_getElem? (i := 21) rfl)) e0 N.2.2.1 (hb hby d5_1) rfl (fun T1 X1 e1 => ?_)
  refine w_lconst (z := (0 : Int64)) (n := 5) X1.here hx (hb hby d5_4) rfl rfl ?_
  refine w_lcmp (n := 6) X1.here hx (hb hby d5_5) rfl ?_
  refine w_ifne (n1 := 36) (n2 := 9) X1.here hx (hb hby d5_6) (by decide) (by decide) rfl (fun hc6 => ?_) (fun hc6 => ?_)
  · refine w_iconst (z := (0 : Int32)) (n := 37) X1.here hx (hb hby d5_36) rfl rfl ?_
    exact t0 (fun q => hc6 ((lw_eq _ _).mpr q.1)) _ X1 e1
  · have h1 : wh = 0 := (lw_eq _ _).mp (Classical.not_not.mp hc6)
    refine w_aloadN (n := 10) X1.here hx (hb hby d5_9) rfl rfl rfl ?_
    refine g_F (n := 13) X1 hx hZ hown (hw _ (List.mem_of_getElem? (i := 23) rfl)) e1 N.2.2.2.1 (hb hby d5_10) rfl (fun T2 X2 e2 => ?_)
    refine w_lconst (z := (0 : Int64)) (n := 14) X2.here hx (hb hby d5_13) rfl rfl ?_
    refine w_lcmp (n := 15) X2.here hx (hb hby d5_14) rfl ?_
    refine w_ifne (n1 := 36) (n2 := 18) X2.here hx (hb hby d5_15) (by decide) (by decide) rfl (fun hc15 => ?_) (fun hc15 => ?_)
    · refine w_iconst (z := (0 : Int32)) (n := 37) X2.here hx (hb hby d5_36) rfl rfl ?_
      exact t0 (fun q => hc15 ((lw_eq _ _).mpr q.2.1)) _ X2 e2
    · have h2 : na = 0 := (lw_eq _ _).mp (Classical.not_not.mp hc15)
      refine w_aloadN (n := 19) X2.here hx (hb hby d5_18) rfl rfl rfl ?_
      refine g_F (n := 22) X2 hx hZ hown (hw _ (List.mem_of_getElem? (i := 25) rfl)) e2 N.2.2.2.2.1 (hb hby d5_19) rfl (fun T3 X3 e3 => ?_)
      refine w_ifne (n1 := 36) (n2 := 25) X3.here hx (hb hby d5_22) (by decide) (by decide) rfl (fun hc22 => ?_) (fun hc22 => ?_)
      · refine w_iconst (z := (0 : Int32)) (n := 37) X3.here hx (hb hby d5_36) rfl rfl ?_
        exact t0 (fun q => hc22 q.2.2.1) _ X3 e3
      · refine w_aloadN (n := 26) X3.here hx (hb hby d5_25) rfl rfl rfl ?_
        refine g_F (n := 29) X3 hx hZ hown (hw _ (List.mem_of_getElem? (i := 27) rfl)) e3 N.2.2.2.2.2 (hb hby d5_26) rfl (fun T4 X4 e4 => ?_)
        refine w_ifne (n1 := 36) (n2 := 32) X4.here hx (hb hby d5_29) (by decide) (by decide) rfl (fun hc29 => ?_) (fun hc29 => ?_)
        · refine w_iconst (z := (0 : Int32)) (n := 37) X4.here hx (hb hby d5_36) rfl rfl ?_
          exact t0 (fun q => hc29 q.2.2.2) _ X4 e4
        · refine w_iconst (z := (1 : Int32)) (n := 33) X4.here hx (hb hby d5_32) rfl rfl ?_
          refine w_goto (n := 37) X4.here hx (hb hby d5_33) (by decide) (by decide) ?_
          exact t1 ⟨h1, h2, Classical.not_not.mp hc22, Classical.not_not.mp hc29⟩ _ X4 e4
/-! THE PLAIN LAW: signum is 0 just where every digit is 0 -/
theorem own_rd1 {bs : List Int32} {pt poe : Int32} {ex : Int64} {k i : Nat} {wh na : Int64} {fi : Int32} : own_rd bs pt poe ex (k + 1) i (wh, na, fi, 0) = own_rd bs pt poe ex k (i + 1) (own_stp bs pt poe ex i (wh, na, fi, 0)) := by
  rw [own_rd, if_neg (fun q => q rfl)]
theorem own_rdS {bs : List Int32} {pt poe : Int32} {ex : Int64} {k i : Nat} {wh na : Int64} {fi be : Int32} (h : ¬ be = 0) : own_rd bs pt poe ex k i (wh, na, fi, be) = (wh, na, fi, be) := by
  cases k with
  | zero => rfl
  | succ k => rw [own_rd, if_pos h]
theorem own_pt_none {bs : List Int32} {S : Nat} : ∀ c, (∀ j, S ≤ j → j < S + c → ¬ bs.getD j 0 = 46) → own_ptc bs S c = -1
  | 0, _ => rfl
  | c + 1, h => by rw [own_ptc, if_neg (h (S + c) (by omega) (by omega))]; exact own_pt_none c fun j h1 h2 => h j h1 (by omega)
theorem own_pt_some {bs : List Int32} {S q : Nat} (hq : bs.getD q 0 = 46) (hS : S ≤ q) : ∀ c, q < S + c → (∀ j, q < j → j < S + c → ¬ bs.getD j 0 = 46) → own_ptc bs S c = Int32.ofNat q
  | 0, h, _ => absurd h (by omega)
  | c + 1, h, hn => by
    by_cases e : S + c = q
    · rw [own_ptc, e, if_pos hq]
    · rw [own_ptc, if_neg (hn (S + c) (by omega) (by omega))]
      exact own_pt_some hq hS c (by omega) fun j h1 h2 => hn j h1 (by omega)
/-- a digit's sign -/
def own_dgt (x : Int32) : Prop := 48 ≤ x.toInt ∧ x.toInt ≤ 57
theorem own_t46 : (46 : Int32).toInt = 46 := by decide
theorem own_t48 : (48 : Int32).toInt = 48 := by decide
theorem own_dgt46 {x : Int32} (h : own_dgt x) : ¬ x = 46 := fun q => by have := h.1; rw [q, own_t46] at this; omega
theorem own_pw_pos {q : Int32} (h1 : ¬ q < 0) (h2 : q < 18) : 0 < (own_pw q).toInt ∧ (own_pw q).toInt ≤ 100000000000000000 := by
  have t : (18 : Int32).toInt = 18 := by decide
  have a := nat_of h1
  rw [Int32.lt_iff_toInt_lt, t] at h2
  exact (by decide : ∀ n, n < 18 → 0 < (own_pows.getD n 0).toInt ∧ (own_pows.getD n 0).toInt ≤ 100000000000000000) q.toNatClampNeg (by omega)
/-- one sum grows -/
theorem own_grow {s p : Int64} {x : Int32} {M : Int} (hx : own_dgt x) (hn : ¬ x = 48) (hp : 0 < p.toInt ∧ p.toInt ≤ 100000000000000000) (hs : 0 ≤ s.toInt ∧ s.toInt ≤ M) (hM : M + 900000000000000000 < 9223372036854775808) :
    0 < (s + (x - 48).toInt64 * p).toInt ∧ (s + (x - 48).toInt64 * p).toInt ≤ M + 900000000000000000 := by
  obtain ⟨x1, x2⟩ := hx
  have x3 : 48 < x.toInt := by
    have : x.toInt ≠ 48 := fun q => hn (Int32.toInt_inj.mp (by rw [q, own_t48]))
    omega
  have a := c_isub x 48; have b := rng32 (x - 48); rw [own_t48] at a
  have hd : (x - 48).toInt = x.toInt - 48 := by omega
  have i1 := c_i2l (x - 48)
  have i2 := c_lmul (x - 48).toInt64 p; have i3 := rng64 ((x - 48).toInt64 * p)
  rw [i1, hd] at i2
  have m1 : 0 < (x.toInt - 48) * p.toInt := Int.mul_pos (by omega) hp.1
  have m2 : (x.toInt - 48) * p.toInt ≤ 9 * p.toInt := Int.mul_le_mul_of_nonneg_right (by omega) (by omega)
  have i4 := c_ladd s ((x - 48).toInt64 * p); have i5 := rng64 (s + (x - 48).toInt64 * p)
  generalize (x.toInt - 48) * p.toInt = z at m1 m2 i2
  omega
theorem own_ne0 {s : Int64} (h : 0 < s.toInt) : ¬ s = 0 := fun q => by
  rw [q] at h
  have : (0 : Int64).toInt = 0 := by decide
  omega
/-- nothing is there -/
def own_zz (σ : Int64 × Int64 × Int32 × Int32) : Prop := own_z σ.1 σ.2.1 σ.2.2.1 σ.2.2.2
def own_bd (M : Int) (σ : Int64 × Int64 × Int32 × Int32) : Prop := (0 ≤ σ.1.toInt ∧ σ.1.toInt ≤ M) ∧ (0 ≤ σ.2.1.toInt ∧ σ.2.1.toInt ≤ M)
theorem own_step {bs : List Int32} {pt poe : Int32} {ex : Int64} {i : Nat} {wh na : Int64} {fi be : Int32} {M : Int} (hd : Int32.ofNat i = pt ∨ own_dgt (bs.getD i 0)) (hb : own_bd M (wh, na, fi, be)) (hM : M + 900000000000000000 < 9223372036854775808) :
    ((Int32.ofNat i = pt ∨ bs.getD i 0 = 48) ∧ own_stp bs pt poe ex i (wh, na, fi, be) = (wh, na, fi, be)) ∨ (¬ Int32.ofNat i = pt ∧ ¬ bs.getD i 0 = 48 ∧ ¬ own_zz (own_stp bs pt poe ex i (wh, na, fi, be)) ∧ own_bd (M + 900000000000000000) (own_stp bs pt poe ex i (wh, na, fi, be))) := by
  by_cases h1 : Int32.ofNat i = pt
  · exact Or.inl ⟨Or.inl h1, by rw [own_stp, if_pos h1]⟩
  · have hx := hd.resolve_left h1
    by_cases h2 : bs.getD i 0 = 48
    · exact Or.inl ⟨Or.inr h2, by rw [own_stp, if_neg h1, if_pos (by rw [h2]; decide)]⟩
    · have h2' : ¬ bs.getD i 0 - 48 = 0 := fun q => by
        have a := c_isub (bs.getD i 0) 48
        rw [q, own_t48, i0_toInt] at a
        have := hx.1; have := hx.2
        exact h2 (Int32.toInt_inj.mp (by rw [own_t48]; omega))
      refine Or.inr ⟨h1, h2, ?_⟩
      obtain ⟨⟨b1, b2⟩, b3, b4⟩ := hb
      dsimp only at b1 b2 b3 b4
      rw [own_stp, if_neg h1, if_neg h2']
      by_cases c1 : own_pl poe ex i < 18
      · rw [if_neg (fun q => q c1)]
        by_cases c2 : own_pl poe ex i < 0
        · rw [if_neg (fun q => q c2)]
          by_cases c3 : own_pl poe ex i < -9
          · rw [if_neg (fun q => q c3)]
            exact ⟨fun q => absurd q.2.2.1 (show ¬ (1 : Int32) = 0 by decide), ⟨b1, by show wh.toInt ≤ _; omega⟩, b3, by show na.toInt ≤ _; omega⟩
          · rw [if_pos c3]
            obtain ⟨j1, j2⟩ := own_pl_idx9 c2 c3
            have G := own_grow hx h2 (own_pw_pos j1 j2) ⟨b3, b4⟩ hM
            exact ⟨fun q => own_ne0 G.1 q.2.1, ⟨b1, by show wh.toInt ≤ _; omega⟩, Int.le_of_lt G.1, G.2⟩
        · rw [if_pos c2]
          obtain ⟨j1, j2⟩ := own_pl_idx c1 c2
          have G := own_grow hx h2 (own_pw_pos j1 j2) ⟨b1, b2⟩ hM
          exact ⟨fun q => own_ne0 G.1 q.1, ⟨Int.le_of_lt G.1, G.2⟩, b3, by show na.toInt ≤ _; omega⟩
      · rw [if_pos c1]
        exact ⟨fun q => absurd q.2.2.2 (show ¬ (1 : Int32) = 0 by decide), ⟨b1, by show wh.toInt ≤ _; omega⟩, b3, by show na.toInt ≤ _; omega⟩
theorem own_rd_nz {bs : List Int32} {pt poe : Int32} {ex : Int64} : ∀ (k i : Nat) (M : Int) (σ : Int64 × Int64 × Int32 × Int32), (∀ j, i ≤ j → j < i + k → Int32.ofNat j = pt ∨ own_dgt (bs.getD j 0)) → own_bd M σ → M + 900000000000000000 * k < 9223372036854775808 →
    (¬ own_zz (own_rd bs pt poe ex k i σ) ↔ ¬ own_zz σ ∨ ∃ j, i ≤ j ∧ j < i + k ∧ ¬ Int32.ofNat j = pt ∧ ¬ bs.getD j 0 = 48)
  | 0, i, M, σ, _, _, _ => ⟨Or.inl, fun h => h.elim id fun ⟨j, h1, h2, _⟩ => absurd h2 (by omega)⟩
  | k + 1, i, M, σ, hd, hb, hM => by
    obtain ⟨wh, na, fi, be⟩ := σ
    by_cases hbe : be = 0
    · subst hbe
      rw [own_rd1]
      have hk : (0 : Int) ≤ 900000000000000000 * k := by omega
      rcases own_step (poe := poe) (ex := ex) (hd i (by omega) (by omega)) hb (by push_cast at hM; omega) with ⟨h1, h2⟩ | ⟨h1, h2, h3, h4⟩
      · rw [h2, own_rd_nz k (i + 1) M _ (fun j q1 q2 => hd j (by omega) (by omega)) hb (by push_cast at hM; omega)]
        refine or_congr Iff.rfl ⟨fun ⟨j, q1, q2, q3⟩ => ⟨j, by omega, by omega, q3⟩, fun ⟨j, q1, q2, q3, q4⟩ => ⟨j, ?_, by omega, q3, q4⟩⟩
        by_cases e : j = i
        · subst e; exact absurd h1 (fun z => z.elim q3 q4)
        · omega
      · have IH := own_rd_nz (poe := poe) (ex := ex) k (i + 1) (M + 900000000000000000) _ (fun j q1 q2 => hd j (by omega) (by omega)) h4 (by push_cast at hM; omega)
        exact ⟨fun _ => Or.inr ⟨i, by omega, by omega, h1, h2⟩, fun _ => IH.mpr (Or.inl h3)⟩
    · rw [own_rdS hbe]
      exact ⟨fun h => Or.inl h, fun _ q => hbe q.2.2.2⟩
theorem own_getD_mem {l : List Int32} {j : Nat} (h : j < l.length) : l.getD j 0 ∈ l := by
  rw [List.getD_eq_getElem?_getD, List.getElem?_eq_getElem h]; exact List.getElem_mem h
theorem own_mem_getD {l : List Int32} {x : Int32} (h : x ∈ l) : ∃ j, j < l.length ∧ l.getD j 0 = x := by
  obtain ⟨j, hj, e⟩ := List.getElem_of_mem h
  exact ⟨j, hj, by rw [List.getD_eq_getElem?_getD, List.getElem?_eq_getElem hj]; exact e⟩
theorem own_getD_l {a b : List Int32} {j : Nat} (h : j < a.length) : (a ++ b).getD j 0 = a.getD j 0 := by
  rw [List.getD_eq_getElem?_getD, List.getD_eq_getElem?_getD, List.getElem?_append_left h]
theorem own_getD_r {a b : List Int32} (j : Nat) : (a ++ b).getD (a.length + j) 0 = b.getD j 0 := by
  rw [List.getD_eq_getElem?_getD, List.getD_eq_getElem?_getD, List.getElem?_append_right (by omega), Nat.add_sub_cancel_left]
/-- the point's place, where at most one point stands -/
theorem own_pt_iff {bs : List Int32} {S c : Nat} (hb : S + c < 2147483648) (hu : ∀ j j', S ≤ j → j < S + c → S ≤ j' → j' < S + c → bs.getD j 0 = 46 → bs.getD j' 0 = 46 → j = j') : ∀ j, S ≤ j → j < S + c → (Int32.ofNat j = own_ptc bs S c ↔ bs.getD j 0 = 46) := by
  intro j h1 h2
  by_cases hex : ∃ q, S ≤ q ∧ q < S + c ∧ bs.getD q 0 = 46
  · obtain ⟨q, q1, q2, q3⟩ := hex
    rw [own_pt_some q3 q1 c q2 (fun j' a1 a2 a3 => absurd (hu q j' q1 q2 (by omega) a2 q3 a3) (by omega)), nat_eq (by omega) (by omega)]
    exact ⟨fun e => by rw [e]; exact q3, fun e => hu j q h1 h2 q1 q2 e q3⟩
  · rw [own_pt_none c (fun j' a1 a2 a3 => hex ⟨j', a1, a2, a3⟩)]
    refine ⟨fun e => ?_, fun e => absurd ⟨j, h1, h2, e⟩ hex⟩
    have t : (-1 : Int32).toInt = -1 := by decide
    have := congrArg Int32.toInt e
    rw [nat_toInt (by omega), t] at this
    omega
/-- the text: a sign that is no point, the whole digits, the fraction's (none, or a point and digits), what comes behind -/
theorem own_text {sg ints fs tl : List Int32} {fr : List Int32} {bs : List Int32} {pt poe : Int32} {ex : Int64} {is de : Nat} (hsg : ∀ x ∈ sg, ¬ x = 46) (hi : ∀ x ∈ ints, own_dgt x) (hfs : ∀ x ∈ fs, own_dgt x) (hfr : (fr = [] ∧ fs = []) ∨ fr = 46 :: fs) (hbs : bs = (55 :: (sg ++ ints ++ fr)) ++ tl) (his : is = 1 + sg.length) (hde : de = 1 + sg.length + ints.length + fr.length) (hlen : ints.length + fr.length ≤ 7) (hbig : sg.length ≤ 1) (hpt : own_ptc bs 1 (de - 1) = pt) :
    (¬ own_zz (own_rd bs pt poe ex (de - is) is (0, 0, 0, 0)) ↔ ∃ x ∈ ints ++ fs, ¬ x = 48) := by
  have hP : ∀ j, j < de → bs.getD j 0 = (55 :: (sg ++ ints ++ fr)).getD j 0 := fun j hj => by rw [hbs]; exact own_getD_l (by simp [List.length_append]; omega)
  have hsplit : (55 :: (sg ++ ints ++ fr)) = (55 :: (sg ++ ints)) ++ fr := by simp
  have hHd : ∀ x ∈ (55 : Int32) :: (sg ++ ints), ¬ x = 46 := fun x hx => by
    rcases List.mem_cons.mp hx with rfl | h
    · decide
    · rcases List.mem_append.mp h with h | h
      · exact hsg x h
      · exact own_dgt46 (hi x h)
  have hlenHd : ((55 : Int32) :: (sg ++ ints)).length = 1 + sg.length + ints.length := by simp [List.length_append]; omega
  have huniq : ∀ j, j < de → bs.getD j 0 = 46 → j = 1 + sg.length + ints.length := fun j hj e => by
    rw [hP j hj, hsplit] at e
    by_cases hl : j < 1 + sg.length + ints.length
    · rw [own_getD_l (by rw [hlenHd]; exact hl)] at e
      exact absurd e (hHd _ (own_getD_mem (by rw [hlenHd]; exact hl)))
    · obtain ⟨m, rfl⟩ : ∃ m, j = (1 + sg.length + ints.length) + m := ⟨j - (1 + sg.length + ints.length), by omega⟩
      rw [← hlenHd, own_getD_r] at e
      rcases hfr with ⟨rfl, -⟩ | rfl
      · simp at hde; omega
      · cases m with
        | zero => rfl
        | succ m =>
          have hm : m < fs.length := by rw [hde] at hj; simp at hj; omega
          have e' : fs.getD m 0 = 46 := e
          exact absurd e' (own_dgt46 (hfs _ (own_getD_mem hm)))
  have hiff := own_pt_iff (bs := bs) (S := 1) (c := de - 1) (by omega) (fun j j' a1 a2 a3 a4 a5 a6 => (huniq j (by omega) a5).trans (huniq j' (by omega) a6).symm)
  rw [hpt] at hiff
  have hR : ∀ m, m < ints.length + fr.length → bs.getD (is + m) 0 = (ints ++ fr).getD m 0 := fun m hm => by
    have h2 : (55 :: (sg ++ ints ++ fr)) = (55 :: sg) ++ (ints ++ fr) := by simp
    rw [hP (is + m) (by omega), h2]
    have : is = ((55 : Int32) :: sg).length := by rw [his]; simp; omega
    rw [this]; exact own_getD_r m
  have hmem : ∀ x ∈ ints ++ fr, x = 46 ∨ (own_dgt x ∧ x ∈ ints ++ fs) := fun x hx => by
    rcases List.mem_append.mp hx with h | h
    · exact Or.inr ⟨hi x h, List.mem_append_left _ h⟩
    · rcases hfr with ⟨rfl, -⟩ | rfl
      · cases h
      · rcases List.mem_cons.mp h with rfl | h
        · exact Or.inl rfl
        · exact Or.inr ⟨hfs x h, List.mem_append_right _ h⟩
  have hdig : ∀ j, is ≤ j → j < is + (de - is) → Int32.ofNat j = pt ∨ own_dgt (bs.getD j 0) := fun j a1 a2 => by
    obtain ⟨m, rfl⟩ : ∃ m, j = is + m := ⟨j - is, by omega⟩
    have hm : m < ints.length + fr.length := by omega
    have hx := hmem _ (own_getD_mem (l := ints ++ fr) (j := m) (by simp [List.length_append]; omega))
    rw [← hR m hm] at hx
    exact hx.imp (fun e => (hiff _ (by omega) (by omega)).mpr e) (·.1)
  have z0 : (0 : Int64).toInt = 0 := by decide
  have hseven : (0 : Int) + 900000000000000000 * ((de - is : Nat) : Int) < 9223372036854775808 := by
    have h7 : de - is ≤ 7 := by omega
    omega
  rw [own_rd_nz (de - is) is 0 (0, 0, 0, 0) hdig ⟨⟨by rw [z0]; decide, by rw [z0]; decide⟩, by rw [z0]; decide, by rw [z0]; decide⟩ (hseven)]
  refine ⟨fun h => ?_, fun ⟨x, hx, hn⟩ => ?_⟩
  · rcases h with h | ⟨j, a1, a2, a3, a4⟩
    · exact absurd ⟨rfl, rfl, rfl, rfl⟩ h
    · obtain ⟨m, rfl⟩ : ∃ m, j = is + m := ⟨j - is, by omega⟩
      have hm : m < ints.length + fr.length := by omega
      have hx := hmem _ (own_getD_mem (l := ints ++ fr) (j := m) (by simp [List.length_append]; omega))
      rw [← hR m hm] at hx
      rcases hx with e | e
      · exact absurd ((hiff _ (by omega) (by omega)).mpr e) a3
      · exact ⟨_, e.2, a4⟩
  · have hx' : x ∈ ints ++ fr ∧ own_dgt x := by
      rcases List.mem_append.mp hx with h | h
      · exact ⟨List.mem_append_left _ h, hi x h⟩
      · rcases hfr with ⟨-, rfl⟩ | rfl
        · cases h
        · exact ⟨List.mem_append_right _ (List.mem_cons_of_mem _ h), hfs x h⟩
    obtain ⟨m, m1, m2⟩ := own_mem_getD hx'.1
    have hm : m < ints.length + fr.length := by simpa [List.length_append] using m1
    rw [← hR m hm] at m2
    refine Or.inr ⟨is + m, by omega, by omega, fun e => ?_, by rw [m2]; exact hn⟩
    have := (hiff _ (by omega) (by omega)).mp e
    rw [m2] at this
    exact own_dgt46 hx'.2 this
theorem own_i2b (x : Int32) : nar .byte x.toInt8.toInt32 = x.toInt8.toInt32 := by
  show x.toInt8.toInt32.toInt8.toInt32 = x.toInt8.toInt32
  rw [← Int32.toInt_inj]
  have a := c_i2b x; have b := c_i2b x.toInt8.toInt32
  omega
/-- a digit as a sign -/
def own_c (i : Int32) : Int32 := ((48 : Int32) + i).toInt8.toInt32
theorem own_cn (i : Int32) : nar .byte ((48 : Int32) + i).toInt8.toInt32 = own_c i := own_i2b _
def own_r9 (i : Int32) : Prop := 0 ≤ i.toInt ∧ i.toInt ≤ 9
theorem own_c_val {i : Int32} (h : own_r9 i) : (own_c i).toInt = 48 + i.toInt := by
  obtain ⟨h1, h2⟩ := h
  have a := c_iadd 48 i; have b := rng32 (48 + i); have c := c_i2b (48 + i)
  rw [own_t48] at a
  show (((48 : Int32) + i).toInt8.toInt32).toInt = _
  omega
theorem own_c_dgt {i : Int32} (h : own_r9 i) : own_dgt (own_c i) := by have := own_c_val h; obtain ⟨h1, h2⟩ := h; exact ⟨by omega, by omega⟩
theorem own_c_48 {i : Int32} (h : own_r9 i) : own_c i = 48 ↔ i = 0 := by
  rw [← Int32.toInt_inj, ← Int32.toInt_inj, own_c_val h, own_t48, i0_toInt]; omega
def own_o (q : Prop) [Decidable q] (x : Int32) : List Int32 := if q then [] else [x]
theorem own_oY {q : Prop} [Decidable q] {x : Int32} (h : q) : own_o q x = [] := if_pos h
theorem own_oN {q : Prop} [Decidable q] {x : Int32} (h : ¬ q) : own_o q x = [x] := if_neg h
def own_sg (ng : Int32) : List Int32 := if ng = 0 then [] else [45]
def own_ints (nI i0 i1 i2 : Int32) : List Int32 := [own_c i0] ++ own_o (nI < 2) (own_c i1) ++ own_o (nI < 3) (own_c i2)
def own_fs (nF f0 f1 f2 : Int32) : List Int32 := own_o (nF < 1) (own_c f0) ++ own_o (nF < 2) (own_c f1) ++ own_o (nF < 3) (own_c f2)
def own_f1 (nF f0 : Int32) : List Int32 := if nF < 1 then [] else [46, own_c f0]
def own_fr (nF f0 f1 f2 : Int32) : List Int32 := own_f1 nF f0 ++ own_o (nF < 2) (own_c f1) ++ own_o (nF < 3) (own_c f2)
/-- the text's head: all but the exponent -/
def own_PP (ng nI i0 i1 i2 nF f0 f1 f2 : Int32) : List Int32 := 55 :: (own_sg ng ++ own_ints nI i0 i1 i2 ++ own_fr nF f0 f1 f2)
theorem own_lt12 {n : Int32} (h : n < 1) : n < 2 ∧ n < 3 := by
  have t1 : (1 : Int32).toInt = 1 := by decide
  have t2 : (2 : Int32).toInt = 2 := by decide
  have t3 : (3 : Int32).toInt = 3 := by decide
  rw [Int32.lt_iff_toInt_lt, t1] at h
  rw [Int32.lt_iff_toInt_lt, Int32.lt_iff_toInt_lt, t2, t3]; omega
theorem own_hfr (nF f0 f1 f2 : Int32) : (own_fr nF f0 f1 f2 = [] ∧ own_fs nF f0 f1 f2 = []) ∨ own_fr nF f0 f1 f2 = 46 :: own_fs nF f0 f1 f2 := by
  by_cases h : nF < 1
  · obtain ⟨h2, h3⟩ := own_lt12 h
    exact Or.inl ⟨by rw [own_fr, own_f1, if_pos h, own_oY h2, own_oY h3]; rfl, by rw [own_fs, own_oY h, own_oY h2, own_oY h3]; rfl⟩
  · exact Or.inr (by rw [own_fr, own_fs, own_f1, if_neg h, own_oN h]; simp)
theorem own_o_len (q : Prop) [Decidable q] (x : Int32) : (own_o q x).length ≤ 1 := by unfold own_o; split <;> simp
theorem own_f1_len (nF f0 : Int32) : (own_f1 nF f0).length ≤ 2 := by unfold own_f1; split <;> simp
theorem own_sg_len (ng : Int32) : (own_sg ng).length ≤ 1 := by unfold own_sg; split <;> simp
theorem own_lens (nI i0 i1 i2 nF f0 f1 f2 : Int32) : (own_ints nI i0 i1 i2).length + (own_fr nF f0 f1 f2).length ≤ 7 := by
  have a := own_o_len (nI < 2) (own_c i1); have b := own_o_len (nI < 3) (own_c i2); have c := own_o_len (nF < 2) (own_c f1); have d := own_o_len (nF < 3) (own_c f2); have e := own_f1_len nF f0
  simp only [own_ints, own_fr, List.length_append, List.length_cons, List.length_nil]; omega
theorem own_o_all {q : Prop} [Decidable q] {x : Int32} {P : Int32 → Prop} (h : P x) : ∀ y ∈ own_o q x, P y := fun y hy => by
  unfold own_o at hy; split at hy
  · cases hy
  · rw [List.mem_singleton.mp hy]; exact h
theorem own_ints_all {nI i0 i1 i2 : Int32} (h0 : own_r9 i0) (h1 : own_r9 i1) (h2 : own_r9 i2) : ∀ x ∈ own_ints nI i0 i1 i2, own_dgt x := fun x hx => by
  rcases List.mem_append.mp hx with hx | hx
  · rcases List.mem_append.mp hx with hx | hx
    · rw [List.mem_singleton.mp hx]; exact own_c_dgt h0
    · exact own_o_all (own_c_dgt h1) x hx
  · exact own_o_all (own_c_dgt h2) x hx
theorem own_fs_all {nF f0 f1 f2 : Int32} (h0 : own_r9 f0) (h1 : own_r9 f1) (h2 : own_r9 f2) : ∀ x ∈ own_fs nF f0 f1 f2, own_dgt x := fun x hx => by
  rcases List.mem_append.mp hx with hx | hx
  · rcases List.mem_append.mp hx with hx | hx
    · exact own_o_all (own_c_dgt h0) x hx
    · exact own_o_all (own_c_dgt h1) x hx
  · exact own_o_all (own_c_dgt h2) x hx
/-- some digit isn't 0, as the law reckons it -/
def own_NZ (nI i0 i1 i2 nF f0 f1 f2 : Int32) : Prop := ¬ i0 = 0 ∨ (¬ nI < 2 ∧ ¬ i1 = 0) ∨ (¬ nI < 3 ∧ ¬ i2 = 0) ∨ (¬ nF < 1 ∧ ¬ f0 = 0) ∨ (¬ nF < 2 ∧ ¬ f1 = 0) ∨ (¬ nF < 3 ∧ ¬ f2 = 0)
theorem own_o_ex {q : Prop} [Decidable q] {i : Int32} (h : own_r9 i) : (∃ x ∈ own_o q (own_c i), ¬ x = 48) ↔ (¬ q ∧ ¬ i = 0) := by
  unfold own_o; split
  · rename_i hq; exact ⟨fun ⟨x, hx, _⟩ => (by cases hx), fun z => absurd hq z.1⟩
  · rename_i hq
    refine ⟨fun ⟨x, hx, hn⟩ => ⟨hq, fun z => ?_⟩, fun z => ⟨_, List.mem_singleton.mpr rfl, fun w => z.2 ((own_c_48 h).mp w)⟩⟩
    rw [List.mem_singleton.mp hx] at hn
    exact hn ((own_c_48 h).mpr z)
theorem own_ex_app {a b : List Int32} : (∃ x ∈ a ++ b, ¬ x = 48) ↔ (∃ x ∈ a, ¬ x = 48) ∨ (∃ x ∈ b, ¬ x = 48) := by
  constructor
  · rintro ⟨x, hx, hn⟩
    exact (List.mem_append.mp hx).imp (fun h => ⟨x, h, hn⟩) (fun h => ⟨x, h, hn⟩)
  · rintro (⟨x, hx, hn⟩ | ⟨x, hx, hn⟩)
    · exact ⟨x, List.mem_append_left _ hx, hn⟩
    · exact ⟨x, List.mem_append_right _ hx, hn⟩
theorem own_nz_iff {nI i0 i1 i2 nF f0 f1 f2 : Int32} (a0 : own_r9 i0) (a1 : own_r9 i1) (a2 : own_r9 i2) (b0 : own_r9 f0) (b1 : own_r9 f1) (b2 : own_r9 f2) : (∃ x ∈ own_ints nI i0 i1 i2 ++ own_fs nF f0 f1 f2, ¬ x = 48) ↔ own_NZ nI i0 i1 i2 nF f0 f1 f2 := by
  have h0 : (∃ x ∈ [own_c i0], ¬ x = 48) ↔ ¬ i0 = 0 := by
    refine ⟨fun ⟨x, hx, hn⟩ z => ?_, fun z => ⟨_, List.mem_singleton.mpr rfl, fun w => z ((own_c_48 a0).mp w)⟩⟩
    rw [List.mem_singleton.mp hx] at hn
    exact hn ((own_c_48 a0).mpr z)
  rw [own_ints, own_fs, own_ex_app, own_ex_app, own_ex_app, own_ex_app, own_ex_app, h0, own_o_ex a1, own_o_ex a2, own_o_ex b0, own_o_ex b1, own_o_ex b2, own_NZ]
  constructor
  · rintro (((h | h) | h) | ((h | h) | h))
    · exact Or.inl h
    · exact Or.inr (Or.inl h)
    · exact Or.inr (Or.inr (Or.inl h))
    · exact Or.inr (Or.inr (Or.inr (Or.inl h)))
    · exact Or.inr (Or.inr (Or.inr (Or.inr (Or.inl h))))
    · exact Or.inr (Or.inr (Or.inr (Or.inr (Or.inr h))))
  · rintro (h | h | h | h | h | h)
    · exact Or.inl (Or.inl (Or.inl h))
    · exact Or.inl (Or.inl (Or.inr h))
    · exact Or.inl (Or.inr h)
    · exact Or.inr (Or.inl (Or.inl h))
    · exact Or.inr (Or.inl (Or.inr h))
    · exact Or.inr (Or.inr h)
/-- the text's sixteen bytes -/
abbrev own_bs (pre : List Int32) : List Int32 := pre ++ List.replicate (16 - pre.length) 0
abbrev own_tx (pre : List Int32) : List Value := (own_bs pre).map Value.int
theorem own_tx_len {pre : List Int32} (h : pre.length ≤ 16) : (own_tx pre).length = 16 := by simp [own_tx, own_bs]; omega
theorem own_len1 (pre : List Int32) (x : Int32) : (pre ++ [x]).length = pre.length + 1 := by simp
theorem own_app (pre : List Int32) (x : Int32) (h : pre.length < 16) : (own_tx pre).set pre.length (.int x) = own_tx (pre ++ [x]) := by
  have e : 16 - pre.length = (16 - (pre.length + 1)) + 1 := by omega
  show ((pre ++ List.replicate (16 - pre.length) 0).map Value.int).set pre.length (.int x) = ((pre ++ [x]) ++ List.replicate (16 - (pre ++ [x]).length) 0).map Value.int
  rw [own_len1, e, List.replicate_succ]
  simp [List.set_append]
theorem own_16 {n : Nat} (h : n < 16) : Int32.ofNat n < 16 := (nat_lt (k := 16) (by omega) (by omega)).mpr h
theorem own_d_r9 (v j : Int32) : own_r9 (own_d v j) := by
  have t10 : (10 : Int32).toInt = 10 := by decide
  have t15 : (15 : Int32).toInt = 15 := by decide
  have a := c_and (v.toUInt32 >>> (((4 : Int32) * j) &&& 31).toUInt32).toInt32 15 (by decide)
  have b := (c_irem ((v.toUInt32 >>> (((4 : Int32) * j) &&& 31).toUInt32).toInt32 &&& 15) 10 10 t10).1 a.1
  have c : (own_d v j).toInt = ((v.toUInt32 >>> (((4 : Int32) * j) &&& 31).toUInt32).toInt32 &&& 15).toInt % 10 := b
  exact ⟨by rw [c]; omega, by rw [c]; omega⟩
theorem own_d_r9' (v j : Int32) : own_r9 (1 + own_d v j % 9) := by
  have t9 : (9 : Int32).toInt = 9 := by decide
  have t1 : (1 : Int32).toInt = 1 := by decide
  have a := own_d_r9 v j
  have b := (c_irem (own_d v j) 9 9 t9).1 a.1
  have c := c_iadd 1 (own_d v j % 9); have d := rng32 (1 + own_d v j % 9)
  rw [t1] at c
  obtain ⟨a1, a2⟩ := a
  refine ⟨?_, ?_⟩ <;> omega
/-- all about the text that read() asks -/
theorem own_facts {ng nI i0 i1 i2 nF f0 f1 f2 : Int32} {pre : List Int32} (a0 : own_r9 i0) (a1 : own_r9 i1) (a2 : own_r9 i2) (b0 : own_r9 f0) (b1 : own_r9 f1) (b2 : own_r9 f2) (hpre : pre = own_PP ng nI i0 i1 i2 nF f0 f1 f2 ∨ ∃ ec rs, (ec = 69 ∨ ec = 101) ∧ rs ≠ [] ∧ pre = own_PP ng nI i0 i1 i2 nF f0 f1 f2 ++ (ec :: rs)) {bs : List Int32} (hbs : bs = own_bs (pre ++ [57])) {de : Nat} (hde : de = (own_PP ng nI i0 i1 i2 nF f0 f1 f2).length) {ngf : Int32} (hng : (if bs.getD 1 0 = 45 then (1 : Int32) else 0) = ngf) {is : Nat} (his : (if ngf = 0 then 1 else 1 + 1) = is) :
    1 < de ∧ de ≤ pre.length ∧ (∀ i, 1 ≤ i → i < de → ¬ bs.getD i 0 = 101 ∧ ¬ bs.getD i 0 = 69) ∧ (de = pre.length ∨ (de + 1 < pre.length ∧ (bs.getD de 0 = 101 ∨ bs.getD de 0 = 69))) ∧ (ngf = 0 ↔ ng = 0) ∧
    ∀ (pt poe : Int32) (ex : Int64), own_ptc bs 1 (de - 1) = pt → (¬ own_zz (own_rd bs pt poe ex (de - is) is (0, 0, 0, 0)) ↔ own_NZ nI i0 i1 i2 nF f0 f1 f2) := by
  have hI := own_ints_all (nI := nI) a0 a1 a2
  have hF := own_fs_all (nF := nF) b0 b1 b2
  have hfr := own_hfr nF f0 f1 f2
  have hL := own_lens nI i0 i1 i2 nF f0 f1 f2
  have hsl := own_sg_len ng
  have hI1 : 1 ≤ (own_ints nI i0 i1 i2).length := by simp [own_ints]
  have hdl : de = 1 + (own_sg ng).length + (own_ints nI i0 i1 i2).length + (own_fr nF f0 f1 f2).length := by rw [hde, own_PP]; simp only [List.length_cons, List.length_append]; omega
  obtain ⟨tl, htl, hpl, hcase⟩ : ∃ tl, bs = own_PP ng nI i0 i1 i2 nF f0 f1 f2 ++ tl ∧ de ≤ pre.length ∧ (de = pre.length ∨ (de + 1 < pre.length ∧ (bs.getD de 0 = 101 ∨ bs.getD de 0 = 69))) := by
    rcases hpre with h | ⟨ec, rs, hec, hrs, h⟩
    · exact ⟨[57] ++ List.replicate (16 - (pre ++ [57]).length) 0, by rw [hbs, own_bs, h, List.append_assoc], by rw [hde, h]; exact Nat.le_refl _, Or.inl (by rw [hde, h])⟩
    · have hr : 1 ≤ rs.length := List.length_pos_iff.mpr hrs
      have hpl : pre.length = de + 1 + rs.length := by rw [h, List.length_append, List.length_cons, hde]; omega
      have e : bs = own_PP ng nI i0 i1 i2 nF f0 f1 f2 ++ (ec :: (rs ++ ([57] ++ List.replicate (16 - (pre ++ [57]).length) 0))) := by
        rw [hbs, own_bs]; generalize (16 - (pre ++ [57]).length) = z; rw [h]; simp
      have g : bs.getD de 0 = ec := by
        have g' := own_getD_r (a := own_PP ng nI i0 i1 i2 nF f0 f1 f2) (b := ec :: (rs ++ ([57] ++ List.replicate (16 - (pre ++ [57]).length) 0))) 0
        rw [Nat.add_zero, ← hde, ← e] at g'
        exact g'
      exact ⟨_, e, by omega, Or.inr ⟨by omega, by rw [g]; exact hec.symm⟩⟩
  have hx1 : ∀ x ∈ own_sg ng, x = 45 := fun x hx => by
    unfold own_sg at hx; split at hx
    · cases hx
    · exact List.mem_singleton.mp hx
  have hall : ∀ x ∈ own_PP ng nI i0 i1 i2 nF f0 f1 f2, x = 55 ∨ x = 45 ∨ x = 46 ∨ own_dgt x := fun x hx => by
    rcases List.mem_cons.mp hx with h | h
    · exact Or.inl h
    · rcases List.mem_append.mp h with h | h
      · rcases List.mem_append.mp h with h | h
        · exact Or.inr (Or.inl (hx1 x h))
        · exact Or.inr (Or.inr (Or.inr (hI x h)))
      · rcases hfr with ⟨e, -⟩ | e
        · rw [e] at h; cases h
        · rw [e] at h
          rcases List.mem_cons.mp h with h | h
          · exact Or.inr (Or.inr (Or.inl h))
          · exact Or.inr (Or.inr (Or.inr (hF x h)))
  have t101 : (101 : Int32).toInt = 101 := by decide
  have t69 : (69 : Int32).toInt = 69 := by decide
  have t45 : (45 : Int32).toInt = 45 := by decide
  have h1 : bs.getD 1 0 = (own_sg ng ++ own_ints nI i0 i1 i2).getD 0 0 := by
    rw [htl, own_getD_l (by rw [← hde]; omega)]
    show (own_sg ng ++ own_ints nI i0 i1 i2 ++ own_fr nF f0 f1 f2).getD 0 0 = _
    exact own_getD_l (by rw [List.length_append]; omega)
  have hngf : (ngf = 0 ∧ ng = 0) ∨ (ngf = 1 ∧ ¬ ng = 0) := by
    by_cases hz : ng = 0
    · have : bs.getD 1 0 = own_c i0 := by rw [h1, own_sg, if_pos hz]; rfl
      refine Or.inl ⟨?_, hz⟩
      rw [← hng, if_neg]
      rw [this]
      intro q
      have := own_c_val a0; have := a0.1
      rw [q, t45] at *
      omega
    · have : bs.getD 1 0 = 45 := by rw [h1, own_sg, if_neg hz]; rfl
      exact Or.inr ⟨by rw [← hng, if_pos this], hz⟩
  have hng' : ngf = 0 ↔ ng = 0 := by
    rcases hngf with ⟨q1, q2⟩ | ⟨q1, q2⟩
    · exact ⟨fun _ => q2, fun _ => q1⟩
    · exact ⟨fun z => absurd (q1.symm.trans z) (by decide), fun z => absurd z q2⟩
  have his' : is = 1 + (own_sg ng).length := by
    by_cases hz : ng = 0
    · rw [← his, if_pos (hng'.mpr hz), own_sg, if_pos hz]; rfl
    · rw [← his, if_neg (fun z => hz (hng'.mp z)), own_sg, if_neg hz]; rfl
  refine ⟨by omega, hpl, fun i q1 q2 => ?_, hcase, hng', fun pt poe ex hpt => ?_⟩
  · have hm := hall _ (own_getD_mem (l := own_PP ng nI i0 i1 i2 nF f0 f1 f2) (j := i) (by omega))
    rw [← own_getD_l (b := tl) (by omega), ← htl] at hm
    generalize bs.getD i 0 = y at hm
    rcases hm with rfl | rfl | rfl | ⟨m1, m2⟩
    · exact ⟨by decide, by decide⟩
    · exact ⟨by decide, by decide⟩
    · exact ⟨by decide, by decide⟩
    · exact ⟨fun z => by rw [z, t101] at m2; omega, fun z => by rw [z, t69] at m2; omega⟩
  · rw [own_text (sg := own_sg ng) (ints := own_ints nI i0 i1 i2) (fs := own_fs nF f0 f1 f2) (fr := own_fr nF f0 f1 f2) (tl := tl) (fun x hx => by rw [hx1 x hx]; decide) hI hF hfr htl his' hdl hL hsl hpt]
    exact own_nz_iff a0 a1 a2 b0 b1 b2
set_option maxRecDepth 65536 in
set_option maxHeartbeats 40000000 in
theorem rm0 (l : Launch) (Z : State) (a0 : Array Value) (hw : ∀ d ∈ tables_1, d.before a0 Z = true) (ws : List Jvm.Cond) (sh wo fr xp : Int32) (pw : Addr) (kp : ClassId) (h0 : Heap) (SP : Sta Z h0 "com/example/portion/portion/quota/BoundedNumber" "POWERS_OF_TEN" "[J" (.ref pw)) (VP : Arv Z h0 pw kp .long 18 (own_pows.map Value.long) (.long 0)) :
    Con l Z x code maxLocals ret ws room_1 #[.int sh, .int wo, .int fr, .int xp] h0 (fun v _ L => v = some (.int 1) ∧ Fr h0.size L) := by
  refine con_of (plainFor_of_name pn_0) ?_
  intro p e s m below meth c T0 X0 hx hZ hby hml hown hret hnm hlk e0
  refine Endz.eq (ef_0 m sh wo fr xp) ?_
  have tail166 : ∀ (T1 : State) (X1 : Stand p l e room_1 s m #[.int sh, .int wo, .int fr, .int xp] below meth c T1 [] 0 0) (e1 : T1.heap = h0) (ng nI nF hE bE eS nE i0 i1 i2 f0 f1 f2 e0' e1' e2' : Int32), own_r9 i0 → own_r9 i1 → own_r9 i2 → own_r9 f0 → own_r9 f1 → own_r9 f2 → Endz p.tables e below (Finz s room_1 (fun v _ L => v = some (.int 1) ∧ Fr h0.size L)) T1 (mkF m 166 #[.val (.int sh), .val (.int wo), .val (.int fr), .val (.int xp), .val (.int ng), .val (.int nI), .val (.int nF), .val (.int hE), .val (.int bE), .val (.int eS), .val (.int nE), .val (.int i0), .val (.int i1), .val (.int i2), .val (.int f0), .val (.int f1), .val (.int f2), .val (.int e0'), .val (.int e1'), .val (.int e2'), .unset, .unset, .unset, .unset, .unset, .unset] []) := by
    intro T1 X1 e1 ng nI nF hE bE eS nE i0 i1 i2 f0 f1 f2 e0' e1' e2' a0' a1 a2 b0 b1 b2
    refine w_bipush (z := (16 : Int32)) (n := 168) X1.here hx (hb hby at_166) rfl rfl ?_
    refine n_P (n := 170) X1 hx hZ (hw _ (List.mem_of_getElem? (i := 4) rfl)) e1 (hb hby at_168) rfl (by decide) 16 (by decide) (by decide) (by decide) (by decide) (fun T2 h2 kt tx gtx X2 e2 E2 VB => ?_)
    have htx : h0.size ≤ tx := Nat.le_of_eq gtx.symm
    have V2 : Arv Z h2 tx kt .byte 16 (own_tx []) (.int 0) := pad0 VB 16
    have t432 : ∀ (pre : List Int32) (T : State) (h : Heap) (locs : List Loc) (X : Stand p l e room_1 s m #[.int sh, .int wo, .int fr, .int xp] below meth c T locs 1 16) (eT : T.heap = h) (EX : Ext h0 h) (N : Fr h0.size locs) (V : Arv Z h tx kt .byte 16 (own_tx pre) (.int 0)) (hl : pre.length ≤ 15) (hp : pre = own_PP ng nI i0 i1 i2 nF f0 f1 f2 ∨ ∃ ec rs, (ec = 69 ∨ ec = 101) ∧ rs ≠ [] ∧ pre = own_PP ng nI i0 i1 i2 nF f0 f1 f2 ++ (ec :: rs)), Endz p.tables e below (Finz s room_1 (fun v _ L => v = some (.int 1) ∧ Fr h0.size L)) T (mkF m 432 #[.val (.int sh), .val (.int wo), .val (.int fr), .val (.int xp), .val (.int ng), .val (.int nI), .val (.int nF), .val (.int hE), .val (.int bE), .val (.int eS), .val (.int nE), .val (.int i0), .val (.int i1), .val (.int i2), .val (.int f0), .val (.int f1), .val (.int f2), .val (.int e0'), .val (.int e1'), .val (.int e2'), .val (.ref tx), .val (.int (Int32.ofNat pre.length)), .unset, .unset, .unset, .unset] []) := by
      intro pre T h locs X eT EX N V hl hp
      refine w_iload (n := 434) X.here hx (hb hby at_432) rfl rfl ?_
      refine w_istore (Ls' := #[.val (.int sh), .val (.int wo), .val (.int fr), .val (.int xp), .val (.int ng), .val (.int nI), .val (.int nF), .val (.int hE), .val (.int bE), .val (.int eS), .val (.int nE), .val (.int i0), .val (.int i1), .val (.int i2), .val (.int f0), .val (.int f1), .val (.int f2), .val (.int e0'), .val (.int e1'), .val (.int e2'), .val (.ref tx), .val (.int (Int32.ofNat pre.length)), .val (.int (Int32.ofNat pre.length)), .unset, .unset, .unset]) (n := 436) X.here hx (hb hby at_434) rfl rfl ?_
      refine w_aload (n := 438) X.here hx (hb hby at_436) rfl rfl rfl ?_
      refine w_iload (n := 440) X.here hx (hb hby at_438) rfl rfl ?_
      refine w_bipush (z := (57 : Int32)) (n := 442) X.here hx (hb hby at_440) rfl rfl ?_
      refine s_B (n := 443) X hx hZ eT V pre.length (nat_clamp (Nat.lt_trans (show pre.length < 16 by omega) (by decide))) (by rw [own_tx_len (Nat.le_of_lt (show pre.length < 16 by omega))]; exact (show pre.length < 16 by omega)) (nat_nn (Nat.lt_trans (show pre.length < 16 by omega) (by decide))) (own_16 (show pre.length < 16 by omega)) (hb hby at_442) rfl (fun T3 h3 X3 e3 W3 V3 => ?_)
      rw [show nar .byte (57 : Int32) = 57 by decide, own_app pre (57) (show pre.length < 16 by omega)] at V3
      have E3 := Ext.wr EX W3 htx
      have N3 := Fr.snoc X3 N htx
      refine n_O (n := 446) X3 hx hZ hown (hw _ (List.mem_of_getElem? (i := 5) rfl)) (hw _ (List.mem_of_getElem? (i := 6) rfl)) (hw _ (List.mem_of_getElem? (i := 7) rfl)) e3 (hb hby at_443) rfl (by decide) (by decide) (fun T4 h4 na gna X4 e4 EE4 A4 D4 _ => ?_)
      have hna : h3.size ≤ na := Nat.le_of_eq gna.symm
      have hna0 : h0.size ≤ na := Nat.le_trans E3.1 hna
      have NM : own_Num Z h4 na 0 0 0 0 0 := ⟨A4, D4 (Or.inl (hw _ (List.mem_of_getElem? (i := 20) rfl))) (ty := .boolean) (by decide), D4 (Or.inl (hw _ (List.mem_of_getElem? (i := 22) rfl))) (ty := .long) (by decide), D4 (Or.inl (hw _ (List.mem_of_getElem? (i := 24) rfl))) (ty := .long) (by decide), D4 (Or.inl (hw _ (List.mem_of_getElem? (i := 26) rfl))) (ty := .boolean) (by decide), D4 (Or.inl (hw _ (List.mem_of_getElem? (i := 28) rfl))) (ty := .boolean) (by decide)⟩
      have EX2 : Ext h0 h4 := Ext.tr E3 EE4
      obtain ⟨bs, hbs⟩ : ∃ q, q = own_bs (pre ++ [57]) := ⟨_, rfl⟩
      obtain ⟨de, hde⟩ : ∃ q, q = (own_PP ng nI i0 i1 i2 nF f0 f1 f2).length := ⟨_, rfl⟩
      obtain ⟨ngf, hngf⟩ : ∃ q, (if bs.getD 1 0 = 45 then (1 : Int32) else 0) = q := ⟨_, rfl⟩
      obtain ⟨is, his⟩ : ∃ q, (if ngf = 0 then 1 else 1 + 1) = q := ⟨_, rfl⟩
      obtain ⟨pt, hpt⟩ : ∃ q, own_ptc bs 1 (de - 1) = q := ⟨_, rfl⟩
      obtain ⟨poe, hpoe⟩ : ∃ q, (if ¬ pt < 0 then pt else Int32.ofNat de) = q := ⟨_, rfl⟩
      obtain ⟨g1, g2, g3, g4, g5, g6⟩ := own_facts a0' a1 a2 b0 b1 b2 hp hbs hde hngf his
      have RI : own_RI Z h4 na tx pw kt kp 16 bs h4 0 0 0 0 0 := by
        rw [hbs]; exact ⟨Keep.refl _ _, V3.ext EE4, SP.ext EX2, VP.ext EX2, NM⟩
      have n1 : tx ≠ na := Nat.ne_of_lt (Nat.lt_of_lt_of_le V3.lt hna)
      have n2 : pw ≠ na := Nat.ne_of_lt (Nat.lt_of_lt_of_le (VP.ext E3).lt hna)
      refine w_dup (n := 447) X4.here hx (hb hby at_446) rfl rfl ?_
      refine c_N (n := 450) (argsL := []) (rest := [.ref na]) X4 hx hZ rfl hown (rmi l Z a0 hw [] na h4) e4 (hw _ (List.mem_of_getElem? (i := 8) rfl)) (hw _ (List.mem_of_getElem? (i := 9) rfl)) (hw _ (List.mem_of_getElem? (i := 7) rfl)) (hw _ (List.mem_of_getElem? (i := 10) rfl)) (by decide) 1 (by decide) (by decide) (by decide) (by decide) (by rw [hml]; rfl) pd_2 rfl rfl (Nat.le_of_ble_eq_true rfl) (hb hby at_447) rfl (fun v5 T5 L5 X5 hQ5 => ?_)
      obtain ⟨rfl, e5, rfl⟩ := hQ5
      show Endz _ _ _ _ T5 (mkF m 450 #[.val (.int sh), .val (.int wo), .val (.int fr), .val (.int xp), .val (.int ng), .val (.int nI), .val (.int nF), .val (.int hE), .val (.int bE), .val (.int eS), .val (.int nE), .val (.int i0), .val (.int i1), .val (.int i2), .val (.int f0), .val (.int f1), .val (.int f2), .val (.int e0'), .val (.int e1'), .val (.int e2'), .val (.ref tx), .val (.int (Int32.ofNat pre.length)), .val (.int (Int32.ofNat pre.length)), .unset, .unset, .unset] [(.ref na)])
      refine w_astore (Ls' := #[.val (.int sh), .val (.int wo), .val (.int fr), .val (.int xp), .val (.int ng), .val (.int nI), .val (.int nF), .val (.int hE), .val (.int bE), .val (.int eS), .val (.int nE), .val (.int i0), .val (.int i1), .val (.int i2), .val (.int f0), .val (.int f1), .val (.int f2), .val (.int e0'), .val (.int e1'), .val (.int e2'), .val (.ref tx), .val (.int (Int32.ofNat pre.length)), .val (.int (Int32.ofNat pre.length)), .val (.ref na), .unset, .unset]) (n := 452) X5.here hx (hb hby at_450) rfl rfl rfl ?_
      refine w_aload (n := 454) X5.here hx (hb hby at_452) rfl rfl rfl ?_
      refine w_aload (n := 456) X5.here hx (hb hby at_454) rfl rfl rfl ?_
      refine w_iconst (z := (1 : Int32)) (n := 457) X5.here hx (hb hby at_456) rfl rfl ?_
      refine w_iload (n := 459) X5.here hx (hb hby at_457) rfl rfl ?_
      refine c_V (n := 462) (argsL := [.ref tx, .int (Int32.ofNat 1), .int (Int32.ofNat pre.length)]) (rest := []) X5 hx hZ hown (rmr l Z a0 hw [] na tx pw kt kp 16 bs 1 pre.length 16 h0.size de is 0 ngf 0 0 0 0 pt poe h4 RI n1 n2 hna0 rfl (by decide) g1 g2 (by omega) hngf g3 g4 hpt hpoe his) e5 A4 (hw _ (List.mem_of_getElem? (i := 14) rfl)) (hw _ (List.mem_of_getElem? (i := 15) rfl)) (notFace_of_selects (args := #[]) (mvT hZ (hw _ (List.mem_of_getElem? (i := 17) rfl)))) (hw _ (List.mem_of_getElem? (i := 17) rfl)) (hw _ (List.mem_of_getElem? (i := 16) rfl)) (hw _ (List.mem_of_getElem? (i := 7) rfl)) (hw _ (List.mem_of_getElem? (i := 18) rfl)) (by decide) 0 (by decide) (by decide) (by decide) (by decide) (by rw [hml]; rfl) pd_3 rfl rfl (Nat.le_of_ble_eq_true rfl) (hb hby at_459) rfl (fun v6 T6 L6 X6 hQ6 => ?_)
      obtain ⟨rfl, NR, ex, σ, hσ, RF⟩ := hQ6
      show Endz _ _ _ _ T6 (mkF m 462 #[.val (.int sh), .val (.int wo), .val (.int fr), .val (.int xp), .val (.int ng), .val (.int nI), .val (.int nF), .val (.int hE), .val (.int bE), .val (.int eS), .val (.int nE), .val (.int i0), .val (.int i1), .val (.int i2), .val (.int f0), .val (.int f1), .val (.int f2), .val (.int e0'), .val (.int e1'), .val (.int e2'), .val (.ref tx), .val (.int (Int32.ofNat pre.length)), .val (.int (Int32.ofNat pre.length)), .val (.ref na), .unset, .unset] [])
      have NF := Fr.app (Fr.app N3 (Fr.nil h0.size)) NR
      have hnz := g6 pt poe ex hpt
      rw [hσ] at hnz
      have t548 : ∀ (zz xe : Int32), own_sn ngf σ.1 σ.2.1 σ.2.2.1 σ.2.2.2 = xe → Endz p.tables e below (Finz s room_1 (fun v _ L => v = some (.int 1) ∧ Fr h0.size L)) T6 (mkF m 548 #[.val (.int sh), .val (.int wo), .val (.int fr), .val (.int xp), .val (.int ng), .val (.int nI), .val (.int nF), .val (.int hE), .val (.int bE), .val (.int eS), .val (.int nE), .val (.int i0), .val (.int i1), .val (.int i2), .val (.int f0), .val (.int f1), .val (.int f2), .val (.int e0'), .val (.int e1'), .val (.int e2'), .val (.ref tx), .val (.int (Int32.ofNat pre.length)), .val (.int (Int32.ofNat pre.length)), .val (.ref na), .val (.int zz), .unset] [(.int xe)]) := by
        intro zz xe hxe
        refine w_istore (Ls' := #[.val (.int sh), .val (.int wo), .val (.int fr), .val (.int xp), .val (.int ng), .val (.int nI), .val (.int nF), .val (.int hE), .val (.int bE), .val (.int eS), .val (.int nE), .val (.int i0), .val (.int i1), .val (.int i2), .val (.int f0), .val (.int f1), .val (.int f2), .val (.int e0'), .val (.int e1'), .val (.int e2'), .val (.ref tx), .val (.int (Int32.ofNat pre.length)), .val (.int (Int32.ofNat pre.length)), .val (.ref na), .val (.int zz), .val (.int xe)]) (n := 550) X6.here hx (hb hby at_548) rfl rfl ?_
        refine w_aload (n := 552) X6.here hx (hb hby at_550) rfl rfl rfl ?_
        refine c_V (n := 555) (argsL := []) (rest := []) X6 hx hZ hown (rms l Z a0 hw [] na ngf σ.1 σ.2.1 σ.2.2.1 σ.2.2.2 _ RF.2.2.2.2) rfl RF.2.2.2.2.1 (hw _ (List.mem_of_getElem? (i := 32) rfl)) (hw _ (List.mem_of_getElem? (i := 33) rfl)) (notFace_of_selects (args := #[]) (mvT hZ (hw _ (List.mem_of_getElem? (i := 35) rfl)))) (hw _ (List.mem_of_getElem? (i := 35) rfl)) (hw _ (List.mem_of_getElem? (i := 34) rfl)) (hw _ (List.mem_of_getElem? (i := 7) rfl)) (hw _ (List.mem_of_getElem? (i := 36) rfl)) (by decide) 0 (by decide) (by decide) (by decide) (by decide) (by rw [hml]; rfl) pd_4 rfl rfl (Nat.le_of_ble_eq_true rfl) (hb hby at_552) rfl (fun v7 T7 L7 X7 hQ7 => ?_)
        obtain ⟨rfl, e7, rfl⟩ := hQ7
        rw [hxe]
        show Endz _ _ _ _ T7 (mkF m 555 #[.val (.int sh), .val (.int wo), .val (.int fr), .val (.int xp), .val (.int ng), .val (.int nI), .val (.int nF), .val (.int hE), .val (.int bE), .val (.int eS), .val (.int nE), .val (.int i0), .val (.int i1), .val (.int i2), .val (.int f0), .val (.int f1), .val (.int f2), .val (.int e0'), .val (.int e1'), .val (.int e2'), .val (.ref tx), .val (.int (Int32.ofNat pre.length)), .val (.int (Int32.ofNat pre.length)), .val (.ref na), .val (.int zz), .val (.int xe)] [(.int xe)])
        refine w_iload (n := 557) X7.here hx (hb hby at_555) rfl rfl ?_
        refine w_icmpne (n1 := 564) (n2 := 560) X7.here hx (hb hby at_557) (by decide) (by decide) rfl (fun hc557 => absurd rfl hc557) (fun hc557 => ?_)
        refine w_iconst (z := (1 : Int32)) (n := 561) X7.here hx (hb hby at_560) rfl rfl ?_
        refine w_goto (n := 565) X7.here hx (hb hby at_561) (by decide) (by decide) ?_
        exact fin_Z X7 hx hlk e7 hret (Or.inl rfl) (hb hby at_565) (by decide) (by decide) ⟨rfl, Fr.app NF (Fr.nil h0.size)⟩
      have tY : own_NZ nI i0 i1 i2 nF f0 f1 f2 → Endz p.tables e below (Finz s room_1 (fun v _ L => v = some (.int 1) ∧ Fr h0.size L)) T6 (mkF m 522 #[.val (.int sh), .val (.int wo), .val (.int fr), .val (.int xp), .val (.int ng), .val (.int nI), .val (.int nF), .val (.int hE), .val (.int bE), .val (.int eS), .val (.int nE), .val (.int i0), .val (.int i1), .val (.int i2), .val (.int f0), .val (.int f1), .val (.int f2), .val (.int e0'), .val (.int e1'), .val (.int e2'), .val (.ref tx), .val (.int (Int32.ofNat pre.length)), .val (.int (Int32.ofNat pre.length)), .val (.ref na), .unset, .unset] []) := by
        intro hh
        refine w_iconst (z := (1 : Int32)) (n := 523) X6.here hx (hb hby at_522) rfl rfl ?_
        refine w_goto (n := 527) X6.here hx (hb hby at_523) (by decide) (by decide) ?_
        refine w_istore (Ls' := #[.val (.int sh), .val (.int wo), .val (.int fr), .val (.int xp), .val (.int ng), .val (.int nI), .val (.int nF), .val (.int hE), .val (.int bE), .val (.int eS), .val (.int nE), .val (.int i0), .val (.int i1), .val (.int i2), .val (.int f0), .val (.int f1), .val (.int f2), .val (.int e0'), .val (.int e1'), .val (.int e2'), .val (.ref tx), .val (.int (Int32.ofNat pre.length)), .val (.int (Int32.ofNat pre.length)), .val (.ref na), .val (.int (1 : Int32)), .unset]) (n := 529) X6.here hx (hb hby at_527) rfl rfl ?_
        refine w_iload (n := 531) X6.here hx (hb hby at_529) rfl rfl ?_
        have hz : ¬ own_z σ.1 σ.2.1 σ.2.2.1 σ.2.2.2 := hnz.mpr hh
        refine w_ifeq (n1 := 547) (n2 := 534) X6.here hx (hb hby at_531) (by decide) (by decide) rfl (fun hc531 => absurd hc531 (by decide)) (fun hc531 => ?_)
        refine w_iload (n := 536) X6.here hx (hb hby at_534) rfl rfl ?_
        refine w_ifeq (n1 := 543) (n2 := 539) X6.here hx (hb hby at_536) (by decide) (by decide) rfl (fun hc536 => ?_) (fun hc536 => ?_)
        · refine w_iconst (z := (1 : Int32)) (n := 544) X6.here hx (hb hby at_543) rfl rfl ?_
          refine w_goto (n := 548) X6.here hx (hb hby at_544) (by decide) (by decide) ?_
          exact t548 _ _ (by rw [own_sn, if_neg hz, if_pos (g5.mpr hc536)])
        · refine w_iconst (z := (-1 : Int32)) (n := 540) X6.here hx (hb hby at_539) rfl rfl ?_
          refine w_goto (n := 548) X6.here hx (hb hby at_540) (by decide) (by decide) ?_
          exact t548 _ _ (by rw [own_sn, if_neg hz, if_neg (fun q => hc536 (g5.mp q))])
      have tN : ¬ own_NZ nI i0 i1 i2 nF f0 f1 f2 → Endz p.tables e below (Finz s room_1 (fun v _ L => v = some (.int 1) ∧ Fr h0.size L)) T6 (mkF m 526 #[.val (.int sh), .val (.int wo), .val (.int fr), .val (.int xp), .val (.int ng), .val (.int nI), .val (.int nF), .val (.int hE), .val (.int bE), .val (.int eS), .val (.int nE), .val (.int i0), .val (.int i1), .val (.int i2), .val (.int f0), .val (.int f1), .val (.int f2), .val (.int e0'), .val (.int e1'), .val (.int e2'), .val (.ref tx), .val (.int (Int32.ofNat pre.length)), .val (.int (Int32.ofNat pre.length)), .val (.ref na), .unset, .unset] []) := by
        intro hh
        refine w_iconst (z := (0 : Int32)) (n := 527) X6.here hx (hb hby at_526) rfl rfl ?_
        refine w_istore (Ls' := #[.val (.int sh), .val (.int wo), .val (.int fr), .val (.int xp), .val (.int ng), .val (.int nI), .val (.int nF), .val (.int hE), .val (.int bE), .val (.int eS), .val (.int nE), .val (.int i0), .val (.int i1), .val (.int i2), .val (.int f0), .val (.int f1), .val (.int f2), .val (.int e0'), .val (.int e1'), .val (.int e2'), .val (.ref tx), .val (.int (Int32.ofNat pre.length)), .val (.int (Int32.ofNat pre.length)), .val (.ref na), .val (.int (0 : Int32)), .unset]) (n := 529) X6.here hx (hb hby at_527) rfl rfl ?_
        refine w_iload (n := 531) X6.here hx (hb hby at_529) rfl rfl ?_
        have hz : own_z σ.1 σ.2.1 σ.2.2.1 σ.2.2.2 := Classical.not_not.mp (fun q => hh (hnz.mp q))
        refine w_ifeq (n1 := 547) (n2 := 534) X6.here hx (hb hby at_531) (by decide) (by decide) rfl (fun hc531 => ?_) (fun hc531 => absurd rfl hc531)
        refine w_iconst (z := (0 : Int32)) (n := 548) X6.here hx (hb hby at_547) rfl rfl ?_
        exact t548 _ _ (by rw [own_sn, if_pos hz])
      have c5 : ¬ (¬ i0 = 0) → ¬ (¬ nI < 2 ∧ ¬ i1 = 0) → ¬ (¬ nI < 3 ∧ ¬ i2 = 0) → ¬ (¬ nF < 1 ∧ ¬ f0 = 0) → ¬ (¬ nF < 2 ∧ ¬ f1 = 0) → Endz p.tables e below (Finz s room_1 (fun v _ L => v = some (.int 1) ∧ Fr h0.size L)) T6 (mkF m 511 #[.val (.int sh), .val (.int wo), .val (.int fr), .val (.int xp), .val (.int ng), .val (.int nI), .val (.int nF), .val (.int hE), .val (.int bE), .val (.int eS), .val (.int nE), .val (.int i0), .val (.int i1), .val (.int i2), .val (.int f0), .val (.int f1), .val (.int f2), .val (.int e0'), .val (.int e1'), .val (.int e2'), .val (.ref tx), .val (.int (Int32.ofNat pre.length)), .val (.int (Int32.ofNat pre.length)), .val (.ref na), .unset, .unset] []) := by
        intro m0 m1 m2 m3 m4
        refine w_iload (n := 513) X6.here hx (hb hby at_511) rfl rfl ?_
        refine w_iconst (z := (3 : Int32)) (n := 514) X6.here hx (hb hby at_513) rfl rfl ?_
        refine w_icmplt (n1 := 526) (n2 := 517) X6.here hx (hb hby at_514) (by decide) (by decide) rfl (fun hc514 => ?_) (fun hc514 => ?_)
        · exact tN (fun q => q.elim m0 (fun q => q.elim m1 (fun q => q.elim m2 (fun q => q.elim m3 (fun q => q.elim m4 (fun z => z.1 hc514))))))
        · refine w_iload (n := 519) X6.here hx (hb hby at_517) rfl rfl ?_
          refine w_ifeq (n1 := 526) (n2 := 522) X6.here hx (hb hby at_519) (by decide) (by decide) rfl (fun hc519 => ?_) (fun hc519 => ?_)
          · exact tN (fun q => q.elim m0 (fun q => q.elim m1 (fun q => q.elim m2 (fun q => q.elim m3 (fun q => q.elim m4 (fun z => z.2 hc519))))))
          · exact tY (Or.inr (Or.inr (Or.inr (Or.inr (Or.inr (⟨hc514, hc519⟩))))))
      have c4 : ¬ (¬ i0 = 0) → ¬ (¬ nI < 2 ∧ ¬ i1 = 0) → ¬ (¬ nI < 3 ∧ ¬ i2 = 0) → ¬ (¬ nF < 1 ∧ ¬ f0 = 0) → Endz p.tables e below (Finz s room_1 (fun v _ L => v = some (.int 1) ∧ Fr h0.size L)) T6 (mkF m 500 #[.val (.int sh), .val (.int wo), .val (.int fr), .val (.int xp), .val (.int ng), .val (.int nI), .val (.int nF), .val (.int hE), .val (.int bE), .val (.int eS), .val (.int nE), .val (.int i0), .val (.int i1), .val (.int i2), .val (.int f0), .val (.int f1), .val (.int f2), .val (.int e0'), .val (.int e1'), .val (.int e2'), .val (.ref tx), .val (.int (Int32.ofNat pre.length)), .val (.int (Int32.ofNat pre.length)), .val (.ref na), .unset, .unset] []) := by
        intro m0 m1 m2 m3
        refine w_iload (n := 502) X6.here hx (hb hby at_500) rfl rfl ?_
        refine w_iconst (z := (2 : Int32)) (n := 503) X6.here hx (hb hby at_502) rfl rfl ?_
        refine w_icmplt (n1 := 511) (n2 := 506) X6.here hx (hb hby at_503) (by decide) (by decide) rfl (fun hc503 => ?_) (fun hc503 => ?_)
        · exact c5 m0 m1 m2 m3 (fun z => z.1 hc503)
        · refine w_iload (n := 508) X6.here hx (hb hby at_506) rfl rfl ?_
          refine w_ifne (n1 := 522) (n2 := 511) X6.here hx (hb hby at_508) (by decide) (by decide) rfl (fun hc508 => ?_) (fun hc508 => ?_)
          · exact tY (Or.inr (Or.inr (Or.inr (Or.inr (Or.inl (⟨hc503, hc508⟩))))))
          · exact c5 m0 m1 m2 m3 (fun z => hc508 z.2)
      have c3 : ¬ (¬ i0 = 0) → ¬ (¬ nI < 2 ∧ ¬ i1 = 0) → ¬ (¬ nI < 3 ∧ ¬ i2 = 0) → Endz p.tables e below (Finz s room_1 (fun v _ L => v = some (.int 1) ∧ Fr h0.size L)) T6 (mkF m 489 #[.val (.int sh), .val (.int wo), .val (.int fr), .val (.int xp), .val (.int ng), .val (.int nI), .val (.int nF), .val (.int hE), .val (.int bE), .val (.int eS), .val (.int nE), .val (.int i0), .val (.int i1), .val (.int i2), .val (.int f0), .val (.int f1), .val (.int f2), .val (.int e0'), .val (.int e1'), .val (.int e2'), .val (.ref tx), .val (.int (Int32.ofNat pre.length)), .val (.int (Int32.ofNat pre.length)), .val (.ref na), .unset, .unset] []) := by
        intro m0 m1 m2
        refine w_iload (n := 491) X6.here hx (hb hby at_489) rfl rfl ?_
        refine w_iconst (z := (1 : Int32)) (n := 492) X6.here hx (hb hby at_491) rfl rfl ?_
        refine w_icmplt (n1 := 500) (n2 := 495) X6.here hx (hb hby at_492) (by decide) (by decide) rfl (fun hc492 => ?_) (fun hc492 => ?_)
        · exact c4 m0 m1 m2 (fun z => z.1 hc492)
        · refine w_iload (n := 497) X6.here hx (hb hby at_495) rfl rfl ?_
          refine w_ifne (n1 := 522) (n2 := 500) X6.here hx (hb hby at_497) (by decide) (by decide) rfl (fun hc497 => ?_) (fun hc497 => ?_)
          · exact tY (Or.inr (Or.inr (Or.inr (Or.inl (⟨hc492, hc497⟩)))))
          · exact c4 m0 m1 m2 (fun z => hc497 z.2)
      have c2 : ¬ (¬ i0 = 0) → ¬ (¬ nI < 2 ∧ ¬ i1 = 0) → Endz p.tables e below (Finz s room_1 (fun v _ L => v = some (.int 1) ∧ Fr h0.size L)) T6 (mkF m 478 #[.val (.int sh), .val (.int wo), .val (.int fr), .val (.int xp), .val (.int ng), .val (.int nI), .val (.int nF), .val (.int hE), .val (.int bE), .val (.int eS), .val (.int nE), .val (.int i0), .val (.int i1), .val (.int i2), .val (.int f0), .val (.int f1), .val (.int f2), .val (.int e0'), .val (.int e1'), .val (.int e2'), .val (.ref tx), .val (.int (Int32.ofNat pre.length)), .val (.int (Int32.ofNat pre.length)), .val (.ref na), .unset, .unset] []) := by
        intro m0 m1
        refine w_iload (n := 480) X6.here hx (hb hby at_478) rfl rfl ?_
        refine w_iconst (z := (3 : Int32)) (n := 481) X6.here hx (hb hby at_480) rfl rfl ?_
        refine w_icmplt (n1 := 489) (n2 := 484) X6.here hx (hb hby at_481) (by decide) (by decide) rfl (fun hc481 => ?_) (fun hc481 => ?_)
        · exact c3 m0 m1 (fun z => z.1 hc481)
        · refine w_iload (n := 486) X6.here hx (hb hby at_484) rfl rfl ?_
          refine w_ifne (n1 := 522) (n2 := 489) X6.here hx (hb hby at_486) (by decide) (by decide) rfl (fun hc486 => ?_) (fun hc486 => ?_)
          · exact tY (Or.inr (Or.inr (Or.inl (⟨hc481, hc486⟩))))
          · exact c3 m0 m1 (fun z => hc486 z.2)
      have c1 : ¬ (¬ i0 = 0) → Endz p.tables e below (Finz s room_1 (fun v _ L => v = some (.int 1) ∧ Fr h0.size L)) T6 (mkF m 467 #[.val (.int sh), .val (.int wo), .val (.int fr), .val (.int xp), .val (.int ng), .val (.int nI), .val (.int nF), .val (.int hE), .val (.int bE), .val (.int eS), .val (.int nE), .val (.int i0), .val (.int i1), .val (.int i2), .val (.int f0), .val (.int f1), .val (.int f2), .val (.int e0'), .val (.int e1'), .val (.int e2'), .val (.ref tx), .val (.int (Int32.ofNat pre.length)), .val (.int (Int32.ofNat pre.length)), .val (.ref na), .unset, .unset] []) := by
        intro m0
        refine w_iload (n := 469) X6.here hx (hb hby at_467) rfl rfl ?_
        refine w_iconst (z := (2 : Int32)) (n := 470) X6.here hx (hb hby at_469) rfl rfl ?_
        refine w_icmplt (n1 := 478) (n2 := 473) X6.here hx (hb hby at_470) (by decide) (by decide) rfl (fun hc470 => ?_) (fun hc470 => ?_)
        · exact c2 m0 (fun z => z.1 hc470)
        · refine w_iload (n := 475) X6.here hx (hb hby at_473) rfl rfl ?_
          refine w_ifne (n1 := 522) (n2 := 478) X6.here hx (hb hby at_475) (by decide) (by decide) rfl (fun hc475 => ?_) (fun hc475 => ?_)
          · exact tY (Or.inr (Or.inl (⟨hc470, hc475⟩)))
          · exact c2 m0 (fun z => hc475 z.2)
      refine w_iload (n := 464) X6.here hx (hb hby at_462) rfl rfl ?_
      refine w_ifne (n1 := 522) (n2 := 467) X6.here hx (hb hby at_464) (by decide) (by decide) rfl (fun hc464 => ?_) (fun hc464 => ?_)
      · exact tY (Or.inl hc464)
      · exact c1 (fun z => hc464 z)
    have t412 : ∀ (pre : List Int32) (T : State) (h : Heap) (locs : List Loc) (X : Stand p l e room_1 s m #[.int sh, .int wo, .int fr, .int xp] below meth c T locs 1 16) (eT : T.heap = h) (EX : Ext h0 h) (N : Fr h0.size locs) (V : Arv Z h tx kt .byte 16 (own_tx pre) (.int 0)) (hl : pre.length ≤ 14) (hp : ∃ ec rs, (ec = 69 ∨ ec = 101) ∧ rs ≠ [] ∧ pre = own_PP ng nI i0 i1 i2 nF f0 f1 f2 ++ (ec :: rs)), Endz p.tables e below (Finz s room_1 (fun v _ L => v = some (.int 1) ∧ Fr h0.size L)) T (mkF m 412 #[.val (.int sh), .val (.int wo), .val (.int fr), .val (.int xp), .val (.int ng), .val (.int nI), .val (.int nF), .val (.int hE), .val (.int bE), .val (.int eS), .val (.int nE), .val (.int i0), .val (.int i1), .val (.int i2), .val (.int f0), .val (.int f1), .val (.int f2), .val (.int e0'), .val (.int e1'), .val (.int e2'), .val (.ref tx), .val (.int (Int32.ofNat pre.length)), .unset, .unset, .unset, .unset] []) := by
      intro pre T h locs X eT EX N V hl hp
      refine w_iload (n := 414) X.here hx (hb hby at_412) rfl rfl ?_
      refine w_iconst (z := (3 : Int32)) (n := 415) X.here hx (hb hby at_414) rfl rfl ?_
      refine w_icmplt (n1 := 432) (n2 := 418) X.here hx (hb hby at_415) (by decide) (by decide) rfl (fun hc415 => ?_) (fun hc415 => ?_)
      · obtain ⟨ec, rs, hec, hne, hp'⟩ := hp
        exact t432 pre _ _ _ X eT EX N V (by omega) (Or.inr ⟨ec, rs, hec, hne, hp'⟩)
      · obtain ⟨ec, rs, hec, hne, hp'⟩ := hp
        refine w_aload (n := 420) X.here hx (hb hby at_418) rfl rfl rfl ?_
        refine w_iload (n := 422) X.here hx (hb hby at_420) rfl rfl ?_
        refine w_bipush (z := (48 : Int32)) (n := 424) X.here hx (hb hby at_422) rfl rfl ?_
        refine w_iload (n := 426) X.here hx (hb hby at_424) rfl rfl ?_
        refine w_iadd (n := 427) X.here hx (hb hby at_426) rfl ?_
        refine w_i2b (n := 428) X.here hx (hb hby at_427) rfl ?_
        refine s_B (n := 429) X hx hZ eT V pre.length (nat_clamp (Nat.lt_trans (show pre.length < 16 by omega) (by decide))) (by rw [own_tx_len (Nat.le_of_lt (show pre.length < 16 by omega))]; exact (show pre.length < 16 by omega)) (nat_nn (Nat.lt_trans (show pre.length < 16 by omega) (by decide))) (own_16 (show pre.length < 16 by omega)) (hb hby at_428) rfl (fun T8 h8 X8 e8 W8 V8 => ?_)
        rw [own_cn, own_app pre (own_c e2') (show pre.length < 16 by omega)] at V8
        have E8 := Ext.wr EX W8 htx
        have N8 := Fr.snoc X8 N htx
        refine w_iinc (Ls' := #[.val (.int sh), .val (.int wo), .val (.int fr), .val (.int xp), .val (.int ng), .val (.int nI), .val (.int nF), .val (.int hE), .val (.int bE), .val (.int eS), .val (.int nE), .val (.int i0), .val (.int i1), .val (.int i2), .val (.int f0), .val (.int f1), .val (.int f2), .val (.int e0'), .val (.int e1'), .val (.int e2'), .val (.ref tx), .val (.int ((Int32.ofNat pre.length) + (1 : Int32))), .unset, .unset, .unset, .unset]) (n := 432) X8.here hx (hb hby at_429) rfl rfl rfl ?_
        rw [nat_up, ← own_len1 pre (own_c e2')]
        exact t432 (pre ++ [own_c e2']) _ _ _ X8 e8 E8 N8 V8 (by simp only [own_len1]; omega) (Or.inr ⟨ec, rs ++ [own_c e2'], hec, by simp, by rw [hp']; simp⟩)
    have t392 : ∀ (pre : List Int32) (T : State) (h : Heap) (locs : List Loc) (X : Stand p l e room_1 s m #[.int sh, .int wo, .int fr, .int xp] below meth c T locs 1 16) (eT : T.heap = h) (EX : Ext h0 h) (N : Fr h0.size locs) (V : Arv Z h tx kt .byte 16 (own_tx pre) (.int 0)) (hl : pre.length ≤ 13) (hp : ∃ ec rs, (ec = 69 ∨ ec = 101) ∧ rs ≠ [] ∧ pre = own_PP ng nI i0 i1 i2 nF f0 f1 f2 ++ (ec :: rs)), Endz p.tables e below (Finz s room_1 (fun v _ L => v = some (.int 1) ∧ Fr h0.size L)) T (mkF m 392 #[.val (.int sh), .val (.int wo), .val (.int fr), .val (.int xp), .val (.int ng), .val (.int nI), .val (.int nF), .val (.int hE), .val (.int bE), .val (.int eS), .val (.int nE), .val (.int i0), .val (.int i1), .val (.int i2), .val (.int f0), .val (.int f1), .val (.int f2), .val (.int e0'), .val (.int e1'), .val (.int e2'), .val (.ref tx), .val (.int (Int32.ofNat pre.length)), .unset, .unset, .unset, .unset] []) := by
      intro pre T h locs X eT EX N V hl hp
      refine w_iload (n := 394) X.here hx (hb hby at_392) rfl rfl ?_
      refine w_iconst (z := (2 : Int32)) (n := 395) X.here hx (hb hby at_394) rfl rfl ?_
      refine w_icmplt (n1 := 412) (n2 := 398) X.here hx (hb hby at_395) (by decide) (by decide) rfl (fun hc395 => ?_) (fun hc395 => ?_)
      · obtain ⟨ec, rs, hec, hne, hp'⟩ := hp
        exact t412 pre _ _ _ X eT EX N V (by omega) (⟨ec, rs, hec, hne, hp'⟩)
      · obtain ⟨ec, rs, hec, hne, hp'⟩ := hp
        refine w_aload (n := 400) X.here hx (hb hby at_398) rfl rfl rfl ?_
        refine w_iload (n := 402) X.here hx (hb hby at_400) rfl rfl ?_
        refine w_bipush (z := (48 : Int32)) (n := 404) X.here hx (hb hby at_402) rfl rfl ?_
        refine w_iload (n := 406) X.here hx (hb hby at_404) rfl rfl ?_
        refine w_iadd (n := 407) X.here hx (hb hby at_406) rfl ?_
        refine w_i2b (n := 408) X.here hx (hb hby at_407) rfl ?_
        refine s_B (n := 409) X hx hZ eT V pre.length (nat_clamp (Nat.lt_trans (show pre.length < 16 by omega) (by decide))) (by rw [own_tx_len (Nat.le_of_lt (show pre.length < 16 by omega))]; exact (show pre.length < 16 by omega)) (nat_nn (Nat.lt_trans (show pre.length < 16 by omega) (by decide))) (own_16 (show pre.length < 16 by omega)) (hb hby at_408) rfl (fun T9 h9 X9 e9 W9 V9 => ?_)
        rw [own_cn, own_app pre (own_c e1') (show pre.length < 16 by omega)] at V9
        have E9 := Ext.wr EX W9 htx
        have N9 := Fr.snoc X9 N htx
        refine w_iinc (Ls' := #[.val (.int sh), .val (.int wo), .val (.int fr), .val (.int xp), .val (.int ng), .val (.int nI), .val (.int nF), .val (.int hE), .val (.int bE), .val (.int eS), .val (.int nE), .val (.int i0), .val (.int i1), .val (.int i2), .val (.int f0), .val (.int f1), .val (.int f2), .val (.int e0'), .val (.int e1'), .val (.int e2'), .val (.ref tx), .val (.int ((Int32.ofNat pre.length) + (1 : Int32))), .unset, .unset, .unset, .unset]) (n := 412) X9.here hx (hb hby at_409) rfl rfl rfl ?_
        rw [nat_up, ← own_len1 pre (own_c e1')]
        exact t412 (pre ++ [own_c e1']) _ _ _ X9 e9 E9 N9 V9 (by simp only [own_len1]; omega) (⟨ec, rs ++ [own_c e1'], hec, by simp, by rw [hp']; simp⟩)
    have t378 : ∀ (pre : List Int32) (T : State) (h : Heap) (locs : List Loc) (X : Stand p l e room_1 s m #[.int sh, .int wo, .int fr, .int xp] below meth c T locs 1 16) (eT : T.heap = h) (EX : Ext h0 h) (N : Fr h0.size locs) (V : Arv Z h tx kt .byte 16 (own_tx pre) (.int 0)) (hl : pre.length ≤ 12) (hp : ∃ ec rs, (ec = 69 ∨ ec = 101) ∧ pre = own_PP ng nI i0 i1 i2 nF f0 f1 f2 ++ (ec :: rs)), Endz p.tables e below (Finz s room_1 (fun v _ L => v = some (.int 1) ∧ Fr h0.size L)) T (mkF m 378 #[.val (.int sh), .val (.int wo), .val (.int fr), .val (.int xp), .val (.int ng), .val (.int nI), .val (.int nF), .val (.int hE), .val (.int bE), .val (.int eS), .val (.int nE), .val (.int i0), .val (.int i1), .val (.int i2), .val (.int f0), .val (.int f1), .val (.int f2), .val (.int e0'), .val (.int e1'), .val (.int e2'), .val (.ref tx), .val (.int (Int32.ofNat pre.length)), .unset, .unset, .unset, .unset] []) := by
      intro pre T h locs X eT EX N V hl hp
      obtain ⟨ec, rs, hec, hp'⟩ := hp
      refine w_aload (n := 380) X.here hx (hb hby at_378) rfl rfl rfl ?_
      refine w_iload (n := 382) X.here hx (hb hby at_380) rfl rfl ?_
      refine w_bipush (z := (48 : Int32)) (n := 384) X.here hx (hb hby at_382) rfl rfl ?_
      refine w_iload (n := 386) X.here hx (hb hby at_384) rfl rfl ?_
      refine w_iadd (n := 387) X.here hx (hb hby at_386) rfl ?_
      refine w_i2b (n := 388) X.here hx (hb hby at_387) rfl ?_
      refine s_B (n := 389) X hx hZ eT V pre.length (nat_clamp (Nat.lt_trans (show pre.length < 16 by omega) (by decide))) (by rw [own_tx_len (Nat.le_of_lt (show pre.length < 16 by omega))]; exact (show pre.length < 16 by omega)) (nat_nn (Nat.lt_trans (show pre.length < 16 by omega) (by decide))) (own_16 (show pre.length < 16 by omega)) (hb hby at_388) rfl (fun T10 h10 X10 e10 W10 V10 => ?_)
      rw [own_cn, own_app pre (own_c e0') (show pre.length < 16 by omega)] at V10
      have E10 := Ext.wr EX W10 htx
      have N10 := Fr.snoc X10 N htx
      refine w_iinc (Ls' := #[.val (.int sh), .val (.int wo), .val (.int fr), .val (.int xp), .val (.int ng), .val (.int nI), .val (.int nF), .val (.int hE), .val (.int bE), .val (.int eS), .val (.int nE), .val (.int i0), .val (.int i1), .val (.int i2), .val (.int f0), .val (.int f1), .val (.int f2), .val (.int e0'), .val (.int e1'), .val (.int e2'), .val (.ref tx), .val (.int ((Int32.ofNat pre.length) + (1 : Int32))), .unset, .unset, .unset, .unset]) (n := 392) X10.here hx (hb hby at_389) rfl rfl rfl ?_
      rw [nat_up, ← own_len1 pre (own_c e0')]
      exact t392 (pre ++ [own_c e0']) _ _ _ X10 e10 E10 N10 V10 (by simp only [own_len1]; omega) (⟨ec, rs ++ [own_c e0'], hec, by simp, by rw [hp']; simp⟩)
    have t362 : ∀ (pre : List Int32) (T : State) (h : Heap) (locs : List Loc) (X : Stand p l e room_1 s m #[.int sh, .int wo, .int fr, .int xp] below meth c T locs 1 16) (eT : T.heap = h) (EX : Ext h0 h) (N : Fr h0.size locs) (V : Arv Z h tx kt .byte 16 (own_tx pre) (.int 0)) (hl : pre.length ≤ 11) (hp : ∃ ec rs, (ec = 69 ∨ ec = 101) ∧ pre = own_PP ng nI i0 i1 i2 nF f0 f1 f2 ++ (ec :: rs)), Endz p.tables e below (Finz s room_1 (fun v _ L => v = some (.int 1) ∧ Fr h0.size L)) T (mkF m 362 #[.val (.int sh), .val (.int wo), .val (.int fr), .val (.int xp), .val (.int ng), .val (.int nI), .val (.int nF), .val (.int hE), .val (.int bE), .val (.int eS), .val (.int nE), .val (.int i0), .val (.int i1), .val (.int i2), .val (.int f0), .val (.int f1), .val (.int f2), .val (.int e0'), .val (.int e1'), .val (.int e2'), .val (.ref tx), .val (.int (Int32.ofNat pre.length)), .unset, .unset, .unset, .unset] []) := by
      intro pre T h locs X eT EX N V hl hp
      refine w_iload (n := 364) X.here hx (hb hby at_362) rfl rfl ?_
      refine w_iconst (z := (2 : Int32)) (n := 365) X.here hx (hb hby at_364) rfl rfl ?_
      refine w_icmpne (n1 := 378) (n2 := 368) X.here hx (hb hby at_365) (by decide) (by decide) rfl (fun hc365 => ?_) (fun hc365 => ?_)
      · obtain ⟨ec, rs, hec, hp'⟩ := hp
        exact t378 pre _ _ _ X eT EX N V (by omega) (⟨ec, rs, hec, hp'⟩)
      · obtain ⟨ec, rs, hec, hp'⟩ := hp
        refine w_aload (n := 370) X.here hx (hb hby at_368) rfl rfl rfl ?_
        refine w_iload (n := 372) X.here hx (hb hby at_370) rfl rfl ?_
        refine w_bipush (z := (45 : Int32)) (n := 374) X.here hx (hb hby at_372) rfl rfl ?_
        refine s_B (n := 375) X hx hZ eT V pre.length (nat_clamp (Nat.lt_trans (show pre.length < 16 by omega) (by decide))) (by rw [own_tx_len (Nat.le_of_lt (show pre.length < 16 by omega))]; exact (show pre.length < 16 by omega)) (nat_nn (Nat.lt_trans (show pre.length < 16 by omega) (by decide))) (own_16 (show pre.length < 16 by omega)) (hb hby at_374) rfl (fun T11 h11 X11 e11 W11 V11 => ?_)
        rw [show nar .byte (45 : Int32) = 45 by decide, own_app pre (45) (show pre.length < 16 by omega)] at V11
        have E11 := Ext.wr EX W11 htx
        have N11 := Fr.snoc X11 N htx
        refine w_iinc (Ls' := #[.val (.int sh), .val (.int wo), .val (.int fr), .val (.int xp), .val (.int ng), .val (.int nI), .val (.int nF), .val (.int hE), .val (.int bE), .val (.int eS), .val (.int nE), .val (.int i0), .val (.int i1), .val (.int i2), .val (.int f0), .val (.int f1), .val (.int f2), .val (.int e0'), .val (.int e1'), .val (.int e2'), .val (.ref tx), .val (.int ((Int32.ofNat pre.length) + (1 : Int32))), .unset, .unset, .unset, .unset]) (n := 378) X11.here hx (hb hby at_375) rfl rfl rfl ?_
        rw [nat_up, ← own_len1 pre (45)]
        exact t378 (pre ++ [45]) _ _ _ X11 e11 E11 N11 V11 (by simp only [own_len1]; omega) (⟨ec, rs ++ [45], hec, by rw [hp']; simp⟩)
    have t346 : ∀ (pre : List Int32) (T : State) (h : Heap) (locs : List Loc) (X : Stand p l e room_1 s m #[.int sh, .int wo, .int fr, .int xp] below meth c T locs 1 16) (eT : T.heap = h) (EX : Ext h0 h) (N : Fr h0.size locs) (V : Arv Z h tx kt .byte 16 (own_tx pre) (.int 0)) (hl : pre.length ≤ 10) (hp : ∃ ec rs, (ec = 69 ∨ ec = 101) ∧ pre = own_PP ng nI i0 i1 i2 nF f0 f1 f2 ++ (ec :: rs)), Endz p.tables e below (Finz s room_1 (fun v _ L => v = some (.int 1) ∧ Fr h0.size L)) T (mkF m 346 #[.val (.int sh), .val (.int wo), .val (.int fr), .val (.int xp), .val (.int ng), .val (.int nI), .val (.int nF), .val (.int hE), .val (.int bE), .val (.int eS), .val (.int nE), .val (.int i0), .val (.int i1), .val (.int i2), .val (.int f0), .val (.int f1), .val (.int f2), .val (.int e0'), .val (.int e1'), .val (.int e2'), .val (.ref tx), .val (.int (Int32.ofNat pre.length)), .unset, .unset, .unset, .unset] []) := by
      intro pre T h locs X eT EX N V hl hp
      refine w_iload (n := 348) X.here hx (hb hby at_346) rfl rfl ?_
      refine w_iconst (z := (1 : Int32)) (n := 349) X.here hx (hb hby at_348) rfl rfl ?_
      refine w_icmpne (n1 := 362) (n2 := 352) X.here hx (hb hby at_349) (by decide) (by decide) rfl (fun hc349 => ?_) (fun hc349 => ?_)
      · obtain ⟨ec, rs, hec, hp'⟩ := hp
        exact t362 pre _ _ _ X eT EX N V (by omega) (⟨ec, rs, hec, hp'⟩)
      · obtain ⟨ec, rs, hec, hp'⟩ := hp
        refine w_aload (n := 354) X.here hx (hb hby at_352) rfl rfl rfl ?_
        refine w_iload (n := 356) X.here hx (hb hby at_354) rfl rfl ?_
        refine w_bipush (z := (43 : Int32)) (n := 358) X.here hx (hb hby at_356) rfl rfl ?_
        refine s_B (n := 359) X hx hZ eT V pre.length (nat_clamp (Nat.lt_trans (show pre.length < 16 by omega) (by decide))) (by rw [own_tx_len (Nat.le_of_lt (show pre.length < 16 by omega))]; exact (show pre.length < 16 by omega)) (nat_nn (Nat.lt_trans (show pre.length < 16 by omega) (by decide))) (own_16 (show pre.length < 16 by omega)) (hb hby at_358) rfl (fun T12 h12 X12 e12 W12 V12 => ?_)
        rw [show nar .byte (43 : Int32) = 43 by decide, own_app pre (43) (show pre.length < 16 by omega)] at V12
        have E12 := Ext.wr EX W12 htx
        have N12 := Fr.snoc X12 N htx
        refine w_iinc (Ls' := #[.val (.int sh), .val (.int wo), .val (.int fr), .val (.int xp), .val (.int ng), .val (.int nI), .val (.int nF), .val (.int hE), .val (.int bE), .val (.int eS), .val (.int nE), .val (.int i0), .val (.int i1), .val (.int i2), .val (.int f0), .val (.int f1), .val (.int f2), .val (.int e0'), .val (.int e1'), .val (.int e2'), .val (.ref tx), .val (.int ((Int32.ofNat pre.length) + (1 : Int32))), .unset, .unset, .unset, .unset]) (n := 362) X12.here hx (hb hby at_359) rfl rfl rfl ?_
        rw [nat_up, ← own_len1 pre (43)]
        exact t362 (pre ++ [43]) _ _ _ X12 e12 E12 N12 V12 (by simp only [own_len1]; omega) (⟨ec, rs ++ [43], hec, by rw [hp']; simp⟩)
    have t320 : ∀ (pre : List Int32) (T : State) (h : Heap) (locs : List Loc) (X : Stand p l e room_1 s m #[.int sh, .int wo, .int fr, .int xp] below meth c T locs 1 16) (eT : T.heap = h) (EX : Ext h0 h) (N : Fr h0.size locs) (V : Arv Z h tx kt .byte 16 (own_tx pre) (.int 0)) (hl : pre.length ≤ 9) (hp : pre = own_PP ng nI i0 i1 i2 nF f0 f1 f2), Endz p.tables e below (Finz s room_1 (fun v _ L => v = some (.int 1) ∧ Fr h0.size L)) T (mkF m 320 #[.val (.int sh), .val (.int wo), .val (.int fr), .val (.int xp), .val (.int ng), .val (.int nI), .val (.int nF), .val (.int hE), .val (.int bE), .val (.int eS), .val (.int nE), .val (.int i0), .val (.int i1), .val (.int i2), .val (.int f0), .val (.int f1), .val (.int f2), .val (.int e0'), .val (.int e1'), .val (.int e2'), .val (.ref tx), .val (.int (Int32.ofNat pre.length)), .unset, .unset, .unset, .unset] []) := by
      intro pre T h locs X eT EX N V hl hp
      refine w_iload (n := 322) X.here hx (hb hby at_320) rfl rfl ?_
      refine w_ifeq (n1 := 432) (n2 := 325) X.here hx (hb hby at_322) (by decide) (by decide) rfl (fun hc322 => ?_) (fun hc322 => ?_)
      · exact t432 pre _ _ _ X eT EX N V (by omega) (Or.inl hp)
      · refine w_aload (n := 327) X.here hx (hb hby at_325) rfl rfl rfl ?_
        refine w_iload (n := 329) X.here hx (hb hby at_327) rfl rfl ?_
        refine w_iload (n := 331) X.here hx (hb hby at_329) rfl rfl ?_
        refine w_ifeq (n1 := 339) (n2 := 334) X.here hx (hb hby at_331) (by decide) (by decide) rfl (fun hc331 => ?_) (fun hc331 => ?_)
        · refine w_bipush (z := (101 : Int32)) (n := 341) X.here hx (hb hby at_339) rfl rfl ?_
          refine w_i2b (n := 342) X.here hx (hb hby at_341) rfl ?_
          refine s_B (n := 343) X hx hZ eT V pre.length (nat_clamp (Nat.lt_trans (show pre.length < 16 by omega) (by decide))) (by rw [own_tx_len (Nat.le_of_lt (show pre.length < 16 by omega))]; exact (show pre.length < 16 by omega)) (nat_nn (Nat.lt_trans (show pre.length < 16 by omega) (by decide))) (own_16 (show pre.length < 16 by omega)) (hb hby at_342) rfl (fun T13 h13 X13 e13 W13 V13 => ?_)
          rw [show nar .byte (101 : Int32).toInt8.toInt32 = 101 by decide, own_app pre (101) (show pre.length < 16 by omega)] at V13
          have E13 := Ext.wr EX W13 htx
          have N13 := Fr.snoc X13 N htx
          refine w_iinc (Ls' := #[.val (.int sh), .val (.int wo), .val (.int fr), .val (.int xp), .val (.int ng), .val (.int nI), .val (.int nF), .val (.int hE), .val (.int bE), .val (.int eS), .val (.int nE), .val (.int i0), .val (.int i1), .val (.int i2), .val (.int f0), .val (.int f1), .val (.int f2), .val (.int e0'), .val (.int e1'), .val (.int e2'), .val (.ref tx), .val (.int ((Int32.ofNat pre.length) + (1 : Int32))), .unset, .unset, .unset, .unset]) (n := 346) X13.here hx (hb hby at_343) rfl rfl rfl ?_
          rw [nat_up, ← own_len1 pre (101)]
          exact t346 (pre ++ [101]) _ _ _ X13 e13 E13 N13 V13 (by simp only [own_len1]; omega) (⟨101, [], Or.inr rfl, by rw [hp]⟩)
        · refine w_bipush (z := (69 : Int32)) (n := 336) X.here hx (hb hby at_334) rfl rfl ?_
          refine w_goto (n := 341) X.here hx (hb hby at_336) (by decide) (by decide) ?_
          refine w_i2b (n := 342) X.here hx (hb hby at_341) rfl ?_
          refine s_B (n := 343) X hx hZ eT V pre.length (nat_clamp (Nat.lt_trans (show pre.length < 16 by omega) (by decide))) (by rw [own_tx_len (Nat.le_of_lt (show pre.length < 16 by omega))]; exact (show pre.length < 16 by omega)) (nat_nn (Nat.lt_trans (show pre.length < 16 by omega) (by decide))) (own_16 (show pre.length < 16 by omega)) (hb hby at_342) rfl (fun T14 h14 X14 e14 W14 V14 => ?_)
          rw [show nar .byte (69 : Int32).toInt8.toInt32 = 69 by decide, own_app pre (69) (show pre.length < 16 by omega)] at V14
          have E14 := Ext.wr EX W14 htx
          have N14 := Fr.snoc X14 N htx
          refine w_iinc (Ls' := #[.val (.int sh), .val (.int wo), .val (.int fr), .val (.int xp), .val (.int ng), .val (.int nI), .val (.int nF), .val (.int hE), .val (.int bE), .val (.int eS), .val (.int nE), .val (.int i0), .val (.int i1), .val (.int i2), .val (.int f0), .val (.int f1), .val (.int f2), .val (.int e0'), .val (.int e1'), .val (.int e2'), .val (.ref tx), .val (.int ((Int32.ofNat pre.length) + (1 : Int32))), .unset, .unset, .unset, .unset]) (n := 346) X14.here hx (hb hby at_343) rfl rfl rfl ?_
          rw [nat_up, ← own_len1 pre (69)]
          exact t346 (pre ++ [69]) _ _ _ X14 e14 E14 N14 V14 (by simp only [own_len1]; omega) (⟨69, [], Or.inl rfl, by rw [hp]⟩)
    have t300 : ∀ (pre : List Int32) (T : State) (h : Heap) (locs : List Loc) (X : Stand p l e room_1 s m #[.int sh, .int wo, .int fr, .int xp] below meth c T locs 1 16) (eT : T.heap = h) (EX : Ext h0 h) (N : Fr h0.size locs) (V : Arv Z h tx kt .byte 16 (own_tx pre) (.int 0)) (hl : pre.length ≤ 8) (hp : pre = 55 :: (own_sg ng ++ own_ints nI i0 i1 i2 ++ (own_f1 nF f0 ++ own_o (nF < 2) (own_c f1)))), Endz p.tables e below (Finz s room_1 (fun v _ L => v = some (.int 1) ∧ Fr h0.size L)) T (mkF m 300 #[.val (.int sh), .val (.int wo), .val (.int fr), .val (.int xp), .val (.int ng), .val (.int nI), .val (.int nF), .val (.int hE), .val (.int bE), .val (.int eS), .val (.int nE), .val (.int i0), .val (.int i1), .val (.int i2), .val (.int f0), .val (.int f1), .val (.int f2), .val (.int e0'), .val (.int e1'), .val (.int e2'), .val (.ref tx), .val (.int (Int32.ofNat pre.length)), .unset, .unset, .unset, .unset] []) := by
      intro pre T h locs X eT EX N V hl hp
      refine w_iload (n := 302) X.here hx (hb hby at_300) rfl rfl ?_
      refine w_iconst (z := (3 : Int32)) (n := 303) X.here hx (hb hby at_302) rfl rfl ?_
      refine w_icmplt (n1 := 320) (n2 := 306) X.here hx (hb hby at_303) (by decide) (by decide) rfl (fun hc303 => ?_) (fun hc303 => ?_)
      · exact t320 pre _ _ _ X eT EX N V (by omega) (by rw [hp, own_PP, own_fr, own_oY hc303]; simp)
      · refine w_aload (n := 308) X.here hx (hb hby at_306) rfl rfl rfl ?_
        refine w_iload (n := 310) X.here hx (hb hby at_308) rfl rfl ?_
        refine w_bipush (z := (48 : Int32)) (n := 312) X.here hx (hb hby at_310) rfl rfl ?_
        refine w_iload (n := 314) X.here hx (hb hby at_312) rfl rfl ?_
        refine w_iadd (n := 315) X.here hx (hb hby at_314) rfl ?_
        refine w_i2b (n := 316) X.here hx (hb hby at_315) rfl ?_
        refine s_B (n := 317) X hx hZ eT V pre.length (nat_clamp (Nat.lt_trans (show pre.length < 16 by omega) (by decide))) (by rw [own_tx_len (Nat.le_of_lt (show pre.length < 16 by omega))]; exact (show pre.length < 16 by omega)) (nat_nn (Nat.lt_trans (show pre.length < 16 by omega) (by decide))) (own_16 (show pre.length < 16 by omega)) (hb hby at_316) rfl (fun T15 h15 X15 e15 W15 V15 => ?_)
        rw [own_cn, own_app pre (own_c f2) (show pre.length < 16 by omega)] at V15
        have E15 := Ext.wr EX W15 htx
        have N15 := Fr.snoc X15 N htx
        refine w_iinc (Ls' := #[.val (.int sh), .val (.int wo), .val (.int fr), .val (.int xp), .val (.int ng), .val (.int nI), .val (.int nF), .val (.int hE), .val (.int bE), .val (.int eS), .val (.int nE), .val (.int i0), .val (.int i1), .val (.int i2), .val (.int f0), .val (.int f1), .val (.int f2), .val (.int e0'), .val (.int e1'), .val (.int e2'), .val (.ref tx), .val (.int ((Int32.ofNat pre.length) + (1 : Int32))), .unset, .unset, .unset, .unset]) (n := 320) X15.here hx (hb hby at_317) rfl rfl rfl ?_
        rw [nat_up, ← own_len1 pre (own_c f2)]
        exact t320 (pre ++ [own_c f2]) _ _ _ X15 e15 E15 N15 V15 (by simp only [own_len1]; omega) (by rw [hp, own_PP, own_fr, own_oN hc303]; simp)
    have t280 : ∀ (pre : List Int32) (T : State) (h : Heap) (locs : List Loc) (X : Stand p l e room_1 s m #[.int sh, .int wo, .int fr, .int xp] below meth c T locs 1 16) (eT : T.heap = h) (EX : Ext h0 h) (N : Fr h0.size locs) (V : Arv Z h tx kt .byte 16 (own_tx pre) (.int 0)) (hl : pre.length ≤ 7) (hp : pre = 55 :: (own_sg ng ++ own_ints nI i0 i1 i2 ++ own_f1 nF f0)), Endz p.tables e below (Finz s room_1 (fun v _ L => v = some (.int 1) ∧ Fr h0.size L)) T (mkF m 280 #[.val (.int sh), .val (.int wo), .val (.int fr), .val (.int xp), .val (.int ng), .val (.int nI), .val (.int nF), .val (.int hE), .val (.int bE), .val (.int eS), .val (.int nE), .val (.int i0), .val (.int i1), .val (.int i2), .val (.int f0), .val (.int f1), .val (.int f2), .val (.int e0'), .val (.int e1'), .val (.int e2'), .val (.ref tx), .val (.int (Int32.ofNat pre.length)), .unset, .unset, .unset, .unset] []) := by
      intro pre T h locs X eT EX N V hl hp
      refine w_iload (n := 282) X.here hx (hb hby at_280) rfl rfl ?_
      refine w_iconst (z := (2 : Int32)) (n := 283) X.here hx (hb hby at_282) rfl rfl ?_
      refine w_icmplt (n1 := 300) (n2 := 286) X.here hx (hb hby at_283) (by decide) (by decide) rfl (fun hc283 => ?_) (fun hc283 => ?_)
      · exact t300 pre _ _ _ X eT EX N V (by omega) (by rw [hp, own_oY hc283]; simp)
      · refine w_aload (n := 288) X.here hx (hb hby at_286) rfl rfl rfl ?_
        refine w_iload (n := 290) X.here hx (hb hby at_288) rfl rfl ?_
        refine w_bipush (z := (48 : Int32)) (n := 292) X.here hx (hb hby at_290) rfl rfl ?_
        refine w_iload (n := 294) X.here hx (hb hby at_292) rfl rfl ?_
        refine w_iadd (n := 295) X.here hx (hb hby at_294) rfl ?_
        refine w_i2b (n := 296) X.here hx (hb hby at_295) rfl ?_
        refine s_B (n := 297) X hx hZ eT V pre.length (nat_clamp (Nat.lt_trans (show pre.length < 16 by omega) (by decide))) (by rw [own_tx_len (Nat.le_of_lt (show pre.length < 16 by omega))]; exact (show pre.length < 16 by omega)) (nat_nn (Nat.lt_trans (show pre.length < 16 by omega) (by decide))) (own_16 (show pre.length < 16 by omega)) (hb hby at_296) rfl (fun T16 h16 X16 e16 W16 V16 => ?_)
        rw [own_cn, own_app pre (own_c f1) (show pre.length < 16 by omega)] at V16
        have E16 := Ext.wr EX W16 htx
        have N16 := Fr.snoc X16 N htx
        refine w_iinc (Ls' := #[.val (.int sh), .val (.int wo), .val (.int fr), .val (.int xp), .val (.int ng), .val (.int nI), .val (.int nF), .val (.int hE), .val (.int bE), .val (.int eS), .val (.int nE), .val (.int i0), .val (.int i1), .val (.int i2), .val (.int f0), .val (.int f1), .val (.int f2), .val (.int e0'), .val (.int e1'), .val (.int e2'), .val (.ref tx), .val (.int ((Int32.ofNat pre.length) + (1 : Int32))), .unset, .unset, .unset, .unset]) (n := 300) X16.here hx (hb hby at_297) rfl rfl rfl ?_
        rw [nat_up, ← own_len1 pre (own_c f1)]
        exact t300 (pre ++ [own_c f1]) _ _ _ X16 e16 E16 N16 V16 (by simp only [own_len1]; omega) (by rw [hp, own_oN hc283]; simp)
    have t250 : ∀ (pre : List Int32) (T : State) (h : Heap) (locs : List Loc) (X : Stand p l e room_1 s m #[.int sh, .int wo, .int fr, .int xp] below meth c T locs 1 16) (eT : T.heap = h) (EX : Ext h0 h) (N : Fr h0.size locs) (V : Arv Z h tx kt .byte 16 (own_tx pre) (.int 0)) (hl : pre.length ≤ 5) (hp : pre = 55 :: (own_sg ng ++ own_ints nI i0 i1 i2)), Endz p.tables e below (Finz s room_1 (fun v _ L => v = some (.int 1) ∧ Fr h0.size L)) T (mkF m 250 #[.val (.int sh), .val (.int wo), .val (.int fr), .val (.int xp), .val (.int ng), .val (.int nI), .val (.int nF), .val (.int hE), .val (.int bE), .val (.int eS), .val (.int nE), .val (.int i0), .val (.int i1), .val (.int i2), .val (.int f0), .val (.int f1), .val (.int f2), .val (.int e0'), .val (.int e1'), .val (.int e2'), .val (.ref tx), .val (.int (Int32.ofNat pre.length)), .unset, .unset, .unset, .unset] []) := by
      intro pre T h locs X eT EX N V hl hp
      refine w_iload (n := 252) X.here hx (hb hby at_250) rfl rfl ?_
      refine w_iconst (z := (1 : Int32)) (n := 253) X.here hx (hb hby at_252) rfl rfl ?_
      refine w_icmplt (n1 := 280) (n2 := 256) X.here hx (hb hby at_253) (by decide) (by decide) rfl (fun hc253 => ?_) (fun hc253 => ?_)
      · exact t280 pre _ _ _ X eT EX N V (by omega) (by rw [hp, own_f1, if_pos hc253]; simp)
      · refine w_aload (n := 258) X.here hx (hb hby at_256) rfl rfl rfl ?_
        refine w_iload (n := 260) X.here hx (hb hby at_258) rfl rfl ?_
        refine w_bipush (z := (46 : Int32)) (n := 262) X.here hx (hb hby at_260) rfl rfl ?_
        refine s_B (n := 263) X hx hZ eT V pre.length (nat_clamp (Nat.lt_trans (show pre.length < 16 by omega) (by decide))) (by rw [own_tx_len (Nat.le_of_lt (show pre.length < 16 by omega))]; exact (show pre.length < 16 by omega)) (nat_nn (Nat.lt_trans (show pre.length < 16 by omega) (by decide))) (own_16 (show pre.length < 16 by omega)) (hb hby at_262) rfl (fun T17 h17 X17 e17 W17 V17 => ?_)
        rw [show nar .byte (46 : Int32) = 46 by decide, own_app pre (46) (show pre.length < 16 by omega)] at V17
        have E17 := Ext.wr EX W17 htx
        have N17 := Fr.snoc X17 N htx
        refine w_iinc (Ls' := #[.val (.int sh), .val (.int wo), .val (.int fr), .val (.int xp), .val (.int ng), .val (.int nI), .val (.int nF), .val (.int hE), .val (.int bE), .val (.int eS), .val (.int nE), .val (.int i0), .val (.int i1), .val (.int i2), .val (.int f0), .val (.int f1), .val (.int f2), .val (.int e0'), .val (.int e1'), .val (.int e2'), .val (.ref tx), .val (.int ((Int32.ofNat pre.length) + (1 : Int32))), .unset, .unset, .unset, .unset]) (n := 266) X17.here hx (hb hby at_263) rfl rfl rfl ?_
        rw [nat_up, ← own_len1 pre (46)]
        refine w_aload (n := 268) X17.here hx (hb hby at_266) rfl rfl rfl ?_
        refine w_iload (n := 270) X17.here hx (hb hby at_268) rfl rfl ?_
        refine w_bipush (z := (48 : Int32)) (n := 272) X17.here hx (hb hby at_270) rfl rfl ?_
        refine w_iload (n := 274) X17.here hx (hb hby at_272) rfl rfl ?_
        refine w_iadd (n := 275) X17.here hx (hb hby at_274) rfl ?_
        refine w_i2b (n := 276) X17.here hx (hb hby at_275) rfl ?_
        refine s_B (n := 277) X17 hx hZ e17 V17 (pre ++ [46]).length (nat_clamp (Nat.lt_trans (show (pre ++ [46]).length < 16 by simp only [own_len1]; omega) (by decide))) (by rw [own_tx_len (Nat.le_of_lt (show (pre ++ [46]).length < 16 by simp only [own_len1]; omega))]; exact (show (pre ++ [46]).length < 16 by simp only [own_len1]; omega)) (nat_nn (Nat.lt_trans (show (pre ++ [46]).length < 16 by simp only [own_len1]; omega) (by decide))) (own_16 (show (pre ++ [46]).length < 16 by simp only [own_len1]; omega)) (hb hby at_276) rfl (fun T18 h18 X18 e18 W18 V18 => ?_)
        rw [own_cn, own_app (pre ++ [46]) (own_c f0) (show (pre ++ [46]).length < 16 by simp only [own_len1]; omega)] at V18
        have E18 := Ext.wr E17 W18 htx
        have N18 := Fr.snoc X18 N17 htx
        refine w_iinc (Ls' := #[.val (.int sh), .val (.int wo), .val (.int fr), .val (.int xp), .val (.int ng), .val (.int nI), .val (.int nF), .val (.int hE), .val (.int bE), .val (.int eS), .val (.int nE), .val (.int i0), .val (.int i1), .val (.int i2), .val (.int f0), .val (.int f1), .val (.int f2), .val (.int e0'), .val (.int e1'), .val (.int e2'), .val (.ref tx), .val (.int ((Int32.ofNat (pre ++ [46]).length) + (1 : Int32))), .unset, .unset, .unset, .unset]) (n := 280) X18.here hx (hb hby at_277) rfl rfl rfl ?_
        rw [nat_up, ← own_len1 (pre ++ [46]) (own_c f0)]
        exact t280 ((pre ++ [46]) ++ [own_c f0]) _ _ _ X18 e18 E18 N18 V18 (by simp only [own_len1]; omega) (by rw [hp, own_f1, if_neg hc253]; simp)
    have t230 : ∀ (pre : List Int32) (T : State) (h : Heap) (locs : List Loc) (X : Stand p l e room_1 s m #[.int sh, .int wo, .int fr, .int xp] below meth c T locs 1 16) (eT : T.heap = h) (EX : Ext h0 h) (N : Fr h0.size locs) (V : Arv Z h tx kt .byte 16 (own_tx pre) (.int 0)) (hl : pre.length ≤ 4) (hp : pre = 55 :: (own_sg ng ++ ([own_c i0] ++ own_o (nI < 2) (own_c i1)))), Endz p.tables e below (Finz s room_1 (fun v _ L => v = some (.int 1) ∧ Fr h0.size L)) T (mkF m 230 #[.val (.int sh), .val (.int wo), .val (.int fr), .val (.int xp), .val (.int ng), .val (.int nI), .val (.int nF), .val (.int hE), .val (.int bE), .val (.int eS), .val (.int nE), .val (.int i0), .val (.int i1), .val (.int i2), .val (.int f0), .val (.int f1), .val (.int f2), .val (.int e0'), .val (.int e1'), .val (.int e2'), .val (.ref tx), .val (.int (Int32.ofNat pre.length)), .unset, .unset, .unset, .unset] []) := by
      intro pre T h locs X eT EX N V hl hp
      refine w_iload (n := 232) X.here hx (hb hby at_230) rfl rfl ?_
      refine w_iconst (z := (3 : Int32)) (n := 233) X.here hx (hb hby at_232) rfl rfl ?_
      refine w_icmplt (n1 := 250) (n2 := 236) X.here hx (hb hby at_233) (by decide) (by decide) rfl (fun hc233 => ?_) (fun hc233 => ?_)
      · exact t250 pre _ _ _ X eT EX N V (by omega) (by rw [hp, own_ints, own_oY hc233]; simp)
      · refine w_aload (n := 238) X.here hx (hb hby at_236) rfl rfl rfl ?_
        refine w_iload (n := 240) X.here hx (hb hby at_238) rfl rfl ?_
        refine w_bipush (z := (48 : Int32)) (n := 242) X.here hx (hb hby at_240) rfl rfl ?_
        refine w_iload (n := 244) X.here hx (hb hby at_242) rfl rfl ?_
        refine w_iadd (n := 245) X.here hx (hb hby at_244) rfl ?_
        refine w_i2b (n := 246) X.here hx (hb hby at_245) rfl ?_
        refine s_B (n := 247) X hx hZ eT V pre.length (nat_clamp (Nat.lt_trans (show pre.length < 16 by omega) (by decide))) (by rw [own_tx_len (Nat.le_of_lt (show pre.length < 16 by omega))]; exact (show pre.length < 16 by omega)) (nat_nn (Nat.lt_trans (show pre.length < 16 by omega) (by decide))) (own_16 (show pre.length < 16 by omega)) (hb hby at_246) rfl (fun T19 h19 X19 e19 W19 V19 => ?_)
        rw [own_cn, own_app pre (own_c i2) (show pre.length < 16 by omega)] at V19
        have E19 := Ext.wr EX W19 htx
        have N19 := Fr.snoc X19 N htx
        refine w_iinc (Ls' := #[.val (.int sh), .val (.int wo), .val (.int fr), .val (.int xp), .val (.int ng), .val (.int nI), .val (.int nF), .val (.int hE), .val (.int bE), .val (.int eS), .val (.int nE), .val (.int i0), .val (.int i1), .val (.int i2), .val (.int f0), .val (.int f1), .val (.int f2), .val (.int e0'), .val (.int e1'), .val (.int e2'), .val (.ref tx), .val (.int ((Int32.ofNat pre.length) + (1 : Int32))), .unset, .unset, .unset, .unset]) (n := 250) X19.here hx (hb hby at_247) rfl rfl rfl ?_
        rw [nat_up, ← own_len1 pre (own_c i2)]
        exact t250 (pre ++ [own_c i2]) _ _ _ X19 e19 E19 N19 V19 (by simp only [own_len1]; omega) (by rw [hp, own_ints, own_oN hc233]; simp)
    have t210 : ∀ (pre : List Int32) (T : State) (h : Heap) (locs : List Loc) (X : Stand p l e room_1 s m #[.int sh, .int wo, .int fr, .int xp] below meth c T locs 1 16) (eT : T.heap = h) (EX : Ext h0 h) (N : Fr h0.size locs) (V : Arv Z h tx kt .byte 16 (own_tx pre) (.int 0)) (hl : pre.length ≤ 3) (hp : pre = 55 :: (own_sg ng ++ [own_c i0])), Endz p.tables e below (Finz s room_1 (fun v _ L => v = some (.int 1) ∧ Fr h0.size L)) T (mkF m 210 #[.val (.int sh), .val (.int wo), .val (.int fr), .val (.int xp), .val (.int ng), .val (.int nI), .val (.int nF), .val (.int hE), .val (.int bE), .val (.int eS), .val (.int nE), .val (.int i0), .val (.int i1), .val (.int i2), .val (.int f0), .val (.int f1), .val (.int f2), .val (.int e0'), .val (.int e1'), .val (.int e2'), .val (.ref tx), .val (.int (Int32.ofNat pre.length)), .unset, .unset, .unset, .unset] []) := by
      intro pre T h locs X eT EX N V hl hp
      refine w_iload (n := 212) X.here hx (hb hby at_210) rfl rfl ?_
      refine w_iconst (z := (2 : Int32)) (n := 213) X.here hx (hb hby at_212) rfl rfl ?_
      refine w_icmplt (n1 := 230) (n2 := 216) X.here hx (hb hby at_213) (by decide) (by decide) rfl (fun hc213 => ?_) (fun hc213 => ?_)
      · exact t230 pre _ _ _ X eT EX N V (by omega) (by rw [hp, own_oY hc213]; simp)
      · refine w_aload (n := 218) X.here hx (hb hby at_216) rfl rfl rfl ?_
        refine w_iload (n := 220) X.here hx (hb hby at_218) rfl rfl ?_
        refine w_bipush (z := (48 : Int32)) (n := 222) X.here hx (hb hby at_220) rfl rfl ?_
        refine w_iload (n := 224) X.here hx (hb hby at_222) rfl rfl ?_
        refine w_iadd (n := 225) X.here hx (hb hby at_224) rfl ?_
        refine w_i2b (n := 226) X.here hx (hb hby at_225) rfl ?_
        refine s_B (n := 227) X hx hZ eT V pre.length (nat_clamp (Nat.lt_trans (show pre.length < 16 by omega) (by decide))) (by rw [own_tx_len (Nat.le_of_lt (show pre.length < 16 by omega))]; exact (show pre.length < 16 by omega)) (nat_nn (Nat.lt_trans (show pre.length < 16 by omega) (by decide))) (own_16 (show pre.length < 16 by omega)) (hb hby at_226) rfl (fun T20 h20 X20 e20 W20 V20 => ?_)
        rw [own_cn, own_app pre (own_c i1) (show pre.length < 16 by omega)] at V20
        have E20 := Ext.wr EX W20 htx
        have N20 := Fr.snoc X20 N htx
        refine w_iinc (Ls' := #[.val (.int sh), .val (.int wo), .val (.int fr), .val (.int xp), .val (.int ng), .val (.int nI), .val (.int nF), .val (.int hE), .val (.int bE), .val (.int eS), .val (.int nE), .val (.int i0), .val (.int i1), .val (.int i2), .val (.int f0), .val (.int f1), .val (.int f2), .val (.int e0'), .val (.int e1'), .val (.int e2'), .val (.ref tx), .val (.int ((Int32.ofNat pre.length) + (1 : Int32))), .unset, .unset, .unset, .unset]) (n := 230) X20.here hx (hb hby at_227) rfl rfl rfl ?_
        rw [nat_up, ← own_len1 pre (own_c i1)]
        exact t230 (pre ++ [own_c i1]) _ _ _ X20 e20 E20 N20 V20 (by simp only [own_len1]; omega) (by rw [hp, own_oN hc213]; simp)
    have t196 : ∀ (pre : List Int32) (T : State) (h : Heap) (locs : List Loc) (X : Stand p l e room_1 s m #[.int sh, .int wo, .int fr, .int xp] below meth c T locs 1 16) (eT : T.heap = h) (EX : Ext h0 h) (N : Fr h0.size locs) (V : Arv Z h tx kt .byte 16 (own_tx pre) (.int 0)) (hl : pre.length ≤ 2) (hp : pre = 55 :: own_sg ng), Endz p.tables e below (Finz s room_1 (fun v _ L => v = some (.int 1) ∧ Fr h0.size L)) T (mkF m 196 #[.val (.int sh), .val (.int wo), .val (.int fr), .val (.int xp), .val (.int ng), .val (.int nI), .val (.int nF), .val (.int hE), .val (.int bE), .val (.int eS), .val (.int nE), .val (.int i0), .val (.int i1), .val (.int i2), .val (.int f0), .val (.int f1), .val (.int f2), .val (.int e0'), .val (.int e1'), .val (.int e2'), .val (.ref tx), .val (.int (Int32.ofNat pre.length)), .unset, .unset, .unset, .unset] []) := by
      intro pre T h locs X eT EX N V hl hp
      refine w_aload (n := 198) X.here hx (hb hby at_196) rfl rfl rfl ?_
      refine w_iload (n := 200) X.here hx (hb hby at_198) rfl rfl ?_
      refine w_bipush (z := (48 : Int32)) (n := 202) X.here hx (hb hby at_200) rfl rfl ?_
      refine w_iload (n := 204) X.here hx (hb hby at_202) rfl rfl ?_
      refine w_iadd (n := 205) X.here hx (hb hby at_204) rfl ?_
      refine w_i2b (n := 206) X.here hx (hb hby at_205) rfl ?_
      refine s_B (n := 207) X hx hZ eT V pre.length (nat_clamp (Nat.lt_trans (show pre.length < 16 by omega) (by decide))) (by rw [own_tx_len (Nat.le_of_lt (show pre.length < 16 by omega))]; exact (show pre.length < 16 by omega)) (nat_nn (Nat.lt_trans (show pre.length < 16 by omega) (by decide))) (own_16 (show pre.length < 16 by omega)) (hb hby at_206) rfl (fun T21 h21 X21 e21 W21 V21 => ?_)
      rw [own_cn, own_app pre (own_c i0) (show pre.length < 16 by omega)] at V21
      have E21 := Ext.wr EX W21 htx
      have N21 := Fr.snoc X21 N htx
      refine w_iinc (Ls' := #[.val (.int sh), .val (.int wo), .val (.int fr), .val (.int xp), .val (.int ng), .val (.int nI), .val (.int nF), .val (.int hE), .val (.int bE), .val (.int eS), .val (.int nE), .val (.int i0), .val (.int i1), .val (.int i2), .val (.int f0), .val (.int f1), .val (.int f2), .val (.int e0'), .val (.int e1'), .val (.int e2'), .val (.ref tx), .val (.int ((Int32.ofNat pre.length) + (1 : Int32))), .unset, .unset, .unset, .unset]) (n := 210) X21.here hx (hb hby at_207) rfl rfl rfl ?_
      rw [nat_up, ← own_len1 pre (own_c i0)]
      exact t210 (pre ++ [own_c i0]) _ _ _ X21 e21 E21 N21 V21 (by simp only [own_len1]; omega) (by rw [hp]; simp)
    refine w_astore (Ls' := #[.val (.int sh), .val (.int wo), .val (.int fr), .val (.int xp), .val (.int ng), .val (.int nI), .val (.int nF), .val (.int hE), .val (.int bE), .val (.int eS), .val (.int nE), .val (.int i0), .val (.int i1), .val (.int i2), .val (.int f0), .val (.int f1), .val (.int f2), .val (.int e0'), .val (.int e1'), .val (.int e2'), .val (.ref tx), .unset, .unset, .unset, .unset, .unset]) (n := 172) X2.here hx (hb hby at_170) rfl rfl rfl ?_
    refine w_aload (n := 174) X2.here hx (hb hby at_172) rfl rfl rfl ?_
    refine w_iconst (z := (0 : Int32)) (n := 175) X2.here hx (hb hby at_174) rfl rfl ?_
    refine w_bipush (z := (55 : Int32)) (n := 177) X2.here hx (hb hby at_175) rfl rfl ?_
    refine s_B (n := 178) X2 hx hZ e2 V2 0 rfl (Nat.le_of_ble_eq_true rfl) (by decide) (by decide) (hb hby at_177) rfl (fun T22 h22 X22 e22 W22 (V22 : Arv Z h22 tx kt .byte 16 (own_tx [55]) (.int 0)) => ?_)
    have E22 := Ext.wr E2 W22 htx
    have N22 := Fr.snoc X22 (Fr.nil h0.size) htx
    refine w_iconst (z := (1 : Int32)) (n := 179) X22.here hx (hb hby at_178) rfl rfl ?_
    refine w_istore (Ls' := #[.val (.int sh), .val (.int wo), .val (.int fr), .val (.int xp), .val (.int ng), .val (.int nI), .val (.int nF), .val (.int hE), .val (.int bE), .val (.int eS), .val (.int nE), .val (.int i0), .val (.int i1), .val (.int i2), .val (.int f0), .val (.int f1), .val (.int f2), .val (.int e0'), .val (.int e1'), .val (.int e2'), .val (.ref tx), .val (.int (1 : Int32)), .unset, .unset, .unset, .unset]) (n := 181) X22.here hx (hb hby at_179) rfl rfl ?_
    refine w_iload (n := 183) X22.here hx (hb hby at_181) rfl rfl ?_
    refine w_ifeq (n1 := 196) (n2 := 186) X22.here hx (hb hby at_183) (by decide) (by decide) rfl (fun hc183 => ?_) (fun hc183 => ?_)
    · exact t196 [55] _ _ _ X22 e22 E22 N22 V22 (by decide) (by rw [own_sg, if_pos hc183])
    · show Endz _ _ _ _ T22 (mkF m 186 #[.val (.int sh), .val (.int wo), .val (.int fr), .val (.int xp), .val (.int ng), .val (.int nI), .val (.int nF), .val (.int hE), .val (.int bE), .val (.int eS), .val (.int nE), .val (.int i0), .val (.int i1), .val (.int i2), .val (.int f0), .val (.int f1), .val (.int f2), .val (.int e0'), .val (.int e1'), .val (.int e2'), .val (.ref tx), .val (.int (Int32.ofNat ([55] : List Int32).length)), .unset, .unset, .unset, .unset] [])
      refine w_aload (n := 188) X22.here hx (hb hby at_186) rfl rfl rfl ?_
      refine w_iload (n := 190) X22.here hx (hb hby at_188) rfl rfl ?_
      refine w_bipush (z := (45 : Int32)) (n := 192) X22.here hx (hb hby at_190) rfl rfl ?_
      refine s_B (n := 193) X22 hx hZ e22 V22 ([55] : List Int32).length (nat_clamp (Nat.lt_trans (show ([55] : List Int32).length < 16 by decide) (by decide))) (by rw [own_tx_len (Nat.le_of_lt (show ([55] : List Int32).length < 16 by decide))]; exact (show ([55] : List Int32).length < 16 by decide)) (nat_nn (Nat.lt_trans (show ([55] : List Int32).length < 16 by decide) (by decide))) (own_16 (show ([55] : List Int32).length < 16 by decide)) (hb hby at_192) rfl (fun T23 h23 X23 e23 W23 V23 => ?_)
      rw [show nar .byte (45 : Int32) = 45 by decide, own_app ([55] : List Int32) (45) (show ([55] : List Int32).length < 16 by decide)] at V23
      have E23 := Ext.wr E22 W23 htx
      have N23 := Fr.snoc X23 N22 htx
      refine w_iinc (Ls' := #[.val (.int sh), .val (.int wo), .val (.int fr), .val (.int xp), .val (.int ng), .val (.int nI), .val (.int nF), .val (.int hE), .val (.int bE), .val (.int eS), .val (.int nE), .val (.int i0), .val (.int i1), .val (.int i2), .val (.int f0), .val (.int f1), .val (.int f2), .val (.int e0'), .val (.int e1'), .val (.int e2'), .val (.ref tx), .val (.int ((Int32.ofNat ([55] : List Int32).length) + (1 : Int32))), .unset, .unset, .unset, .unset]) (n := 196) X23.here hx (hb hby at_193) rfl rfl rfl ?_
      rw [nat_up, ← own_len1 ([55] : List Int32) (45)]
      exact t196 (([55] : List Int32) ++ [45]) _ _ _ X23 e23 E23 N23 V23 (by decide) (by rw [own_sg, if_neg hc183]; rfl)
  have tail108 : ∀ (T1 : State) (X1 : Stand p l e room_1 s m #[.int sh, .int wo, .int fr, .int xp] below meth c T1 [] 0 0) (e1 : T1.heap = h0) (ng nI nF hE bE eS nE i0 : Int32), own_r9 i0 → Endz p.tables e below (Finz s room_1 (fun v _ L => v = some (.int 1) ∧ Fr h0.size L)) T1 (mkF m 108 #[.val (.int sh), .val (.int wo), .val (.int fr), .val (.int xp), .val (.int ng), .val (.int nI), .val (.int nF), .val (.int hE), .val (.int bE), .val (.int eS), .val (.int nE), .unset, .unset, .unset, .unset, .unset, .unset, .unset, .unset, .unset, .unset, .unset, .unset, .unset, .unset, .unset] [.int i0]) := by
    intro T1 X1 e1 ng nI nF hE bE eS nE i0 a0'
    refine w_istore (Ls' := #[.val (.int sh), .val (.int wo), .val (.int fr), .val (.int xp), .val (.int ng), .val (.int nI), .val (.int nF), .val (.int hE), .val (.int bE), .val (.int eS), .val (.int nE), .val (.int i0), .unset, .unset, .unset, .unset, .unset, .unset, .unset, .unset, .unset, .unset, .unset, .unset, .unset, .unset]) (n := 110) X1.here hx (hb hby at_108) rfl rfl ?_
    refine w_iloadN (n := 111) X1.here hx (hb hby at_110) rfl rfl ?_
    refine w_iconst (z := (1 : Int32)) (n := 112) X1.here hx (hb hby at_111) rfl rfl ?_
    refine c_S (n := 115) (rest := []) (argsL := [.int wo, .int (1 : Int32)]) X1 hx hZ hown (rmd l Z a0 hw [] wo (1 : Int32) h0) e1 (hw _ (List.mem_of_getElem? (i := 0) rfl)) (hw _ (List.mem_of_getElem? (i := 1) rfl)) (hw _ (List.mem_of_getElem? (i := 2) rfl)) (hw _ (List.mem_of_getElem? (i := 3) rfl)) (by decide) 0 (by decide) (by decide) (by decide) (by decide) (by rw [hml]; rfl) pd_d rfl rfl (Nat.le_of_ble_eq_true rfl) (hb hby at_112) rfl (fun v2 T2 L2 X2 hQ2 => ?_)
    obtain ⟨rfl, e2, rfl⟩ := hQ2
    show Endz _ _ _ _ T2 (mkF m 115 #[.val (.int sh), .val (.int wo), .val (.int fr), .val (.int xp), .val (.int ng), .val (.int nI), .val (.int nF), .val (.int hE), .val (.int bE), .val (.int eS), .val (.int nE), .val (.int i0), .unset, .unset, .unset, .unset, .unset, .unset, .unset, .unset, .unset, .unset, .unset, .unset, .unset, .unset] [(.int (own_d wo (1 : Int32)))])
    refine w_istore (Ls' := #[.val (.int sh), .val (.int wo), .val (.int fr), .val (.int xp), .val (.int ng), .val (.int nI), .val (.int nF), .val (.int hE), .val (.int bE), .val (.int eS), .val (.int nE), .val (.int i0), .val (.int (own_d wo (1 : Int32))), .unset, .unset, .unset, .unset, .unset, .unset, .unset, .unset, .unset, .unset, .unset, .unset, .unset]) (n := 117) X2.here hx (hb hby at_115) rfl rfl ?_
    refine w_iloadN (n := 118) X2.here hx (hb hby at_117) rfl rfl ?_
    refine w_iconst (z := (2 : Int32)) (n := 119) X2.here hx (hb hby at_118) rfl rfl ?_
    refine c_S (n := 122) (rest := []) (argsL := [.int wo, .int (2 : Int32)]) X2 hx hZ hown (rmd l Z a0 hw [] wo (2 : Int32) h0) e2 (hw _ (List.mem_of_getElem? (i := 0) rfl)) (hw _ (List.mem_of_getElem? (i := 1) rfl)) (hw _ (List.mem_of_getElem? (i := 2) rfl)) (hw _ (List.mem_of_getElem? (i := 3) rfl)) (by decide) 0 (by decide) (by decide) (by decide) (by decide) (by rw [hml]; rfl) pd_d rfl rfl (Nat.le_of_ble_eq_true rfl) (hb hby at_119) rfl (fun v3 T3 L3 X3 hQ3 => ?_)
    obtain ⟨rfl, e3, rfl⟩ := hQ3
    show Endz _ _ _ _ T3 (mkF m 122 #[.val (.int sh), .val (.int wo), .val (.int fr), .val (.int xp), .val (.int ng), .val (.int nI), .val (.int nF), .val (.int hE), .val (.int bE), .val (.int eS), .val (.int nE), .val (.int i0), .val (.int (own_d wo (1 : Int32))), .unset, .unset, .unset, .unset, .unset, .unset, .unset, .unset, .unset, .unset, .unset, .unset, .unset] [(.int (own_d wo (2 : Int32)))])
    refine w_istore (Ls' := #[.val (.int sh), .val (.int wo), .val (.int fr), .val (.int xp), .val (.int ng), .val (.int nI), .val (.int nF), .val (.int hE), .val (.int bE), .val (.int eS), .val (.int nE), .val (.int i0), .val (.int (own_d wo (1 : Int32))), .val (.int (own_d wo (2 : Int32))), .unset, .unset, .unset, .unset, .unset, .unset, .unset, .unset, .unset, .unset, .unset, .unset]) (n := 124) X3.here hx (hb hby at_122) rfl rfl ?_
    refine w_iloadN (n := 125) X3.here hx (hb hby at_124) rfl rfl ?_
    refine w_iconst (z := (0 : Int32)) (n := 126) X3.here hx (hb hby at_125) rfl rfl ?_
    refine c_S (n := 129) (rest := []) (argsL := [.int fr, .int (0 : Int32)]) X3 hx hZ hown (rmd l Z a0 hw [] fr (0 : Int32) h0) e3 (hw _ (List.mem_of_getElem? (i := 0) rfl)) (hw _ (List.mem_of_getElem? (i := 1) rfl)) (hw _ (List.mem_of_getElem? (i := 2) rfl)) (hw _ (List.mem_of_getElem? (i := 3) rfl)) (by decide) 0 (by decide) (by decide) (by decide) (by decide) (by rw [hml]; rfl) pd_d rfl rfl (Nat.le_of_ble_eq_true rfl) (hb hby at_126) rfl (fun v4 T4 L4 X4 hQ4 => ?_)
    obtain ⟨rfl, e4, rfl⟩ := hQ4
    show Endz _ _ _ _ T4 (mkF m 129 #[.val (.int sh), .val (.int wo), .val (.int fr), .val (.int xp), .val (.int ng), .val (.int nI), .val (.int nF), .val (.int hE), .val (.int bE), .val (.int eS), .val (.int nE), .val (.int i0), .val (.int (own_d wo (1 : Int32))), .val (.int (own_d wo (2 : Int32))), .unset, .unset, .unset, .unset, .unset, .unset, .unset, .unset, .unset, .unset, .unset, .unset] [(.int (own_d fr (0 : Int32)))])
    refine w_istore (Ls' := #[.val (.int sh), .val (.int wo), .val (.int fr), .val (.int xp), .val (.int ng), .val (.int nI), .val (.int nF), .val (.int hE), .val (.int bE), .val (.int eS), .val (.int nE), .val (.int i0), .val (.int (own_d wo (1 : Int32))), .val (.int (own_d wo (2 : Int32))), .val (.int (own_d fr (0 : Int32))), .unset, .unset, .unset, .unset, .unset, .unset, .unset, .unset, .unset, .unset, .unset]) (n := 131) X4.here hx (hb hby at_129) rfl rfl ?_
    refine w_iloadN (n := 132) X4.here hx (hb hby at_131) rfl rfl ?_
    refine w_iconst (z := (1 : Int32)) (n := 133) X4.here hx (hb hby at_132) rfl rfl ?_
    refine c_S (n := 136) (rest := []) (argsL := [.int fr, .int (1 : Int32)]) X4 hx hZ hown (rmd l Z a0 hw [] fr (1 : Int32) h0) e4 (hw _ (List.mem_of_getElem? (i := 0) rfl)) (hw _ (List.mem_of_getElem? (i := 1) rfl)) (hw _ (List.mem_of_getElem? (i := 2) rfl)) (hw _ (List.mem_of_getElem? (i := 3) rfl)) (by decide) 0 (by decide) (by decide) (by decide) (by decide) (by rw [hml]; rfl) pd_d rfl rfl (Nat.le_of_ble_eq_true rfl) (hb hby at_133) rfl (fun v5 T5 L5 X5 hQ5 => ?_)
    obtain ⟨rfl, e5, rfl⟩ := hQ5
    show Endz _ _ _ _ T5 (mkF m 136 #[.val (.int sh), .val (.int wo), .val (.int fr), .val (.int xp), .val (.int ng), .val (.int nI), .val (.int nF), .val (.int hE), .val (.int bE), .val (.int eS), .val (.int nE), .val (.int i0), .val (.int (own_d wo (1 : Int32))), .val (.int (own_d wo (2 : Int32))), .val (.int (own_d fr (0 : Int32))), .unset, .unset, .unset, .unset, .unset, .unset, .unset, .unset, .unset, .unset, .unset] [(.int (own_d fr (1 : Int32)))])
    refine w_istore (Ls' := #[.val (.int sh), .val (.int wo), .val (.int fr), .val (.int xp), .val (.int ng), .val (.int nI), .val (.int nF), .val (.int hE), .val (.int bE), .val (.int eS), .val (.int nE), .val (.int i0), .val (.int (own_d wo (1 : Int32))), .val (.int (own_d wo (2 : Int32))), .val (.int (own_d fr (0 : Int32))), .val (.int (own_d fr (1 : Int32))), .unset, .unset, .unset, .unset, .unset, .unset, .unset, .unset, .unset, .unset]) (n := 138) X5.here hx (hb hby at_136) rfl rfl ?_
    refine w_iloadN (n := 139) X5.here hx (hb hby at_138) rfl rfl ?_
    refine w_iconst (z := (2 : Int32)) (n := 140) X5.here hx (hb hby at_139) rfl rfl ?_
    refine c_S (n := 143) (rest := []) (argsL := [.int fr, .int (2 : Int32)]) X5 hx hZ hown (rmd l Z a0 hw [] fr (2 : Int32) h0) e5 (hw _ (List.mem_of_getElem? (i := 0) rfl)) (hw _ (List.mem_of_getElem? (i := 1) rfl)) (hw _ (List.mem_of_getElem? (i := 2) rfl)) (hw _ (List.mem_of_getElem? (i := 3) rfl)) (by decide) 0 (by decide) (by decide) (by decide) (by decide) (by rw [hml]; rfl) pd_d rfl rfl (Nat.le_of_ble_eq_true rfl) (hb hby at_140) rfl (fun v6 T6 L6 X6 hQ6 => ?_)
    obtain ⟨rfl, e6, rfl⟩ := hQ6
    show Endz _ _ _ _ T6 (mkF m 143 #[.val (.int sh), .val (.int wo), .val (.int fr), .val (.int xp), .val (.int ng), .val (.int nI), .val (.int nF), .val (.int hE), .val (.int bE), .val (.int eS), .val (.int nE), .val (.int i0), .val (.int (own_d wo (1 : Int32))), .val (.int (own_d wo (2 : Int32))), .val (.int (own_d fr (0 : Int32))), .val (.int (own_d fr (1 : Int32))), .unset, .unset, .unset, .unset, .unset, .unset, .unset, .unset, .unset, .unset] [(.int (own_d fr (2 : Int32)))])
    refine w_istore (Ls' := #[.val (.int sh), .val (.int wo), .val (.int fr), .val (.int xp), .val (.int ng), .val (.int nI), .val (.int nF), .val (.int hE), .val (.int bE), .val (.int eS), .val (.int nE), .val (.int i0), .val (.int (own_d wo (1 : Int32))), .val (.int (own_d wo (2 : Int32))), .val (.int (own_d fr (0 : Int32))), .val (.int (own_d fr (1 : Int32))), .val (.int (own_d fr (2 : Int32))), .unset, .unset, .unset, .unset, .unset, .unset, .unset, .unset, .unset]) (n := 145) X6.here hx (hb hby at_143) rfl rfl ?_
    refine w_iloadN (n := 146) X6.here hx (hb hby at_145) rfl rfl ?_
    refine w_iconst (z := (0 : Int32)) (n := 147) X6.here hx (hb hby at_146) rfl rfl ?_
    refine c_S (n := 150) (rest := []) (argsL := [.int xp, .int (0 : Int32)]) X6 hx hZ hown (rmd l Z a0 hw [] xp (0 : Int32) h0) e6 (hw _ (List.mem_of_getElem? (i := 0) rfl)) (hw _ (List.mem_of_getElem? (i := 1) rfl)) (hw _ (List.mem_of_getElem? (i := 2) rfl)) (hw _ (List.mem_of_getElem? (i := 3) rfl)) (by decide) 0 (by decide) (by decide) (by decide) (by decide) (by rw [hml]; rfl) pd_d rfl rfl (Nat.le_of_ble_eq_true rfl) (hb hby at_147) rfl (fun v7 T7 L7 X7 hQ7 => ?_)
    obtain ⟨rfl, e7, rfl⟩ := hQ7
    show Endz _ _ _ _ T7 (mkF m 150 #[.val (.int sh), .val (.int wo), .val (.int fr), .val (.int xp), .val (.int ng), .val (.int nI), .val (.int nF), .val (.int hE), .val (.int bE), .val (.int eS), .val (.int nE), .val (.int i0), .val (.int (own_d wo (1 : Int32))), .val (.int (own_d wo (2 : Int32))), .val (.int (own_d fr (0 : Int32))), .val (.int (own_d fr (1 : Int32))), .val (.int (own_d fr (2 : Int32))), .unset, .unset, .unset, .unset, .unset, .unset, .unset, .unset, .unset] [(.int (own_d xp (0 : Int32)))])
    refine w_istore (Ls' := #[.val (.int sh), .val (.int wo), .val (.int fr), .val (.int xp), .val (.int ng), .val (.int nI), .val (.int nF), .val (.int hE), .val (.int bE), .val (.int eS), .val (.int nE), .val (.int i0), .val (.int (own_d wo (1 : Int32))), .val (.int (own_d wo (2 : Int32))), .val (.int (own_d fr (0 : Int32))), .val (.int (own_d fr (1 : Int32))), .val (.int (own_d fr (2 : Int32))), .val (.int (own_d xp (0 : Int32))), .unset, .unset, .unset, .unset, .unset, .unset, .unset, .unset]) (n := 152) X7.here hx (hb hby at_150) rfl rfl ?_
    refine w_iloadN (n := 153) X7.here hx (hb hby at_152) rfl rfl ?_
    refine w_iconst (z := (1 : Int32)) (n := 154) X7.here hx (hb hby at_153) rfl rfl ?_
    refine c_S (n := 157) (rest := []) (argsL := [.int xp, .int (1 : Int32)]) X7 hx hZ hown (rmd l Z a0 hw [] xp (1 : Int32) h0) e7 (hw _ (List.mem_of_getElem? (i := 0) rfl)) (hw _ (List.mem_of_getElem? (i := 1) rfl)) (hw _ (List.mem_of_getElem? (i := 2) rfl)) (hw _ (List.mem_of_getElem? (i := 3) rfl)) (by decide) 0 (by decide) (by decide) (by decide) (by decide) (by rw [hml]; rfl) pd_d rfl rfl (Nat.le_of_ble_eq_true rfl) (hb hby at_154) rfl (fun v8 T8 L8 X8 hQ8 => ?_)
    obtain ⟨rfl, e8, rfl⟩ := hQ8
    show Endz _ _ _ _ T8 (mkF m 157 #[.val (.int sh), .val (.int wo), .val (.int fr), .val (.int xp), .val (.int ng), .val (.int nI), .val (.int nF), .val (.int hE), .val (.int bE), .val (.int eS), .val (.int nE), .val (.int i0), .val (.int (own_d wo (1 : Int32))), .val (.int (own_d wo (2 : Int32))), .val (.int (own_d fr (0 : Int32))), .val (.int (own_d fr (1 : Int32))), .val (.int (own_d fr (2 : Int32))), .val (.int (own_d xp (0 : Int32))), .unset, .unset, .unset, .unset, .unset, .unset, .unset, .unset] [(.int (own_d xp (1 : Int32)))])
    refine w_istore (Ls' := #[.val (.int sh), .val (.int wo), .val (.int fr), .val (.int xp), .val (.int ng), .val (.int nI), .val (.int nF), .val (.int hE), .val (.int bE), .val (.int eS), .val (.int nE), .val (.int i0), .val (.int (own_d wo (1 : Int32))), .val (.int (own_d wo (2 : Int32))), .val (.int (own_d fr (0 : Int32))), .val (.int (own_d fr (1 : Int32))), .val (.int (own_d fr (2 : Int32))), .val (.int (own_d xp (0 : Int32))), .val (.int (own_d xp (1 : Int32))), .unset, .unset, .unset, .unset, .unset, .unset, .unset]) (n := 159) X8.here hx (hb hby at_157) rfl rfl ?_
    refine w_iloadN (n := 160) X8.here hx (hb hby at_159) rfl rfl ?_
    refine w_iconst (z := (2 : Int32)) (n := 161) X8.here hx (hb hby at_160) rfl rfl ?_
    refine c_S (n := 164) (rest := []) (argsL := [.int xp, .int (2 : Int32)]) X8 hx hZ hown (rmd l Z a0 hw [] xp (2 : Int32) h0) e8 (hw _ (List.mem_of_getElem? (i := 0) rfl)) (hw _ (List.mem_of_getElem? (i := 1) rfl)) (hw _ (List.mem_of_getElem? (i := 2) rfl)) (hw _ (List.mem_of_getElem? (i := 3) rfl)) (by decide) 0 (by decide) (by decide) (by decide) (by decide) (by rw [hml]; rfl) pd_d rfl rfl (Nat.le_of_ble_eq_true rfl) (hb hby at_161) rfl (fun v9 T9 L9 X9 hQ9 => ?_)
    obtain ⟨rfl, e9, rfl⟩ := hQ9
    show Endz _ _ _ _ T9 (mkF m 164 #[.val (.int sh), .val (.int wo), .val (.int fr), .val (.int xp), .val (.int ng), .val (.int nI), .val (.int nF), .val (.int hE), .val (.int bE), .val (.int eS), .val (.int nE), .val (.int i0), .val (.int (own_d wo (1 : Int32))), .val (.int (own_d wo (2 : Int32))), .val (.int (own_d fr (0 : Int32))), .val (.int (own_d fr (1 : Int32))), .val (.int (own_d fr (2 : Int32))), .val (.int (own_d xp (0 : Int32))), .val (.int (own_d xp (1 : Int32))), .unset, .unset, .unset, .unset, .unset, .unset, .unset] [(.int (own_d xp (2 : Int32)))])
    refine w_istore (Ls' := #[.val (.int sh), .val (.int wo), .val (.int fr), .val (.int xp), .val (.int ng), .val (.int nI), .val (.int nF), .val (.int hE), .val (.int bE), .val (.int eS), .val (.int nE), .val (.int i0), .val (.int (own_d wo (1 : Int32))), .val (.int (own_d wo (2 : Int32))), .val (.int (own_d fr (0 : Int32))), .val (.int (own_d fr (1 : Int32))), .val (.int (own_d fr (2 : Int32))), .val (.int (own_d xp (0 : Int32))), .val (.int (own_d xp (1 : Int32))), .val (.int (own_d xp (2 : Int32))), .unset, .unset, .unset, .unset, .unset, .unset]) (n := 166) X9.here hx (hb hby at_164) rfl rfl ?_
    exact tail166 _ X9 e9 ng nI nF hE bE eS nE i0 _ _ _ _ _ _ _ _ a0' (own_d_r9 _ _) (own_d_r9 _ _) (own_d_r9 _ _) (own_d_r9 _ _) (own_d_r9 _ _)
  have tail60 : ∀ (ng nI nF hE bE : Int32), Endz p.tables e below (Finz s room_1 (fun v _ L => v = some (.int 1) ∧ Fr h0.size L)) T0 (mkF m 60 #[.val (.int sh), .val (.int wo), .val (.int fr), .val (.int xp), .val (.int ng), .val (.int nI), .val (.int nF), .val (.int hE), .unset, .unset, .unset, .unset, .unset, .unset, .unset, .unset, .unset, .unset, .unset, .unset, .unset, .unset, .unset, .unset, .unset, .unset] [.int bE]) := by
    intro ng nI nF hE bE
    refine w_istore (Ls' := #[.val (.int sh), .val (.int wo), .val (.int fr), .val (.int xp), .val (.int ng), .val (.int nI), .val (.int nF), .val (.int hE), .val (.int bE), .unset, .unset, .unset, .unset, .unset, .unset, .unset, .unset, .unset, .unset, .unset, .unset, .unset, .unset, .unset, .unset, .unset]) (n := 62) X0.here hx (hb hby at_60) rfl rfl ?_
    refine w_iloadN (n := 63) X0.here hx (hb hby at_62) rfl rfl ?_
    refine w_bipush (z := (7 : Int32)) (n := 65) X0.here hx (hb hby at_63) rfl rfl ?_
    refine w_iushr (n := 66) X0.here hx (hb hby at_65) rfl ?_
    refine w_iconst (z := (3 : Int32)) (n := 67) X0.here hx (hb hby at_66) rfl rfl ?_
    refine w_iand (n := 68) X0.here hx (hb hby at_67) rfl ?_
    refine w_iconst (z := (3 : Int32)) (n := 69) X0.here hx (hb hby at_68) rfl rfl ?_
    refine w_irem (n := 70) X0.here hx (hb hby at_69) rfl (by decide) ?_
    refine w_istore (Ls' := #[.val (.int sh), .val (.int wo), .val (.int fr), .val (.int xp), .val (.int ng), .val (.int nI), .val (.int nF), .val (.int hE), .val (.int bE), .val (.int ((((sh.toUInt32 >>> ((7 : Int32) &&& 31).toUInt32).toInt32) &&& (3 : Int32)) % (3 : Int32))), .unset, .unset, .unset, .unset, .unset, .unset, .unset, .unset, .unset, .unset, .unset, .unset, .unset, .unset, .unset, .unset]) (n := 72) X0.here hx (hb hby at_70) rfl rfl ?_
    refine w_iconst (z := (1 : Int32)) (n := 73) X0.here hx (hb hby at_72) rfl rfl ?_
    refine w_iloadN (n := 74) X0.here hx (hb hby at_73) rfl rfl ?_
    refine w_bipush (z := (9 : Int32)) (n := 76) X0.here hx (hb hby at_74) rfl rfl ?_
    refine w_iushr (n := 77) X0.here hx (hb hby at_76) rfl ?_
    refine w_iconst (z := (3 : Int32)) (n := 78) X0.here hx (hb hby at_77) rfl rfl ?_
    refine w_iand (n := 79) X0.here hx (hb hby at_78) rfl ?_
    refine w_iconst (z := (3 : Int32)) (n := 80) X0.here hx (hb hby at_79) rfl rfl ?_
    refine w_irem (n := 81) X0.here hx (hb hby at_80) rfl (by decide) ?_
    refine w_iadd (n := 82) X0.here hx (hb hby at_81) rfl ?_
    refine w_istore (Ls' := #[.val (.int sh), .val (.int wo), .val (.int fr), .val (.int xp), .val (.int ng), .val (.int nI), .val (.int nF), .val (.int hE), .val (.int bE), .val (.int ((((sh.toUInt32 >>> ((7 : Int32) &&& 31).toUInt32).toInt32) &&& (3 : Int32)) % (3 : Int32))), .val (.int ((1 : Int32) + ((((sh.toUInt32 >>> ((9 : Int32) &&& 31).toUInt32).toInt32) &&& (3 : Int32)) % (3 : Int32)))), .unset, .unset, .unset, .unset, .unset, .unset, .unset, .unset, .unset, .unset, .unset, .unset, .unset, .unset, .unset]) (n := 84) X0.here hx (hb hby at_82) rfl rfl ?_
    refine w_iload (n := 86) X0.here hx (hb hby at_84) rfl rfl ?_
    refine w_iconst (z := (1 : Int32)) (n := 87) X0.here hx (hb hby at_86) rfl rfl ?_
    refine w_icmple (n1 := 103) (n2 := 90) X0.here hx (hb hby at_87) (by decide) (by decide) rfl (fun hc87 => ?_) (fun hc87 => ?_)
    · refine w_iloadN (n := 104) X0.here hx (hb hby at_103) rfl rfl ?_
      refine w_iconst (z := (0 : Int32)) (n := 105) X0.here hx (hb hby at_104) rfl rfl ?_
      refine c_S (n := 108) (rest := []) (argsL := [.int wo, .int (0 : Int32)]) X0 hx hZ hown (rmd l Z a0 hw [] wo (0 : Int32) h0) e0 (hw _ (List.mem_of_getElem? (i := 0) rfl)) (hw _ (List.mem_of_getElem? (i := 1) rfl)) (hw _ (List.mem_of_getElem? (i := 2) rfl)) (hw _ (List.mem_of_getElem? (i := 3) rfl)) (by decide) 0 (by decide) (by decide) (by decide) (by decide) (by rw [hml]; rfl) pd_d rfl rfl (Nat.le_of_ble_eq_true rfl) (hb hby at_105) rfl (fun v1 T1 L1 X1 hQ1 => ?_)
      obtain ⟨rfl, e1, rfl⟩ := hQ1
      show Endz _ _ _ _ T1 (mkF m 108 #[.val (.int sh), .val (.int wo), .val (.int fr), .val (.int xp), .val (.int ng), .val (.int nI), .val (.int nF), .val (.int hE), .val (.int bE), .val (.int ((((sh.toUInt32 >>> ((7 : Int32) &&& 31).toUInt32).toInt32) &&& (3 : Int32)) % (3 : Int32))), .val (.int ((1 : Int32) + ((((sh.toUInt32 >>> ((9 : Int32) &&& 31).toUInt32).toInt32) &&& (3 : Int32)) % (3 : Int32)))), .unset, .unset, .unset, .unset, .unset, .unset, .unset, .unset, .unset, .unset, .unset, .unset, .unset, .unset, .unset] [(.int (own_d wo (0 : Int32)))])
      exact tail108 _ X1 e1 ng nI nF hE bE _ _ _ (own_d_r9 _ _)
    · refine w_iconst (z := (1 : Int32)) (n := 91) X0.here hx (hb hby at_90) rfl rfl ?_
      refine w_iloadN (n := 92) X0.here hx (hb hby at_91) rfl rfl ?_
      refine w_iconst (z := (0 : Int32)) (n := 93) X0.here hx (hb hby at_92) rfl rfl ?_
      refine c_S (n := 96) (rest := [(.int (1 : Int32))]) (argsL := [.int wo, .int (0 : Int32)]) X0 hx hZ hown (rmd l Z a0 hw [] wo (0 : Int32) h0) e0 (hw _ (List.mem_of_getElem? (i := 0) rfl)) (hw _ (List.mem_of_getElem? (i := 1) rfl)) (hw _ (List.mem_of_getElem? (i := 2) rfl)) (hw _ (List.mem_of_getElem? (i := 3) rfl)) (by decide) 1 (by decide) (by decide) (by decide) (by decide) (by rw [hml]; rfl) pd_d rfl rfl (Nat.le_of_ble_eq_true rfl) (hb hby at_93) rfl (fun v2 T2 L2 X2 hQ2 => ?_)
      obtain ⟨rfl, e2, rfl⟩ := hQ2
      show Endz _ _ _ _ T2 (mkF m 96 #[.val (.int sh), .val (.int wo), .val (.int fr), .val (.int xp), .val (.int ng), .val (.int nI), .val (.int nF), .val (.int hE), .val (.int bE), .val (.int ((((sh.toUInt32 >>> ((7 : Int32) &&& 31).toUInt32).toInt32) &&& (3 : Int32)) % (3 : Int32))), .val (.int ((1 : Int32) + ((((sh.toUInt32 >>> ((9 : Int32) &&& 31).toUInt32).toInt32) &&& (3 : Int32)) % (3 : Int32)))), .unset, .unset, .unset, .unset, .unset, .unset, .unset, .unset, .unset, .unset, .unset, .unset, .unset, .unset, .unset] [(.int (own_d wo (0 : Int32))), (.int (1 : Int32))])
      refine w_bipush (z := (9 : Int32)) (n := 98) X2.here hx (hb hby at_96) rfl rfl ?_
      refine w_irem (n := 99) X2.here hx (hb hby at_98) rfl (by decide) ?_
      refine w_iadd (n := 100) X2.here hx (hb hby at_99) rfl ?_
      refine w_goto (n := 108) X2.here hx (hb hby at_100) (by decide) (by decide) ?_
      exact tail108 _ X2 e2 ng nI nF hE bE _ _ _ (own_d_r9' _ _)
  have tail44 : ∀ (ng nI nF hE : Int32), Endz p.tables e below (Finz s room_1 (fun v _ L => v = some (.int 1) ∧ Fr h0.size L)) T0 (mkF m 44 #[.val (.int sh), .val (.int wo), .val (.int fr), .val (.int xp), .val (.int ng), .val (.int nI), .val (.int nF), .unset, .unset, .unset, .unset, .unset, .unset, .unset, .unset, .unset, .unset, .unset, .unset, .unset, .unset, .unset, .unset, .unset, .unset, .unset] [.int hE]) := by
    intro ng nI nF hE
    refine w_istore (Ls' := #[.val (.int sh), .val (.int wo), .val (.int fr), .val (.int xp), .val (.int ng), .val (.int nI), .val (.int nF), .val (.int hE), .unset, .unset, .unset, .unset, .unset, .unset, .unset, .unset, .unset, .unset, .unset, .unset, .unset, .unset, .unset, .unset, .unset, .unset]) (n := 46) X0.here hx (hb hby at_44) rfl rfl ?_
    refine w_iloadN (n := 47) X0.here hx (hb hby at_46) rfl rfl ?_
    refine w_bipush (z := (6 : Int32)) (n := 49) X0.here hx (hb hby at_47) rfl rfl ?_
    refine w_iushr (n := 50) X0.here hx (hb hby at_49) rfl ?_
    refine w_iconst (z := (1 : Int32)) (n := 51) X0.here hx (hb hby at_50) rfl rfl ?_
    refine w_iand (n := 52) X0.here hx (hb hby at_51) rfl ?_
    refine w_ifeq (n1 := 59) (n2 := 55) X0.here hx (hb hby at_52) (by decide) (by decide) rfl (fun hc52 => ?_) (fun hc52 => ?_)
    · refine w_iconst (z := (0 : Int32)) (n := 60) X0.here hx (hb hby at_59) rfl rfl ?_
      exact tail60 ng nI nF hE _
    · refine w_iconst (z := (1 : Int32)) (n := 56) X0.here hx (hb hby at_55) rfl rfl ?_
      refine w_goto (n := 60) X0.here hx (hb hby at_56) (by decide) (by decide) ?_
      exact tail60 ng nI nF hE _
  have tail11 : ∀ (ng : Int32), Endz p.tables e below (Finz s room_1 (fun v _ L => v = some (.int 1) ∧ Fr h0.size L)) T0 (mkF m 11 #[.val (.int sh), .val (.int wo), .val (.int fr), .val (.int xp), .unset, .unset, .unset, .unset, .unset, .unset, .unset, .unset, .unset, .unset, .unset, .unset, .unset, .unset, .unset, .unset, .unset, .unset, .unset, .unset, .unset, .unset] [.int ng]) := by
    intro ng
    refine w_istore (Ls' := #[.val (.int sh), .val (.int wo), .val (.int fr), .val (.int xp), .val (.int ng), .unset, .unset, .unset, .unset, .unset, .unset, .unset, .unset, .unset, .unset, .unset, .unset, .unset, .unset, .unset, .unset, .unset, .unset, .unset, .unset, .unset]) (n := 13) X0.here hx (hb hby at_11) rfl rfl ?_
    refine w_iconst (z := (1 : Int32)) (n := 14) X0.here hx (hb hby at_13) rfl rfl ?_
    refine w_iloadN (n := 15) X0.here hx (hb hby at_14) rfl rfl ?_
    refine w_iconst (z := (1 : Int32)) (n := 16) X0.here hx (hb hby at_15) rfl rfl ?_
    refine w_iushr (n := 17) X0.here hx (hb hby at_16) rfl ?_
    refine w_iconst (z := (3 : Int32)) (n := 18) X0.here hx (hb hby at_17) rfl rfl ?_
    refine w_iand (n := 19) X0.here hx (hb hby at_18) rfl ?_
    refine w_iconst (z := (3 : Int32)) (n := 20) X0.here hx (hb hby at_19) rfl rfl ?_
    refine w_irem (n := 21) X0.here hx (hb hby at_20) rfl (by decide) ?_
    refine w_iadd (n := 22) X0.here hx (hb hby at_21) rfl ?_
    refine w_istore (Ls' := #[.val (.int sh), .val (.int wo), .val (.int fr), .val (.int xp), .val (.int ng), .val (.int ((1 : Int32) + ((((sh.toUInt32 >>> ((1 : Int32) &&& 31).toUInt32).toInt32) &&& (3 : Int32)) % (3 : Int32)))), .unset, .unset, .unset, .unset, .unset, .unset, .unset, .unset, .unset, .unset, .unset, .unset, .unset, .unset, .unset, .unset, .unset, .unset, .unset, .unset]) (n := 24) X0.here hx (hb hby at_22) rfl rfl ?_
    refine w_iloadN (n := 25) X0.here hx (hb hby at_24) rfl rfl ?_
    refine w_iconst (z := (3 : Int32)) (n := 26) X0.here hx (hb hby at_25) rfl rfl ?_
    refine w_iushr (n := 27) X0.here hx (hb hby at_26) rfl ?_
    refine w_iconst (z := (3 : Int32)) (n := 28) X0.here hx (hb hby at_27) rfl rfl ?_
    refine w_iand (n := 29) X0.here hx (hb hby at_28) rfl ?_
    refine w_istore (Ls' := #[.val (.int sh), .val (.int wo), .val (.int fr), .val (.int xp), .val (.int ng), .val (.int ((1 : Int32) + ((((sh.toUInt32 >>> ((1 : Int32) &&& 31).toUInt32).toInt32) &&& (3 : Int32)) % (3 : Int32)))), .val (.int (((sh.toUInt32 >>> ((3 : Int32) &&& 31).toUInt32).toInt32) &&& (3 : Int32))), .unset, .unset, .unset, .unset, .unset, .unset, .unset, .unset, .unset, .unset, .unset, .unset, .unset, .unset, .unset, .unset, .unset, .unset, .unset]) (n := 31) X0.here hx (hb hby at_29) rfl rfl ?_
    refine w_iloadN (n := 32) X0.here hx (hb hby at_31) rfl rfl ?_
    refine w_iconst (z := (5 : Int32)) (n := 33) X0.here hx (hb hby at_32) rfl rfl ?_
    refine w_iushr (n := 34) X0.here hx (hb hby at_33) rfl ?_
    refine w_iconst (z := (1 : Int32)) (n := 35) X0.here hx (hb hby at_34) rfl rfl ?_
    refine w_iand (n := 36) X0.here hx (hb hby at_35) rfl ?_
    refine w_ifeq (n1 := 43) (n2 := 39) X0.here hx (hb hby at_36) (by decide) (by decide) rfl (fun hc36 => ?_) (fun hc36 => ?_)
    · refine w_iconst (z := (0 : Int32)) (n := 44) X0.here hx (hb hby at_43) rfl rfl ?_
      exact tail44 ng _ _ _
    · refine w_iconst (z := (1 : Int32)) (n := 40) X0.here hx (hb hby at_39) rfl rfl ?_
      refine w_goto (n := 44) X0.here hx (hb hby at_40) (by decide) (by decide) ?_
      exact tail44 ng _ _ _
  refine w_iloadN (n := 1) X0.here hx (hb hby at_0) rfl rfl ?_
  refine w_iconst (z := (1 : Int32)) (n := 2) X0.here hx (hb hby at_1) rfl rfl ?_
  refine w_iand (n := 3) X0.here hx (hb hby at_2) rfl ?_
  refine w_ifeq (n1 := 10) (n2 := 6) X0.here hx (hb hby at_3) (by decide) (by decide) rfl (fun hc3 => ?_) (fun hc3 => ?_)
  · refine w_iconst (z := (0 : Int32)) (n := 11) X0.here hx (hb hby at_10) rfl rfl ?_
    exact tail11 _
  · refine w_iconst (z := (1 : Int32)) (n := 7) X0.here hx (hb hby at_6) rfl rfl ?_
    refine w_goto (n := 11) X0.here hx (hb hby at_7) (by decide) (by decide) ?_
    exact tail11 _
set_option maxRecDepth 65536 in
set_option maxHeartbeats 40000000 in
theorem comes_1 {Post : Tables → Env → Array Value → State → Outcome → State → Prop} (hpost : ∀ tb e args s v u, (limb_1_1.after args s (.returned v) u = true ∧ limb_1_2.after args s (.returned v) u = true ∧ True) → FrameEnd s (.returned v) u (Jvm.fieldLocs frame_1_writes args s ++ Jvm.arrayLocs frame_1_arrays args s ++ Jvm.staticLocs frame_1_statics s) 16 128 → Post tb e args s (.returned v) u) :
    ArmFor flags0 classFile x code maxLocals ret World_1 tables_1 room_1 Calls_1 rest_1 Pre_1 Post := by
  intro l hfl _ _ p e ha hc hk s m args below hf hA hF happ hP
  obtain ⟨hcalls, hrest, hpre⟩ := hP
  obtain ⟨-, -, -, hnamed, -, -, -, hat⟩ := (Spec.applies_iff hf).mp happ
  obtain ⟨hg, hn⟩ := and_e (Cond.before_iff.mp (show (Jvm.Cond.and given_1 narrow_1).before args s = true from hpre))
  obtain ⟨q1, q2⟩ := and_e hg
  obtain ⟨q3, q4⟩ := and_e q2
  obtain ⟨q5, q6⟩ := and_e q4
  obtain ⟨q7, q8⟩ := and_e q6
  obtain ⟨w0, w1, w2, w3, rfl⟩ : ∃ w0 w1 w2 w3 : Value, args = #[w0, w1, w2, w3] := by
    have hs : args.size = 4 := by simpa [Cond.value, given_1] using q1
    obtain ⟨L⟩ := args
    match L, hs with
    | [w0, w1, w2, w3], _ => exact ⟨w0, w1, w2, w3, rfl⟩
  have hw := fun d (hd : d ∈ tables_1) => atoms_spec (ws := Jvm.Cond.code x code maxLocals ret :: tables_1) hat d (List.mem_cons_of_mem _ hd)
  have hfit : Fit s := fun {y c} hc i hi => by
    obtain ⟨ha, rfl⟩ := Array.getElem?_eq_some_iff.mp hc
    have q := List.all_eq_true.mp ((Array.all_eq_true_iff_forall_mem.mp hF) _ (Array.getElem_mem ha)) i (List.mem_range.mpr hi)
    simpa [Array.getElem?_eq_getElem hi] using q
  obtain ⟨i0, ei0⟩ := is_v q3
  obtain rfl : w0 = (.int i0) := Option.some.inj ei0
  obtain ⟨i1, ei1⟩ := is_v q5
  obtain rfl : w1 = (.int i1) := Option.some.inj ei1
  obtain ⟨i2, ei2⟩ := is_v q7
  obtain rfl : w2 = (.int i2) := Option.some.inj ei2
  obtain ⟨i3, ei3⟩ := is_v q8
  obtain rfl : w3 = (.int i3) := Option.some.inj ei3
  obtain ⟨q101, q102⟩ := and_e hn
  obtain ⟨q103, q104⟩ := and_e q102
  obtain ⟨q105, q106⟩ := and_e q104
  obtain ⟨q107, q108⟩ := and_e q106
  obtain ⟨q109, q110⟩ := and_e q108
  obtain ⟨q111, q112⟩ := and_e q110
  obtain ⟨q113, q114⟩ := and_e q112
  obtain ⟨q115, q116⟩ := and_e q114
  obtain ⟨q117, q118⟩ := and_e q116
  obtain ⟨q119, q120⟩ := and_e q118
  obtain ⟨q121, q122⟩ := and_e q120
  obtain ⟨q123, q124⟩ := and_e q122
  obtain ⟨q125, q126⟩ := and_e q124
  obtain ⟨q127, q128⟩ := and_e q126
  obtain ⟨q129, q130⟩ := and_e q128
  obtain ⟨q131, q132⟩ := and_e q130
  obtain ⟨q133, q134⟩ := and_e q132
  obtain ⟨q135, q136⟩ := and_e q134
  obtain ⟨q137, q138⟩ := and_e q136
  obtain ⟨pw, evP⟩ := arr_v q101
  have SP : Sta s s.heap "com/example/portion/portion/quota/BoundedNumber" "POWERS_OF_TEN" "[J" (.ref pw) := Sta.start evP (Or.inr ⟨(hw _ (List.mem_of_getElem? (i := 7) rfl)), (hw _ (List.mem_of_getElem? (i := 31) rfl))⟩)
  obtain ⟨cP, arP⟩ := Arr.start evP q101
  obtain ⟨lP, zP⟩ := len_is evP arP.1 q103
  have el0 : cP.slots[0]? = some (.long 1) := eleml_is evP arP.1 q105
  have el1 : cP.slots[1]? = some (.long 10) := eleml_is evP arP.1 q107
  have el2 : cP.slots[2]? = some (.long 100) := eleml_is evP arP.1 q109
  have el3 : cP.slots[3]? = some (.long 1000) := eleml_is evP arP.1 q111
  have el4 : cP.slots[4]? = some (.long 10000) := eleml_is evP arP.1 q113
  have el5 : cP.slots[5]? = some (.long 100000) := eleml_is evP arP.1 q115
  have el6 : cP.slots[6]? = some (.long 1000000) := eleml_is evP arP.1 q117
  have el7 : cP.slots[7]? = some (.long 10000000) := eleml_is evP arP.1 q119
  have el8 : cP.slots[8]? = some (.long 100000000) := eleml_is evP arP.1 q121
  have el9 : cP.slots[9]? = some (.long 1000000000) := eleml_is evP arP.1 q123
  have el10 : cP.slots[10]? = some (.long 10000000000) := eleml_is evP arP.1 q125
  have el11 : cP.slots[11]? = some (.long 100000000000) := eleml_is evP arP.1 q127
  have el12 : cP.slots[12]? = some (.long 1000000000000) := eleml_is evP arP.1 q129
  have el13 : cP.slots[13]? = some (.long 10000000000000) := eleml_is evP arP.1 q131
  have el14 : cP.slots[14]? = some (.long 100000000000000) := eleml_is evP arP.1 q133
  have el15 : cP.slots[15]? = some (.long 1000000000000000) := eleml_is evP arP.1 q135
  have el16 : cP.slots[16]? = some (.long 10000000000000000) := eleml_is evP arP.1 q137
  have el17 : cP.slots[17]? = some (.long 100000000000000000) := eleml_is evP arP.1 q138
  have VP : Arv s s.heap pw cP.cls .long 18 (own_pows.map Value.long) (.long 0) := Arv.start hfit arP lP zP (by decide) rfl ⟨el0, el1, el2, el3, el4, el5, el6, el7, el8, el9, el10, el11, el12, el13, el14, el15, el16, el17, trivial⟩
  obtain ⟨n, o, h1, h2, h3, _, L, rfl, ⟨rfl, N⟩, hq⟩ := rm0 l s _ hw tables_1 i0 i1 i2 i3 pw cP.cls s.heap SP VP p e ha hc hk s m _ below hf ((Spec.applies_iff_loose hf).mp happ).1 ⟨rfl, State.Warmed39.refl s, rfl⟩ trivial
  exact ⟨n, _, h1, h2, h3, hpost _ _ _ _ _ _ ⟨Cond.after_iff.mpr rfl, Cond.after_iff.mpr (eq_i res_at (Term.int_eval (1)) rfl), trivial⟩ ⟨hq.1, hq.2.1, (hq.2.2.sift fun y hy => Or.inr (N y hy)).mono (by decide) (by decide)⟩⟩
theorem main_1_1 : Claimed_1_1 := comes_1 fun _ _ _ _ _ _ h hF => ⟨h.1, hF⟩
theorem main_1_2 : Claimed_1_2 := comes_1 fun _ _ _ _ _ _ h hF => ⟨h.2.1, hF⟩
end Jvm.Pilot.@@N@@
namespace Jvm.Pilot.@@N@@
open Jvm Jvm.ClassFile Sem Op Lib Jvm.Free Jvm.Stand Jvm.Pilot.@@N@@.Jvm.D
/-! MADE BY PROGRAM (witnessworld.py) out of the Statement's table words and the real class files: 11 classes; the members and pool entries that the words name. The judged class is class 1, her method 2. -/
namespace start1
open Jvm.ClassFile
def u (s : String) : CpInfo := .utf8 (stringToUtf16 s)
/-- a pool by its gaps: so many unusable entries, then the entry; so many at the end -/
def gap : Nat → List CpInfo → List CpInfo
  | 0, r => r
  | n + 1, r => .unusable :: gap n r
def poolList (es : List (Nat × CpInfo)) (last : Nat) : List CpInfo := es.foldr (fun e r => gap e.1 (e.2 :: r)) (gap last [])
def pool (es : List (Nat × CpInfo)) (last : Nat) : Array CpInfo := ⟨poolList es last⟩
def fileOf (pool : Array CpInfo) (this : Nat) (attrs : Array Attribute := #[]) (ms : Array MethodInfo := #[]) (fl : Nat := 33) (sup : Nat := 0) (ifs : Array Nat := #[]) (fds : Array FieldInfo := #[]) : ClassFile where
  minorVersion := 0
  majorVersion := 65
  constantPool := pool
  accessFlags := fl
  thisClass := this
  superClass := sup
  interfaces := ifs
  fields := fds
  methods := ms
  attributes := attrs
def plain (name : String) (sup : Option ClassId) : Class where
  name := name
  kind := .ordinary
  loader := none
  accessFlags := 33
  super := sup
  interfaces := #[]
  cf := none
  fields := #[]
  methods := #[]
  instanceTypes := #[]
  staticTypes := #[]
  resolved := #[]
  callSites := []
  init := .initialized
  statics := none
  mirror := none

def pool0 : Array CpInfo := pool [(5, u "<init>"), (0, u "()V"), (1, .class_ 10), (1, u "java/lang/Object")] 113

def k0c0 : Code := { maxStack := 0, maxLocals := 1, code := object_method_1_code, exceptionTable := #[], attributes := #[] }
def k0m0 : Method := { name := "<init>", desc := "()V", sig := { parameters := [], returnType := none }, accessFlags := 1, code := some k0c0 }
/-- java/lang/Object -/
def k0 : Class := { plain "java/lang/Object" none with
  accessFlags := 33
  interfaces := #[]
  cf := some (fileOf pool0 8 #[] #[{ accessFlags := 1, nameIndex := 5, descriptorIndex := 6, attributes := #[] }] 33 0 #[] #[])
  fields := #[]
  methods := #[k0m0]
  instanceTypes := #[]
  staticTypes := #[]
  resolved := Array.replicate 124 none
  statics := none }

def pool1 : Array CpInfo := pool [(2, .class_ 4), (0, .nameAndType 5 6), (0, u "java/lang/Object"), (0, u "<init>"), (0, u "()V"), (0, .methodref 8 9), (0, .class_ 10), (0, .nameAndType 11 12), (0, u "com/example/portion/portion/quota/BoundedNumberSignumPinLaw"), (0, u "dig"), (0, u "(II)I"), (0, .class_ 14), (0, u "com/example/portion/portion/quota/BoundedNumber"), (0, .methodref 13 3), (0, .methodref 13 17), (0, .nameAndType 18 19), (0, u "read"), (0, u "([BII)V"), (0, .methodref 13 21), (0, .nameAndType 22 23), (0, u "signum"), (0, u "()I"), (2, u "law"), (0, u "(IIII)Z")] 5

def k1m0 : Method := { name := "<init>", desc := "()V", sig := { parameters := [], returnType := none }, accessFlags := 1, code := none }
def k1c1 : Code := { maxStack := 3, maxLocals := 2, code := method_2_code, exceptionTable := #[], attributes := #[] }
def k1m1 : Method := { name := "dig", desc := "(II)I", sig := { parameters := [.int, .int], returnType := some .int }, accessFlags := 10, code := some k1c1 }
def k1c2 : Code := { maxStack := 4, maxLocals := 26, code := code, exceptionTable := #[], attributes := #[] }
def k1m2 : Method := { name := "law", desc := "(IIII)Z", sig := { parameters := [.int, .int, .int, .int], returnType := some .boolean }, accessFlags := 9, code := some k1c2 }
/-- com/example/portion/portion/quota/BoundedNumberSignumPinLaw -/
def k1 : Class := { plain "com/example/portion/portion/quota/BoundedNumberSignumPinLaw" (some 0) with
  accessFlags := 49
  interfaces := #[]
  cf := some (fileOf pool1 8 #[] #[{ accessFlags := 1, nameIndex := 5, descriptorIndex := 6, attributes := #[] }, { accessFlags := 10, nameIndex := 11, descriptorIndex := 12, attributes := #[] }, { accessFlags := 9, nameIndex := 26, descriptorIndex := 27, attributes := #[] }] 49 2 #[] #[])
  fields := #[]
  methods := #[k1m0, k1m1, k1m2]
  instanceTypes := #[]
  staticTypes := #[]
  resolved := Array.replicate 33 none
  statics := none }

def pool2 : Array CpInfo := pool [(1, .methodref 2 3), (0, .class_ 4), (0, .nameAndType 5 6), (0, u "java/lang/Object"), (0, u "<init>"), (0, u "()V"), (0, .fieldref 8 9), (0, .class_ 10), (0, .nameAndType 11 12), (0, u "com/example/portion/portion/quota/BoundedNumber"), (0, u "negative"), (0, u "Z"), (0, .methodref 8 14), (0, .nameAndType 15 16), (0, u "exponent"), (0, u "([BII)J"), (0, .fieldref 8 18), (0, .nameAndType 19 20), (0, u "whole"), (0, u "J"), (0, .fieldref 8 22), (0, .nameAndType 23 20), (0, u "nanos"), (0, .fieldref 8 25), (0, .nameAndType 26 12), (0, u "finer"), (0, .fieldref 8 28), (0, .nameAndType 29 12), (0, u "beyond"), (0, .long 18), (1, .fieldref 8 33), (0, .nameAndType 34 35), (0, u "POWERS_OF_TEN"), (0, u "[J"), (0, .long 18446744073709551607), (1, .long 9), (3, u "signum"), (0, u "()I"), (10, .long 1000000000000000), (1, .long 10), (1, .long 48), (1, u "WHOLE_DIGITS"), (0, u "I"), (2, u "FRACTION_DIGITS"), (1, u "NANOS_PER_SECOND"), (0, u "EXPONENT_BOUND"), (2, u "read"), (0, u "([BII)V")] 10

def k2c0 : Code := { maxStack := 1, maxLocals := 1, code := prog_59_method_1_code, exceptionTable := #[], attributes := #[] }
def k2m0 : Method := { name := "<init>", desc := "()V", sig := { parameters := [], returnType := none }, accessFlags := 0, code := some k2c0 }
def k2c1 : Code := { maxStack := 10, maxLocals := 13, code := prog_59_method_2_code, exceptionTable := #[], attributes := #[] }
def k2m1 : Method := { name := "read", desc := "([BII)V", sig := { parameters := [(.array .byte), .int, .int], returnType := none }, accessFlags := 0, code := some k2c1 }
def k2c2 : Code := { maxStack := 4, maxLocals := 3, code := prog_59_method_3_code, exceptionTable := #[], attributes := #[] }
def k2m2 : Method := { name := "signum", desc := "()I", sig := { parameters := [], returnType := some .int }, accessFlags := 0, code := some k2c2 }
def k2c3 : Code := { maxStack := 4, maxLocals := 7, code := prog_59_method_6_code, exceptionTable := #[], attributes := #[] }
def k2m3 : Method := { name := "exponent", desc := "([BII)J", sig := { parameters := [(.array .byte), .int, .int], returnType := some .long }, accessFlags := 10, code := some k2c3 }
/-- com/example/portion/portion/quota/BoundedNumber -/
def k2 : Class := { plain "com/example/portion/portion/quota/BoundedNumber" (some 0) with
  accessFlags := 48
  interfaces := #[]
  cf := some (fileOf pool2 8 #[] #[{ accessFlags := 0, nameIndex := 5, descriptorIndex := 6, attributes := #[] }, { accessFlags := 0, nameIndex := 70, descriptorIndex := 71, attributes := #[] }, { accessFlags := 0, nameIndex := 42, descriptorIndex := 43, attributes := #[] }, { accessFlags := 10, nameIndex := 15, descriptorIndex := 16, attributes := #[] }] 48 2 #[] #[{ accessFlags := 26, nameIndex := 60, descriptorIndex := 61, attributes := #[] }, { accessFlags := 26, nameIndex := 64, descriptorIndex := 61, attributes := #[] }, { accessFlags := 26, nameIndex := 66, descriptorIndex := 20, attributes := #[] }, { accessFlags := 26, nameIndex := 67, descriptorIndex := 20, attributes := #[] }, { accessFlags := 26, nameIndex := 34, descriptorIndex := 35, attributes := #[] }, { accessFlags := 2, nameIndex := 11, descriptorIndex := 12, attributes := #[] }, { accessFlags := 2, nameIndex := 19, descriptorIndex := 20, attributes := #[] }, { accessFlags := 2, nameIndex := 23, descriptorIndex := 20, attributes := #[] }, { accessFlags := 2, nameIndex := 26, descriptorIndex := 12, attributes := #[] }, { accessFlags := 2, nameIndex := 29, descriptorIndex := 12, attributes := #[] }])
  fields := #[{ name := "WHOLE_DIGITS", type := .int, accessFlags := 26, slot := 0, constantValue := 0 }, { name := "FRACTION_DIGITS", type := .int, accessFlags := 26, slot := 1, constantValue := 0 }, { name := "NANOS_PER_SECOND", type := .long, accessFlags := 26, slot := 2, constantValue := 0 }, { name := "EXPONENT_BOUND", type := .long, accessFlags := 26, slot := 3, constantValue := 0 }, { name := "POWERS_OF_TEN", type := (.array .long), accessFlags := 26, slot := 4, constantValue := 0 }, { name := "negative", type := .boolean, accessFlags := 2, slot := 0, constantValue := 0 }, { name := "whole", type := .long, accessFlags := 2, slot := 1, constantValue := 0 }, { name := "nanos", type := .long, accessFlags := 2, slot := 2, constantValue := 0 }, { name := "finer", type := .boolean, accessFlags := 2, slot := 3, constantValue := 0 }, { name := "beyond", type := .boolean, accessFlags := 2, slot := 4, constantValue := 0 }]
  methods := #[k2m0, k2m1, k2m2, k2m3]
  instanceTypes := #[.boolean, .long, .long, .boolean, .boolean]
  staticTypes := #[.int, .int, .long, .long, (.array .long)]
  resolved := Array.replicate 82 none
  statics := some 0 }

def pool3 : Array CpInfo := pool [(1, u "java/lang/Cloneable"), (0, .class_ 1), (0, u "java/lang/Object"), (0, .class_ 3)] 3

/-- java/lang/Cloneable -/
def k3 : Class := { plain "java/lang/Cloneable" (some 0) with
  accessFlags := 1537
  interfaces := #[]
  cf := some (fileOf pool3 2 #[] #[] 1537 4 #[] #[])
  fields := #[]
  methods := #[]
  instanceTypes := #[]
  staticTypes := #[]
  resolved := Array.replicate 8 none
  statics := none }

def pool4 : Array CpInfo := pool [(1, u "java/io/Serializable"), (0, .class_ 1), (0, u "java/lang/Object"), (0, .class_ 3)] 3

/-- java/io/Serializable -/
def k4 : Class := { plain "java/io/Serializable" (some 0) with
  accessFlags := 1537
  interfaces := #[]
  cf := some (fileOf pool4 2 #[] #[] 1537 4 #[] #[])
  fields := #[]
  methods := #[]
  instanceTypes := #[]
  staticTypes := #[]
  resolved := Array.replicate 8 none
  statics := none }

/-- the primitive byte -/
def k5 : Class := { plain "byte" none with kind := .primitive 'B', accessFlags := 0x411 }
/-- [B -/
def k6 : Class := { plain "[B" (some 0) with kind := .array 5 .byte, interfaces := #[3, 4], accessFlags := 1041 }

/-- the primitive int -/
def k7 : Class := { plain "int" none with kind := .primitive 'I', accessFlags := 0x411 }
/-- [I -/
def k8 : Class := { plain "[I" (some 0) with kind := .array 7 .int, interfaces := #[3, 4], accessFlags := 1041 }

/-- the primitive long -/
def k9 : Class := { plain "long" none with kind := .primitive 'J', accessFlags := 0x411 }
/-- [J -/
def k10 : Class := { plain "[J" (some 0) with kind := .array 9 .long, interfaces := #[3, 4], accessFlags := 1041 }

def heap : Heap := #[{ cls := 2, slots := #[.int 0, .int 0, .long 0, .long 0, .ref 1], vm := .statics 2 },
  { cls := 10, slots := #[.long 1, .long 10, .long 100, .long 1000, .long 10000, .long 100000, .long 1000000, .long 10000000, .long 100000000, .long 1000000000, .long 10000000000, .long 100000000000, .long 1000000000000, .long 10000000000000, .long 100000000000000, .long 1000000000000000, .long 10000000000000000, .long 100000000000000000], vm := .none }]
def classes : Array Class := #[k0, k1, k2, k3, k4, k5, k6, k7, k8, k9, k10]
def interned : List (Array UInt16 × Addr) := []
def slotsUsed : Nat := 23
def theMethod : MethodId := ⟨1, 2⟩
def args0 : Array Value := #[.int 3, .int 291, .int 4660, .int 22]
def aboutOver (below : List Frame) : State where
  vm := { classes := classes, interned := interned.toArray }
  heap := heap
  slotsUsed := slotsUsed
  threads := #[{ frames := .invoking theMethod args0 :: below }]
def below0 : List Frame := [.native { method := ⟨0, 0⟩, args := #[] }]
def about1 : State := aboutOver below0
def p0 : Program := .bare "" "" ""
def e0 : Env := launch0.env 0 0 0
theorem w_frames : about1.frames = Frame.invoking theMethod args0 :: below0 := rfl
set_option maxRecDepth 65536 in
theorem w_args : argsFit about1.vm theMethod args0 = true := by decide +kernel
set_option maxRecDepth 65536 in
theorem w_heap : heapFits about1 = true := by decide +kernel
set_option maxRecDepth 65536 in
theorem w_runnable : about1.curStatus? = some .runnable := by decide +kernel
set_option maxRecDepth 65536 in
theorem w_alone : about1.alone = true := by decide +kernel
set_option maxRecDepth 65536 in
theorem w_named : about1.methodNamed? x = some theMethod := by decide +kernel
set_option maxRecDepth 65536 in
theorem w_hears : about1.hears theMethod below0 = true := by decide +kernel
set_option maxRecDepth 65536 in
theorem w_ripe : about1.ripe theMethod args0 below0 = true := by decide +kernel
theorem w_running : about1.status = .running := rfl
set_option maxRecDepth 65536 in
theorem w_room : about1.hasRoom e0.platform room_1 = true :=
  launch0.hasRoom_least _ room_1 (by decide +kernel) (by decide +kernel) (by decide +kernel) (by decide +kernel) (by decide +kernel) (by decide +kernel)
theorem allAtoms_all (ts : List Jvm.Cond) (a : Array Jvm.Value) (st : Jvm.State) : (allAtoms ts).before a st = ts.all (fun c => c.before a st) := by
  induction ts with
  | nil => rfl
  | cons c t ih =>
    show (Jvm.Cond.and c (allAtoms t)).before a st = _
    rw [Jvm.Cond.before_and, ih, List.all_cons]
def words1 : List Jvm.Cond := Jvm.Cond.code x code maxLocals ret :: tables_1
/-- a 'code' word, met by the world's own term for the bytes: nothing is compared byte by byte -/
theorem code_word {y : MethodName} {bytes : ByteArray} {mx : Nat} {rt : Option FieldType} {a : Array Value} {s : State} {m : MethodId} {meth : Method} {c : Code} (h1 : s.methodNamed? y = some m) (h2 : s.vm.method? m = some meth) (h3 : meth.code = some c) (h4 : c.code = bytes)
    (h5 : (c.maxLocals == mx && c.exceptionTable.isEmpty && decide (c.maxStack ≤ mostOperands) && decide (meth.sig.returnType = rt) && !meth.locks && decide (parseMethodDescriptor y.desc = some meth.sig)) = true) : (Jvm.Cond.code y bytes mx rt).before a s = true := by
  simp only [Bool.and_eq_true, beq_iff_eq, Bool.not_eq_true', decide_eq_true_eq] at h5
  obtain ⟨⟨⟨⟨⟨g1, g2⟩, g3⟩, g4⟩, g5⟩, g6⟩ := h5
  simp [Cond.before, Cond.holds, Cond.value, h1, h2, h3, h4, g1, g2, g3, g4, g5, g6]
def isCode : Jvm.Cond → Bool
  | .code _ _ _ _ => true
  | _ => false
theorem all_split {L : List Jvm.Cond} {P : Jvm.Cond → Bool} (h1 : L.all (fun c => isCode c || P c) = true) (h2 : ∀ c ∈ L.filter isCode, P c = true) : L.all P = true := by
  refine List.all_eq_true.mpr fun c hc => ?_
  have h := List.all_eq_true.mp h1 c hc
  rcases Bool.eq_false_or_eq_true (isCode c) with hi | hi
  · exact h2 c (List.mem_filter.mpr ⟨hc, hi⟩)
  · simpa [hi] using h
set_option maxRecDepth 65536 in
theorem w_c0 : (Jvm.Cond.code x code maxLocals ret).before args0 about1 = true := code_word (m := ⟨1, 2⟩) (meth := k1m2) (c := k1c2) (by decide +kernel) rfl rfl rfl (by decide +kernel)
set_option maxRecDepth 65536 in
theorem w_c1 : (Jvm.Cond.code ({ cls := "com/example/portion/portion/quota/BoundedNumberSignumPinLaw", name := "dig", desc := "(II)I" } : Jvm.MethodName) method_2_code (2 : Nat) (Option.some Jvm.ClassFile.FieldType.int)).before args0 about1 = true := code_word (m := ⟨1, 1⟩) (meth := k1m1) (c := k1c1) (by decide +kernel) rfl rfl rfl (by decide +kernel)
set_option maxRecDepth 65536 in
theorem w_c2 : (Jvm.Cond.code ({ cls := "com/example/portion/portion/quota/BoundedNumber", name := "<init>", desc := "()V" } : Jvm.MethodName) prog_59_method_1_code (1 : Nat) (Option.none : Option Jvm.ClassFile.FieldType)).before args0 about1 = true := code_word (m := ⟨2, 0⟩) (meth := k2m0) (c := k2c0) (by decide +kernel) rfl rfl rfl (by decide +kernel)
set_option maxRecDepth 65536 in
theorem w_c3 : (Jvm.Cond.code ({ cls := "java/lang/Object", name := "<init>", desc := "()V" } : Jvm.MethodName) object_method_1_code (1 : Nat) (Option.none : Option Jvm.ClassFile.FieldType)).before args0 about1 = true := code_word (m := ⟨0, 0⟩) (meth := k0m0) (c := k0c0) (by decide +kernel) rfl rfl rfl (by decide +kernel)
set_option maxRecDepth 65536 in
theorem w_c4 : (Jvm.Cond.code ({ cls := "com/example/portion/portion/quota/BoundedNumber", name := "read", desc := "([BII)V" } : Jvm.MethodName) prog_59_method_2_code (13 : Nat) (Option.none : Option Jvm.ClassFile.FieldType)).before args0 about1 = true := code_word (m := ⟨2, 1⟩) (meth := k2m1) (c := k2c1) (by decide +kernel) rfl rfl rfl (by decide +kernel)
set_option maxRecDepth 65536 in
theorem w_c5 : (Jvm.Cond.code ({ cls := "com/example/portion/portion/quota/BoundedNumber", name := "signum", desc := "()I" } : Jvm.MethodName) prog_59_method_3_code (3 : Nat) (Option.some Jvm.ClassFile.FieldType.int)).before args0 about1 = true := code_word (m := ⟨2, 2⟩) (meth := k2m2) (c := k2c2) (by decide +kernel) rfl rfl rfl (by decide +kernel)
set_option maxRecDepth 65536 in
theorem w_c6 : (Jvm.Cond.code ({ cls := "com/example/portion/portion/quota/BoundedNumber", name := "exponent", desc := "([BII)J" } : Jvm.MethodName) prog_59_method_6_code (7 : Nat) (Option.some Jvm.ClassFile.FieldType.long)).before args0 about1 = true := code_word (m := ⟨2, 3⟩) (meth := k2m3) (c := k2c3) (by decide +kernel) rfl rfl rfl (by decide +kernel)
def codes1 : List Jvm.Cond := [Jvm.Cond.code x code maxLocals ret, Jvm.Cond.code ({ cls := "com/example/portion/portion/quota/BoundedNumberSignumPinLaw", name := "dig", desc := "(II)I" } : Jvm.MethodName) method_2_code (2 : Nat) (Option.some Jvm.ClassFile.FieldType.int), Jvm.Cond.code ({ cls := "com/example/portion/portion/quota/BoundedNumber", name := "<init>", desc := "()V" } : Jvm.MethodName) prog_59_method_1_code (1 : Nat) (Option.none : Option Jvm.ClassFile.FieldType), Jvm.Cond.code ({ cls := "java/lang/Object", name := "<init>", desc := "()V" } : Jvm.MethodName) object_method_1_code (1 : Nat) (Option.none : Option Jvm.ClassFile.FieldType), Jvm.Cond.code ({ cls := "com/example/portion/portion/quota/BoundedNumber", name := "read", desc := "([BII)V" } : Jvm.MethodName) prog_59_method_2_code (13 : Nat) (Option.none : Option Jvm.ClassFile.FieldType), Jvm.Cond.code ({ cls := "com/example/portion/portion/quota/BoundedNumber", name := "signum", desc := "()I" } : Jvm.MethodName) prog_59_method_3_code (3 : Nat) (Option.some Jvm.ClassFile.FieldType.int), Jvm.Cond.code ({ cls := "com/example/portion/portion/quota/BoundedNumber", name := "exponent", desc := "([BII)J" } : Jvm.MethodName) prog_59_method_6_code (7 : Nat) (Option.some Jvm.ClassFile.FieldType.long)]
set_option maxRecDepth 65536 in
theorem codes_eq : words1.filter isCode = codes1 := rfl
theorem w_codes : ∀ c ∈ words1.filter isCode, c.before args0 about1 = true := by
  rw [codes_eq]
  intro c hc
  simp only [codes1, List.mem_cons, List.not_mem_nil, or_false] at hc
  rcases hc with rfl | rfl | rfl | rfl | rfl | rfl | rfl
  · exact w_c0
  · exact w_c1
  · exact w_c2
  · exact w_c3
  · exact w_c4
  · exact w_c5
  · exact w_c6
set_option maxRecDepth 65536 in
theorem w_t1 : (words1.take 24).all (fun c => isCode c || c.before args0 about1) = true := by decide +kernel
set_option maxRecDepth 65536 in
theorem w_t2 : (words1.drop 24).all (fun c => isCode c || c.before args0 about1) = true := by decide +kernel
theorem w_tables : (allAtoms (Jvm.Cond.code x code maxLocals ret :: tables_1)).before args0 about1 = true := by
  rw [allAtoms_all]
  show words1.all (fun c => c.before args0 about1) = true
  refine all_split ?_ w_codes
  rw [← List.take_append_drop 24 words1, List.all_append, w_t1, w_t2]
  rfl
set_option maxRecDepth 65536 in
theorem w_case : (Jvm.Cond.and given_1 narrow_1).before args0 about1 = true := by decide +kernel
theorem w_applies : (headSpec (Jvm.Cond.code x code maxLocals ret :: tables_1) room_1).applies x e0.platform about1 = true :=
  (Spec.applies_iff w_frames).mpr ⟨w_running, w_runnable, w_alone, w_named, w_hears, w_ripe, w_room, w_tables⟩
theorem atStart : AtStart classFile x code maxLocals ret World_1 tables_1 room_1 Calls_1 rest_1 Pre_1 launch0 p0 e0 about1 theMethod args0 below0 :=
  ⟨lists_1, trivial, launch0.admits_env _ _ _, launch0.least_env, fairChoices_fair.cas, fairChoices_fair.clock, w_frames, w_args, w_heap, w_applies, trivial, trivial, w_case⟩
end start1
theorem witness_1 : WitnessClaimed_1 := ⟨start1.p0, start1.e0, start1.about1, start1.theMethod, start1.args0, start1.below0, start1.atStart⟩
end Jvm.Pilot.@@N@@
