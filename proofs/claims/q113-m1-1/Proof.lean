import JvmDerived
import JvmDerived.Pilot.@@N@@Statement
import JvmDerived.Pilot.@@N@@Code
set_option linter.unusedVariables false
set_option linter.unusedSimpArgs false
namespace Jvm.Pilot.@@N@@
open Jvm Jvm.ClassFile Sem Op Lib Jvm.Free Jvm.Stand Jvm.LawKit Jvm.RoadKit Bundle Jvm.Pilot.@@N@@.Jvm.D
/-- the run stands at T' as it stood at T: the heap is the same -/
def Nx {p : Program} {l : Launch} {e : Env} {R : Room} {s : State} {m : MethodId} {args : Array Value} {below : List Frame} {meth : Method} {c : Code} {T : State} {locs : List Loc} {cells slots : Nat} (X : Stand p l e R s m args below meth c T locs cells slots) (T' : State) : Prop := Stand p l e R s m args below meth c T' locs cells slots ∧ T'.heap = T.heap
theorem lq_eq {x y : Int64} (h : x = y) : lcmpW x y = 0 := (lcW x y).trans ((lc_eq x y).mpr h)
theorem lq_ne {x y : Int64} (h : ¬ x = y) : ¬ lcmpW x y = 0 := fun q => h ((lc_eq x y).mp ((lcW x y).symm.trans q))
theorem lq_lt {x y : Int64} (h : x < y) : lcmpW x y < 0 := by rw [lcW]; exact (lc_lt x y).mpr h
theorem lq_nlt {x y : Int64} (h : ¬ x < y) : ¬ lcmpW x y < 0 := by rw [lcW]; exact fun q => h ((lc_lt x y).mp q)
theorem lq_gt {x y : Int64} (h : y < x) : 0 < lcmpW x y := by rw [lcW]; exact (lc_gt x y).mpr h
theorem lq_ngt {x y : Int64} (h : ¬ y < x) : ¬ 0 < lcmpW x y := by rw [lcW]; exact fun q => h ((lc_gt x y).mp q)
theorem own_eqI {args : Array Value} {first s : State} {o : Option Outcome} {idx : List Nat} {t : Term} {k : Int32} (h : (Jvm.Cond.eq t (.int k)).value args first o s idx = some true) : t.eval args first o idx s = some (.int k) := by
  simp only [Cond.value, Term.eval] at h
  cases ht : t.eval args first o idx s with
  | none => simp [ht] at h
  | some x => cases x <;> simp [ht] at h ⊢; exact h
theorem own_eqL {args : Array Value} {first s : State} {o : Option Outcome} {idx : List Nat} {t : Term} {k : Int64} (h : (Jvm.Cond.eq t (.long k)).value args first o s idx = some true) : t.eval args first o idx s = some (.long k) := by
  simp only [Cond.value, Term.eval] at h
  cases ht : t.eval args first o idx s with
  | none => simp [ht] at h
  | some x => cases x <;> simp [ht] at h ⊢; exact h
abbrev jv (x : Int64) : Slot := .val (.long x)
theorem y_iloadN {tb : Tables} [Ours tb] {e : Env} {below : List Frame} {T target : State} {m : MethodId} {c : Code} (h : At T m c below) (hx : tb.exec = Jvm.exec) {pc pc' : Nat} {L : Array Slot} {S : List Value} {k : Fin 4} {v : Int32} (hd : decode c.code pc = .ok (.iload_n k, 1)) (hl : L[k.val]? = some (.val (.int v))) (hp : pc + 1 = pc') (hr : Steps tb e below (T.setTop (mkF m pc' L (.int v :: S))) target) : Steps tb e below (T.setTop (mkF m pc L S)) target := by subst hp; exact XS.iloadN h hx rfl hd hl hr
theorem y_lloadN {tb : Tables} [Ours tb] {e : Env} {below : List Frame} {T target : State} {m : MethodId} {c : Code} (h : At T m c below) (hx : tb.exec = Jvm.exec) {pc pc' : Nat} {L : Array Slot} {S : List Value} {k : Fin 4} {v : Int64} (hd : decode c.code pc = .ok (.lload_n k, 1)) (hl : L[k.val]? = some (.val (.long v))) (hp : pc + 1 = pc') (hr : Steps tb e below (T.setTop (mkF m pc' L (.long v :: S))) target) : Steps tb e below (T.setTop (mkF m pc L S)) target := by subst hp; exact XS.lloadN h hx rfl hd hl hr
theorem y_aloadN {tb : Tables} [Ours tb] {e : Env} {below : List Frame} {T target : State} {m : MethodId} {c : Code} (h : At T m c below) (hx : tb.exec = Jvm.exec) {pc pc' : Nat} {L : Array Slot} {S : List Value} {k : Fin 4} {v : Value} (hd : decode c.code pc = .ok (.aload_n k, 1)) (hl : L[k.val]? = some (.val v)) (hv : v.isRef = true) (hp : pc + 1 = pc') (hr : Steps tb e below (T.setTop (mkF m pc' L (v :: S))) target) : Steps tb e below (T.setTop (mkF m pc L S)) target := by subst hp; exact XS.aloadN h hx rfl hd hl hv hr
theorem y_istoreN {tb : Tables} [Ours tb] {e : Env} {below : List Frame} {T target : State} {m : MethodId} {c : Code} (h : At T m c below) (hx : tb.exec = Jvm.exec) {pc pc' : Nat} {L : Array Slot} {S : List Value} {k : Fin 4} {v : Int32} {l' : Array Slot} (hd : decode c.code pc = .ok (.istore_n k, 1)) (hl : storeLocals L k.val (.int v) = some l') (hp : pc + 1 = pc') (hr : Steps tb e below (T.setTop (mkF m pc' l' S)) target) : Steps tb e below (T.setTop (mkF m pc L (.int v :: S))) target := by subst hp; exact XS.istoreN h hx rfl hd rfl hl hr
theorem y_lstoreN {tb : Tables} [Ours tb] {e : Env} {below : List Frame} {T target : State} {m : MethodId} {c : Code} (h : At T m c below) (hx : tb.exec = Jvm.exec) {pc pc' : Nat} {L : Array Slot} {S : List Value} {k : Fin 4} {v : Int64} {l' : Array Slot} (hd : decode c.code pc = .ok (.lstore_n k, 1)) (hl : storeLocals L k.val (.long v) = some l') (hp : pc + 1 = pc') (hr : Steps tb e below (T.setTop (mkF m pc' l' S)) target) : Steps tb e below (T.setTop (mkF m pc L (.long v :: S))) target := by subst hp; exact XS.lstoreN h hx rfl hd rfl hl hr
theorem y_astoreN {tb : Tables} [Ours tb] {e : Env} {below : List Frame} {T target : State} {m : MethodId} {c : Code} (h : At T m c below) (hx : tb.exec = Jvm.exec) {pc pc' : Nat} {L : Array Slot} {S : List Value} {k : Fin 4} {v : Value} {l' : Array Slot} (hd : decode c.code pc = .ok (.astore_n k, 1)) (hv : v.isRef = true) (hl : storeLocals L k.val v = some l') (hp : pc + 1 = pc') (hr : Steps tb e below (T.setTop (mkF m pc' l' S)) target) : Steps tb e below (T.setTop (mkF m pc L (v :: S))) target := by subst hp; exact XS.astoreN h hx rfl hd rfl hv hl hr
theorem y_iload {tb : Tables} [Ours tb] {e : Env} {below : List Frame} {T target : State} {m : MethodId} {c : Code} (h : At T m c below) (hx : tb.exec = Jvm.exec) {pc pc' : Nat} {L : Array Slot} {S : List Value} {k : Nat} {v : Int32} (hd : decode c.code pc = .ok (.iload k, 2)) (hl : L[k]? = some (.val (.int v))) (hp : pc + 2 = pc') (hr : Steps tb e below (T.setTop (mkF m pc' L (.int v :: S))) target) : Steps tb e below (T.setTop (mkF m pc L S)) target := by subst hp; exact XS.iload h hx rfl hd hl hr
theorem y_lload {tb : Tables} [Ours tb] {e : Env} {below : List Frame} {T target : State} {m : MethodId} {c : Code} (h : At T m c below) (hx : tb.exec = Jvm.exec) {pc pc' : Nat} {L : Array Slot} {S : List Value} {k : Nat} {v : Int64} (hd : decode c.code pc = .ok (.lload k, 2)) (hl : L[k]? = some (.val (.long v))) (hp : pc + 2 = pc') (hr : Steps tb e below (T.setTop (mkF m pc' L (.long v :: S))) target) : Steps tb e below (T.setTop (mkF m pc L S)) target := by subst hp; exact XS.lload h hx rfl hd hl hr
theorem y_aload {tb : Tables} [Ours tb] {e : Env} {below : List Frame} {T target : State} {m : MethodId} {c : Code} (h : At T m c below) (hx : tb.exec = Jvm.exec) {pc pc' : Nat} {L : Array Slot} {S : List Value} {k : Nat} {v : Value} (hd : decode c.code pc = .ok (.aload k, 2)) (hl : L[k]? = some (.val v)) (hv : v.isRef = true) (hp : pc + 2 = pc') (hr : Steps tb e below (T.setTop (mkF m pc' L (v :: S))) target) : Steps tb e below (T.setTop (mkF m pc L S)) target := by subst hp; exact XS.aload h hx rfl hd hl hv hr
theorem y_istore {tb : Tables} [Ours tb] {e : Env} {below : List Frame} {T target : State} {m : MethodId} {c : Code} (h : At T m c below) (hx : tb.exec = Jvm.exec) {pc pc' : Nat} {L : Array Slot} {S : List Value} {k : Nat} {v : Int32} {l' : Array Slot} (hd : decode c.code pc = .ok (.istore k, 2)) (hl : storeLocals L k (.int v) = some l') (hp : pc + 2 = pc') (hr : Steps tb e below (T.setTop (mkF m pc' l' S)) target) : Steps tb e below (T.setTop (mkF m pc L (.int v :: S))) target := by subst hp; exact XS.istore h hx rfl hd rfl hl hr
theorem y_lstore {tb : Tables} [Ours tb] {e : Env} {below : List Frame} {T target : State} {m : MethodId} {c : Code} (h : At T m c below) (hx : tb.exec = Jvm.exec) {pc pc' : Nat} {L : Array Slot} {S : List Value} {k : Nat} {v : Int64} {l' : Array Slot} (hd : decode c.code pc = .ok (.lstore k, 2)) (hl : storeLocals L k (.long v) = some l') (hp : pc + 2 = pc') (hr : Steps tb e below (T.setTop (mkF m pc' l' S)) target) : Steps tb e below (T.setTop (mkF m pc L (.long v :: S))) target := by subst hp; exact XS.lstore h hx rfl hd rfl hl hr
theorem y_astore {tb : Tables} [Ours tb] {e : Env} {below : List Frame} {T target : State} {m : MethodId} {c : Code} (h : At T m c below) (hx : tb.exec = Jvm.exec) {pc pc' : Nat} {L : Array Slot} {S : List Value} {k : Nat} {v : Value} {l' : Array Slot} (hd : decode c.code pc = .ok (.astore k, 2)) (hv : v.isRef = true) (hl : storeLocals L k v = some l') (hp : pc + 2 = pc') (hr : Steps tb e below (T.setTop (mkF m pc' l' S)) target) : Steps tb e below (T.setTop (mkF m pc L (v :: S))) target := by subst hp; exact XS.astore h hx rfl hd rfl hv hl hr
theorem y_iconst {tb : Tables} [Ours tb] {e : Env} {below : List Frame} {T target : State} {m : MethodId} {c : Code} (h : At T m c below) (hx : tb.exec = Jvm.exec) {pc pc' : Nat} {L : Array Slot} {S : List Value} {i : Int} {v : Int32} (hd : decode c.code pc = .ok (.iconst i, 1)) (hv : Int32.ofInt i = v) (hp : pc + 1 = pc') (hr : Steps tb e below (T.setTop (mkF m pc' L (.int v :: S))) target) : Steps tb e below (T.setTop (mkF m pc L S)) target := by subst hp; exact XS.iconst h hx rfl hd (by rw [hv]; exact hr)
theorem y_bipush {tb : Tables} [Ours tb] {e : Env} {below : List Frame} {T target : State} {m : MethodId} {c : Code} (h : At T m c below) (hx : tb.exec = Jvm.exec) {pc pc' : Nat} {L : Array Slot} {S : List Value} {i : Int} {v : Int32} (hd : decode c.code pc = .ok (.bipush i, 2)) (hv : (Int8.ofInt i).toInt32 = v) (hp : pc + 2 = pc') (hr : Steps tb e below (T.setTop (mkF m pc' L (.int v :: S))) target) : Steps tb e below (T.setTop (mkF m pc L S)) target := by subst hp; exact XS.bipush h hx rfl hd (by rw [hv]; exact hr)
theorem y_sipush {tb : Tables} [Ours tb] {e : Env} {below : List Frame} {T target : State} {m : MethodId} {c : Code} (h : At T m c below) (hx : tb.exec = Jvm.exec) {pc pc' : Nat} {L : Array Slot} {S : List Value} {i : Int} {v : Int32} (hd : decode c.code pc = .ok (.sipush i, 3)) (hv : (Int16.ofInt i).toInt32 = v) (hp : pc + 3 = pc') (hr : Steps tb e below (T.setTop (mkF m pc' L (.int v :: S))) target) : Steps tb e below (T.setTop (mkF m pc L S)) target := by subst hp; exact XS.sipush h hx rfl hd (by rw [hv]; exact hr)
theorem y_lconst {tb : Tables} [Ours tb] {e : Env} {below : List Frame} {T target : State} {m : MethodId} {c : Code} (h : At T m c below) (hx : tb.exec = Jvm.exec) {pc pc' : Nat} {L : Array Slot} {S : List Value} {k : Fin 2} {v : Int64} (hd : decode c.code pc = .ok (.lconst k, 1)) (hv : Int64.ofNat k.val = v) (hp : pc + 1 = pc') (hr : Steps tb e below (T.setTop (mkF m pc' L (.long v :: S))) target) : Steps tb e below (T.setTop (mkF m pc L S)) target := by subst hp; exact XS.lconst h hx rfl hd (by first | exact hv ▸ hr | (rw [hv]; exact hr) | (subst hv; exact hr))
theorem y_aconstNull {tb : Tables} [Ours tb] {e : Env} {below : List Frame} {T target : State} {m : MethodId} {c : Code} (h : At T m c below) (hx : tb.exec = Jvm.exec) {pc pc' : Nat} {L : Array Slot} {S : List Value} (hd : decode c.code pc = .ok (.aconst_null, 1)) (hp : pc + 1 = pc') (hr : Steps tb e below (T.setTop (mkF m pc' L (.null :: S))) target) : Steps tb e below (T.setTop (mkF m pc L S)) target := by subst hp; exact XS.aconstNull h hx rfl hd hr
theorem y_iadd {tb : Tables} [Ours tb] {e : Env} {below : List Frame} {T target : State} {m : MethodId} {c : Code} (h : At T m c below) (hx : tb.exec = Jvm.exec) {pc pc' : Nat} {L : Array Slot} {S : List Value} {x y z : Int32} (hd : decode c.code pc = .ok (.iadd, 1)) (hz : x + y = z) (hp : pc + 1 = pc') (hr : Steps tb e below (T.setTop (mkF m pc' L (.int z :: S))) target) : Steps tb e below (T.setTop (mkF m pc L (.int y :: .int x :: S))) target := by subst hp; exact XS.iadd h hx rfl hd rfl (by rw [hz]; exact hr)
theorem y_isub {tb : Tables} [Ours tb] {e : Env} {below : List Frame} {T target : State} {m : MethodId} {c : Code} (h : At T m c below) (hx : tb.exec = Jvm.exec) {pc pc' : Nat} {L : Array Slot} {S : List Value} {x y z : Int32} (hd : decode c.code pc = .ok (.isub, 1)) (hz : x - y = z) (hp : pc + 1 = pc') (hr : Steps tb e below (T.setTop (mkF m pc' L (.int z :: S))) target) : Steps tb e below (T.setTop (mkF m pc L (.int y :: .int x :: S))) target := by subst hp; exact XS.isub h hx rfl hd rfl (by rw [hz]; exact hr)
theorem y_imul {tb : Tables} [Ours tb] {e : Env} {below : List Frame} {T target : State} {m : MethodId} {c : Code} (h : At T m c below) (hx : tb.exec = Jvm.exec) {pc pc' : Nat} {L : Array Slot} {S : List Value} {x y z : Int32} (hd : decode c.code pc = .ok (.imul, 1)) (hz : x * y = z) (hp : pc + 1 = pc') (hr : Steps tb e below (T.setTop (mkF m pc' L (.int z :: S))) target) : Steps tb e below (T.setTop (mkF m pc L (.int y :: .int x :: S))) target := by subst hp; exact XS.imul h hx rfl hd rfl (by rw [hz]; exact hr)
theorem y_iand {tb : Tables} [Ours tb] {e : Env} {below : List Frame} {T target : State} {m : MethodId} {c : Code} (h : At T m c below) (hx : tb.exec = Jvm.exec) {pc pc' : Nat} {L : Array Slot} {S : List Value} {x y z : Int32} (hd : decode c.code pc = .ok (.iand, 1)) (hz : x &&& y = z) (hp : pc + 1 = pc') (hr : Steps tb e below (T.setTop (mkF m pc' L (.int z :: S))) target) : Steps tb e below (T.setTop (mkF m pc L (.int y :: .int x :: S))) target := by subst hp; exact XS.iand h hx rfl hd rfl (by rw [hz]; exact hr)
theorem y_ior {tb : Tables} [Ours tb] {e : Env} {below : List Frame} {T target : State} {m : MethodId} {c : Code} (h : At T m c below) (hx : tb.exec = Jvm.exec) {pc pc' : Nat} {L : Array Slot} {S : List Value} {x y z : Int32} (hd : decode c.code pc = .ok (.ior, 1)) (hz : x ||| y = z) (hp : pc + 1 = pc') (hr : Steps tb e below (T.setTop (mkF m pc' L (.int z :: S))) target) : Steps tb e below (T.setTop (mkF m pc L (.int y :: .int x :: S))) target := by subst hp; exact XS.ior h hx rfl hd rfl (by rw [hz]; exact hr)
theorem y_ixor {tb : Tables} [Ours tb] {e : Env} {below : List Frame} {T target : State} {m : MethodId} {c : Code} (h : At T m c below) (hx : tb.exec = Jvm.exec) {pc pc' : Nat} {L : Array Slot} {S : List Value} {x y z : Int32} (hd : decode c.code pc = .ok (.ixor, 1)) (hz : x ^^^ y = z) (hp : pc + 1 = pc') (hr : Steps tb e below (T.setTop (mkF m pc' L (.int z :: S))) target) : Steps tb e below (T.setTop (mkF m pc L (.int y :: .int x :: S))) target := by subst hp; exact XS.ixor h hx rfl hd rfl (by rw [hz]; exact hr)
theorem y_ladd {tb : Tables} [Ours tb] {e : Env} {below : List Frame} {T target : State} {m : MethodId} {c : Code} (h : At T m c below) (hx : tb.exec = Jvm.exec) {pc pc' : Nat} {L : Array Slot} {S : List Value} {x y z : Int64} (hd : decode c.code pc = .ok (.ladd, 1)) (hz : x + y = z) (hp : pc + 1 = pc') (hr : Steps tb e below (T.setTop (mkF m pc' L (.long z :: S))) target) : Steps tb e below (T.setTop (mkF m pc L (.long y :: .long x :: S))) target := by subst hp; exact XS.ladd h hx rfl hd rfl (by rw [hz]; exact hr)
theorem y_lsub {tb : Tables} [Ours tb] {e : Env} {below : List Frame} {T target : State} {m : MethodId} {c : Code} (h : At T m c below) (hx : tb.exec = Jvm.exec) {pc pc' : Nat} {L : Array Slot} {S : List Value} {x y z : Int64} (hd : decode c.code pc = .ok (.lsub, 1)) (hz : x - y = z) (hp : pc + 1 = pc') (hr : Steps tb e below (T.setTop (mkF m pc' L (.long z :: S))) target) : Steps tb e below (T.setTop (mkF m pc L (.long y :: .long x :: S))) target := by subst hp; exact XS.lsub h hx rfl hd rfl (by rw [hz]; exact hr)
theorem y_lmul {tb : Tables} [Ours tb] {e : Env} {below : List Frame} {T target : State} {m : MethodId} {c : Code} (h : At T m c below) (hx : tb.exec = Jvm.exec) {pc pc' : Nat} {L : Array Slot} {S : List Value} {x y z : Int64} (hd : decode c.code pc = .ok (.lmul, 1)) (hz : x * y = z) (hp : pc + 1 = pc') (hr : Steps tb e below (T.setTop (mkF m pc' L (.long z :: S))) target) : Steps tb e below (T.setTop (mkF m pc L (.long y :: .long x :: S))) target := by subst hp; exact XS.lmul h hx rfl hd rfl (by rw [hz]; exact hr)
theorem y_land {tb : Tables} [Ours tb] {e : Env} {below : List Frame} {T target : State} {m : MethodId} {c : Code} (h : At T m c below) (hx : tb.exec = Jvm.exec) {pc pc' : Nat} {L : Array Slot} {S : List Value} {x y z : Int64} (hd : decode c.code pc = .ok (.land, 1)) (hz : x &&& y = z) (hp : pc + 1 = pc') (hr : Steps tb e below (T.setTop (mkF m pc' L (.long z :: S))) target) : Steps tb e below (T.setTop (mkF m pc L (.long y :: .long x :: S))) target := by subst hp; exact XS.land h hx rfl hd rfl (by rw [hz]; exact hr)
theorem y_lor {tb : Tables} [Ours tb] {e : Env} {below : List Frame} {T target : State} {m : MethodId} {c : Code} (h : At T m c below) (hx : tb.exec = Jvm.exec) {pc pc' : Nat} {L : Array Slot} {S : List Value} {x y z : Int64} (hd : decode c.code pc = .ok (.lor, 1)) (hz : x ||| y = z) (hp : pc + 1 = pc') (hr : Steps tb e below (T.setTop (mkF m pc' L (.long z :: S))) target) : Steps tb e below (T.setTop (mkF m pc L (.long y :: .long x :: S))) target := by subst hp; exact XS.lor h hx rfl hd rfl (by rw [hz]; exact hr)
theorem y_lxor {tb : Tables} [Ours tb] {e : Env} {below : List Frame} {T target : State} {m : MethodId} {c : Code} (h : At T m c below) (hx : tb.exec = Jvm.exec) {pc pc' : Nat} {L : Array Slot} {S : List Value} {x y z : Int64} (hd : decode c.code pc = .ok (.lxor, 1)) (hz : x ^^^ y = z) (hp : pc + 1 = pc') (hr : Steps tb e below (T.setTop (mkF m pc' L (.long z :: S))) target) : Steps tb e below (T.setTop (mkF m pc L (.long y :: .long x :: S))) target := by subst hp; exact XS.lxor h hx rfl hd rfl (by rw [hz]; exact hr)
theorem y_ineg {tb : Tables} [Ours tb] {e : Env} {below : List Frame} {T target : State} {m : MethodId} {c : Code} (h : At T m c below) (hx : tb.exec = Jvm.exec) {pc pc' : Nat} {L : Array Slot} {S : List Value} {x : Int32} {z : Int32} (hd : decode c.code pc = .ok (.ineg, 1)) (hz : -x = z) (hp : pc + 1 = pc') (hr : Steps tb e below (T.setTop (mkF m pc' L (.int z :: S))) target) : Steps tb e below (T.setTop (mkF m pc L (.int x :: S))) target := by subst hp; exact XS.ineg h hx rfl hd rfl (by subst hz; exact hr)
theorem y_lneg {tb : Tables} [Ours tb] {e : Env} {below : List Frame} {T target : State} {m : MethodId} {c : Code} (h : At T m c below) (hx : tb.exec = Jvm.exec) {pc pc' : Nat} {L : Array Slot} {S : List Value} {x : Int64} {z : Int64} (hd : decode c.code pc = .ok (.lneg, 1)) (hz : -x = z) (hp : pc + 1 = pc') (hr : Steps tb e below (T.setTop (mkF m pc' L (.long z :: S))) target) : Steps tb e below (T.setTop (mkF m pc L (.long x :: S))) target := by subst hp; exact XS.lneg h hx rfl hd rfl (by subst hz; exact hr)
theorem y_i2l {tb : Tables} [Ours tb] {e : Env} {below : List Frame} {T target : State} {m : MethodId} {c : Code} (h : At T m c below) (hx : tb.exec = Jvm.exec) {pc pc' : Nat} {L : Array Slot} {S : List Value} {x : Int32} {z : Int64} (hd : decode c.code pc = .ok (.i2l, 1)) (hz : x.toInt64 = z) (hp : pc + 1 = pc') (hr : Steps tb e below (T.setTop (mkF m pc' L (.long z :: S))) target) : Steps tb e below (T.setTop (mkF m pc L (.int x :: S))) target := by subst hp; exact XS.i2l h hx rfl hd rfl (by subst hz; exact hr)
theorem y_l2i {tb : Tables} [Ours tb] {e : Env} {below : List Frame} {T target : State} {m : MethodId} {c : Code} (h : At T m c below) (hx : tb.exec = Jvm.exec) {pc pc' : Nat} {L : Array Slot} {S : List Value} {x : Int64} {z : Int32} (hd : decode c.code pc = .ok (.l2i, 1)) (hz : x.toInt32 = z) (hp : pc + 1 = pc') (hr : Steps tb e below (T.setTop (mkF m pc' L (.int z :: S))) target) : Steps tb e below (T.setTop (mkF m pc L (.long x :: S))) target := by subst hp; exact XS.l2i h hx rfl hd rfl (by subst hz; exact hr)
theorem y_i2b {tb : Tables} [Ours tb] {e : Env} {below : List Frame} {T target : State} {m : MethodId} {c : Code} (h : At T m c below) (hx : tb.exec = Jvm.exec) {pc pc' : Nat} {L : Array Slot} {S : List Value} {x : Int32} {z : Int32} (hd : decode c.code pc = .ok (.i2b, 1)) (hz : x.toInt8.toInt32 = z) (hp : pc + 1 = pc') (hr : Steps tb e below (T.setTop (mkF m pc' L (.int z :: S))) target) : Steps tb e below (T.setTop (mkF m pc L (.int x :: S))) target := by subst hp; exact XS.i2b h hx rfl hd rfl (by subst hz; exact hr)
theorem y_i2s {tb : Tables} [Ours tb] {e : Env} {below : List Frame} {T target : State} {m : MethodId} {c : Code} (h : At T m c below) (hx : tb.exec = Jvm.exec) {pc pc' : Nat} {L : Array Slot} {S : List Value} {x : Int32} {z : Int32} (hd : decode c.code pc = .ok (.i2s, 1)) (hz : x.toInt16.toInt32 = z) (hp : pc + 1 = pc') (hr : Steps tb e below (T.setTop (mkF m pc' L (.int z :: S))) target) : Steps tb e below (T.setTop (mkF m pc L (.int x :: S))) target := by subst hp; exact XS.i2s h hx rfl hd rfl (by subst hz; exact hr)
theorem y_i2c {tb : Tables} [Ours tb] {e : Env} {below : List Frame} {T target : State} {m : MethodId} {c : Code} (h : At T m c below) (hx : tb.exec = Jvm.exec) {pc pc' : Nat} {L : Array Slot} {S : List Value} {x : Int32} {z : Int32} (hd : decode c.code pc = .ok (.i2c, 1)) (hz : x.toUInt32.toUInt16.toUInt32.toInt32 = z) (hp : pc + 1 = pc') (hr : Steps tb e below (T.setTop (mkF m pc' L (.int z :: S))) target) : Steps tb e below (T.setTop (mkF m pc L (.int x :: S))) target := by subst hp; exact XS.i2c h hx rfl hd rfl (by subst hz; exact hr)
theorem y_ishl {tb : Tables} [Ours tb] {e : Env} {below : List Frame} {T target : State} {m : MethodId} {c : Code} (h : At T m c below) (hx : tb.exec = Jvm.exec) {pc pc' : Nat} {L : Array Slot} {S : List Value} {x z : Int32} {y : Int32} (hd : decode c.code pc = .ok (.ishl, 1)) (hz : (x <<< (y &&& 31)) = z) (hp : pc + 1 = pc') (hr : Steps tb e below (T.setTop (mkF m pc' L (.int z :: S))) target) : Steps tb e below (T.setTop (mkF m pc L (.int y :: .int x :: S))) target := by subst hp; exact XS.ishl h hx rfl hd rfl (by subst hz; exact hr)
theorem y_ishr {tb : Tables} [Ours tb] {e : Env} {below : List Frame} {T target : State} {m : MethodId} {c : Code} (h : At T m c below) (hx : tb.exec = Jvm.exec) {pc pc' : Nat} {L : Array Slot} {S : List Value} {x z : Int32} {y : Int32} (hd : decode c.code pc = .ok (.ishr, 1)) (hz : (x >>> (y &&& 31)) = z) (hp : pc + 1 = pc') (hr : Steps tb e below (T.setTop (mkF m pc' L (.int z :: S))) target) : Steps tb e below (T.setTop (mkF m pc L (.int y :: .int x :: S))) target := by subst hp; exact XS.ishr h hx rfl hd rfl (by subst hz; exact hr)
theorem y_iushr {tb : Tables} [Ours tb] {e : Env} {below : List Frame} {T target : State} {m : MethodId} {c : Code} (h : At T m c below) (hx : tb.exec = Jvm.exec) {pc pc' : Nat} {L : Array Slot} {S : List Value} {x z : Int32} {y : Int32} (hd : decode c.code pc = .ok (.iushr, 1)) (hz : ((x.toUInt32 >>> (y &&& 31).toUInt32).toInt32) = z) (hp : pc + 1 = pc') (hr : Steps tb e below (T.setTop (mkF m pc' L (.int z :: S))) target) : Steps tb e below (T.setTop (mkF m pc L (.int y :: .int x :: S))) target := by subst hp; exact XS.iushr h hx rfl hd rfl (by subst hz; exact hr)
theorem y_lshl {tb : Tables} [Ours tb] {e : Env} {below : List Frame} {T target : State} {m : MethodId} {c : Code} (h : At T m c below) (hx : tb.exec = Jvm.exec) {pc pc' : Nat} {L : Array Slot} {S : List Value} {x z : Int64} {y : Int32} (hd : decode c.code pc = .ok (.lshl, 1)) (hz : (x <<< (y &&& 0x3f).toInt64) = z) (hp : pc + 1 = pc') (hr : Steps tb e below (T.setTop (mkF m pc' L (.long z :: S))) target) : Steps tb e below (T.setTop (mkF m pc L (.int y :: .long x :: S))) target := by subst hp; exact XS.lshl h hx rfl hd rfl (by subst hz; exact hr)
theorem y_lshr {tb : Tables} [Ours tb] {e : Env} {below : List Frame} {T target : State} {m : MethodId} {c : Code} (h : At T m c below) (hx : tb.exec = Jvm.exec) {pc pc' : Nat} {L : Array Slot} {S : List Value} {x z : Int64} {y : Int32} (hd : decode c.code pc = .ok (.lshr, 1)) (hz : (x >>> (y &&& 0x3f).toInt64) = z) (hp : pc + 1 = pc') (hr : Steps tb e below (T.setTop (mkF m pc' L (.long z :: S))) target) : Steps tb e below (T.setTop (mkF m pc L (.int y :: .long x :: S))) target := by subst hp; exact XS.lshr h hx rfl hd rfl (by subst hz; exact hr)
theorem y_lushr {tb : Tables} [Ours tb] {e : Env} {below : List Frame} {T target : State} {m : MethodId} {c : Code} (h : At T m c below) (hx : tb.exec = Jvm.exec) {pc pc' : Nat} {L : Array Slot} {S : List Value} {x z : Int64} {y : Int32} (hd : decode c.code pc = .ok (.lushr, 1)) (hz : ((x.toUInt64 >>> (y &&& 0x3f).toInt64.toUInt64).toInt64) = z) (hp : pc + 1 = pc') (hr : Steps tb e below (T.setTop (mkF m pc' L (.long z :: S))) target) : Steps tb e below (T.setTop (mkF m pc L (.int y :: .long x :: S))) target := by subst hp; exact XS.lushr h hx rfl hd rfl (by subst hz; exact hr)
theorem y_lcmp {tb : Tables} [Ours tb] {e : Env} {below : List Frame} {T target : State} {m : MethodId} {c : Code} (h : At T m c below) (hx : tb.exec = Jvm.exec) {pc pc' : Nat} {L : Array Slot} {S : List Value} {x y : Int64} (hd : decode c.code pc = .ok (.lcmp, 1)) (hp : pc + 1 = pc') (hr : Steps tb e below (T.setTop (mkF m pc' L (.int (lcmpW x y) :: S))) target) : Steps tb e below (T.setTop (mkF m pc L (.long y :: .long x :: S))) target := by subst hp; exact XS.lcmp h hx rfl hd rfl hr
theorem y_iinc {tb : Tables} [Ours tb] {e : Env} {below : List Frame} {T target : State} {m : MethodId} {c : Code} (h : At T m c below) (hx : tb.exec = Jvm.exec) {pc pc' : Nat} {L : Array Slot} {S : List Value} {k : Nat} {cst : Int} {x : Int32} {l' : Array Slot} (hd : decode c.code pc = .ok (.iinc k cst, 3)) (hl : L[k]? = some (.val (.int x))) (hl' : storeLocals L k (.int (x + Int32.ofInt cst)) = some l') (hp : pc + 3 = pc') (hr : Steps tb e below (T.setTop (mkF m pc' l' S)) target) : Steps tb e below (T.setTop (mkF m pc L S)) target := by subst hp; exact XS.iinc h hx rfl hd hl hl' hr
theorem y_dup {tb : Tables} [Ours tb] {e : Env} {below : List Frame} {T target : State} {m : MethodId} {c : Code} (h : At T m c below) (hx : tb.exec = Jvm.exec) {pc pc' : Nat} {L : Array Slot} {S : List Value} {v : Value} (hd : decode c.code pc = .ok (.dup, 1)) (hc : v.category = 1) (hp : pc + 1 = pc') (hr : Steps tb e below (T.setTop (mkF m pc' L (v :: v :: S))) target) : Steps tb e below (T.setTop (mkF m pc L (v :: S))) target := by subst hp; exact XS.dup h hx rfl hd rfl hc hr
theorem y_goto {tb : Tables} [Ours tb] {e : Env} {below : List Frame} {T target : State} {m : MethodId} {c : Code} (h : At T m c below) (hx : tb.exec = Jvm.exec) {pc pc' : Nat} {L : Array Slot} {S : List Value} {o : Int} (hd : decode c.code pc = .ok (.goto o, 3)) (ho : 0 ≤ (pc : Int) + o) (hp : ((pc : Int) + o).toNat = pc') (hr : Steps tb e below (T.setTop (mkF m pc' L S)) target) : Steps tb e below (T.setTop (mkF m pc L S)) target := XS.goto h hx rfl rfl hd ho hp hr
theorem y_ifYes {tb : Tables} [Ours tb] {e : Env} {below : List Frame} {T target : State} {m : MethodId} {c : Code} (h : At T m c below) (hx : tb.exec = Jvm.exec) {pc pc' : Nat} {L : Array Slot} {S : List Value} {cd : ClassFile.Cond} {x : Int32} {o : Int} (hd : decode c.code pc = .ok (.ifCond cd o, 3)) (hc : ifCond.holds cd x = true) (ho : 0 ≤ (pc : Int) + o) (hp : ((pc : Int) + o).toNat = pc') (hr : Steps tb e below (T.setTop (mkF m pc' L S)) target) : Steps tb e below (T.setTop (mkF m pc L (.int x :: S))) target := XS.ifYes h hx rfl rfl hd rfl hc ho hp hr
theorem y_ifNo {tb : Tables} [Ours tb] {e : Env} {below : List Frame} {T target : State} {m : MethodId} {c : Code} (h : At T m c below) (hx : tb.exec = Jvm.exec) {pc pc' : Nat} {L : Array Slot} {S : List Value} {cd : ClassFile.Cond} {x : Int32} {o : Int} (hd : decode c.code pc = .ok (.ifCond cd o, 3)) (hc : ifCond.holds cd x = false) (hp : pc + 3 = pc') (hr : Steps tb e below (T.setTop (mkF m pc' L S)) target) : Steps tb e below (T.setTop (mkF m pc L (.int x :: S))) target := by subst hp; exact XS.ifNo h hx rfl hd rfl hc hr
theorem y_icmpYes {tb : Tables} [Ours tb] {e : Env} {below : List Frame} {T target : State} {m : MethodId} {c : Code} (h : At T m c below) (hx : tb.exec = Jvm.exec) {pc pc' : Nat} {L : Array Slot} {S : List Value} {cd : ClassFile.Cond} {x y : Int32} {o : Int} (hd : decode c.code pc = .ok (.if_icmp cd o, 3)) (hc : if_icmp.holds cd x y = true) (ho : 0 ≤ (pc : Int) + o) (hp : ((pc : Int) + o).toNat = pc') (hr : Steps tb e below (T.setTop (mkF m pc' L S)) target) : Steps tb e below (T.setTop (mkF m pc L (.int y :: .int x :: S))) target := XS.icmpYes h hx rfl rfl hd rfl hc ho hp hr
theorem y_icmpNo {tb : Tables} [Ours tb] {e : Env} {below : List Frame} {T target : State} {m : MethodId} {c : Code} (h : At T m c below) (hx : tb.exec = Jvm.exec) {pc pc' : Nat} {L : Array Slot} {S : List Value} {cd : ClassFile.Cond} {x y : Int32} {o : Int} (hd : decode c.code pc = .ok (.if_icmp cd o, 3)) (hc : if_icmp.holds cd x y = false) (hp : pc + 3 = pc') (hr : Steps tb e below (T.setTop (mkF m pc' L S)) target) : Steps tb e below (T.setTop (mkF m pc L (.int y :: .int x :: S))) target := by subst hp; exact XS.icmpNo h hx rfl hd rfl hc hr
theorem own_exIte {Z : State} {h : Heap} {C : String} {c : Prop} [Decidable c] {a b : Addr} (ha : Exa Z h a C) (hb : Exa Z h b C) : Exa Z h (if c then a else b) C := by
  by_cases q : c
  · rw [if_pos q]; exact ha
  · rw [if_neg q]; exact hb
theorem own_nar01 {x : Int32} (h : x = 0 ∨ x = 1) : nar .boolean x = x := by rcases h with rfl | rfl <;> rfl
theorem own_ite01 {c : Prop} [Decidable c] : (if c then (0 : Int32) else (1 : Int32)) = 0 ∨ (if c then (0 : Int32) else (1 : Int32)) = 1 := by split <;> simp
theorem own_narI {c : Prop} [Decidable c] : nar .boolean (if c then (1 : Int32) else (0 : Int32)) = (if c then (1 : Int32) else (0 : Int32)) := by split <;> rfl
theorem own_ne1 (a : Int32) : ¬ a = a + 1 := fun h => by
  have q := c_iadd a 1
  rw [← h] at q
  have e : (1 : Int32).toInt = 1 := rfl
  omega
theorem own_of {x k : Int32} (h : x.toInt = k.toInt) : x = k := Int32.toInt_inj.mp h
theorem own_and3 (k : Int32) : k &&& 3 = 0 ∨ k &&& 3 = 1 ∨ k &&& 3 = 2 ∨ k &&& 3 = 3 := by
  have q : (k &&& 3).toInt = k.toInt % 4 := c_mask k 3 2 (by decide) (by decide)
  generalize k &&& 3 = x at q ⊢
  have : x.toInt = 0 ∨ x.toInt = 1 ∨ x.toInt = 2 ∨ x.toInt = 3 := by omega
  rcases this with h | h | h | h
  · exact Or.inl (own_of h)
  · exact Or.inr (Or.inl (own_of h))
  · exact Or.inr (Or.inr (Or.inl (own_of h)))
  · exact Or.inr (Or.inr (Or.inr (own_of h)))
/-- the class C is not one of K's -/
def Nas (Z : State) (C K : String) : Prop := ∃ c t, Z.vm.findClass C = some c ∧ Z.vm.findClass K = some t ∧ Z.vm.assignable c t = false
theorem own_root {Z : State} {a0 : Array Value} {O K : String} {n : Nat} (w : (Cond.noSuperclass O).before a0 Z = true) (wi : (Cond.instantiable K n).before a0 Z = true) (hn : O ≠ K) : NS Z O K := by
  obtain ⟨c, k, h1, h2, h3, -, -⟩ := Cond.noSuperclass_spec w
  obtain ⟨t, kt, g1, -⟩ := Cond.instantiable_spec wi
  have ne := ids_ne h1 g1 hn
  refine ⟨c, t, h1, g1, fun fuel => ?_⟩
  cases fuel with
  | zero => rfl
  | succ f => simp [Vm.isSubclassAux, ne, h2, h3]
theorem own_nas {Z : State} {a0 : Array Value} {C S K : String} {n : Nat} (w : (Cond.superclass C S).before a0 Z = true) (wi : (Cond.instantiable K n).before a0 Z = true) (ns : NS Z C K) (hn : C ≠ K) : Nas Z C K := by
  obtain ⟨c, t, h0, g0, n3⟩ := ns
  obtain ⟨p, k, kp, h1, h2, h3, h4, h5, -, h7⟩ := Cond.superclass_spec h0 w
  obtain ⟨t', kt, g1, g2, g3, g4, -⟩ := Cond.instantiable_spec wi
  cases g0.symm.trans g1
  have ne := ids_ne h0 g0 hn
  simp only [Bool.or_eq_false_iff] at g4
  refine ⟨c, t, h0, g0, ?_⟩
  show Z.vm.assignableAux (255 + 1) c t = false
  simp [Vm.assignableAux, ne, h2, g2, h5, g3, g4.1, Vm.isSubclass, n3]
theorem own_len {args : Array Value} {first s : State} {o : Option Outcome} {idx : List Nat} {t : Term} {a : Addr} {c : Cell} {k : Int32} (ht : t.eval args first o idx s = some (.ref a)) (ha : s.arrayAt? a = some c) (h : (Term.length t).eval args first o idx s = some (.int k)) : c.slots.size < 2 ^ 31 ∧ c.slots.size.toInt32 = k := by
  simp [Term.eval, ht, ha] at h
  exact h
theorem d1_0 : decode method_2_code 0 = .ok (.iload_n 0, 1) := by decide +kernel
theorem d1_1 : decode method_2_code 1 = .ok (.ifCond .ne 7, 3) := by decide +kernel
theorem d1_4 : decode method_2_code 4 = .ok (.getstatic 7, 3) := by decide +kernel
theorem d1_7 : decode method_2_code 7 = .ok (.areturn, 1) := by decide +kernel
theorem d1_8 : decode method_2_code 8 = .ok (.iload_n 0, 1) := by decide +kernel
theorem d1_9 : decode method_2_code 9 = .ok (.iconst 1, 1) := by decide +kernel
theorem d1_10 : decode method_2_code 10 = .ok (.if_icmp .ne 7, 3) := by decide +kernel
theorem d1_13 : decode method_2_code 13 = .ok (.getstatic 13, 3) := by decide +kernel
theorem d1_16 : decode method_2_code 16 = .ok (.areturn, 1) := by decide +kernel
theorem d1_17 : decode method_2_code 17 = .ok (.iload_n 0, 1) := by decide +kernel
theorem d1_18 : decode method_2_code 18 = .ok (.iconst 2, 1) := by decide +kernel
theorem d1_19 : decode method_2_code 19 = .ok (.if_icmp .ne 7, 3) := by decide +kernel
theorem d1_22 : decode method_2_code 22 = .ok (.getstatic 16, 3) := by decide +kernel
theorem d1_25 : decode method_2_code 25 = .ok (.areturn, 1) := by decide +kernel
theorem d1_26 : decode method_2_code 26 = .ok (.iload_n 0, 1) := by decide +kernel
theorem d1_27 : decode method_2_code 27 = .ok (.iconst 3, 1) := by decide +kernel
theorem d1_28 : decode method_2_code 28 = .ok (.if_icmp .ne 7, 3) := by decide +kernel
theorem d1_31 : decode method_2_code 31 = .ok (.getstatic 19, 3) := by decide +kernel
theorem d1_34 : decode method_2_code 34 = .ok (.areturn, 1) := by decide +kernel
theorem d1_35 : decode method_2_code 35 = .ok (.iload_n 0, 1) := by decide +kernel
theorem d1_36 : decode method_2_code 36 = .ok (.iconst 4, 1) := by decide +kernel
theorem d1_37 : decode method_2_code 37 = .ok (.if_icmp .ne 7, 3) := by decide +kernel
theorem d1_40 : decode method_2_code 40 = .ok (.getstatic 22, 3) := by decide +kernel
theorem d1_43 : decode method_2_code 43 = .ok (.areturn, 1) := by decide +kernel
theorem d1_44 : decode method_2_code 44 = .ok (.iload_n 0, 1) := by decide +kernel
theorem d1_45 : decode method_2_code 45 = .ok (.iconst 5, 1) := by decide +kernel
theorem d1_46 : decode method_2_code 46 = .ok (.if_icmp .ne 7, 3) := by decide +kernel
theorem d1_49 : decode method_2_code 49 = .ok (.getstatic 25, 3) := by decide +kernel
theorem d1_52 : decode method_2_code 52 = .ok (.areturn, 1) := by decide +kernel
theorem d1_53 : decode method_2_code 53 = .ok (.iload_n 0, 1) := by decide +kernel
theorem d1_54 : decode method_2_code 54 = .ok (.bipush 6, 2) := by decide +kernel
theorem d1_56 : decode method_2_code 56 = .ok (.if_icmp .ne 7, 3) := by decide +kernel
theorem d1_59 : decode method_2_code 59 = .ok (.getstatic 28, 3) := by decide +kernel
theorem d1_62 : decode method_2_code 62 = .ok (.areturn, 1) := by decide +kernel
theorem d1_63 : decode method_2_code 63 = .ok (.iload_n 0, 1) := by decide +kernel
theorem d1_64 : decode method_2_code 64 = .ok (.bipush 7, 2) := by decide +kernel
theorem d1_66 : decode method_2_code 66 = .ok (.if_icmp .ne 7, 3) := by decide +kernel
theorem d1_69 : decode method_2_code 69 = .ok (.getstatic 31, 3) := by decide +kernel
theorem d1_72 : decode method_2_code 72 = .ok (.areturn, 1) := by decide +kernel
theorem d1_73 : decode method_2_code 73 = .ok (.iload_n 0, 1) := by decide +kernel
theorem d1_74 : decode method_2_code 74 = .ok (.bipush 8, 2) := by decide +kernel
theorem d1_76 : decode method_2_code 76 = .ok (.if_icmp .ne 7, 3) := by decide +kernel
theorem d1_79 : decode method_2_code 79 = .ok (.getstatic 34, 3) := by decide +kernel
theorem d1_82 : decode method_2_code 82 = .ok (.areturn, 1) := by decide +kernel
theorem d1_83 : decode method_2_code 83 = .ok (.iload_n 0, 1) := by decide +kernel
theorem d1_84 : decode method_2_code 84 = .ok (.bipush 9, 2) := by decide +kernel
theorem d1_86 : decode method_2_code 86 = .ok (.if_icmp .ne 7, 3) := by decide +kernel
theorem d1_89 : decode method_2_code 89 = .ok (.getstatic 37, 3) := by decide +kernel
theorem d1_92 : decode method_2_code 92 = .ok (.areturn, 1) := by decide +kernel
theorem d1_93 : decode method_2_code 93 = .ok (.iload_n 0, 1) := by decide +kernel
theorem d1_94 : decode method_2_code 94 = .ok (.bipush 10, 2) := by decide +kernel
theorem d1_96 : decode method_2_code 96 = .ok (.if_icmp .ne 7, 3) := by decide +kernel
theorem d1_99 : decode method_2_code 99 = .ok (.getstatic 40, 3) := by decide +kernel
theorem d1_102 : decode method_2_code 102 = .ok (.areturn, 1) := by decide +kernel
theorem d1_103 : decode method_2_code 103 = .ok (.iload_n 0, 1) := by decide +kernel
theorem d1_104 : decode method_2_code 104 = .ok (.bipush 11, 2) := by decide +kernel
theorem d1_106 : decode method_2_code 106 = .ok (.if_icmp .ne 7, 3) := by decide +kernel
theorem d1_109 : decode method_2_code 109 = .ok (.getstatic 43, 3) := by decide +kernel
theorem d1_112 : decode method_2_code 112 = .ok (.areturn, 1) := by decide +kernel
theorem d1_113 : decode method_2_code 113 = .ok (.getstatic 46, 3) := by decide +kernel
theorem d1_116 : decode method_2_code 116 = .ok (.areturn, 1) := by decide +kernel
theorem pn_com_example_procord_procord_lock_LockMessageEqualsPinLaw : plainName "com/example/procord/procord/lock/LockMessageEqualsPinLaw" = true := by first | (simp [plainName, overriddenIn]; done) | decide +kernel
theorem ef_1 (m : MethodId) (x0 : Int32) : entryFrame m #[(.int x0)] 1 = mkF m 0 #[iv x0] [] := by first | (simp [entryFrame, mkF, argsToLocals, Value.category]; done) | rfl
def Q1 (Z : State) (pi0 : Int32) (w_REQUEST : Addr) (w_GRANT : Addr) (w_RELEASE : Addr) (w_RENEW : Addr) (w_RENEWED : Addr) (w_CANCEL : Addr) (w_CANCELLED : Addr) (w_TAKEOVER : Addr) (w_FOLLOW : Addr) (w_REPLY : Addr) (w_VOTE : Addr) (w_INQUIRE : Addr) (w_RELINQUISH : Addr) (h0 : Heap) (n0 : Nat) (v : Option Value) (h : Heap) (L : List Loc) : Prop := v = some (.ref (if pi0 = (0 : Int32) then w_REQUEST else (if pi0 = (1 : Int32) then w_GRANT else (if pi0 = (2 : Int32) then w_RELEASE else (if pi0 = (3 : Int32) then w_RENEW else (if pi0 = (4 : Int32) then w_RENEWED else (if pi0 = (5 : Int32) then w_CANCEL else (if pi0 = (6 : Int32) then w_CANCELLED else (if pi0 = (7 : Int32) then w_TAKEOVER else (if pi0 = (8 : Int32) then w_FOLLOW else (if pi0 = (9 : Int32) then w_REPLY else (if pi0 = (10 : Int32) then w_VOTE else (if pi0 = (11 : Int32) then w_INQUIRE else w_RELINQUISH))))))))))))) ∧ Fr n0 L ∧ h = h0
set_option maxRecDepth 65536 in
set_option maxHeartbeats 40000000 in
theorem rm1 (l : Launch) (Z : State) (a0 : Array Value) (hw : ∀ d ∈ tables_1, d.before a0 Z = true) (ws : List Jvm.Cond) (pi0 : Int32) (w_REQUEST : Addr) (w_GRANT : Addr) (w_RELEASE : Addr) (w_RENEW : Addr) (w_RENEWED : Addr) (w_CANCEL : Addr) (w_CANCELLED : Addr) (w_TAKEOVER : Addr) (w_FOLLOW : Addr) (w_REPLY : Addr) (w_VOTE : Addr) (w_INQUIRE : Addr) (w_RELINQUISH : Addr) (h0 : Heap) (n0 : Nat) (O0 : Old Z n0 h0) (S_REQUEST : Sta Z Z.heap "com/example/procord/procord/lock/LockMessage$Kind" "REQUEST" "Lcom/example/procord/procord/lock/LockMessage$Kind;" (.ref w_REQUEST)) (S_GRANT : Sta Z Z.heap "com/example/procord/procord/lock/LockMessage$Kind" "GRANT" "Lcom/example/procord/procord/lock/LockMessage$Kind;" (.ref w_GRANT)) (S_RELEASE : Sta Z Z.heap "com/example/procord/procord/lock/LockMessage$Kind" "RELEASE" "Lcom/example/procord/procord/lock/LockMessage$Kind;" (.ref w_RELEASE)) (S_RENEW : Sta Z Z.heap "com/example/procord/procord/lock/LockMessage$Kind" "RENEW" "Lcom/example/procord/procord/lock/LockMessage$Kind;" (.ref w_RENEW)) (S_RENEWED : Sta Z Z.heap "com/example/procord/procord/lock/LockMessage$Kind" "RENEWED" "Lcom/example/procord/procord/lock/LockMessage$Kind;" (.ref w_RENEWED)) (S_CANCEL : Sta Z Z.heap "com/example/procord/procord/lock/LockMessage$Kind" "CANCEL" "Lcom/example/procord/procord/lock/LockMessage$Kind;" (.ref w_CANCEL)) (S_CANCELLED : Sta Z Z.heap "com/example/procord/procord/lock/LockMessage$Kind" "CANCELLED" "Lcom/example/procord/procord/lock/LockMessage$Kind;" (.ref w_CANCELLED)) (S_TAKEOVER : Sta Z Z.heap "com/example/procord/procord/lock/LockMessage$Kind" "TAKEOVER" "Lcom/example/procord/procord/lock/LockMessage$Kind;" (.ref w_TAKEOVER)) (S_FOLLOW : Sta Z Z.heap "com/example/procord/procord/lock/LockMessage$Kind" "FOLLOW" "Lcom/example/procord/procord/lock/LockMessage$Kind;" (.ref w_FOLLOW)) (S_REPLY : Sta Z Z.heap "com/example/procord/procord/lock/LockMessage$Kind" "REPLY" "Lcom/example/procord/procord/lock/LockMessage$Kind;" (.ref w_REPLY)) (S_VOTE : Sta Z Z.heap "com/example/procord/procord/lock/LockMessage$Kind" "VOTE" "Lcom/example/procord/procord/lock/LockMessage$Kind;" (.ref w_VOTE)) (S_INQUIRE : Sta Z Z.heap "com/example/procord/procord/lock/LockMessage$Kind" "INQUIRE" "Lcom/example/procord/procord/lock/LockMessage$Kind;" (.ref w_INQUIRE)) (S_RELINQUISH : Sta Z Z.heap "com/example/procord/procord/lock/LockMessage$Kind" "RELINQUISH" "Lcom/example/procord/procord/lock/LockMessage$Kind;" (.ref w_RELINQUISH)) :
    MetFree l (⟨"com/example/procord/procord/lock/LockMessageEqualsPinLaw", "kindOf", "(I)Lcom/example/procord/procord/lock/LockMessage$Kind;"⟩ : MethodName) (head1 (Jvm.Cond.code (⟨"com/example/procord/procord/lock/LockMessageEqualsPinLaw", "kindOf", "(I)Lcom/example/procord/procord/lock/LockMessage$Kind;"⟩ : MethodName) method_2_code 1 (some (.object "com/example/procord/procord/lock/LockMessage$Kind")) :: ws) ({ frames := 0, cells := 0, slots := 0, locals := 0 } : Room)) (fun a U => a = #[(.int pi0)] ∧ Z.Warmed39 U.vm ∧ U.heap = h0) (fun _ _ _ _ _ => True) (fun _ U o U' => ∃ v L, o = .returned v ∧ Q1 Z pi0 w_REQUEST w_GRANT w_RELEASE w_RENEW w_RENEWED w_CANCEL w_CANCELLED w_TAKEOVER w_FOLLOW w_REPLY w_VOTE w_INQUIRE w_RELINQUISH h0 n0 v U'.heap L ∧ FrameEnd U o U' L ({ frames := 0, cells := 0, slots := 0, locals := 0 } : Room).cells ({ frames := 0, cells := 0, slots := 0, locals := 0 } : Room).slots) := by
  refine MetFree.of_bodySF (plainFor_of_name pn_com_example_procord_procord_lock_LockMessageEqualsPinLaw) hisR ?_
  intro p e s m args below meth c s₁ Bd hml0 hP hK
  obtain ⟨rfl, hZ, hh⟩ := hP
  have hx := Bd.exec
  have hby := Bd.bytes
  have hml : c.maxLocals = 1 := hml0
  have hown : s.vm.findClass "com/example/procord/procord/lock/LockMessageEqualsPinLaw" = some m.cls := findClass_of_methodNamed Bd.named
  have hnm := (name_of_methodNamed Bd.named Bd.method).1
  have X0 : Stand p l e ({ frames := 0, cells := 0, slots := 0, locals := 0 } : Room) s m #[(.int pi0)] below meth c s₁ [] 0 0 := Stand.of_body Bd
  have e0 : s₁.heap = h0 := by rw [← hh, Bd.state]; rfl
  have N0 := Fr.nil n0
  obtain ⟨Go, hGo⟩ : ∃ P : State → Prop, ∀ t, P t ↔ Steps p.tables e below (s₁.setTop (entryFrame m #[(.int pi0)] 1)) t := ⟨_, fun _ => Iff.rfl⟩
  have pre0 : ∀ t, Steps p.tables e below (s₁.setTop (mkF m 0 #[iv pi0] [])) t → Go t := fun t k => (hGo t).mpr (castTop (ef_1 m pi0) k)
  have pre1 : ∀ t, Steps p.tables e below (s₁.setTop (mkF m 1 #[iv pi0] [(.int pi0)])) t → Go t := fun t kt => pre0 t (by
      refine y_iloadN X0.here hx (hb hby d1_0) rfl (pc' := 1) rfl ?_
      exact kt)
  by_cases hc1_2 : pi0 = (0 : Int32)
  · have pre3 : ∀ t, Steps p.tables e below (s₁.setTop (mkF m 4 #[iv pi0] [])) t → Go t := fun t kt => pre1 t (by
        refine y_ifNo X0.here hx (hb hby d1_1) ((if0 _ _).trans (teq hc1_2).2) (pc' := 4) rfl ?_
        exact kt)
    obtain ⟨T4, X4, e4, st4⟩ := getS2 X0 hx hZ hown (host := "") (Or.inl (hw _ (List.mem_of_getElem? (i := 57) rfl))) Via.refl e0 (S_REQUEST.ext O0.2) (g := (mkF m 4 #[iv pi0] [])) rfl (hb hby d1_4)
    have pre5 : ∀ t, Steps p.tables e below (T4.setTop (mkF m 7 #[iv pi0] [(.ref w_REQUEST)])) t → Go t := fun t kt => pre3 t (st4 t kt)
    obtain ⟨fs, hr, hrun, hended, hW, hsame⟩ := X4.leave (v := some (.ref w_REQUEST)) (fun h => by rw [Bd.returns] at h; cases h)
    refine ⟨_, _, (hGo _).mp (pre5 _ ?_), hrun, hended, _, _, rfl, ?_, ⟨_, rfl⟩, hW, hsame.mono (by decide) (by decide)⟩
    · exact retOut X4 hx Bd.returns rfl (Or.inr (Or.inr (Or.inr (Or.inr ⟨rfl, rfl, rfl⟩)))) (hb hby d1_7) hr
    · show Q1 Z pi0 w_REQUEST w_GRANT w_RELEASE w_RENEW w_RENEWED w_CANCEL w_CANCELLED w_TAKEOVER w_FOLLOW w_REPLY w_VOTE w_INQUIRE w_RELINQUISH h0 n0 _ T4.heap _
      rw [e4]
      exact ⟨(by first | (simp only [if_pos hc1_2]; done) | (simp only [if_pos hc1_2]; exact rfl) | exact rfl), N0, rfl⟩
  · have pre6 : ∀ t, Steps p.tables e below (s₁.setTop (mkF m 10 #[iv pi0] [(.int (1 : Int32)), (.int pi0)])) t → Go t := fun t kt => pre1 t (by
        refine y_ifYes X0.here hx (hb hby d1_1) ((if0 _ _).trans (feq hc1_2).2) (pc' := 8) (by decide) rfl ?_
        refine y_iloadN X0.here hx (hb hby d1_8) rfl (pc' := 9) rfl ?_
        refine y_iconst X0.here hx (hb hby d1_9) (v := (1 : Int32)) rfl (pc' := 10) rfl ?_
        exact kt)
    by_cases hc10_7 : pi0 = (1 : Int32)
    · have pre8 : ∀ t, Steps p.tables e below (s₁.setTop (mkF m 13 #[iv pi0] [])) t → Go t := fun t kt => pre6 t (by
          refine y_icmpNo X0.here hx (hb hby d1_10) (teq hc10_7).2 (pc' := 13) rfl ?_
          exact kt)
      obtain ⟨T9, X9, e9, st9⟩ := getS2 X0 hx hZ hown (host := "") (Or.inl (hw _ (List.mem_of_getElem? (i := 60) rfl))) Via.refl e0 (S_GRANT.ext O0.2) (g := (mkF m 13 #[iv pi0] [])) rfl (hb hby d1_13)
      have pre10 : ∀ t, Steps p.tables e below (T9.setTop (mkF m 16 #[iv pi0] [(.ref w_GRANT)])) t → Go t := fun t kt => pre8 t (st9 t kt)
      obtain ⟨fs, hr, hrun, hended, hW, hsame⟩ := X9.leave (v := some (.ref w_GRANT)) (fun h => by rw [Bd.returns] at h; cases h)
      refine ⟨_, _, (hGo _).mp (pre10 _ ?_), hrun, hended, _, _, rfl, ?_, ⟨_, rfl⟩, hW, hsame.mono (by decide) (by decide)⟩
      · exact retOut X9 hx Bd.returns rfl (Or.inr (Or.inr (Or.inr (Or.inr ⟨rfl, rfl, rfl⟩)))) (hb hby d1_16) hr
      · show Q1 Z pi0 w_REQUEST w_GRANT w_RELEASE w_RENEW w_RENEWED w_CANCEL w_CANCELLED w_TAKEOVER w_FOLLOW w_REPLY w_VOTE w_INQUIRE w_RELINQUISH h0 n0 _ T9.heap _
        rw [e9]
        exact ⟨(by first | (simp only [if_neg hc1_2, if_pos hc10_7]; done) | (simp only [if_neg hc1_2, if_pos hc10_7]; exact rfl) | exact rfl), N0, rfl⟩
    · have pre11 : ∀ t, Steps p.tables e below (s₁.setTop (mkF m 19 #[iv pi0] [(.int (2 : Int32)), (.int pi0)])) t → Go t := fun t kt => pre6 t (by
          refine y_icmpYes X0.here hx (hb hby d1_10) (feq hc10_7).2 (pc' := 17) (by decide) rfl ?_
          refine y_iloadN X0.here hx (hb hby d1_17) rfl (pc' := 18) rfl ?_
          refine y_iconst X0.here hx (hb hby d1_18) (v := (2 : Int32)) rfl (pc' := 19) rfl ?_
          exact kt)
      by_cases hc19_12 : pi0 = (2 : Int32)
      · have pre13 : ∀ t, Steps p.tables e below (s₁.setTop (mkF m 22 #[iv pi0] [])) t → Go t := fun t kt => pre11 t (by
            refine y_icmpNo X0.here hx (hb hby d1_19) (teq hc19_12).2 (pc' := 22) rfl ?_
            exact kt)
        obtain ⟨T14, X14, e14, st14⟩ := getS2 X0 hx hZ hown (host := "") (Or.inl (hw _ (List.mem_of_getElem? (i := 7) rfl))) Via.refl e0 (S_RELEASE.ext O0.2) (g := (mkF m 22 #[iv pi0] [])) rfl (hb hby d1_22)
        have pre15 : ∀ t, Steps p.tables e below (T14.setTop (mkF m 25 #[iv pi0] [(.ref w_RELEASE)])) t → Go t := fun t kt => pre13 t (st14 t kt)
        obtain ⟨fs, hr, hrun, hended, hW, hsame⟩ := X14.leave (v := some (.ref w_RELEASE)) (fun h => by rw [Bd.returns] at h; cases h)
        refine ⟨_, _, (hGo _).mp (pre15 _ ?_), hrun, hended, _, _, rfl, ?_, ⟨_, rfl⟩, hW, hsame.mono (by decide) (by decide)⟩
        · exact retOut X14 hx Bd.returns rfl (Or.inr (Or.inr (Or.inr (Or.inr ⟨rfl, rfl, rfl⟩)))) (hb hby d1_25) hr
        · show Q1 Z pi0 w_REQUEST w_GRANT w_RELEASE w_RENEW w_RENEWED w_CANCEL w_CANCELLED w_TAKEOVER w_FOLLOW w_REPLY w_VOTE w_INQUIRE w_RELINQUISH h0 n0 _ T14.heap _
          rw [e14]
          exact ⟨(by first | (simp only [if_neg hc1_2, if_neg hc10_7, if_pos hc19_12]; done) | (simp only [if_neg hc1_2, if_neg hc10_7, if_pos hc19_12]; exact rfl) | exact rfl), N0, rfl⟩
      · have pre16 : ∀ t, Steps p.tables e below (s₁.setTop (mkF m 28 #[iv pi0] [(.int (3 : Int32)), (.int pi0)])) t → Go t := fun t kt => pre11 t (by
            refine y_icmpYes X0.here hx (hb hby d1_19) (feq hc19_12).2 (pc' := 26) (by decide) rfl ?_
            refine y_iloadN X0.here hx (hb hby d1_26) rfl (pc' := 27) rfl ?_
            refine y_iconst X0.here hx (hb hby d1_27) (v := (3 : Int32)) rfl (pc' := 28) rfl ?_
            exact kt)
        by_cases hc28_17 : pi0 = (3 : Int32)
        · have pre18 : ∀ t, Steps p.tables e below (s₁.setTop (mkF m 31 #[iv pi0] [])) t → Go t := fun t kt => pre16 t (by
              refine y_icmpNo X0.here hx (hb hby d1_28) (teq hc28_17).2 (pc' := 31) rfl ?_
              exact kt)
          obtain ⟨T19, X19, e19, st19⟩ := getS2 X0 hx hZ hown (host := "") (Or.inl (hw _ (List.mem_of_getElem? (i := 68) rfl))) Via.refl e0 (S_RENEW.ext O0.2) (g := (mkF m 31 #[iv pi0] [])) rfl (hb hby d1_31)
          have pre20 : ∀ t, Steps p.tables e below (T19.setTop (mkF m 34 #[iv pi0] [(.ref w_RENEW)])) t → Go t := fun t kt => pre18 t (st19 t kt)
          obtain ⟨fs, hr, hrun, hended, hW, hsame⟩ := X19.leave (v := some (.ref w_RENEW)) (fun h => by rw [Bd.returns] at h; cases h)
          refine ⟨_, _, (hGo _).mp (pre20 _ ?_), hrun, hended, _, _, rfl, ?_, ⟨_, rfl⟩, hW, hsame.mono (by decide) (by decide)⟩
          · exact retOut X19 hx Bd.returns rfl (Or.inr (Or.inr (Or.inr (Or.inr ⟨rfl, rfl, rfl⟩)))) (hb hby d1_34) hr
          · show Q1 Z pi0 w_REQUEST w_GRANT w_RELEASE w_RENEW w_RENEWED w_CANCEL w_CANCELLED w_TAKEOVER w_FOLLOW w_REPLY w_VOTE w_INQUIRE w_RELINQUISH h0 n0 _ T19.heap _
            rw [e19]
            exact ⟨(by first | (simp only [if_neg hc1_2, if_neg hc10_7, if_neg hc19_12, if_pos hc28_17]; done) | (simp only [if_neg hc1_2, if_neg hc10_7, if_neg hc19_12, if_pos hc28_17]; exact rfl) | exact rfl), N0, rfl⟩
        · have pre21 : ∀ t, Steps p.tables e below (s₁.setTop (mkF m 37 #[iv pi0] [(.int (4 : Int32)), (.int pi0)])) t → Go t := fun t kt => pre16 t (by
              refine y_icmpYes X0.here hx (hb hby d1_28) (feq hc28_17).2 (pc' := 35) (by decide) rfl ?_
              refine y_iloadN X0.here hx (hb hby d1_35) rfl (pc' := 36) rfl ?_
              refine y_iconst X0.here hx (hb hby d1_36) (v := (4 : Int32)) rfl (pc' := 37) rfl ?_
              exact kt)
          by_cases hc37_22 : pi0 = (4 : Int32)
          · have pre23 : ∀ t, Steps p.tables e below (s₁.setTop (mkF m 40 #[iv pi0] [])) t → Go t := fun t kt => pre21 t (by
                refine y_icmpNo X0.here hx (hb hby d1_37) (teq hc37_22).2 (pc' := 40) rfl ?_
                exact kt)
            obtain ⟨T24, X24, e24, st24⟩ := getS2 X0 hx hZ hown (host := "") (Or.inl (hw _ (List.mem_of_getElem? (i := 78) rfl))) Via.refl e0 (S_RENEWED.ext O0.2) (g := (mkF m 40 #[iv pi0] [])) rfl (hb hby d1_40)
            have pre25 : ∀ t, Steps p.tables e below (T24.setTop (mkF m 43 #[iv pi0] [(.ref w_RENEWED)])) t → Go t := fun t kt => pre23 t (st24 t kt)
            obtain ⟨fs, hr, hrun, hended, hW, hsame⟩ := X24.leave (v := some (.ref w_RENEWED)) (fun h => by rw [Bd.returns] at h; cases h)
            refine ⟨_, _, (hGo _).mp (pre25 _ ?_), hrun, hended, _, _, rfl, ?_, ⟨_, rfl⟩, hW, hsame.mono (by decide) (by decide)⟩
            · exact retOut X24 hx Bd.returns rfl (Or.inr (Or.inr (Or.inr (Or.inr ⟨rfl, rfl, rfl⟩)))) (hb hby d1_43) hr
            · show Q1 Z pi0 w_REQUEST w_GRANT w_RELEASE w_RENEW w_RENEWED w_CANCEL w_CANCELLED w_TAKEOVER w_FOLLOW w_REPLY w_VOTE w_INQUIRE w_RELINQUISH h0 n0 _ T24.heap _
              rw [e24]
              exact ⟨(by first | (simp only [if_neg hc1_2, if_neg hc10_7, if_neg hc19_12, if_neg hc28_17, if_pos hc37_22]; done) | (simp only [if_neg hc1_2, if_neg hc10_7, if_neg hc19_12, if_neg hc28_17, if_pos hc37_22]; exact rfl) | exact rfl), N0, rfl⟩
          · have pre26 : ∀ t, Steps p.tables e below (s₁.setTop (mkF m 46 #[iv pi0] [(.int (5 : Int32)), (.int pi0)])) t → Go t := fun t kt => pre21 t (by
                refine y_icmpYes X0.here hx (hb hby d1_37) (feq hc37_22).2 (pc' := 44) (by decide) rfl ?_
                refine y_iloadN X0.here hx (hb hby d1_44) rfl (pc' := 45) rfl ?_
                refine y_iconst X0.here hx (hb hby d1_45) (v := (5 : Int32)) rfl (pc' := 46) rfl ?_
                exact kt)
            by_cases hc46_27 : pi0 = (5 : Int32)
            · have pre28 : ∀ t, Steps p.tables e below (s₁.setTop (mkF m 49 #[iv pi0] [])) t → Go t := fun t kt => pre26 t (by
                  refine y_icmpNo X0.here hx (hb hby d1_46) (teq hc46_27).2 (pc' := 49) rfl ?_
                  exact kt)
              obtain ⟨T29, X29, e29, st29⟩ := getS2 X0 hx hZ hown (host := "") (Or.inl (hw _ (List.mem_of_getElem? (i := 74) rfl))) Via.refl e0 (S_CANCEL.ext O0.2) (g := (mkF m 49 #[iv pi0] [])) rfl (hb hby d1_49)
              have pre30 : ∀ t, Steps p.tables e below (T29.setTop (mkF m 52 #[iv pi0] [(.ref w_CANCEL)])) t → Go t := fun t kt => pre28 t (st29 t kt)
              obtain ⟨fs, hr, hrun, hended, hW, hsame⟩ := X29.leave (v := some (.ref w_CANCEL)) (fun h => by rw [Bd.returns] at h; cases h)
              refine ⟨_, _, (hGo _).mp (pre30 _ ?_), hrun, hended, _, _, rfl, ?_, ⟨_, rfl⟩, hW, hsame.mono (by decide) (by decide)⟩
              · exact retOut X29 hx Bd.returns rfl (Or.inr (Or.inr (Or.inr (Or.inr ⟨rfl, rfl, rfl⟩)))) (hb hby d1_52) hr
              · show Q1 Z pi0 w_REQUEST w_GRANT w_RELEASE w_RENEW w_RENEWED w_CANCEL w_CANCELLED w_TAKEOVER w_FOLLOW w_REPLY w_VOTE w_INQUIRE w_RELINQUISH h0 n0 _ T29.heap _
                rw [e29]
                exact ⟨(by first | (simp only [if_neg hc1_2, if_neg hc10_7, if_neg hc19_12, if_neg hc28_17, if_neg hc37_22, if_pos hc46_27]; done) | (simp only [if_neg hc1_2, if_neg hc10_7, if_neg hc19_12, if_neg hc28_17, if_neg hc37_22, if_pos hc46_27]; exact rfl) | exact rfl), N0, rfl⟩
            · have pre31 : ∀ t, Steps p.tables e below (s₁.setTop (mkF m 56 #[iv pi0] [(.int (6 : Int32)), (.int pi0)])) t → Go t := fun t kt => pre26 t (by
                  refine y_icmpYes X0.here hx (hb hby d1_46) (feq hc46_27).2 (pc' := 53) (by decide) rfl ?_
                  refine y_iloadN X0.here hx (hb hby d1_53) rfl (pc' := 54) rfl ?_
                  refine y_bipush X0.here hx (hb hby d1_54) (v := (6 : Int32)) rfl (pc' := 56) rfl ?_
                  exact kt)
              by_cases hc56_32 : pi0 = (6 : Int32)
              · have pre33 : ∀ t, Steps p.tables e below (s₁.setTop (mkF m 59 #[iv pi0] [])) t → Go t := fun t kt => pre31 t (by
                    refine y_icmpNo X0.here hx (hb hby d1_56) (teq hc56_32).2 (pc' := 59) rfl ?_
                    exact kt)
                obtain ⟨T34, X34, e34, st34⟩ := getS2 X0 hx hZ hown (host := "") (Or.inl (hw _ (List.mem_of_getElem? (i := 70) rfl))) Via.refl e0 (S_CANCELLED.ext O0.2) (g := (mkF m 59 #[iv pi0] [])) rfl (hb hby d1_59)
                have pre35 : ∀ t, Steps p.tables e below (T34.setTop (mkF m 62 #[iv pi0] [(.ref w_CANCELLED)])) t → Go t := fun t kt => pre33 t (st34 t kt)
                obtain ⟨fs, hr, hrun, hended, hW, hsame⟩ := X34.leave (v := some (.ref w_CANCELLED)) (fun h => by rw [Bd.returns] at h; cases h)
                refine ⟨_, _, (hGo _).mp (pre35 _ ?_), hrun, hended, _, _, rfl, ?_, ⟨_, rfl⟩, hW, hsame.mono (by decide) (by decide)⟩
                · exact retOut X34 hx Bd.returns rfl (Or.inr (Or.inr (Or.inr (Or.inr ⟨rfl, rfl, rfl⟩)))) (hb hby d1_62) hr
                · show Q1 Z pi0 w_REQUEST w_GRANT w_RELEASE w_RENEW w_RENEWED w_CANCEL w_CANCELLED w_TAKEOVER w_FOLLOW w_REPLY w_VOTE w_INQUIRE w_RELINQUISH h0 n0 _ T34.heap _
                  rw [e34]
                  exact ⟨(by first | (simp only [if_neg hc1_2, if_neg hc10_7, if_neg hc19_12, if_neg hc28_17, if_neg hc37_22, if_neg hc46_27, if_pos hc56_32]; done) | (simp only [if_neg hc1_2, if_neg hc10_7, if_neg hc19_12, if_neg hc28_17, if_neg hc37_22, if_neg hc46_27, if_pos hc56_32]; exact rfl) | exact rfl), N0, rfl⟩
              · have pre36 : ∀ t, Steps p.tables e below (s₁.setTop (mkF m 66 #[iv pi0] [(.int (7 : Int32)), (.int pi0)])) t → Go t := fun t kt => pre31 t (by
                    refine y_icmpYes X0.here hx (hb hby d1_56) (feq hc56_32).2 (pc' := 63) (by decide) rfl ?_
                    refine y_iloadN X0.here hx (hb hby d1_63) rfl (pc' := 64) rfl ?_
                    refine y_bipush X0.here hx (hb hby d1_64) (v := (7 : Int32)) rfl (pc' := 66) rfl ?_
                    exact kt)
                by_cases hc66_37 : pi0 = (7 : Int32)
                · have pre38 : ∀ t, Steps p.tables e below (s₁.setTop (mkF m 69 #[iv pi0] [])) t → Go t := fun t kt => pre36 t (by
                      refine y_icmpNo X0.here hx (hb hby d1_66) (teq hc66_37).2 (pc' := 69) rfl ?_
                      exact kt)
                  obtain ⟨T39, X39, e39, st39⟩ := getS2 X0 hx hZ hown (host := "") (Or.inl (hw _ (List.mem_of_getElem? (i := 64) rfl))) Via.refl e0 (S_TAKEOVER.ext O0.2) (g := (mkF m 69 #[iv pi0] [])) rfl (hb hby d1_69)
                  have pre40 : ∀ t, Steps p.tables e below (T39.setTop (mkF m 72 #[iv pi0] [(.ref w_TAKEOVER)])) t → Go t := fun t kt => pre38 t (st39 t kt)
                  obtain ⟨fs, hr, hrun, hended, hW, hsame⟩ := X39.leave (v := some (.ref w_TAKEOVER)) (fun h => by rw [Bd.returns] at h; cases h)
                  refine ⟨_, _, (hGo _).mp (pre40 _ ?_), hrun, hended, _, _, rfl, ?_, ⟨_, rfl⟩, hW, hsame.mono (by decide) (by decide)⟩
                  · exact retOut X39 hx Bd.returns rfl (Or.inr (Or.inr (Or.inr (Or.inr ⟨rfl, rfl, rfl⟩)))) (hb hby d1_72) hr
                  · show Q1 Z pi0 w_REQUEST w_GRANT w_RELEASE w_RENEW w_RENEWED w_CANCEL w_CANCELLED w_TAKEOVER w_FOLLOW w_REPLY w_VOTE w_INQUIRE w_RELINQUISH h0 n0 _ T39.heap _
                    rw [e39]
                    exact ⟨(by first | (simp only [if_neg hc1_2, if_neg hc10_7, if_neg hc19_12, if_neg hc28_17, if_neg hc37_22, if_neg hc46_27, if_neg hc56_32, if_pos hc66_37]; done) | (simp only [if_neg hc1_2, if_neg hc10_7, if_neg hc19_12, if_neg hc28_17, if_neg hc37_22, if_neg hc46_27, if_neg hc56_32, if_pos hc66_37]; exact rfl) | exact rfl), N0, rfl⟩
                · have pre41 : ∀ t, Steps p.tables e below (s₁.setTop (mkF m 76 #[iv pi0] [(.int (8 : Int32)), (.int pi0)])) t → Go t := fun t kt => pre36 t (by
                      refine y_icmpYes X0.here hx (hb hby d1_66) (feq hc66_37).2 (pc' := 73) (by decide) rfl ?_
                      refine y_iloadN X0.here hx (hb hby d1_73) rfl (pc' := 74) rfl ?_
                      refine y_bipush X0.here hx (hb hby d1_74) (v := (8 : Int32)) rfl (pc' := 76) rfl ?_
                      exact kt)
                  by_cases hc76_42 : pi0 = (8 : Int32)
                  · have pre43 : ∀ t, Steps p.tables e below (s₁.setTop (mkF m 79 #[iv pi0] [])) t → Go t := fun t kt => pre41 t (by
                        refine y_icmpNo X0.here hx (hb hby d1_76) (teq hc76_42).2 (pc' := 79) rfl ?_
                        exact kt)
                    obtain ⟨T44, X44, e44, st44⟩ := getS2 X0 hx hZ hown (host := "") (Or.inl (hw _ (List.mem_of_getElem? (i := 76) rfl))) Via.refl e0 (S_FOLLOW.ext O0.2) (g := (mkF m 79 #[iv pi0] [])) rfl (hb hby d1_79)
                    have pre45 : ∀ t, Steps p.tables e below (T44.setTop (mkF m 82 #[iv pi0] [(.ref w_FOLLOW)])) t → Go t := fun t kt => pre43 t (st44 t kt)
                    obtain ⟨fs, hr, hrun, hended, hW, hsame⟩ := X44.leave (v := some (.ref w_FOLLOW)) (fun h => by rw [Bd.returns] at h; cases h)
                    refine ⟨_, _, (hGo _).mp (pre45 _ ?_), hrun, hended, _, _, rfl, ?_, ⟨_, rfl⟩, hW, hsame.mono (by decide) (by decide)⟩
                    · exact retOut X44 hx Bd.returns rfl (Or.inr (Or.inr (Or.inr (Or.inr ⟨rfl, rfl, rfl⟩)))) (hb hby d1_82) hr
                    · show Q1 Z pi0 w_REQUEST w_GRANT w_RELEASE w_RENEW w_RENEWED w_CANCEL w_CANCELLED w_TAKEOVER w_FOLLOW w_REPLY w_VOTE w_INQUIRE w_RELINQUISH h0 n0 _ T44.heap _
                      rw [e44]
                      exact ⟨(by first | (simp only [if_neg hc1_2, if_neg hc10_7, if_neg hc19_12, if_neg hc28_17, if_neg hc37_22, if_neg hc46_27, if_neg hc56_32, if_neg hc66_37, if_pos hc76_42]; done) | (simp only [if_neg hc1_2, if_neg hc10_7, if_neg hc19_12, if_neg hc28_17, if_neg hc37_22, if_neg hc46_27, if_neg hc56_32, if_neg hc66_37, if_pos hc76_42]; exact rfl) | exact rfl), N0, rfl⟩
                  · have pre46 : ∀ t, Steps p.tables e below (s₁.setTop (mkF m 86 #[iv pi0] [(.int (9 : Int32)), (.int pi0)])) t → Go t := fun t kt => pre41 t (by
                        refine y_icmpYes X0.here hx (hb hby d1_76) (feq hc76_42).2 (pc' := 83) (by decide) rfl ?_
                        refine y_iloadN X0.here hx (hb hby d1_83) rfl (pc' := 84) rfl ?_
                        refine y_bipush X0.here hx (hb hby d1_84) (v := (9 : Int32)) rfl (pc' := 86) rfl ?_
                        exact kt)
                    by_cases hc86_47 : pi0 = (9 : Int32)
                    · have pre48 : ∀ t, Steps p.tables e below (s₁.setTop (mkF m 89 #[iv pi0] [])) t → Go t := fun t kt => pre46 t (by
                          refine y_icmpNo X0.here hx (hb hby d1_86) (teq hc86_47).2 (pc' := 89) rfl ?_
                          exact kt)
                      obtain ⟨T49, X49, e49, st49⟩ := getS2 X0 hx hZ hown (host := "") (Or.inl (hw _ (List.mem_of_getElem? (i := 72) rfl))) Via.refl e0 (S_REPLY.ext O0.2) (g := (mkF m 89 #[iv pi0] [])) rfl (hb hby d1_89)
                      have pre50 : ∀ t, Steps p.tables e below (T49.setTop (mkF m 92 #[iv pi0] [(.ref w_REPLY)])) t → Go t := fun t kt => pre48 t (st49 t kt)
                      obtain ⟨fs, hr, hrun, hended, hW, hsame⟩ := X49.leave (v := some (.ref w_REPLY)) (fun h => by rw [Bd.returns] at h; cases h)
                      refine ⟨_, _, (hGo _).mp (pre50 _ ?_), hrun, hended, _, _, rfl, ?_, ⟨_, rfl⟩, hW, hsame.mono (by decide) (by decide)⟩
                      · exact retOut X49 hx Bd.returns rfl (Or.inr (Or.inr (Or.inr (Or.inr ⟨rfl, rfl, rfl⟩)))) (hb hby d1_92) hr
                      · show Q1 Z pi0 w_REQUEST w_GRANT w_RELEASE w_RENEW w_RENEWED w_CANCEL w_CANCELLED w_TAKEOVER w_FOLLOW w_REPLY w_VOTE w_INQUIRE w_RELINQUISH h0 n0 _ T49.heap _
                        rw [e49]
                        exact ⟨(by first | (simp only [if_neg hc1_2, if_neg hc10_7, if_neg hc19_12, if_neg hc28_17, if_neg hc37_22, if_neg hc46_27, if_neg hc56_32, if_neg hc66_37, if_neg hc76_42, if_pos hc86_47]; done) | (simp only [if_neg hc1_2, if_neg hc10_7, if_neg hc19_12, if_neg hc28_17, if_neg hc37_22, if_neg hc46_27, if_neg hc56_32, if_neg hc66_37, if_neg hc76_42, if_pos hc86_47]; exact rfl) | exact rfl), N0, rfl⟩
                    · have pre51 : ∀ t, Steps p.tables e below (s₁.setTop (mkF m 96 #[iv pi0] [(.int (10 : Int32)), (.int pi0)])) t → Go t := fun t kt => pre46 t (by
                          refine y_icmpYes X0.here hx (hb hby d1_86) (feq hc86_47).2 (pc' := 93) (by decide) rfl ?_
                          refine y_iloadN X0.here hx (hb hby d1_93) rfl (pc' := 94) rfl ?_
                          refine y_bipush X0.here hx (hb hby d1_94) (v := (10 : Int32)) rfl (pc' := 96) rfl ?_
                          exact kt)
                      by_cases hc96_52 : pi0 = (10 : Int32)
                      · have pre53 : ∀ t, Steps p.tables e below (s₁.setTop (mkF m 99 #[iv pi0] [])) t → Go t := fun t kt => pre51 t (by
                            refine y_icmpNo X0.here hx (hb hby d1_96) (teq hc96_52).2 (pc' := 99) rfl ?_
                            exact kt)
                        obtain ⟨T54, X54, e54, st54⟩ := getS2 X0 hx hZ hown (host := "") (Or.inl (hw _ (List.mem_of_getElem? (i := 66) rfl))) Via.refl e0 (S_VOTE.ext O0.2) (g := (mkF m 99 #[iv pi0] [])) rfl (hb hby d1_99)
                        have pre55 : ∀ t, Steps p.tables e below (T54.setTop (mkF m 102 #[iv pi0] [(.ref w_VOTE)])) t → Go t := fun t kt => pre53 t (st54 t kt)
                        obtain ⟨fs, hr, hrun, hended, hW, hsame⟩ := X54.leave (v := some (.ref w_VOTE)) (fun h => by rw [Bd.returns] at h; cases h)
                        refine ⟨_, _, (hGo _).mp (pre55 _ ?_), hrun, hended, _, _, rfl, ?_, ⟨_, rfl⟩, hW, hsame.mono (by decide) (by decide)⟩
                        · exact retOut X54 hx Bd.returns rfl (Or.inr (Or.inr (Or.inr (Or.inr ⟨rfl, rfl, rfl⟩)))) (hb hby d1_102) hr
                        · show Q1 Z pi0 w_REQUEST w_GRANT w_RELEASE w_RENEW w_RENEWED w_CANCEL w_CANCELLED w_TAKEOVER w_FOLLOW w_REPLY w_VOTE w_INQUIRE w_RELINQUISH h0 n0 _ T54.heap _
                          rw [e54]
                          exact ⟨(by first | (simp only [if_neg hc1_2, if_neg hc10_7, if_neg hc19_12, if_neg hc28_17, if_neg hc37_22, if_neg hc46_27, if_neg hc56_32, if_neg hc66_37, if_neg hc76_42, if_neg hc86_47, if_pos hc96_52]; done) | (simp only [if_neg hc1_2, if_neg hc10_7, if_neg hc19_12, if_neg hc28_17, if_neg hc37_22, if_neg hc46_27, if_neg hc56_32, if_neg hc66_37, if_neg hc76_42, if_neg hc86_47, if_pos hc96_52]; exact rfl) | exact rfl), N0, rfl⟩
                      · have pre56 : ∀ t, Steps p.tables e below (s₁.setTop (mkF m 106 #[iv pi0] [(.int (11 : Int32)), (.int pi0)])) t → Go t := fun t kt => pre51 t (by
                            refine y_icmpYes X0.here hx (hb hby d1_96) (feq hc96_52).2 (pc' := 103) (by decide) rfl ?_
                            refine y_iloadN X0.here hx (hb hby d1_103) rfl (pc' := 104) rfl ?_
                            refine y_bipush X0.here hx (hb hby d1_104) (v := (11 : Int32)) rfl (pc' := 106) rfl ?_
                            exact kt)
                        by_cases hc106_57 : pi0 = (11 : Int32)
                        · have pre58 : ∀ t, Steps p.tables e below (s₁.setTop (mkF m 109 #[iv pi0] [])) t → Go t := fun t kt => pre56 t (by
                              refine y_icmpNo X0.here hx (hb hby d1_106) (teq hc106_57).2 (pc' := 109) rfl ?_
                              exact kt)
                          obtain ⟨T59, X59, e59, st59⟩ := getS2 X0 hx hZ hown (host := "") (Or.inl (hw _ (List.mem_of_getElem? (i := 62) rfl))) Via.refl e0 (S_INQUIRE.ext O0.2) (g := (mkF m 109 #[iv pi0] [])) rfl (hb hby d1_109)
                          have pre60 : ∀ t, Steps p.tables e below (T59.setTop (mkF m 112 #[iv pi0] [(.ref w_INQUIRE)])) t → Go t := fun t kt => pre58 t (st59 t kt)
                          obtain ⟨fs, hr, hrun, hended, hW, hsame⟩ := X59.leave (v := some (.ref w_INQUIRE)) (fun h => by rw [Bd.returns] at h; cases h)
                          refine ⟨_, _, (hGo _).mp (pre60 _ ?_), hrun, hended, _, _, rfl, ?_, ⟨_, rfl⟩, hW, hsame.mono (by decide) (by decide)⟩
                          · exact retOut X59 hx Bd.returns rfl (Or.inr (Or.inr (Or.inr (Or.inr ⟨rfl, rfl, rfl⟩)))) (hb hby d1_112) hr
                          · show Q1 Z pi0 w_REQUEST w_GRANT w_RELEASE w_RENEW w_RENEWED w_CANCEL w_CANCELLED w_TAKEOVER w_FOLLOW w_REPLY w_VOTE w_INQUIRE w_RELINQUISH h0 n0 _ T59.heap _
                            rw [e59]
                            exact ⟨(by first | (simp only [if_neg hc1_2, if_neg hc10_7, if_neg hc19_12, if_neg hc28_17, if_neg hc37_22, if_neg hc46_27, if_neg hc56_32, if_neg hc66_37, if_neg hc76_42, if_neg hc86_47, if_neg hc96_52, if_pos hc106_57]; done) | (simp only [if_neg hc1_2, if_neg hc10_7, if_neg hc19_12, if_neg hc28_17, if_neg hc37_22, if_neg hc46_27, if_neg hc56_32, if_neg hc66_37, if_neg hc76_42, if_neg hc86_47, if_neg hc96_52, if_pos hc106_57]; exact rfl) | exact rfl), N0, rfl⟩
                        · have pre61 : ∀ t, Steps p.tables e below (s₁.setTop (mkF m 113 #[iv pi0] [])) t → Go t := fun t kt => pre56 t (by
                              refine y_icmpYes X0.here hx (hb hby d1_106) (feq hc106_57).2 (pc' := 113) (by decide) rfl ?_
                              exact kt)
                          obtain ⟨T62, X62, e62, st62⟩ := getS2 X0 hx hZ hown (host := "") (Or.inl (hw _ (List.mem_of_getElem? (i := 80) rfl))) Via.refl e0 (S_RELINQUISH.ext O0.2) (g := (mkF m 113 #[iv pi0] [])) rfl (hb hby d1_113)
                          have pre63 : ∀ t, Steps p.tables e below (T62.setTop (mkF m 116 #[iv pi0] [(.ref w_RELINQUISH)])) t → Go t := fun t kt => pre61 t (st62 t kt)
                          obtain ⟨fs, hr, hrun, hended, hW, hsame⟩ := X62.leave (v := some (.ref w_RELINQUISH)) (fun h => by rw [Bd.returns] at h; cases h)
                          refine ⟨_, _, (hGo _).mp (pre63 _ ?_), hrun, hended, _, _, rfl, ?_, ⟨_, rfl⟩, hW, hsame.mono (by decide) (by decide)⟩
                          · exact retOut X62 hx Bd.returns rfl (Or.inr (Or.inr (Or.inr (Or.inr ⟨rfl, rfl, rfl⟩)))) (hb hby d1_116) hr
                          · show Q1 Z pi0 w_REQUEST w_GRANT w_RELEASE w_RENEW w_RENEWED w_CANCEL w_CANCELLED w_TAKEOVER w_FOLLOW w_REPLY w_VOTE w_INQUIRE w_RELINQUISH h0 n0 _ T62.heap _
                            rw [e62]
                            exact ⟨(by first | (simp only [if_neg hc1_2, if_neg hc10_7, if_neg hc19_12, if_neg hc28_17, if_neg hc37_22, if_neg hc46_27, if_neg hc56_32, if_neg hc66_37, if_neg hc76_42, if_neg hc86_47, if_neg hc96_52, if_neg hc106_57]; done) | (simp only [if_neg hc1_2, if_neg hc10_7, if_neg hc19_12, if_neg hc28_17, if_neg hc37_22, if_neg hc46_27, if_neg hc56_32, if_neg hc66_37, if_neg hc76_42, if_neg hc86_47, if_neg hc96_52, if_neg hc106_57]; exact rfl) | exact rfl), N0, rfl⟩
theorem d4_0 : decode prog_47_method_5_code 0 = .ok (.iload_n 0, 1) := by decide +kernel
theorem d4_1 : decode prog_47_method_5_code 1 = .ok (.iload_n 1, 1) := by decide +kernel
theorem d4_2 : decode prog_47_method_5_code 2 = .ok (.if_icmp .ne 17, 3) := by decide +kernel
theorem d4_19 : decode prog_47_method_5_code 19 = .ok (.return_, 1) := by decide +kernel
theorem pn_com_example_procord_procord_message_Message : plainName "com/example/procord/procord/message/Message" = true := by first | (simp [plainName, overriddenIn]; done) | decide +kernel
theorem ef_4 (m : MethodId) (x0 : Int32) (x1 : Int32) : entryFrame m #[(.int x0), (.int x1)] 2 = mkF m 0 #[iv x0, iv x1] [] := by first | (simp [entryFrame, mkF, argsToLocals, Value.category]; done) | rfl
def Q4 (Z : State) (pi0 : Int32) (pi1 : Int32) (h0 : Heap) (n0 : Nat) (v : Option Value) (h : Heap) (L : List Loc) : Prop := v = none ∧ Fr n0 L ∧ h = h0
set_option maxRecDepth 65536 in
set_option maxHeartbeats 40000000 in
theorem rm4 (l : Launch) (Z : State) (a0 : Array Value) (hw : ∀ d ∈ tables_1, d.before a0 Z = true) (ws : List Jvm.Cond) (pi0 : Int32) (pi1 : Int32) (h0 : Heap) (n0 : Nat) (O0 : Old Z n0 h0) (NQ : ¬ pi0 = pi1) :
    MetFree l (⟨"com/example/procord/procord/message/Message", "checkEnds", "(II)V"⟩ : MethodName) (head1 (Jvm.Cond.code (⟨"com/example/procord/procord/message/Message", "checkEnds", "(II)V"⟩ : MethodName) prog_47_method_5_code 2 none :: ws) ({ frames := 0, cells := 0, slots := 0, locals := 0 } : Room)) (fun a U => a = #[(.int pi0), (.int pi1)] ∧ Z.Warmed39 U.vm ∧ U.heap = h0) (fun _ _ _ _ _ => True) (fun _ U o U' => ∃ v L, o = .returned v ∧ Q4 Z pi0 pi1 h0 n0 v U'.heap L ∧ FrameEnd U o U' L ({ frames := 0, cells := 0, slots := 0, locals := 0 } : Room).cells ({ frames := 0, cells := 0, slots := 0, locals := 0 } : Room).slots) := by
  refine MetFree.of_bodySF (plainFor_of_name pn_com_example_procord_procord_message_Message) hisR ?_
  intro p e s m args below meth c s₁ Bd hml0 hP hK
  obtain ⟨rfl, hZ, hh⟩ := hP
  have hx := Bd.exec
  have hby := Bd.bytes
  have hml : c.maxLocals = 2 := hml0
  have hown : s.vm.findClass "com/example/procord/procord/message/Message" = some m.cls := findClass_of_methodNamed Bd.named
  have hnm := (name_of_methodNamed Bd.named Bd.method).1
  have X0 : Stand p l e ({ frames := 0, cells := 0, slots := 0, locals := 0 } : Room) s m #[(.int pi0), (.int pi1)] below meth c s₁ [] 0 0 := Stand.of_body Bd
  have e0 : s₁.heap = h0 := by rw [← hh, Bd.state]; rfl
  have N0 := Fr.nil n0
  obtain ⟨Go, hGo⟩ : ∃ P : State → Prop, ∀ t, P t ↔ Steps p.tables e below (s₁.setTop (entryFrame m #[(.int pi0), (.int pi1)] 2)) t := ⟨_, fun _ => Iff.rfl⟩
  have pre0 : ∀ t, Steps p.tables e below (s₁.setTop (mkF m 0 #[iv pi0, iv pi1] [])) t → Go t := fun t k => (hGo t).mpr (castTop (ef_4 m pi0 pi1) k)
  have pre1 : ∀ t, Steps p.tables e below (s₁.setTop (mkF m 19 #[iv pi0, iv pi1] [])) t → Go t := fun t kt => pre0 t (by
      refine y_iloadN X0.here hx (hb hby d4_0) rfl (pc' := 1) rfl ?_
      refine y_iloadN X0.here hx (hb hby d4_1) rfl (pc' := 2) rfl ?_
      refine y_icmpYes X0.here hx (hb hby d4_2) (feq NQ).2 (pc' := 19) (by decide) rfl ?_
      exact kt)
  obtain ⟨fs, hr, hrun, hended, hW, hsame⟩ := X0.leave (v := none) (fun _ => rfl)
  refine ⟨_, _, (hGo _).mp (pre1 _ ?_), hrun, hended, _, _, rfl, ?_, ⟨_, rfl⟩, hW, hsame.mono (by decide) (by decide)⟩
  · exact X0.returnOut hx Bd.returns (hb hby d4_19) hr
  · show Q4 Z pi0 pi1 h0 n0 _ s₁.heap _
    rw [e0]
    exact ⟨rfl, N0, rfl⟩
theorem d5_0 : decode jdk_31_method_11_code 0 = .ok (.aload_n 0, 1) := by decide +kernel
theorem d5_1 : decode jdk_31_method_11_code 1 = .ok (.ifnonnull 12, 3) := by decide +kernel
theorem d5_13 : decode jdk_31_method_11_code 13 = .ok (.aload_n 0, 1) := by decide +kernel
theorem d5_14 : decode jdk_31_method_11_code 14 = .ok (.areturn, 1) := by decide +kernel
theorem pn_java_util_Objects : plainName "java/util/Objects" = true := by first | (simp [plainName, overriddenIn]; done) | decide +kernel
theorem ef_5 (m : MethodId) (x0 : Addr) (x1 : Addr) : entryFrame m #[(.ref x0), (.ref x1)] 2 = mkF m 0 #[rv x0, rv x1] [] := by first | (simp [entryFrame, mkF, argsToLocals, Value.category]; done) | rfl
def Q5 (Z : State) (pr0 : Addr) (pr1 : Addr) (h0 : Heap) (n0 : Nat) (v : Option Value) (h : Heap) (L : List Loc) : Prop := v = some (.ref pr0) ∧ Fr n0 L ∧ h = h0
set_option maxRecDepth 65536 in
set_option maxHeartbeats 40000000 in
theorem rm5 (l : Launch) (Z : State) (a0 : Array Value) (hw : ∀ d ∈ tables_1, d.before a0 Z = true) (ws : List Jvm.Cond) (pr0 : Addr) (pr1 : Addr) (h0 : Heap) (n0 : Nat) (O0 : Old Z n0 h0) :
    MetFree l (⟨"java/util/Objects", "requireNonNull", "(Ljava/lang/Object;Ljava/lang/String;)Ljava/lang/Object;"⟩ : MethodName) (head1 (Jvm.Cond.code (⟨"java/util/Objects", "requireNonNull", "(Ljava/lang/Object;Ljava/lang/String;)Ljava/lang/Object;"⟩ : MethodName) jdk_31_method_11_code 2 (some (.object "java/lang/Object")) :: ws) ({ frames := 0, cells := 0, slots := 0, locals := 0 } : Room)) (fun a U => a = #[(.ref pr0), (.ref pr1)] ∧ Z.Warmed39 U.vm ∧ U.heap = h0) (fun _ _ _ _ _ => True) (fun _ U o U' => ∃ v L, o = .returned v ∧ Q5 Z pr0 pr1 h0 n0 v U'.heap L ∧ FrameEnd U o U' L ({ frames := 0, cells := 0, slots := 0, locals := 0 } : Room).cells ({ frames := 0, cells := 0, slots := 0, locals := 0 } : Room).slots) := by
  refine MetFree.of_bodySF (plainFor_of_name pn_java_util_Objects) hisR ?_
  intro p e s m args below meth c s₁ Bd hml0 hP hK
  obtain ⟨rfl, hZ, hh⟩ := hP
  have hx := Bd.exec
  have hby := Bd.bytes
  have hml : c.maxLocals = 2 := hml0
  have hown : s.vm.findClass "java/util/Objects" = some m.cls := findClass_of_methodNamed Bd.named
  have hnm := (name_of_methodNamed Bd.named Bd.method).1
  have X0 : Stand p l e ({ frames := 0, cells := 0, slots := 0, locals := 0 } : Room) s m #[(.ref pr0), (.ref pr1)] below meth c s₁ [] 0 0 := Stand.of_body Bd
  have e0 : s₁.heap = h0 := by rw [← hh, Bd.state]; rfl
  have N0 := Fr.nil n0
  obtain ⟨Go, hGo⟩ : ∃ P : State → Prop, ∀ t, P t ↔ Steps p.tables e below (s₁.setTop (entryFrame m #[(.ref pr0), (.ref pr1)] 2)) t := ⟨_, fun _ => Iff.rfl⟩
  have pre0 : ∀ t, Steps p.tables e below (s₁.setTop (mkF m 0 #[rv pr0, rv pr1] [])) t → Go t := fun t k => (hGo t).mpr (castTop (ef_5 m pr0 pr1) k)
  have pre1 : ∀ t, Steps p.tables e below (s₁.setTop (mkF m 14 #[rv pr0, rv pr1] [(.ref pr0)])) t → Go t := fun t kt => pre0 t (by
      refine y_aloadN X0.here hx (hb hby d5_0) rfl rfl (pc' := 1) rfl ?_
      refine XS.ifnonnullYes X0.here hx rfl (pc0 := 1) (pc' := 13) rfl (hb hby d5_1) rfl (by decide) (by decide) ?_
      show Steps p.tables e below (s₁.setTop (mkF m 13 #[rv pr0, rv pr1] [])) _
      refine y_aloadN X0.here hx (hb hby d5_13) rfl rfl (pc' := 14) rfl ?_
      exact kt)
  obtain ⟨fs, hr, hrun, hended, hW, hsame⟩ := X0.leave (v := some (.ref pr0)) (fun h => by rw [Bd.returns] at h; cases h)
  refine ⟨_, _, (hGo _).mp (pre1 _ ?_), hrun, hended, _, _, rfl, ?_, ⟨_, rfl⟩, hW, hsame.mono (by decide) (by decide)⟩
  · exact retOut X0 hx Bd.returns rfl (Or.inr (Or.inr (Or.inr (Or.inr ⟨rfl, rfl, rfl⟩)))) (hb hby d5_14) hr
  · show Q5 Z pr0 pr1 h0 n0 _ s₁.heap _
    rw [e0]
    exact ⟨rfl, N0, rfl⟩
theorem d9_0 : decode jdk_18_method_1_code 0 = .ok (.aload_n 0, 1) := by decide +kernel
theorem d9_1 : decode jdk_18_method_1_code 1 = .ok (.invokespecial 1, 3) := by decide +kernel
theorem d9_4 : decode jdk_18_method_1_code 4 = .ok (.return_, 1) := by decide +kernel
theorem pn_java_lang_Number : plainName "java/lang/Number" = true := by first | (simp [plainName, overriddenIn]; done) | decide +kernel
theorem ef_9 (m : MethodId) (x0 : Addr) : entryFrame m #[(.ref x0)] 1 = mkF m 0 #[rv x0] [] := by first | (simp [entryFrame, mkF, argsToLocals, Value.category]; done) | rfl
def Q9 (Z : State) (pr0 : Addr) (h0 : Heap) (n0 : Nat) (v : Option Value) (h : Heap) (L : List Loc) : Prop := v = none ∧ Fr n0 L ∧ h = h0
set_option maxRecDepth 65536 in
set_option maxHeartbeats 40000000 in
theorem rm9 (l : Launch) (Z : State) (a0 : Array Value) (hw : ∀ d ∈ tables_1, d.before a0 Z = true) (ws : List Jvm.Cond) (pr0 : Addr) (h0 : Heap) (n0 : Nat) (O0 : Old Z n0 h0) (E_pr0 : Exa Z h0 pr0 "java/lang/Integer") :
    MetFree l (⟨"java/lang/Number", "<init>", "()V"⟩ : MethodName) (head1 (Jvm.Cond.code (⟨"java/lang/Number", "<init>", "()V"⟩ : MethodName) jdk_18_method_1_code 1 none :: ws) ({ frames := 1, cells := 0, slots := 0, locals := 12 } : Room)) (fun a U => a = #[(.ref pr0)] ∧ Z.Warmed39 U.vm ∧ U.heap = h0) (fun _ _ _ _ _ => True) (fun _ U o U' => ∃ v L, o = .returned v ∧ Q9 Z pr0 h0 n0 v U'.heap L ∧ FrameEnd U o U' L ({ frames := 1, cells := 0, slots := 0, locals := 12 } : Room).cells ({ frames := 1, cells := 0, slots := 0, locals := 12 } : Room).slots) := by
  refine MetFree.of_bodySF (plainFor_of_name pn_java_lang_Number) hisR ?_
  intro p e s m args below meth c s₁ Bd hml0 hP hK
  obtain ⟨rfl, hZ, hh⟩ := hP
  have hx := Bd.exec
  have hby := Bd.bytes
  have hml : c.maxLocals = 1 := hml0
  have hown : s.vm.findClass "java/lang/Number" = some m.cls := findClass_of_methodNamed Bd.named
  have hnm := (name_of_methodNamed Bd.named Bd.method).1
  have X0 : Stand p l e ({ frames := 1, cells := 0, slots := 0, locals := 12 } : Room) s m #[(.ref pr0)] below meth c s₁ [] 0 0 := Stand.of_body Bd
  have e0 : s₁.heap = h0 := by rw [← hh, Bd.state]; rfl
  have N0 := Fr.nil n0
  obtain ⟨Go, hGo⟩ : ∃ P : State → Prop, ∀ t, P t ↔ Steps p.tables e below (s₁.setTop (entryFrame m #[(.ref pr0)] 1)) t := ⟨_, fun _ => Iff.rfl⟩
  have pre0 : ∀ t, Steps p.tables e below (s₁.setTop (mkF m 0 #[rv pr0] [])) t → Go t := fun t k => (hGo t).mpr (castTop (ef_9 m pr0) k)
  have pre1 : ∀ t, Steps p.tables e below (s₁.setTop (mkF m 1 #[rv pr0] [(.ref pr0)])) t → Go t := fun t kt => pre0 t (by
      refine y_aloadN X0.here hx (hb hby d9_0) rfl rfl (pc' := 1) rfl ?_
      exact kt)
  obtain ⟨T2, X2, e2, st2⟩ := initO X0 hx hZ hown (hw _ (List.mem_of_getElem? (i := 104) rfl)) (hw _ (List.mem_of_getElem? (i := 14) rfl)) (hw _ (List.mem_of_getElem? (i := 15) rfl)) e0 (g := (mkF m 1 #[rv pr0] [(.ref pr0)])) rfl (by rw [hml]; rfl) rfl (hb hby d9_1) (by decide) (W := 0) (by show 2 * 0 + _ ≤ _; exact Nat.le_of_eq rfl) (by decide)
  have pre3 : ∀ t, Steps p.tables e below (T2.setTop (mkF m 4 #[rv pr0] [])) t → Go t := fun t kt => pre1 t (st2 t kt)
  obtain ⟨fs, hr, hrun, hended, hW, hsame⟩ := X2.leave (v := none) (fun _ => rfl)
  refine ⟨_, _, (hGo _).mp (pre3 _ ?_), hrun, hended, _, _, rfl, ?_, ⟨_, rfl⟩, hW, hsame.mono (by decide) (by decide)⟩
  · exact X2.returnOut hx Bd.returns (hb hby d9_4) hr
  · show Q9 Z pr0 h0 n0 _ T2.heap _
    rw [e2]
    exact ⟨rfl, N0, rfl⟩
theorem d8_0 : decode jdk_33_method_23_code 0 = .ok (.aload_n 0, 1) := by decide +kernel
theorem d8_1 : decode jdk_33_method_23_code 1 = .ok (.invokespecial 202, 3) := by decide +kernel
theorem d8_4 : decode jdk_33_method_23_code 4 = .ok (.aload_n 0, 1) := by decide +kernel
theorem d8_5 : decode jdk_33_method_23_code 5 = .ok (.iload_n 1, 1) := by decide +kernel
theorem d8_6 : decode jdk_33_method_23_code 6 = .ok (.putfield 205, 3) := by decide +kernel
theorem d8_9 : decode jdk_33_method_23_code 9 = .ok (.return_, 1) := by decide +kernel
theorem pn_java_lang_Integer : plainName "java/lang/Integer" = true := by first | (simp [plainName, overriddenIn]; done) | decide +kernel
theorem pd___V : parseMethodDescriptor "()V" = some ⟨[], none⟩ := by decide +kernel
theorem ef_8 (m : MethodId) (x0 : Addr) (x1 : Int32) : entryFrame m #[(.ref x0), (.int x1)] 2 = mkF m 0 #[rv x0, iv x1] [] := by first | (simp [entryFrame, mkF, argsToLocals, Value.category]; done) | rfl
def Q8 (Z : State) (pr0 : Addr) (pi1 : Int32) (h0 : Heap) (n0 : Nat) (v : Option Value) (h : Heap) (L : List Loc) : Prop := v = none ∧ Fr n0 L ∧ Keep h0 h [pr0] ∧ Fld Z h pr0 "java/lang/Integer" "value" "I" (.int pi1)
set_option maxRecDepth 65536 in
set_option maxHeartbeats 40000000 in
theorem rm8 (l : Launch) (Z : State) (a0 : Array Value) (hw : ∀ d ∈ tables_1, d.before a0 Z = true) (ws : List Jvm.Cond) (pr0 : Addr) (pi1 : Int32) (h0 : Heap) (n0 : Nat) (O0 : Old Z n0 h0) (E_pr0 : Exa Z h0 pr0 "java/lang/Integer") (F_value_pr0 : Fld Z h0 pr0 "java/lang/Integer" "value" "I" (.int (0 : Int32))) (G_pr0 : n0 ≤ pr0) :
    MetFree l (⟨"java/lang/Integer", "<init>", "(I)V"⟩ : MethodName) (head1 (Jvm.Cond.code (⟨"java/lang/Integer", "<init>", "(I)V"⟩ : MethodName) jdk_33_method_23_code 2 none :: ws) ({ frames := 2, cells := 0, slots := 0, locals := 24 } : Room)) (fun a U => a = #[(.ref pr0), (.int pi1)] ∧ Z.Warmed39 U.vm ∧ U.heap = h0) (fun _ _ _ _ _ => True) (fun _ U o U' => ∃ v L, o = .returned v ∧ Q8 Z pr0 pi1 h0 n0 v U'.heap L ∧ FrameEnd U o U' L ({ frames := 2, cells := 0, slots := 0, locals := 24 } : Room).cells ({ frames := 2, cells := 0, slots := 0, locals := 24 } : Room).slots) := by
  refine MetFree.of_bodySF (plainFor_of_name pn_java_lang_Integer) hisR ?_
  intro p e s m args below meth c s₁ Bd hml0 hP hK
  obtain ⟨rfl, hZ, hh⟩ := hP
  have hx := Bd.exec
  have hby := Bd.bytes
  have hml : c.maxLocals = 2 := hml0
  have hown : s.vm.findClass "java/lang/Integer" = some m.cls := findClass_of_methodNamed Bd.named
  have hnm := (name_of_methodNamed Bd.named Bd.method).1
  have X0 : Stand p l e ({ frames := 2, cells := 0, slots := 0, locals := 24 } : Room) s m #[(.ref pr0), (.int pi1)] below meth c s₁ [] 0 0 := Stand.of_body Bd
  have e0 : s₁.heap = h0 := by rw [← hh, Bd.state]; rfl
  have N0 := Fr.nil n0
  obtain ⟨Go, hGo⟩ : ∃ P : State → Prop, ∀ t, P t ↔ Steps p.tables e below (s₁.setTop (entryFrame m #[(.ref pr0), (.int pi1)] 2)) t := ⟨_, fun _ => Iff.rfl⟩
  have pre0 : ∀ t, Steps p.tables e below (s₁.setTop (mkF m 0 #[rv pr0, iv pi1] [])) t → Go t := fun t k => (hGo t).mpr (castTop (ef_8 m pr0 pi1) k)
  have K0 : Keep h0 h0 [pr0] := Keep.refl _ _
  have pre1 : ∀ t, Steps p.tables e below (s₁.setTop (mkF m 1 #[rv pr0, iv pi1] [(.ref pr0)])) t → Go t := fun t kt => pre0 t (by
      refine y_aloadN X0.here hx (hb hby d8_0) rfl rfl (pc' := 1) rfl ?_
      exact kt)
  obtain ⟨v2, _, ⟨T2, L2, k2, n2⟩, -, X2, ⟨Lc2, hQ2, l2, y2, z2⟩, st2⟩ := X0.specialBack hx (y := (⟨"java/lang/Number", "<init>", "()V"⟩ : MethodName)) rfl hown (mvT hZ (hw _ (List.mem_of_getElem? (i := 98) rfl))) (mvT hZ (hw _ (List.mem_of_getElem? (i := 99) rfl))) (mvT hZ (hw _ (List.mem_of_getElem? (i := 103) rfl))) (by decide) (backOf (W := 0) (rm9 l Z a0 hw [] pr0 h0 n0 O0 E_pr0) hZ (hw _ (List.mem_of_getElem? (i := 103) rfl)) (hw _ (List.mem_of_getElem? (i := 102) rfl)) (by decide) (by decide)) (g := (mkF m 1 #[rv pr0, iv pi1] [(.ref pr0)])) rfl (by rw [hml]; rfl) (Steps.refl _) (a := pr0) (argsL := []) (rest := []) (lenOf pd___V rfl) rfl (by show 2 * 0 + _ ≤ _; exact Nat.le_of_eq rfl) (hb hby d8_1) (fun _ _ => ⟨rfl, e0, (by decide : 0 + 0 ≤ _), (by decide : 0 + 0 ≤ _)⟩)
  dsimp only [Pt.U, Pt.locs, Pt.cells, Pt.slots] at X2 l2 y2 z2 st2 hQ2
  replace l2 := l2.symm
  subst l2 y2 z2
  obtain ⟨hv2, N2q, e2q⟩ := hQ2
  have N3 := Fr.app N0 N2q
  subst hv2
  have pre4 : ∀ t, Steps p.tables e below (T2.setTop (mkF m 4 #[rv pr0, iv pi1] [])) t → Go t := fun t kt => pre1 t (st2.trans kt)
  have pre5 : ∀ t, Steps p.tables e below (T2.setTop (mkF m 6 #[rv pr0, iv pi1] [(.int pi1), (.ref pr0)])) t → Go t := fun t kt => pre4 t (by
      refine y_aloadN X2.here hx (hb hby d8_4) rfl rfl (pc' := 5) rfl ?_
      refine y_iloadN X2.here hx (hb hby d8_5) rfl (pc' := 6) rfl ?_
      exact kt)
  obtain ⟨T6, h6, X6, e6, W6, st6⟩ := putF X2 hx hZ hown (host := "") (Or.inl (hw _ (List.mem_of_getElem? (i := 105) rfl))) Via.refl e2q F_value_pr0 E_pr0 (Or.inr ⟨(hw _ (List.mem_of_getElem? (i := 106) rfl)), rfl, hnm⟩) (hw _ (List.mem_of_getElem? (i := 93) rfl)) (ty := .int) (by decide) rfl rfl (g := (mkF m 6 #[rv pr0, iv pi1] [(.int pi1), (.ref pr0)])) rfl rfl (hb hby d8_6)
  have pre7 : ∀ t, Steps p.tables e below (T6.setTop (mkF m 9 #[rv pr0, iv pi1] [])) t → Go t := fun t kt => pre5 t (st6 t kt)
  have f8 : Exa Z h6 pr0 "java/lang/Integer" := (E_pr0.wr W6)
  have f10 : Fld Z h6 pr0 "java/lang/Integer" "value" "I" (.int pi1) := F_value_pr0.same W6
  have N11 := Fr.snoc X6 N3 G_pr0
  have O11 := O0.wr W6 G_pr0
  have K11 : Keep h0 h6 [pr0] := K0.wr W6 (Or.inl (List.mem_of_getElem? (i := 0) rfl))
  obtain ⟨fs, hr, hrun, hended, hW, hsame⟩ := X6.leave (v := none) (fun _ => rfl)
  refine ⟨_, _, (hGo _).mp (pre7 _ ?_), hrun, hended, _, _, rfl, ?_, ⟨_, rfl⟩, hW, hsame.mono (by decide) (by decide)⟩
  · exact X6.returnOut hx Bd.returns (hb hby d8_9) hr
  · show Q8 Z pr0 pi1 h0 n0 _ T6.heap _
    rw [e6]
    exact ⟨rfl, N11, K11, f10⟩
theorem own_in {c : Cell} {x : Int32} (S : c.slots.size = (256 : Int32).toNatClampNeg) (h1 : ¬ (x < (-128 : Int32))) (h2 : ¬ ((127 : Int32) < x)) : ¬ (x + (128 : Int32) < 0 ∨ c.slots.size ≤ (x + (128 : Int32)).toNatClampNeg) := by
  have q2 := c_iadd x 128
  have q5 := (x + 128).le_toInt
  have q6 := (x + 128).toInt_lt
  have e1 : (128 : Int32).toInt = 128 := rfl
  have e2 : (-128 : Int32).toInt = -128 := rfl
  have e3 : (127 : Int32).toInt = 127 := rfl
  have e4 : (0 : Int32).toInt = 0 := rfl
  have e5 : (256 : Int32).toInt = 256 := rfl
  refine inb_of S ⟨?_, ?_⟩
  · rw [Int32.lt_iff_toInt_lt] at h1 h2 ⊢; omega
  · rw [Int32.lt_iff_toInt_lt] at h1 h2 ⊢; omega
theorem d7_0 : decode jdk_33_method_22_code 0 = .ok (.iload_n 0, 1) := by decide +kernel
theorem d7_1 : decode jdk_33_method_22_code 1 = .ok (.bipush (-128), 2) := by decide +kernel
theorem d7_3 : decode jdk_33_method_22_code 3 = .ok (.if_icmp .lt 20, 3) := by decide +kernel
theorem d7_6 : decode jdk_33_method_22_code 6 = .ok (.iload_n 0, 1) := by decide +kernel
theorem d7_7 : decode jdk_33_method_22_code 7 = .ok (.getstatic 191, 3) := by decide +kernel
theorem d7_10 : decode jdk_33_method_22_code 10 = .ok (.if_icmp .gt 13, 3) := by decide +kernel
theorem d7_13 : decode jdk_33_method_22_code 13 = .ok (.getstatic 195, 3) := by decide +kernel
theorem d7_16 : decode jdk_33_method_22_code 16 = .ok (.iload_n 0, 1) := by decide +kernel
theorem d7_17 : decode jdk_33_method_22_code 17 = .ok (.sipush 128, 3) := by decide +kernel
theorem d7_20 : decode jdk_33_method_22_code 20 = .ok (.iadd, 1) := by decide +kernel
theorem d7_21 : decode jdk_33_method_22_code 21 = .ok (.aaload, 1) := by decide +kernel
theorem d7_22 : decode jdk_33_method_22_code 22 = .ok (.areturn, 1) := by decide +kernel
theorem d7_23 : decode jdk_33_method_22_code 23 = .ok (.new 1, 3) := by decide +kernel
theorem d7_26 : decode jdk_33_method_22_code 26 = .ok (.dup, 1) := by decide +kernel
theorem d7_27 : decode jdk_33_method_22_code 27 = .ok (.iload_n 0, 1) := by decide +kernel
theorem d7_28 : decode jdk_33_method_22_code 28 = .ok (.invokespecial 199, 3) := by decide +kernel
theorem d7_31 : decode jdk_33_method_22_code 31 = .ok (.areturn, 1) := by decide +kernel
theorem pd__I_V : parseMethodDescriptor "(I)V" = some ⟨[.int], none⟩ := by decide +kernel
theorem ef_7 (m : MethodId) (x0 : Int32) : entryFrame m #[(.int x0)] 1 = mkF m 0 #[iv x0] [] := by first | (simp [entryFrame, mkF, argsToLocals, Value.category]; done) | rfl
def Q7 (Z : State) (pi0 : Int32) (w_cache : Addr) (cc : Cell) (h0 : Heap) (n0 : Nat) (v : Option Value) (h : Heap) (L : List Loc) : Prop := (∃ b : Addr, v = some (.ref b) ∧ Exa Z h b "java/lang/Integer") ∧ Fr n0 L ∧ Keep h0 h []
set_option maxRecDepth 65536 in
set_option maxHeartbeats 40000000 in
theorem rm7 (l : Launch) (Z : State) (a0 : Array Value) (hw : ∀ d ∈ tables_1, d.before a0 Z = true) (ws : List Jvm.Cond) (pi0 : Int32) (w_cache : Addr) (cc : Cell) (h0 : Heap) (n0 : Nat) (O0 : Old Z n0 h0) (S_cache : Sta Z Z.heap "java/lang/Integer$IntegerCache" "cache" "[Ljava/lang/Integer;" (.ref w_cache)) (S_high : Sta Z Z.heap "java/lang/Integer$IntegerCache" "high" "I" (.int (127 : Int32))) (CA : Bxs Z w_cache cc "java/lang/Integer" "I" (256 : Int32) (fun j => .int (j - 128))) :
    MetFree l (⟨"java/lang/Integer", "valueOf", "(I)Ljava/lang/Integer;"⟩ : MethodName) (head1 (Jvm.Cond.code (⟨"java/lang/Integer", "valueOf", "(I)Ljava/lang/Integer;"⟩ : MethodName) jdk_33_method_22_code 1 (some (.object "java/lang/Integer")) :: ws) ({ frames := 3, cells := 1, slots := 1, locals := 38 } : Room)) (fun a U => a = #[(.int pi0)] ∧ Z.Warmed39 U.vm ∧ U.heap = h0) (fun _ _ _ _ _ => True) (fun _ U o U' => ∃ v L, o = .returned v ∧ Q7 Z pi0 w_cache cc h0 n0 v U'.heap L ∧ FrameEnd U o U' L ({ frames := 3, cells := 1, slots := 1, locals := 38 } : Room).cells ({ frames := 3, cells := 1, slots := 1, locals := 38 } : Room).slots) := by
  refine MetFree.of_bodySF (plainFor_of_name pn_java_lang_Integer) hisR ?_
  intro p e s m args below meth c s₁ Bd hml0 hP hK
  obtain ⟨rfl, hZ, hh⟩ := hP
  have hx := Bd.exec
  have hby := Bd.bytes
  have hml : c.maxLocals = 1 := hml0
  have hown : s.vm.findClass "java/lang/Integer" = some m.cls := findClass_of_methodNamed Bd.named
  have hnm := (name_of_methodNamed Bd.named Bd.method).1
  have X0 : Stand p l e ({ frames := 3, cells := 1, slots := 1, locals := 38 } : Room) s m #[(.int pi0)] below meth c s₁ [] 0 0 := Stand.of_body Bd
  have e0 : s₁.heap = h0 := by rw [← hh, Bd.state]; rfl
  have N0 := Fr.nil n0
  obtain ⟨Go, hGo⟩ : ∃ P : State → Prop, ∀ t, P t ↔ Steps p.tables e below (s₁.setTop (entryFrame m #[(.int pi0)] 1)) t := ⟨_, fun _ => Iff.rfl⟩
  have pre0 : ∀ t, Steps p.tables e below (s₁.setTop (mkF m 0 #[iv pi0] [])) t → Go t := fun t k => (hGo t).mpr (castTop (ef_7 m pi0) k)
  have K0 : Keep h0 h0 [] := Keep.refl _ _
  have pre1 : ∀ t, Steps p.tables e below (s₁.setTop (mkF m 3 #[iv pi0] [(.int (-128 : Int32)), (.int pi0)])) t → Go t := fun t kt => pre0 t (by
      refine y_iloadN X0.here hx (hb hby d7_0) rfl (pc' := 1) rfl ?_
      refine y_bipush X0.here hx (hb hby d7_1) (v := (-128 : Int32)) rfl (pc' := 3) rfl ?_
      exact kt)
  by_cases hc3_2 : pi0 < (-128 : Int32)
  · have pre3 : ∀ t, Steps p.tables e below (s₁.setTop (mkF m 23 #[iv pi0] [])) t → Go t := fun t kt => pre1 t (by
        refine y_icmpYes X0.here hx (hb hby d7_3) (tlt hc3_2).1 (pc' := 23) (by decide) rfl ?_
        exact kt)
    obtain ⟨T4, h4, X4, e4, E4, A4, D4, -, st4⟩ := newO X0 hx hZ hown (hw _ (List.mem_of_getElem? (i := 92) rfl)) (hw _ (List.mem_of_getElem? (i := 93) rfl)) (hw _ (List.mem_of_getElem? (i := 84) rfl)) e0 (g := (mkF m 23 #[iv pi0] [])) rfl (hb hby d7_23) (by decide) (by decide)
    obtain ⟨b4, g4⟩ : ∃ z, z = h0.size := ⟨_, rfl⟩
    rw [← g4] at A4 D4 st4
    have pre5 : ∀ t, Steps p.tables e below (T4.setTop (mkF m 26 #[iv pi0] [(.ref b4)])) t → Go t := fun t kt => pre3 t (st4 t kt)
    have G6 : n0 ≤ b4 := Nat.le_trans (O0.1 ▸ O0.2.1) (Nat.le_of_eq g4.symm)
    have Z6 : h0.size ≤ b4 := Nat.le_trans K0.1 (Nat.le_of_eq g4.symm)
    have O6 := O0.ext E4
    have K6 : Keep h0 h4 [] := K0.ext E4
    have f7 : Fld Z h4 b4 "java/lang/Integer" "value" "I" (.int (0 : Int32)) := D4 (Or.inr (hw _ (List.mem_of_getElem? (i := 106) rfl))) (ty := .int) (by decide)
    have pre8 : ∀ t, Steps p.tables e below (T4.setTop (mkF m 28 #[iv pi0] [(.int pi0), (.ref b4), (.ref b4)])) t → Go t := fun t kt => pre5 t (by
        refine y_dup X4.here hx (hb hby d7_26) rfl (pc' := 27) rfl ?_
        refine y_iloadN X4.here hx (hb hby d7_27) rfl (pc' := 28) rfl ?_
        exact kt)
    obtain ⟨v9, _, ⟨T9, L9, k9, n9⟩, -, X9, ⟨Lc9, hQ9, l9, y9, z9⟩, st9⟩ := X4.specialBack hx (y := (⟨"java/lang/Integer", "<init>", "(I)V"⟩ : MethodName)) rfl hown (mvT hZ (hw _ (List.mem_of_getElem? (i := 94) rfl))) (mvT hZ (hw _ (List.mem_of_getElem? (i := 95) rfl))) (mvT hZ (hw _ (List.mem_of_getElem? (i := 97) rfl))) (by decide) (backOf (W := 1) (rm8 l Z a0 hw [] b4 pi0 h4 n0 O6 A4 f7 G6) hZ (hw _ (List.mem_of_getElem? (i := 97) rfl)) (hw _ (List.mem_of_getElem? (i := 84) rfl)) (by decide) (by decide)) (g := (mkF m 28 #[iv pi0] [(.int pi0), (.ref b4), (.ref b4)])) rfl (by rw [hml]; rfl) (Steps.refl _) (a := b4) (argsL := [(.int pi0)]) (rest := [(.ref b4)]) (lenOf pd__I_V rfl) rfl (by show 2 * 0 + _ ≤ _; exact Nat.le_of_eq rfl) (hb hby d7_28) (fun _ _ => ⟨rfl, e4, (by decide : 1 + 0 ≤ _), (by decide : 1 + 0 ≤ _)⟩)
    dsimp only [Pt.U, Pt.locs, Pt.cells, Pt.slots] at X9 l9 y9 z9 st9 hQ9
    replace l9 := l9.symm
    subst l9 y9 z9
    obtain ⟨hv9, N9q, K9q, p9_0⟩ := hQ9
    have N10 := Fr.app N0 N9q
    subst hv9
    have pre11 : ∀ t, Steps p.tables e below (T9.setTop (mkF m 31 #[iv pi0] [(.ref b4)])) t → Go t := fun t kt => pre8 t (st9.trans kt)
    obtain ⟨h9, eh9⟩ : ∃ z, T9.heap = z := ⟨_, rfl⟩
    rw [eh9] at K9q p9_0
    have f12 : Exa Z h9 b4 "java/lang/Integer" := (A4.keep K9q)
    have O14 := O6.keep K9q (allS G6 all0)
    have K14 : Keep h0 h9 [] := K6.trans K9q (allS (P := fun x => x ∈ [] ∨ h0.size ≤ x) (Or.inr Z6) all0)
    obtain ⟨fs, hr, hrun, hended, hW, hsame⟩ := X9.leave (v := some (.ref b4)) (fun h => by rw [Bd.returns] at h; cases h)
    refine ⟨_, _, (hGo _).mp (pre11 _ ?_), hrun, hended, _, _, rfl, ?_, ⟨_, rfl⟩, hW, hsame.mono (by decide) (by decide)⟩
    · exact retOut X9 hx Bd.returns rfl (Or.inr (Or.inr (Or.inr (Or.inr ⟨rfl, rfl, rfl⟩)))) (hb hby d7_31) hr
    · show Q7 Z pi0 w_cache cc h0 n0 _ T9.heap _
      rw [eh9]
      exact ⟨⟨_, rfl, f12⟩, N10, K14⟩
  · have pre15 : ∀ t, Steps p.tables e below (s₁.setTop (mkF m 7 #[iv pi0] [(.int pi0)])) t → Go t := fun t kt => pre1 t (by
        refine y_icmpNo X0.here hx (hb hby d7_3) (flt hc3_2).1 (pc' := 6) rfl ?_
        refine y_iloadN X0.here hx (hb hby d7_6) rfl (pc' := 7) rfl ?_
        exact kt)
    obtain ⟨T16, X16, e16, st16⟩ := getS2 X0 hx hZ hown (host := "") (Or.inl (hw _ (List.mem_of_getElem? (i := 86) rfl))) Via.refl e0 (S_high.ext O0.2) (g := (mkF m 7 #[iv pi0] [(.int pi0)])) rfl (hb hby d7_7)
    have pre17 : ∀ t, Steps p.tables e below (T16.setTop (mkF m 10 #[iv pi0] [(.int (127 : Int32)), (.int pi0)])) t → Go t := fun t kt => pre15 t (st16 t kt)
    by_cases hc10_18 : (127 : Int32) < pi0
    · have pre19 : ∀ t, Steps p.tables e below (T16.setTop (mkF m 23 #[iv pi0] [])) t → Go t := fun t kt => pre17 t (by
          refine y_icmpYes X16.here hx (hb hby d7_10) (tlt hc10_18).2.2.1 (pc' := 23) (by decide) rfl ?_
          exact kt)
      obtain ⟨T20, h20, X20, e20, E20, A20, D20, -, st20⟩ := newO X16 hx hZ hown (hw _ (List.mem_of_getElem? (i := 92) rfl)) (hw _ (List.mem_of_getElem? (i := 93) rfl)) (hw _ (List.mem_of_getElem? (i := 84) rfl)) e16 (g := (mkF m 23 #[iv pi0] [])) rfl (hb hby d7_23) (by decide) (by decide)
      obtain ⟨b20, g20⟩ : ∃ z, z = h0.size := ⟨_, rfl⟩
      rw [← g20] at A20 D20 st20
      have pre21 : ∀ t, Steps p.tables e below (T20.setTop (mkF m 26 #[iv pi0] [(.ref b20)])) t → Go t := fun t kt => pre19 t (st20 t kt)
      have G22 : n0 ≤ b20 := Nat.le_trans (O0.1 ▸ O0.2.1) (Nat.le_of_eq g20.symm)
      have Z22 : h0.size ≤ b20 := Nat.le_trans K0.1 (Nat.le_of_eq g20.symm)
      have O22 := O0.ext E20
      have K22 : Keep h0 h20 [] := K0.ext E20
      have f23 : Fld Z h20 b20 "java/lang/Integer" "value" "I" (.int (0 : Int32)) := D20 (Or.inr (hw _ (List.mem_of_getElem? (i := 106) rfl))) (ty := .int) (by decide)
      have pre24 : ∀ t, Steps p.tables e below (T20.setTop (mkF m 28 #[iv pi0] [(.int pi0), (.ref b20), (.ref b20)])) t → Go t := fun t kt => pre21 t (by
          refine y_dup X20.here hx (hb hby d7_26) rfl (pc' := 27) rfl ?_
          refine y_iloadN X20.here hx (hb hby d7_27) rfl (pc' := 28) rfl ?_
          exact kt)
      obtain ⟨v25, _, ⟨T25, L25, k25, n25⟩, -, X25, ⟨Lc25, hQ25, l25, y25, z25⟩, st25⟩ := X20.specialBack hx (y := (⟨"java/lang/Integer", "<init>", "(I)V"⟩ : MethodName)) rfl hown (mvT hZ (hw _ (List.mem_of_getElem? (i := 94) rfl))) (mvT hZ (hw _ (List.mem_of_getElem? (i := 95) rfl))) (mvT hZ (hw _ (List.mem_of_getElem? (i := 97) rfl))) (by decide) (backOf (W := 1) (rm8 l Z a0 hw [] b20 pi0 h20 n0 O22 A20 f23 G22) hZ (hw _ (List.mem_of_getElem? (i := 97) rfl)) (hw _ (List.mem_of_getElem? (i := 84) rfl)) (by decide) (by decide)) (g := (mkF m 28 #[iv pi0] [(.int pi0), (.ref b20), (.ref b20)])) rfl (by rw [hml]; rfl) (Steps.refl _) (a := b20) (argsL := [(.int pi0)]) (rest := [(.ref b20)]) (lenOf pd__I_V rfl) rfl (by show 2 * 0 + _ ≤ _; exact Nat.le_of_eq rfl) (hb hby d7_28) (fun _ _ => ⟨rfl, e20, (by decide : 1 + 0 ≤ _), (by decide : 1 + 0 ≤ _)⟩)
      dsimp only [Pt.U, Pt.locs, Pt.cells, Pt.slots] at X25 l25 y25 z25 st25 hQ25
      replace l25 := l25.symm
      subst l25 y25 z25
      obtain ⟨hv25, N25q, K25q, p25_0⟩ := hQ25
      have N26 := Fr.app N0 N25q
      subst hv25
      have pre27 : ∀ t, Steps p.tables e below (T25.setTop (mkF m 31 #[iv pi0] [(.ref b20)])) t → Go t := fun t kt => pre24 t (st25.trans kt)
      obtain ⟨h25, eh25⟩ : ∃ z, T25.heap = z := ⟨_, rfl⟩
      rw [eh25] at K25q p25_0
      have f28 : Exa Z h25 b20 "java/lang/Integer" := (A20.keep K25q)
      have O30 := O22.keep K25q (allS G22 all0)
      have K30 : Keep h0 h25 [] := K22.trans K25q (allS (P := fun x => x ∈ [] ∨ h0.size ≤ x) (Or.inr Z22) all0)
      obtain ⟨fs, hr, hrun, hended, hW, hsame⟩ := X25.leave (v := some (.ref b20)) (fun h => by rw [Bd.returns] at h; cases h)
      refine ⟨_, _, (hGo _).mp (pre27 _ ?_), hrun, hended, _, _, rfl, ?_, ⟨_, rfl⟩, hW, hsame.mono (by decide) (by decide)⟩
      · exact retOut X25 hx Bd.returns rfl (Or.inr (Or.inr (Or.inr (Or.inr ⟨rfl, rfl, rfl⟩)))) (hb hby d7_31) hr
      · show Q7 Z pi0 w_cache cc h0 n0 _ T25.heap _
        rw [eh25]
        exact ⟨⟨_, rfl, f28⟩, N26, K30⟩
    · have pre31 : ∀ t, Steps p.tables e below (T16.setTop (mkF m 13 #[iv pi0] [])) t → Go t := fun t kt => pre17 t (by
          refine y_icmpNo X16.here hx (hb hby d7_10) (flt hc10_18).2.2.1 (pc' := 13) rfl ?_
          exact kt)
      obtain ⟨T32, X32, e32, st32⟩ := getS2 X16 hx hZ hown (host := "") (Or.inl (hw _ (List.mem_of_getElem? (i := 88) rfl))) Via.refl e16 (S_cache.ext O0.2) (g := (mkF m 13 #[iv pi0] [])) rfl (hb hby d7_13)
      have pre33 : ∀ t, Steps p.tables e below (T32.setTop (mkF m 16 #[iv pi0] [(.ref w_cache)])) t → Go t := fun t kt => pre31 t (st32 t kt)
      have pre34 : ∀ t, Steps p.tables e below (T32.setTop (mkF m 21 #[iv pi0] [(.int (pi0 + (128 : Int32))), (.ref w_cache)])) t → Go t := fun t kt => pre33 t (by
          refine y_iloadN X32.here hx (hb hby d7_16) rfl (pc' := 17) rfl ?_
          refine y_sipush X32.here hx (hb hby d7_17) (v := (128 : Int32)) rfl (pc' := 20) rfl ?_
          refine y_iadd X32.here hx (hb hby d7_20) rfl (pc' := 21) rfl ?_
          exact kt)
      have hin35 : ¬ ((pi0 + (128 : Int32)) < 0 ∨ cc.slots.size ≤ ((pi0 + (128 : Int32))).toNatClampNeg) := own_in CA.2.1 hc3_2 hc10_18
      obtain ⟨b35, u35, B35, -⟩ := CA.2.2.2 _ hin35
      have A35 := CA.1.ext O0.2
      have pre36 : ∀ t, Steps p.tables e below (T32.setTop (mkF m 22 #[iv pi0] [(.ref b35)])) t → Go t := fun t kt => pre34 t (by
          refine X32.aaload hx (j := (pi0 + (128 : Int32))) (v := (.ref b35)) (by rw [e32]; exact A35.1) (State.isArrayOf_alike hZ.alike A35.2.1) rfl A35.2.2 hin35 u35 (g := (mkF m 21 #[iv pi0] [(.int (pi0 + (128 : Int32))), (.ref w_cache)])) rfl rfl (hb hby d7_21) _ ?_
          show Steps p.tables e below (T32.setTop (mkF m 22 #[iv pi0] [(.ref b35)])) _
          exact kt)
      obtain ⟨fs, hr, hrun, hended, hW, hsame⟩ := X32.leave (v := some (.ref b35)) (fun h => by rw [Bd.returns] at h; cases h)
      refine ⟨_, _, (hGo _).mp (pre36 _ ?_), hrun, hended, _, _, rfl, ?_, ⟨_, rfl⟩, hW, hsame.mono (by decide) (by decide)⟩
      · exact retOut X32 hx Bd.returns rfl (Or.inr (Or.inr (Or.inr (Or.inr ⟨rfl, rfl, rfl⟩)))) (hb hby d7_22) hr
      · show Q7 Z pi0 w_cache cc h0 n0 _ T32.heap _
        rw [e32]
        exact ⟨⟨_, rfl, (B35.ext O0.2)⟩, N0, K0⟩
theorem d2_0 : decode prog_36_method_4_code 0 = .ok (.aload_n 0, 1) := by decide +kernel
theorem d2_1 : decode prog_36_method_4_code 1 = .ok (.invokespecial 15, 3) := by decide +kernel
theorem d2_4 : decode prog_36_method_4_code 4 = .ok (.iload_n 1, 1) := by decide +kernel
theorem d2_5 : decode prog_36_method_4_code 5 = .ok (.iload_n 2, 1) := by decide +kernel
theorem d2_6 : decode prog_36_method_4_code 6 = .ok (.invokestatic 20, 3) := by decide +kernel
theorem d2_9 : decode prog_36_method_4_code 9 = .ok (.aload_n 0, 1) := by decide +kernel
theorem d2_10 : decode prog_36_method_4_code 10 = .ok (.iload_n 1, 1) := by decide +kernel
theorem d2_11 : decode prog_36_method_4_code 11 = .ok (.putfield 26, 3) := by decide +kernel
theorem d2_14 : decode prog_36_method_4_code 14 = .ok (.aload_n 0, 1) := by decide +kernel
theorem d2_15 : decode prog_36_method_4_code 15 = .ok (.iload_n 2, 1) := by decide +kernel
theorem d2_16 : decode prog_36_method_4_code 16 = .ok (.putfield 30, 3) := by decide +kernel
theorem d2_19 : decode prog_36_method_4_code 19 = .ok (.aload_n 0, 1) := by decide +kernel
theorem d2_20 : decode prog_36_method_4_code 20 = .ok (.aload_n 3, 1) := by decide +kernel
theorem d2_21 : decode prog_36_method_4_code 21 = .ok (.ldc 33, 2) := by decide +kernel
theorem d2_23 : decode prog_36_method_4_code 23 = .ok (.invokestatic 35, 3) := by decide +kernel
theorem d2_26 : decode prog_36_method_4_code 26 = .ok (.checkcast 41, 3) := by decide +kernel
theorem d2_29 : decode prog_36_method_4_code 29 = .ok (.putfield 43, 3) := by decide +kernel
theorem d2_32 : decode prog_36_method_4_code 32 = .ok (.aload_n 0, 1) := by decide +kernel
theorem d2_33 : decode prog_36_method_4_code 33 = .ok (.lload 4, 2) := by decide +kernel
theorem d2_35 : decode prog_36_method_4_code 35 = .ok (.putfield 46, 3) := by decide +kernel
theorem d2_38 : decode prog_36_method_4_code 38 = .ok (.aload_n 0, 1) := by decide +kernel
theorem d2_39 : decode prog_36_method_4_code 39 = .ok (.lload 6, 2) := by decide +kernel
theorem d2_41 : decode prog_36_method_4_code 41 = .ok (.putfield 50, 3) := by decide +kernel
theorem d2_44 : decode prog_36_method_4_code 44 = .ok (.aload_n 0, 1) := by decide +kernel
theorem d2_45 : decode prog_36_method_4_code 45 = .ok (.lload 8, 2) := by decide +kernel
theorem d2_47 : decode prog_36_method_4_code 47 = .ok (.putfield 53, 3) := by decide +kernel
theorem d2_50 : decode prog_36_method_4_code 50 = .ok (.aload_n 0, 1) := by decide +kernel
theorem d2_51 : decode prog_36_method_4_code 51 = .ok (.lload 10, 2) := by decide +kernel
theorem d2_53 : decode prog_36_method_4_code 53 = .ok (.putfield 56, 3) := by decide +kernel
theorem d2_56 : decode prog_36_method_4_code 56 = .ok (.aload_n 0, 1) := by decide +kernel
theorem d2_57 : decode prog_36_method_4_code 57 = .ok (.lload 12, 2) := by decide +kernel
theorem d2_59 : decode prog_36_method_4_code 59 = .ok (.putfield 59, 3) := by decide +kernel
theorem d2_62 : decode prog_36_method_4_code 62 = .ok (.return_, 1) := by decide +kernel
theorem pn_com_example_procord_procord_lock_LockMessage : plainName "com/example/procord/procord/lock/LockMessage" = true := by first | (simp [plainName, overriddenIn]; done) | decide +kernel
theorem pd__II_V : parseMethodDescriptor "(II)V" = some ⟨[.int, .int], none⟩ := by decide +kernel
theorem pd__Ljava_lang_Object_Ljava_lang_String__Ljava_lang_Object_ : parseMethodDescriptor "(Ljava/lang/Object;Ljava/lang/String;)Ljava/lang/Object;" = some ⟨[(.object "java/lang/Object"), (.object "java/lang/String")], some (.object "java/lang/Object")⟩ := by decide +kernel
theorem ef_2 (m : MethodId) (x0 : Addr) (x1 : Int32) (x2 : Int32) (x3 : Addr) (x4 : Int64) (x5 : Int64) (x6 : Int64) (x7 : Int64) (x8 : Int64) : entryFrame m #[(.ref x0), (.int x1), (.int x2), (.ref x3), (.long x4), (.long x5), (.long x6), (.long x7), (.long x8)] 14 = mkF m 0 #[rv x0, iv x1, iv x2, rv x3, jv x4, .second, jv x5, .second, jv x6, .second, jv x7, .second, jv x8, .second] [] := by first | (simp [entryFrame, mkF, argsToLocals, Value.category]; done) | rfl
def Q2 (Z : State) (pr0 : Addr) (pi1 : Int32) (pi2 : Int32) (pr3 : Addr) (pj4 : Int64) (pj5 : Int64) (pj6 : Int64) (pj7 : Int64) (pj8 : Int64) (h0 : Heap) (n0 : Nat) (v : Option Value) (h : Heap) (L : List Loc) : Prop := v = none ∧ Fr n0 L ∧ Keep h0 h [pr0] ∧ Fld Z h pr0 "com/example/procord/procord/lock/LockMessage" "from" "I" (.int pi1) ∧ Fld Z h pr0 "com/example/procord/procord/lock/LockMessage" "to" "I" (.int pi2) ∧ Fld Z h pr0 "com/example/procord/procord/lock/LockMessage" "kind" "Lcom/example/procord/procord/lock/LockMessage$Kind;" (.ref pr3) ∧ Fld Z h pr0 "com/example/procord/procord/lock/LockMessage" "stamp" "J" (.long pj4) ∧ Fld Z h pr0 "com/example/procord/procord/lock/LockMessage" "fencing" "J" (.long pj5) ∧ Fld Z h pr0 "com/example/procord/procord/lock/LockMessage" "lease" "J" (.long pj6) ∧ Fld Z h pr0 "com/example/procord/procord/lock/LockMessage" "waited" "J" (.long pj7) ∧ Fld Z h pr0 "com/example/procord/procord/lock/LockMessage" "known" "J" (.long pj8)
set_option maxRecDepth 65536 in
set_option maxHeartbeats 40000000 in
theorem rm2 (l : Launch) (Z : State) (a0 : Array Value) (hw : ∀ d ∈ tables_1, d.before a0 Z = true) (ws : List Jvm.Cond) (pr0 : Addr) (pi1 : Int32) (pi2 : Int32) (pr3 : Addr) (pj4 : Int64) (pj5 : Int64) (pj6 : Int64) (pj7 : Int64) (pj8 : Int64) (h0 : Heap) (n0 : Nat) (O0 : Old Z n0 h0) (E_pr0 : Exa Z h0 pr0 "com/example/procord/procord/lock/LockMessage") (F_from_pr0 : Fld Z h0 pr0 "com/example/procord/procord/lock/LockMessage" "from" "I" (.int (0 : Int32))) (F_to_pr0 : Fld Z h0 pr0 "com/example/procord/procord/lock/LockMessage" "to" "I" (.int (0 : Int32))) (F_kind_pr0 : Fld Z h0 pr0 "com/example/procord/procord/lock/LockMessage" "kind" "Lcom/example/procord/procord/lock/LockMessage$Kind;" .null) (F_stamp_pr0 : Fld Z h0 pr0 "com/example/procord/procord/lock/LockMessage" "stamp" "J" (.long (0 : Int64))) (F_fencing_pr0 : Fld Z h0 pr0 "com/example/procord/procord/lock/LockMessage" "fencing" "J" (.long (0 : Int64))) (F_lease_pr0 : Fld Z h0 pr0 "com/example/procord/procord/lock/LockMessage" "lease" "J" (.long (0 : Int64))) (F_waited_pr0 : Fld Z h0 pr0 "com/example/procord/procord/lock/LockMessage" "waited" "J" (.long (0 : Int64))) (F_known_pr0 : Fld Z h0 pr0 "com/example/procord/procord/lock/LockMessage" "known" "J" (.long (0 : Int64))) (E_pr3 : Exa Z h0 pr3 "com/example/procord/procord/lock/LockMessage$Kind") (G_pr0 : n0 ≤ pr0) (NQ : ¬ pi1 = pi2) :
    MetFree l (⟨"com/example/procord/procord/lock/LockMessage", "<init>", "(IILcom/example/procord/procord/lock/LockMessage$Kind;JJJJJ)V"⟩ : MethodName) (head1 (Jvm.Cond.code (⟨"com/example/procord/procord/lock/LockMessage", "<init>", "(IILcom/example/procord/procord/lock/LockMessage$Kind;JJJJJ)V"⟩ : MethodName) prog_36_method_4_code 14 none :: ws) ({ frames := 1, cells := 2, slots := 20, locals := 14 } : Room)) (fun a U => a = #[(.ref pr0), (.int pi1), (.int pi2), (.ref pr3), (.long pj4), (.long pj5), (.long pj6), (.long pj7), (.long pj8)] ∧ Z.Warmed39 U.vm ∧ U.heap = h0) (fun _ _ _ _ _ => True) (fun _ U o U' => ∃ v L, o = .returned v ∧ Q2 Z pr0 pi1 pi2 pr3 pj4 pj5 pj6 pj7 pj8 h0 n0 v U'.heap L ∧ ReturnedEndW U o U' L ({ frames := 1, cells := 2, slots := 20, locals := 14 } : Room).cells ({ frames := 1, cells := 2, slots := 20, locals := 14 } : Room).slots) := by
  refine MetFree.of_bodySF (plainFor_of_name pn_com_example_procord_procord_lock_LockMessage) hisR ?_
  intro p e s m args below meth c s₁ Bd hml0 hP hK
  obtain ⟨rfl, hZ, hh⟩ := hP
  have hx := Bd.exec
  have hby := Bd.bytes
  have hml : c.maxLocals = 14 := hml0
  have hown : s.vm.findClass "com/example/procord/procord/lock/LockMessage" = some m.cls := findClass_of_methodNamed Bd.named
  have hnm := (name_of_methodNamed Bd.named Bd.method).1
  have X0 : Stand p l e ({ frames := 1, cells := 2, slots := 20, locals := 14 } : Room) s m #[(.ref pr0), (.int pi1), (.int pi2), (.ref pr3), (.long pj4), (.long pj5), (.long pj6), (.long pj7), (.long pj8)] below meth c s₁ [] 0 0 := Stand.of_body Bd
  have e0 : s₁.heap = h0 := by rw [← hh, Bd.state]; rfl
  have N0 := Fr.nil n0
  have hS0 : s.Since s.vm 0 := (State.WarmedH.refl s).since 0
  obtain ⟨Go, hGo⟩ : ∃ P : State → Prop, ∀ t, P t ↔ Steps p.tables e below (s₁.setTop (entryFrame m #[(.ref pr0), (.int pi1), (.int pi2), (.ref pr3), (.long pj4), (.long pj5), (.long pj6), (.long pj7), (.long pj8)] 14)) t := ⟨_, fun _ => Iff.rfl⟩
  have pre0 : ∀ t, Steps p.tables e below (s₁.setTop (mkF m 0 #[rv pr0, iv pi1, iv pi2, rv pr3, jv pj4, .second, jv pj5, .second, jv pj6, .second, jv pj7, .second, jv pj8, .second] [])) t → Go t := fun t k => (hGo t).mpr (castTop (ef_2 m pr0 pi1 pi2 pr3 pj4 pj5 pj6 pj7 pj8) k)
  have K0 : Keep h0 h0 [pr0] := Keep.refl _ _
  have pre1 : ∀ t, Steps p.tables e below (s₁.setTop (mkF m 1 #[rv pr0, iv pi1, iv pi2, rv pr3, jv pj4, .second, jv pj5, .second, jv pj6, .second, jv pj7, .second, jv pj8, .second] [(.ref pr0)])) t → Go t := fun t kt => pre0 t (by
      refine y_aloadN X0.here hx (hb hby d2_0) rfl rfl (pc' := 1) rfl ?_
      exact kt)
  obtain ⟨T2, X2, e2, st2⟩ := initO X0 hx hZ hown (hw _ (List.mem_of_getElem? (i := 13) rfl)) (hw _ (List.mem_of_getElem? (i := 14) rfl)) (hw _ (List.mem_of_getElem? (i := 15) rfl)) e0 (g := (mkF m 1 #[rv pr0, iv pi1, iv pi2, rv pr3, jv pj4, .second, jv pj5, .second, jv pj6, .second, jv pj7, .second, jv pj8, .second] [(.ref pr0)])) rfl (by rw [hml]; rfl) rfl (hb hby d2_1) (by decide) (W := 0) (by show 2 * 0 + _ ≤ _; exact Nat.le_of_eq rfl) (by decide)
  have pre3 : ∀ t, Steps p.tables e below (T2.setTop (mkF m 4 #[rv pr0, iv pi1, iv pi2, rv pr3, jv pj4, .second, jv pj5, .second, jv pj6, .second, jv pj7, .second, jv pj8, .second] [])) t → Go t := fun t kt => pre1 t (st2 t kt)
  have pre4 : ∀ t, Steps p.tables e below (T2.setTop (mkF m 6 #[rv pr0, iv pi1, iv pi2, rv pr3, jv pj4, .second, jv pj5, .second, jv pj6, .second, jv pj7, .second, jv pj8, .second] [(.int pi2), (.int pi1)])) t → Go t := fun t kt => pre3 t (by
      refine y_iloadN X2.here hx (hb hby d2_4) rfl (pc' := 5) rfl ?_
      refine y_iloadN X2.here hx (hb hby d2_5) rfl (pc' := 6) rfl ?_
      exact kt)
  obtain ⟨v5, _, ⟨T5, L5, k5, n5⟩, -, X5, ⟨Lc5, hQ5, l5, y5, z5⟩, st5⟩ := Jvm.LawKit.callS X2 hx (y := (⟨"com/example/procord/procord/message/Message", "checkEnds", "(II)V"⟩ : MethodName)) hown (mvT hZ (hw _ (List.mem_of_getElem? (i := 16) rfl))) (mvT hZ (hw _ (List.mem_of_getElem? (i := 17) rfl))) (mvT hZ (hw _ (List.mem_of_getElem? (i := 18) rfl))) (mvT hZ (hw _ (List.mem_of_getElem? (i := 19) rfl))) (by decide) (backOf (W := 0) (rm4 l Z a0 hw [] pi1 pi2 h0 n0 O0 NQ) hZ (hw _ (List.mem_of_getElem? (i := 19) rfl)) (hw _ (List.mem_of_getElem? (i := 18) rfl)) (by decide) (by decide)) (g := (mkF m 6 #[rv pr0, iv pi1, iv pi2, rv pr3, jv pj4, .second, jv pj5, .second, jv pj6, .second, jv pj7, .second, jv pj8, .second] [(.int pi2), (.int pi1)])) rfl (by rw [hml]; rfl) (argsL := [(.int pi1), (.int pi2)]) (rest := []) (lenOf pd__II_V rfl) rfl (by show 2 * 0 + _ ≤ _; exact Nat.le_of_eq rfl) (hb hby d2_6) (fun _ _ => ⟨rfl, e2, (by decide : 0 + 0 ≤ _), (by decide : 0 + 0 ≤ _)⟩)
  dsimp only [Pt.U, Pt.locs, Pt.cells, Pt.slots] at X5 l5 y5 z5 st5 hQ5
  replace l5 := l5.symm
  subst l5 y5 z5
  obtain ⟨hv5, N5q, e5q⟩ := hQ5
  have N6 := Fr.app N0 N5q
  subst hv5
  have pre7 : ∀ t, Steps p.tables e below (T5.setTop (mkF m 9 #[rv pr0, iv pi1, iv pi2, rv pr3, jv pj4, .second, jv pj5, .second, jv pj6, .second, jv pj7, .second, jv pj8, .second] [])) t → Go t := fun t kt => pre4 t (st5 t kt)
  have pre8 : ∀ t, Steps p.tables e below (T5.setTop (mkF m 11 #[rv pr0, iv pi1, iv pi2, rv pr3, jv pj4, .second, jv pj5, .second, jv pj6, .second, jv pj7, .second, jv pj8, .second] [(.int pi1), (.ref pr0)])) t → Go t := fun t kt => pre7 t (by
      refine y_aloadN X5.here hx (hb hby d2_9) rfl rfl (pc' := 10) rfl ?_
      refine y_iloadN X5.here hx (hb hby d2_10) rfl (pc' := 11) rfl ?_
      exact kt)
  obtain ⟨T9, h9, X9, e9, W9, st9⟩ := putF X5 hx hZ hown (host := "") (Or.inl (hw _ (List.mem_of_getElem? (i := 20) rfl))) Via.refl e5q F_from_pr0 E_pr0 (Or.inr ⟨(hw _ (List.mem_of_getElem? (i := 21) rfl)), rfl, hnm⟩) (hw _ (List.mem_of_getElem? (i := 1) rfl)) (ty := .int) (by decide) rfl rfl (g := (mkF m 11 #[rv pr0, iv pi1, iv pi2, rv pr3, jv pj4, .second, jv pj5, .second, jv pj6, .second, jv pj7, .second, jv pj8, .second] [(.int pi1), (.ref pr0)])) rfl rfl (hb hby d2_11)
  have pre10 : ∀ t, Steps p.tables e below (T9.setTop (mkF m 14 #[rv pr0, iv pi1, iv pi2, rv pr3, jv pj4, .second, jv pj5, .second, jv pj6, .second, jv pj7, .second, jv pj8, .second] [])) t → Go t := fun t kt => pre8 t (st9 t kt)
  have f11 : Exa Z h9 pr0 "com/example/procord/procord/lock/LockMessage" := (E_pr0.wr W9)
  have f13 : Fld Z h9 pr0 "com/example/procord/procord/lock/LockMessage" "to" "I" (.int (0 : Int32)) := (F_to_pr0.other W9 (Or.inr (slot_ne (Or.inr (hw _ (List.mem_of_getElem? (i := 23) rfl))) (Or.inr (hw _ (List.mem_of_getElem? (i := 21) rfl))) (by decide) (t := .int) (t' := .int) (by decide) (by decide))))
  have f14 : Fld Z h9 pr0 "com/example/procord/procord/lock/LockMessage" "kind" "Lcom/example/procord/procord/lock/LockMessage$Kind;" .null := (F_kind_pr0.other W9 (Or.inr (slot_ne (Or.inr (hw _ (List.mem_of_getElem? (i := 39) rfl))) (Or.inr (hw _ (List.mem_of_getElem? (i := 21) rfl))) (by decide) (t := (.object "com/example/procord/procord/lock/LockMessage$Kind")) (t' := .int) (by decide) (by decide))))
  have f15 : Fld Z h9 pr0 "com/example/procord/procord/lock/LockMessage" "stamp" "J" (.long (0 : Int64)) := (F_stamp_pr0.other W9 (Or.inr (slot_ne (Or.inr (hw _ (List.mem_of_getElem? (i := 41) rfl))) (Or.inr (hw _ (List.mem_of_getElem? (i := 21) rfl))) (by decide) (t := .long) (t' := .int) (by decide) (by decide))))
  have f16 : Fld Z h9 pr0 "com/example/procord/procord/lock/LockMessage" "fencing" "J" (.long (0 : Int64)) := (F_fencing_pr0.other W9 (Or.inr (slot_ne (Or.inr (hw _ (List.mem_of_getElem? (i := 43) rfl))) (Or.inr (hw _ (List.mem_of_getElem? (i := 21) rfl))) (by decide) (t := .long) (t' := .int) (by decide) (by decide))))
  have f17 : Fld Z h9 pr0 "com/example/procord/procord/lock/LockMessage" "lease" "J" (.long (0 : Int64)) := (F_lease_pr0.other W9 (Or.inr (slot_ne (Or.inr (hw _ (List.mem_of_getElem? (i := 45) rfl))) (Or.inr (hw _ (List.mem_of_getElem? (i := 21) rfl))) (by decide) (t := .long) (t' := .int) (by decide) (by decide))))
  have f18 : Fld Z h9 pr0 "com/example/procord/procord/lock/LockMessage" "waited" "J" (.long (0 : Int64)) := (F_waited_pr0.other W9 (Or.inr (slot_ne (Or.inr (hw _ (List.mem_of_getElem? (i := 47) rfl))) (Or.inr (hw _ (List.mem_of_getElem? (i := 21) rfl))) (by decide) (t := .long) (t' := .int) (by decide) (by decide))))
  have f19 : Fld Z h9 pr0 "com/example/procord/procord/lock/LockMessage" "known" "J" (.long (0 : Int64)) := (F_known_pr0.other W9 (Or.inr (slot_ne (Or.inr (hw _ (List.mem_of_getElem? (i := 49) rfl))) (Or.inr (hw _ (List.mem_of_getElem? (i := 21) rfl))) (by decide) (t := .long) (t' := .int) (by decide) (by decide))))
  have f20 : Exa Z h9 pr3 "com/example/procord/procord/lock/LockMessage$Kind" := (E_pr3.wr W9)
  have f21 : Fld Z h9 pr0 "com/example/procord/procord/lock/LockMessage" "from" "I" (.int pi1) := F_from_pr0.same W9
  have N22 := Fr.snoc X9 N6 G_pr0
  have O22 := O0.wr W9 G_pr0
  have K22 : Keep h0 h9 [pr0] := K0.wr W9 (Or.inl (List.mem_of_getElem? (i := 0) rfl))
  have hk23 : _ ≤ h9.size := Nat.le_trans (Nat.zero_le _) (Nat.le_of_eq W9.size.symm)
  have pre24 : ∀ t, Steps p.tables e below (T9.setTop (mkF m 16 #[rv pr0, iv pi1, iv pi2, rv pr3, jv pj4, .second, jv pj5, .second, jv pj6, .second, jv pj7, .second, jv pj8, .second] [(.int pi2), (.ref pr0)])) t → Go t := fun t kt => pre10 t (by
      refine y_aloadN X9.here hx (hb hby d2_14) rfl rfl (pc' := 15) rfl ?_
      refine y_iloadN X9.here hx (hb hby d2_15) rfl (pc' := 16) rfl ?_
      exact kt)
  obtain ⟨T25, h25, X25, e25, W25, st25⟩ := putF X9 hx hZ hown (host := "") (Or.inl (hw _ (List.mem_of_getElem? (i := 22) rfl))) Via.refl e9 f13 f11 (Or.inr ⟨(hw _ (List.mem_of_getElem? (i := 23) rfl)), rfl, hnm⟩) (hw _ (List.mem_of_getElem? (i := 1) rfl)) (ty := .int) (by decide) rfl rfl (g := (mkF m 16 #[rv pr0, iv pi1, iv pi2, rv pr3, jv pj4, .second, jv pj5, .second, jv pj6, .second, jv pj7, .second, jv pj8, .second] [(.int pi2), (.ref pr0)])) rfl rfl (hb hby d2_16)
  have pre26 : ∀ t, Steps p.tables e below (T25.setTop (mkF m 19 #[rv pr0, iv pi1, iv pi2, rv pr3, jv pj4, .second, jv pj5, .second, jv pj6, .second, jv pj7, .second, jv pj8, .second] [])) t → Go t := fun t kt => pre24 t (st25 t kt)
  have f27 : Exa Z h25 pr0 "com/example/procord/procord/lock/LockMessage" := (f11.wr W25)
  have f29 : Fld Z h25 pr0 "com/example/procord/procord/lock/LockMessage" "kind" "Lcom/example/procord/procord/lock/LockMessage$Kind;" .null := (f14.other W25 (Or.inr (slot_ne (Or.inr (hw _ (List.mem_of_getElem? (i := 39) rfl))) (Or.inr (hw _ (List.mem_of_getElem? (i := 23) rfl))) (by decide) (t := (.object "com/example/procord/procord/lock/LockMessage$Kind")) (t' := .int) (by decide) (by decide))))
  have f30 : Fld Z h25 pr0 "com/example/procord/procord/lock/LockMessage" "stamp" "J" (.long (0 : Int64)) := (f15.other W25 (Or.inr (slot_ne (Or.inr (hw _ (List.mem_of_getElem? (i := 41) rfl))) (Or.inr (hw _ (List.mem_of_getElem? (i := 23) rfl))) (by decide) (t := .long) (t' := .int) (by decide) (by decide))))
  have f31 : Fld Z h25 pr0 "com/example/procord/procord/lock/LockMessage" "fencing" "J" (.long (0 : Int64)) := (f16.other W25 (Or.inr (slot_ne (Or.inr (hw _ (List.mem_of_getElem? (i := 43) rfl))) (Or.inr (hw _ (List.mem_of_getElem? (i := 23) rfl))) (by decide) (t := .long) (t' := .int) (by decide) (by decide))))
  have f32 : Fld Z h25 pr0 "com/example/procord/procord/lock/LockMessage" "lease" "J" (.long (0 : Int64)) := (f17.other W25 (Or.inr (slot_ne (Or.inr (hw _ (List.mem_of_getElem? (i := 45) rfl))) (Or.inr (hw _ (List.mem_of_getElem? (i := 23) rfl))) (by decide) (t := .long) (t' := .int) (by decide) (by decide))))
  have f33 : Fld Z h25 pr0 "com/example/procord/procord/lock/LockMessage" "waited" "J" (.long (0 : Int64)) := (f18.other W25 (Or.inr (slot_ne (Or.inr (hw _ (List.mem_of_getElem? (i := 47) rfl))) (Or.inr (hw _ (List.mem_of_getElem? (i := 23) rfl))) (by decide) (t := .long) (t' := .int) (by decide) (by decide))))
  have f34 : Fld Z h25 pr0 "com/example/procord/procord/lock/LockMessage" "known" "J" (.long (0 : Int64)) := (f19.other W25 (Or.inr (slot_ne (Or.inr (hw _ (List.mem_of_getElem? (i := 49) rfl))) (Or.inr (hw _ (List.mem_of_getElem? (i := 23) rfl))) (by decide) (t := .long) (t' := .int) (by decide) (by decide))))
  have f35 : Exa Z h25 pr3 "com/example/procord/procord/lock/LockMessage$Kind" := (f20.wr W25)
  have f36 : Fld Z h25 pr0 "com/example/procord/procord/lock/LockMessage" "from" "I" (.int pi1) := (f21.other W25 (Or.inr (slot_ne (Or.inr (hw _ (List.mem_of_getElem? (i := 21) rfl))) (Or.inr (hw _ (List.mem_of_getElem? (i := 23) rfl))) (by decide) (t := .int) (t' := .int) (by decide) (by decide))))
  have f37 : Fld Z h25 pr0 "com/example/procord/procord/lock/LockMessage" "to" "I" (.int pi2) := f13.same W25
  have N38 := Fr.snoc X25 N22 G_pr0
  have O38 := O22.wr W25 G_pr0
  have K38 : Keep h0 h25 [pr0] := K22.wr W25 (Or.inl (List.mem_of_getElem? (i := 0) rfl))
  have hk39 : _ ≤ h25.size := Nat.le_trans hk23 (Nat.le_of_eq W25.size.symm)
  have pre40 : ∀ t, Steps p.tables e below (T25.setTop (mkF m 21 #[rv pr0, iv pi1, iv pi2, rv pr3, jv pj4, .second, jv pj5, .second, jv pj6, .second, jv pj7, .second, jv pj8, .second] [(.ref pr3), (.ref pr0)])) t → Go t := fun t kt => pre26 t (by
      refine y_aloadN X25.here hx (hb hby d2_19) rfl rfl (pc' := 20) rfl ?_
      refine y_aloadN X25.here hx (hb hby d2_20) rfl rfl (pc' := 21) rfl ?_
      exact kt)
  have wS41 : ∀ a ∈ Bundle.stringAtoms, a.before a0 Z = true := fun a ha => by
      simp only [Bundle.stringAtoms, List.mem_cons, List.not_mem_nil, or_false] at ha
      rcases ha with rfl | rfl | rfl | rfl | rfl | rfl | rfl
      · exact (hw _ (List.mem_of_getElem? (i := 25) rfl))
      · exact (hw _ (List.mem_of_getElem? (i := 26) rfl))
      · exact (hw _ (List.mem_of_getElem? (i := 27) rfl))
      · exact (hw _ (List.mem_of_getElem? (i := 28) rfl))
      · exact (hw _ (List.mem_of_getElem? (i := 29) rfl))
      · exact (hw _ (List.mem_of_getElem? (i := 30) rfl))
      · exact (hw _ (List.mem_of_getElem? (i := 31) rfl))
  obtain ⟨b41, T41, h41, k41, X41, e41, E41, hS41, hk41, hZ, hown, st41⟩ := ldcS (s := s) (vm0 := s.vm) X25 hx hZ hown (hw _ (List.mem_of_getElem? (i := 24) rfl)) wS41 e25 hS0 hk39 (g := (mkF m 21 #[rv pr0, iv pi1, iv pi2, rv pr3, jv pj4, .second, jv pj5, .second, jv pj6, .second, jv pj7, .second, jv pj8, .second] [(.ref pr3), (.ref pr0)])) rfl (hb hby d2_21) (n := 16) (by decide) (by decide) (by decide) (by decide)
  have pre42 : ∀ t, Steps p.tables e below (T41.setTop (mkF m 23 #[rv pr0, iv pi1, iv pi2, rv pr3, jv pj4, .second, jv pj5, .second, jv pj6, .second, jv pj7, .second, jv pj8, .second] [(.ref b41), (.ref pr3), (.ref pr0)])) t → Go t := fun t kt => pre40 t (st41 t kt)
  have f43 : Exa Z h41 pr0 "com/example/procord/procord/lock/LockMessage" := (f27.ext E41)
  have f44 : Fld Z h41 pr0 "com/example/procord/procord/lock/LockMessage" "kind" "Lcom/example/procord/procord/lock/LockMessage$Kind;" .null := (f29.ext E41)
  have f45 : Fld Z h41 pr0 "com/example/procord/procord/lock/LockMessage" "stamp" "J" (.long (0 : Int64)) := (f30.ext E41)
  have f46 : Fld Z h41 pr0 "com/example/procord/procord/lock/LockMessage" "fencing" "J" (.long (0 : Int64)) := (f31.ext E41)
  have f47 : Fld Z h41 pr0 "com/example/procord/procord/lock/LockMessage" "lease" "J" (.long (0 : Int64)) := (f32.ext E41)
  have f48 : Fld Z h41 pr0 "com/example/procord/procord/lock/LockMessage" "waited" "J" (.long (0 : Int64)) := (f33.ext E41)
  have f49 : Fld Z h41 pr0 "com/example/procord/procord/lock/LockMessage" "known" "J" (.long (0 : Int64)) := (f34.ext E41)
  have f50 : Exa Z h41 pr3 "com/example/procord/procord/lock/LockMessage$Kind" := (f35.ext E41)
  have f51 : Fld Z h41 pr0 "com/example/procord/procord/lock/LockMessage" "from" "I" (.int pi1) := (f36.ext E41)
  have f52 : Fld Z h41 pr0 "com/example/procord/procord/lock/LockMessage" "to" "I" (.int pi2) := (f37.ext E41)
  have O41 := O38.ext E41
  have K41 : Keep h0 h41 [pr0] := K38.ext E41
  obtain ⟨v53, _, ⟨T53, L53, k53, n53⟩, -, X53, ⟨Lc53, hQ53, l53, y53, z53⟩, st53⟩ := Jvm.LawKit.callS X41 hx (y := (⟨"java/util/Objects", "requireNonNull", "(Ljava/lang/Object;Ljava/lang/String;)Ljava/lang/Object;"⟩ : MethodName)) hown (mvT hZ (hw _ (List.mem_of_getElem? (i := 32) rfl))) (mvT hZ (hw _ (List.mem_of_getElem? (i := 33) rfl))) (mvT hZ (hw _ (List.mem_of_getElem? (i := 34) rfl))) (mvT hZ (hw _ (List.mem_of_getElem? (i := 35) rfl))) (by decide) (backOf (W := 1) (rm5 l Z a0 hw [] pr3 b41 h41 n0 O41 ) hZ (hw _ (List.mem_of_getElem? (i := 35) rfl)) (hw _ (List.mem_of_getElem? (i := 34) rfl)) (by decide) (by decide)) (g := (mkF m 23 #[rv pr0, iv pi1, iv pi2, rv pr3, jv pj4, .second, jv pj5, .second, jv pj6, .second, jv pj7, .second, jv pj8, .second] [(.ref b41), (.ref pr3), (.ref pr0)])) rfl (by rw [hml]; rfl) (argsL := [(.ref pr3), (.ref b41)]) (rest := [(.ref pr0)]) (lenOf pd__Ljava_lang_Object_Ljava_lang_String__Ljava_lang_Object_ rfl) rfl (by show 2 * 0 + _ ≤ _; exact Nat.le_of_eq rfl) (hb hby d2_23) (fun _ _ => ⟨rfl, e41, (by decide : 2 + 0 ≤ _), (by decide : 20 + 0 ≤ _)⟩)
  dsimp only [Pt.U, Pt.locs, Pt.cells, Pt.slots] at X53 l53 y53 z53 st53 hQ53
  replace l53 := l53.symm
  subst l53 y53 z53
  obtain ⟨hv53, N53q, e53q⟩ := hQ53
  have N54 := Fr.app N38 N53q
  have hw53 := hv53
  subst hw53
  have pre55 : ∀ t, Steps p.tables e below (T53.setTop (mkF m 26 #[rv pr0, iv pi1, iv pi2, rv pr3, jv pj4, .second, jv pj5, .second, jv pj6, .second, jv pj7, .second, jv pj8, .second] [(.ref pr3), (.ref pr0)])) t → Go t := fun t kt => pre42 t (st53 t kt)
  obtain ⟨T56, X56, e56, st56⟩ := castY X53 hx hZ hown (hw _ (List.mem_of_getElem? (i := 36) rfl)) e53q (Ins.self f50) (g := (mkF m 26 #[rv pr0, iv pi1, iv pi2, rv pr3, jv pj4, .second, jv pj5, .second, jv pj6, .second, jv pj7, .second, jv pj8, .second] [(.ref pr3), (.ref pr0)])) rfl rfl (hb hby d2_26)
  have pre57 : ∀ t, Steps p.tables e below (T56.setTop (mkF m 29 #[rv pr0, iv pi1, iv pi2, rv pr3, jv pj4, .second, jv pj5, .second, jv pj6, .second, jv pj7, .second, jv pj8, .second] [(.ref pr3), (.ref pr0)])) t → Go t := fun t kt => pre55 t (st56 t kt)
  obtain ⟨T58, h58, X58, e58, W58, st58⟩ := putF X56 hx hZ hown (host := "") (Or.inl (hw _ (List.mem_of_getElem? (i := 38) rfl))) Via.refl e56 f44 f43 (Or.inr ⟨(hw _ (List.mem_of_getElem? (i := 39) rfl)), rfl, hnm⟩) (hw _ (List.mem_of_getElem? (i := 1) rfl)) (ty := (.object "com/example/procord/procord/lock/LockMessage$Kind")) (by decide) rfl rfl (g := (mkF m 29 #[rv pr0, iv pi1, iv pi2, rv pr3, jv pj4, .second, jv pj5, .second, jv pj6, .second, jv pj7, .second, jv pj8, .second] [(.ref pr3), (.ref pr0)])) rfl rfl (hb hby d2_29)
  have pre59 : ∀ t, Steps p.tables e below (T58.setTop (mkF m 32 #[rv pr0, iv pi1, iv pi2, rv pr3, jv pj4, .second, jv pj5, .second, jv pj6, .second, jv pj7, .second, jv pj8, .second] [])) t → Go t := fun t kt => pre57 t (st58 t kt)
  have f60 : Exa Z h58 pr0 "com/example/procord/procord/lock/LockMessage" := (f43.wr W58)
  have f62 : Fld Z h58 pr0 "com/example/procord/procord/lock/LockMessage" "stamp" "J" (.long (0 : Int64)) := (f45.other W58 (Or.inr (slot_ne (Or.inr (hw _ (List.mem_of_getElem? (i := 41) rfl))) (Or.inr (hw _ (List.mem_of_getElem? (i := 39) rfl))) (by decide) (t := .long) (t' := (.object "com/example/procord/procord/lock/LockMessage$Kind")) (by decide) (by decide))))
  have f63 : Fld Z h58 pr0 "com/example/procord/procord/lock/LockMessage" "fencing" "J" (.long (0 : Int64)) := (f46.other W58 (Or.inr (slot_ne (Or.inr (hw _ (List.mem_of_getElem? (i := 43) rfl))) (Or.inr (hw _ (List.mem_of_getElem? (i := 39) rfl))) (by decide) (t := .long) (t' := (.object "com/example/procord/procord/lock/LockMessage$Kind")) (by decide) (by decide))))
  have f64 : Fld Z h58 pr0 "com/example/procord/procord/lock/LockMessage" "lease" "J" (.long (0 : Int64)) := (f47.other W58 (Or.inr (slot_ne (Or.inr (hw _ (List.mem_of_getElem? (i := 45) rfl))) (Or.inr (hw _ (List.mem_of_getElem? (i := 39) rfl))) (by decide) (t := .long) (t' := (.object "com/example/procord/procord/lock/LockMessage$Kind")) (by decide) (by decide))))
  have f65 : Fld Z h58 pr0 "com/example/procord/procord/lock/LockMessage" "waited" "J" (.long (0 : Int64)) := (f48.other W58 (Or.inr (slot_ne (Or.inr (hw _ (List.mem_of_getElem? (i := 47) rfl))) (Or.inr (hw _ (List.mem_of_getElem? (i := 39) rfl))) (by decide) (t := .long) (t' := (.object "com/example/procord/procord/lock/LockMessage$Kind")) (by decide) (by decide))))
  have f66 : Fld Z h58 pr0 "com/example/procord/procord/lock/LockMessage" "known" "J" (.long (0 : Int64)) := (f49.other W58 (Or.inr (slot_ne (Or.inr (hw _ (List.mem_of_getElem? (i := 49) rfl))) (Or.inr (hw _ (List.mem_of_getElem? (i := 39) rfl))) (by decide) (t := .long) (t' := (.object "com/example/procord/procord/lock/LockMessage$Kind")) (by decide) (by decide))))
  have f67 : Exa Z h58 pr3 "com/example/procord/procord/lock/LockMessage$Kind" := (f50.wr W58)
  have f68 : Fld Z h58 pr0 "com/example/procord/procord/lock/LockMessage" "from" "I" (.int pi1) := (f51.other W58 (Or.inr (slot_ne (Or.inr (hw _ (List.mem_of_getElem? (i := 21) rfl))) (Or.inr (hw _ (List.mem_of_getElem? (i := 39) rfl))) (by decide) (t := .int) (t' := (.object "com/example/procord/procord/lock/LockMessage$Kind")) (by decide) (by decide))))
  have f69 : Fld Z h58 pr0 "com/example/procord/procord/lock/LockMessage" "to" "I" (.int pi2) := (f52.other W58 (Or.inr (slot_ne (Or.inr (hw _ (List.mem_of_getElem? (i := 23) rfl))) (Or.inr (hw _ (List.mem_of_getElem? (i := 39) rfl))) (by decide) (t := .int) (t' := (.object "com/example/procord/procord/lock/LockMessage$Kind")) (by decide) (by decide))))
  have f70 : Fld Z h58 pr0 "com/example/procord/procord/lock/LockMessage" "kind" "Lcom/example/procord/procord/lock/LockMessage$Kind;" (.ref pr3) := f44.same W58
  have N71 := Fr.snoc X58 N54 G_pr0
  have O71 := O41.wr W58 G_pr0
  have K71 : Keep h0 h58 [pr0] := K41.wr W58 (Or.inl (List.mem_of_getElem? (i := 0) rfl))
  have hk72 : _ ≤ h58.size := Nat.le_trans hk41 (Nat.le_of_eq W58.size.symm)
  have pre73 : ∀ t, Steps p.tables e below (T58.setTop (mkF m 35 #[rv pr0, iv pi1, iv pi2, rv pr3, jv pj4, .second, jv pj5, .second, jv pj6, .second, jv pj7, .second, jv pj8, .second] [(.long pj4), (.ref pr0)])) t → Go t := fun t kt => pre59 t (by
      refine y_aloadN X58.here hx (hb hby d2_32) rfl rfl (pc' := 33) rfl ?_
      refine y_lload X58.here hx (hb hby d2_33) rfl (pc' := 35) rfl ?_
      exact kt)
  obtain ⟨T74, h74, X74, e74, W74, st74⟩ := putF X58 hx hZ hown (host := "") (Or.inl (hw _ (List.mem_of_getElem? (i := 40) rfl))) Via.refl e58 f62 f60 (Or.inr ⟨(hw _ (List.mem_of_getElem? (i := 41) rfl)), rfl, hnm⟩) (hw _ (List.mem_of_getElem? (i := 1) rfl)) (ty := .long) (by decide) rfl rfl (g := (mkF m 35 #[rv pr0, iv pi1, iv pi2, rv pr3, jv pj4, .second, jv pj5, .second, jv pj6, .second, jv pj7, .second, jv pj8, .second] [(.long pj4), (.ref pr0)])) rfl rfl (hb hby d2_35)
  have pre75 : ∀ t, Steps p.tables e below (T74.setTop (mkF m 38 #[rv pr0, iv pi1, iv pi2, rv pr3, jv pj4, .second, jv pj5, .second, jv pj6, .second, jv pj7, .second, jv pj8, .second] [])) t → Go t := fun t kt => pre73 t (st74 t kt)
  have f76 : Exa Z h74 pr0 "com/example/procord/procord/lock/LockMessage" := (f60.wr W74)
  have f78 : Fld Z h74 pr0 "com/example/procord/procord/lock/LockMessage" "fencing" "J" (.long (0 : Int64)) := (f63.other W74 (Or.inr (slot_ne (Or.inr (hw _ (List.mem_of_getElem? (i := 43) rfl))) (Or.inr (hw _ (List.mem_of_getElem? (i := 41) rfl))) (by decide) (t := .long) (t' := .long) (by decide) (by decide))))
  have f79 : Fld Z h74 pr0 "com/example/procord/procord/lock/LockMessage" "lease" "J" (.long (0 : Int64)) := (f64.other W74 (Or.inr (slot_ne (Or.inr (hw _ (List.mem_of_getElem? (i := 45) rfl))) (Or.inr (hw _ (List.mem_of_getElem? (i := 41) rfl))) (by decide) (t := .long) (t' := .long) (by decide) (by decide))))
  have f80 : Fld Z h74 pr0 "com/example/procord/procord/lock/LockMessage" "waited" "J" (.long (0 : Int64)) := (f65.other W74 (Or.inr (slot_ne (Or.inr (hw _ (List.mem_of_getElem? (i := 47) rfl))) (Or.inr (hw _ (List.mem_of_getElem? (i := 41) rfl))) (by decide) (t := .long) (t' := .long) (by decide) (by decide))))
  have f81 : Fld Z h74 pr0 "com/example/procord/procord/lock/LockMessage" "known" "J" (.long (0 : Int64)) := (f66.other W74 (Or.inr (slot_ne (Or.inr (hw _ (List.mem_of_getElem? (i := 49) rfl))) (Or.inr (hw _ (List.mem_of_getElem? (i := 41) rfl))) (by decide) (t := .long) (t' := .long) (by decide) (by decide))))
  have f82 : Exa Z h74 pr3 "com/example/procord/procord/lock/LockMessage$Kind" := (f67.wr W74)
  have f83 : Fld Z h74 pr0 "com/example/procord/procord/lock/LockMessage" "from" "I" (.int pi1) := (f68.other W74 (Or.inr (slot_ne (Or.inr (hw _ (List.mem_of_getElem? (i := 21) rfl))) (Or.inr (hw _ (List.mem_of_getElem? (i := 41) rfl))) (by decide) (t := .int) (t' := .long) (by decide) (by decide))))
  have f84 : Fld Z h74 pr0 "com/example/procord/procord/lock/LockMessage" "to" "I" (.int pi2) := (f69.other W74 (Or.inr (slot_ne (Or.inr (hw _ (List.mem_of_getElem? (i := 23) rfl))) (Or.inr (hw _ (List.mem_of_getElem? (i := 41) rfl))) (by decide) (t := .int) (t' := .long) (by decide) (by decide))))
  have f85 : Fld Z h74 pr0 "com/example/procord/procord/lock/LockMessage" "kind" "Lcom/example/procord/procord/lock/LockMessage$Kind;" (.ref pr3) := (f70.other W74 (Or.inr (slot_ne (Or.inr (hw _ (List.mem_of_getElem? (i := 39) rfl))) (Or.inr (hw _ (List.mem_of_getElem? (i := 41) rfl))) (by decide) (t := (.object "com/example/procord/procord/lock/LockMessage$Kind")) (t' := .long) (by decide) (by decide))))
  have f86 : Fld Z h74 pr0 "com/example/procord/procord/lock/LockMessage" "stamp" "J" (.long pj4) := f62.same W74
  have N87 := Fr.snoc X74 N71 G_pr0
  have O87 := O71.wr W74 G_pr0
  have K87 : Keep h0 h74 [pr0] := K71.wr W74 (Or.inl (List.mem_of_getElem? (i := 0) rfl))
  have hk88 : _ ≤ h74.size := Nat.le_trans hk72 (Nat.le_of_eq W74.size.symm)
  have pre89 : ∀ t, Steps p.tables e below (T74.setTop (mkF m 41 #[rv pr0, iv pi1, iv pi2, rv pr3, jv pj4, .second, jv pj5, .second, jv pj6, .second, jv pj7, .second, jv pj8, .second] [(.long pj5), (.ref pr0)])) t → Go t := fun t kt => pre75 t (by
      refine y_aloadN X74.here hx (hb hby d2_38) rfl rfl (pc' := 39) rfl ?_
      refine y_lload X74.here hx (hb hby d2_39) rfl (pc' := 41) rfl ?_
      exact kt)
  obtain ⟨T90, h90, X90, e90, W90, st90⟩ := putF X74 hx hZ hown (host := "") (Or.inl (hw _ (List.mem_of_getElem? (i := 42) rfl))) Via.refl e74 f78 f76 (Or.inr ⟨(hw _ (List.mem_of_getElem? (i := 43) rfl)), rfl, hnm⟩) (hw _ (List.mem_of_getElem? (i := 1) rfl)) (ty := .long) (by decide) rfl rfl (g := (mkF m 41 #[rv pr0, iv pi1, iv pi2, rv pr3, jv pj4, .second, jv pj5, .second, jv pj6, .second, jv pj7, .second, jv pj8, .second] [(.long pj5), (.ref pr0)])) rfl rfl (hb hby d2_41)
  have pre91 : ∀ t, Steps p.tables e below (T90.setTop (mkF m 44 #[rv pr0, iv pi1, iv pi2, rv pr3, jv pj4, .second, jv pj5, .second, jv pj6, .second, jv pj7, .second, jv pj8, .second] [])) t → Go t := fun t kt => pre89 t (st90 t kt)
  have f92 : Exa Z h90 pr0 "com/example/procord/procord/lock/LockMessage" := (f76.wr W90)
  have f94 : Fld Z h90 pr0 "com/example/procord/procord/lock/LockMessage" "lease" "J" (.long (0 : Int64)) := (f79.other W90 (Or.inr (slot_ne (Or.inr (hw _ (List.mem_of_getElem? (i := 45) rfl))) (Or.inr (hw _ (List.mem_of_getElem? (i := 43) rfl))) (by decide) (t := .long) (t' := .long) (by decide) (by decide))))
  have f95 : Fld Z h90 pr0 "com/example/procord/procord/lock/LockMessage" "waited" "J" (.long (0 : Int64)) := (f80.other W90 (Or.inr (slot_ne (Or.inr (hw _ (List.mem_of_getElem? (i := 47) rfl))) (Or.inr (hw _ (List.mem_of_getElem? (i := 43) rfl))) (by decide) (t := .long) (t' := .long) (by decide) (by decide))))
  have f96 : Fld Z h90 pr0 "com/example/procord/procord/lock/LockMessage" "known" "J" (.long (0 : Int64)) := (f81.other W90 (Or.inr (slot_ne (Or.inr (hw _ (List.mem_of_getElem? (i := 49) rfl))) (Or.inr (hw _ (List.mem_of_getElem? (i := 43) rfl))) (by decide) (t := .long) (t' := .long) (by decide) (by decide))))
  have f97 : Exa Z h90 pr3 "com/example/procord/procord/lock/LockMessage$Kind" := (f82.wr W90)
  have f98 : Fld Z h90 pr0 "com/example/procord/procord/lock/LockMessage" "from" "I" (.int pi1) := (f83.other W90 (Or.inr (slot_ne (Or.inr (hw _ (List.mem_of_getElem? (i := 21) rfl))) (Or.inr (hw _ (List.mem_of_getElem? (i := 43) rfl))) (by decide) (t := .int) (t' := .long) (by decide) (by decide))))
  have f99 : Fld Z h90 pr0 "com/example/procord/procord/lock/LockMessage" "to" "I" (.int pi2) := (f84.other W90 (Or.inr (slot_ne (Or.inr (hw _ (List.mem_of_getElem? (i := 23) rfl))) (Or.inr (hw _ (List.mem_of_getElem? (i := 43) rfl))) (by decide) (t := .int) (t' := .long) (by decide) (by decide))))
  have f100 : Fld Z h90 pr0 "com/example/procord/procord/lock/LockMessage" "kind" "Lcom/example/procord/procord/lock/LockMessage$Kind;" (.ref pr3) := (f85.other W90 (Or.inr (slot_ne (Or.inr (hw _ (List.mem_of_getElem? (i := 39) rfl))) (Or.inr (hw _ (List.mem_of_getElem? (i := 43) rfl))) (by decide) (t := (.object "com/example/procord/procord/lock/LockMessage$Kind")) (t' := .long) (by decide) (by decide))))
  have f101 : Fld Z h90 pr0 "com/example/procord/procord/lock/LockMessage" "stamp" "J" (.long pj4) := (f86.other W90 (Or.inr (slot_ne (Or.inr (hw _ (List.mem_of_getElem? (i := 41) rfl))) (Or.inr (hw _ (List.mem_of_getElem? (i := 43) rfl))) (by decide) (t := .long) (t' := .long) (by decide) (by decide))))
  have f102 : Fld Z h90 pr0 "com/example/procord/procord/lock/LockMessage" "fencing" "J" (.long pj5) := f78.same W90
  have N103 := Fr.snoc X90 N87 G_pr0
  have O103 := O87.wr W90 G_pr0
  have K103 : Keep h0 h90 [pr0] := K87.wr W90 (Or.inl (List.mem_of_getElem? (i := 0) rfl))
  have hk104 : _ ≤ h90.size := Nat.le_trans hk88 (Nat.le_of_eq W90.size.symm)
  have pre105 : ∀ t, Steps p.tables e below (T90.setTop (mkF m 47 #[rv pr0, iv pi1, iv pi2, rv pr3, jv pj4, .second, jv pj5, .second, jv pj6, .second, jv pj7, .second, jv pj8, .second] [(.long pj6), (.ref pr0)])) t → Go t := fun t kt => pre91 t (by
      refine y_aloadN X90.here hx (hb hby d2_44) rfl rfl (pc' := 45) rfl ?_
      refine y_lload X90.here hx (hb hby d2_45) rfl (pc' := 47) rfl ?_
      exact kt)
  obtain ⟨T106, h106, X106, e106, W106, st106⟩ := putF X90 hx hZ hown (host := "") (Or.inl (hw _ (List.mem_of_getElem? (i := 44) rfl))) Via.refl e90 f94 f92 (Or.inr ⟨(hw _ (List.mem_of_getElem? (i := 45) rfl)), rfl, hnm⟩) (hw _ (List.mem_of_getElem? (i := 1) rfl)) (ty := .long) (by decide) rfl rfl (g := (mkF m 47 #[rv pr0, iv pi1, iv pi2, rv pr3, jv pj4, .second, jv pj5, .second, jv pj6, .second, jv pj7, .second, jv pj8, .second] [(.long pj6), (.ref pr0)])) rfl rfl (hb hby d2_47)
  have pre107 : ∀ t, Steps p.tables e below (T106.setTop (mkF m 50 #[rv pr0, iv pi1, iv pi2, rv pr3, jv pj4, .second, jv pj5, .second, jv pj6, .second, jv pj7, .second, jv pj8, .second] [])) t → Go t := fun t kt => pre105 t (st106 t kt)
  have f108 : Exa Z h106 pr0 "com/example/procord/procord/lock/LockMessage" := (f92.wr W106)
  have f110 : Fld Z h106 pr0 "com/example/procord/procord/lock/LockMessage" "waited" "J" (.long (0 : Int64)) := (f95.other W106 (Or.inr (slot_ne (Or.inr (hw _ (List.mem_of_getElem? (i := 47) rfl))) (Or.inr (hw _ (List.mem_of_getElem? (i := 45) rfl))) (by decide) (t := .long) (t' := .long) (by decide) (by decide))))
  have f111 : Fld Z h106 pr0 "com/example/procord/procord/lock/LockMessage" "known" "J" (.long (0 : Int64)) := (f96.other W106 (Or.inr (slot_ne (Or.inr (hw _ (List.mem_of_getElem? (i := 49) rfl))) (Or.inr (hw _ (List.mem_of_getElem? (i := 45) rfl))) (by decide) (t := .long) (t' := .long) (by decide) (by decide))))
  have f112 : Exa Z h106 pr3 "com/example/procord/procord/lock/LockMessage$Kind" := (f97.wr W106)
  have f113 : Fld Z h106 pr0 "com/example/procord/procord/lock/LockMessage" "from" "I" (.int pi1) := (f98.other W106 (Or.inr (slot_ne (Or.inr (hw _ (List.mem_of_getElem? (i := 21) rfl))) (Or.inr (hw _ (List.mem_of_getElem? (i := 45) rfl))) (by decide) (t := .int) (t' := .long) (by decide) (by decide))))
  have f114 : Fld Z h106 pr0 "com/example/procord/procord/lock/LockMessage" "to" "I" (.int pi2) := (f99.other W106 (Or.inr (slot_ne (Or.inr (hw _ (List.mem_of_getElem? (i := 23) rfl))) (Or.inr (hw _ (List.mem_of_getElem? (i := 45) rfl))) (by decide) (t := .int) (t' := .long) (by decide) (by decide))))
  have f115 : Fld Z h106 pr0 "com/example/procord/procord/lock/LockMessage" "kind" "Lcom/example/procord/procord/lock/LockMessage$Kind;" (.ref pr3) := (f100.other W106 (Or.inr (slot_ne (Or.inr (hw _ (List.mem_of_getElem? (i := 39) rfl))) (Or.inr (hw _ (List.mem_of_getElem? (i := 45) rfl))) (by decide) (t := (.object "com/example/procord/procord/lock/LockMessage$Kind")) (t' := .long) (by decide) (by decide))))
  have f116 : Fld Z h106 pr0 "com/example/procord/procord/lock/LockMessage" "stamp" "J" (.long pj4) := (f101.other W106 (Or.inr (slot_ne (Or.inr (hw _ (List.mem_of_getElem? (i := 41) rfl))) (Or.inr (hw _ (List.mem_of_getElem? (i := 45) rfl))) (by decide) (t := .long) (t' := .long) (by decide) (by decide))))
  have f117 : Fld Z h106 pr0 "com/example/procord/procord/lock/LockMessage" "fencing" "J" (.long pj5) := (f102.other W106 (Or.inr (slot_ne (Or.inr (hw _ (List.mem_of_getElem? (i := 43) rfl))) (Or.inr (hw _ (List.mem_of_getElem? (i := 45) rfl))) (by decide) (t := .long) (t' := .long) (by decide) (by decide))))
  have f118 : Fld Z h106 pr0 "com/example/procord/procord/lock/LockMessage" "lease" "J" (.long pj6) := f94.same W106
  have N119 := Fr.snoc X106 N103 G_pr0
  have O119 := O103.wr W106 G_pr0
  have K119 : Keep h0 h106 [pr0] := K103.wr W106 (Or.inl (List.mem_of_getElem? (i := 0) rfl))
  have hk120 : _ ≤ h106.size := Nat.le_trans hk104 (Nat.le_of_eq W106.size.symm)
  have pre121 : ∀ t, Steps p.tables e below (T106.setTop (mkF m 53 #[rv pr0, iv pi1, iv pi2, rv pr3, jv pj4, .second, jv pj5, .second, jv pj6, .second, jv pj7, .second, jv pj8, .second] [(.long pj7), (.ref pr0)])) t → Go t := fun t kt => pre107 t (by
      refine y_aloadN X106.here hx (hb hby d2_50) rfl rfl (pc' := 51) rfl ?_
      refine y_lload X106.here hx (hb hby d2_51) rfl (pc' := 53) rfl ?_
      exact kt)
  obtain ⟨T122, h122, X122, e122, W122, st122⟩ := putF X106 hx hZ hown (host := "") (Or.inl (hw _ (List.mem_of_getElem? (i := 46) rfl))) Via.refl e106 f110 f108 (Or.inr ⟨(hw _ (List.mem_of_getElem? (i := 47) rfl)), rfl, hnm⟩) (hw _ (List.mem_of_getElem? (i := 1) rfl)) (ty := .long) (by decide) rfl rfl (g := (mkF m 53 #[rv pr0, iv pi1, iv pi2, rv pr3, jv pj4, .second, jv pj5, .second, jv pj6, .second, jv pj7, .second, jv pj8, .second] [(.long pj7), (.ref pr0)])) rfl rfl (hb hby d2_53)
  have pre123 : ∀ t, Steps p.tables e below (T122.setTop (mkF m 56 #[rv pr0, iv pi1, iv pi2, rv pr3, jv pj4, .second, jv pj5, .second, jv pj6, .second, jv pj7, .second, jv pj8, .second] [])) t → Go t := fun t kt => pre121 t (st122 t kt)
  have f124 : Exa Z h122 pr0 "com/example/procord/procord/lock/LockMessage" := (f108.wr W122)
  have f126 : Fld Z h122 pr0 "com/example/procord/procord/lock/LockMessage" "known" "J" (.long (0 : Int64)) := (f111.other W122 (Or.inr (slot_ne (Or.inr (hw _ (List.mem_of_getElem? (i := 49) rfl))) (Or.inr (hw _ (List.mem_of_getElem? (i := 47) rfl))) (by decide) (t := .long) (t' := .long) (by decide) (by decide))))
  have f127 : Exa Z h122 pr3 "com/example/procord/procord/lock/LockMessage$Kind" := (f112.wr W122)
  have f128 : Fld Z h122 pr0 "com/example/procord/procord/lock/LockMessage" "from" "I" (.int pi1) := (f113.other W122 (Or.inr (slot_ne (Or.inr (hw _ (List.mem_of_getElem? (i := 21) rfl))) (Or.inr (hw _ (List.mem_of_getElem? (i := 47) rfl))) (by decide) (t := .int) (t' := .long) (by decide) (by decide))))
  have f129 : Fld Z h122 pr0 "com/example/procord/procord/lock/LockMessage" "to" "I" (.int pi2) := (f114.other W122 (Or.inr (slot_ne (Or.inr (hw _ (List.mem_of_getElem? (i := 23) rfl))) (Or.inr (hw _ (List.mem_of_getElem? (i := 47) rfl))) (by decide) (t := .int) (t' := .long) (by decide) (by decide))))
  have f130 : Fld Z h122 pr0 "com/example/procord/procord/lock/LockMessage" "kind" "Lcom/example/procord/procord/lock/LockMessage$Kind;" (.ref pr3) := (f115.other W122 (Or.inr (slot_ne (Or.inr (hw _ (List.mem_of_getElem? (i := 39) rfl))) (Or.inr (hw _ (List.mem_of_getElem? (i := 47) rfl))) (by decide) (t := (.object "com/example/procord/procord/lock/LockMessage$Kind")) (t' := .long) (by decide) (by decide))))
  have f131 : Fld Z h122 pr0 "com/example/procord/procord/lock/LockMessage" "stamp" "J" (.long pj4) := (f116.other W122 (Or.inr (slot_ne (Or.inr (hw _ (List.mem_of_getElem? (i := 41) rfl))) (Or.inr (hw _ (List.mem_of_getElem? (i := 47) rfl))) (by decide) (t := .long) (t' := .long) (by decide) (by decide))))
  have f132 : Fld Z h122 pr0 "com/example/procord/procord/lock/LockMessage" "fencing" "J" (.long pj5) := (f117.other W122 (Or.inr (slot_ne (Or.inr (hw _ (List.mem_of_getElem? (i := 43) rfl))) (Or.inr (hw _ (List.mem_of_getElem? (i := 47) rfl))) (by decide) (t := .long) (t' := .long) (by decide) (by decide))))
  have f133 : Fld Z h122 pr0 "com/example/procord/procord/lock/LockMessage" "lease" "J" (.long pj6) := (f118.other W122 (Or.inr (slot_ne (Or.inr (hw _ (List.mem_of_getElem? (i := 45) rfl))) (Or.inr (hw _ (List.mem_of_getElem? (i := 47) rfl))) (by decide) (t := .long) (t' := .long) (by decide) (by decide))))
  have f134 : Fld Z h122 pr0 "com/example/procord/procord/lock/LockMessage" "waited" "J" (.long pj7) := f110.same W122
  have N135 := Fr.snoc X122 N119 G_pr0
  have O135 := O119.wr W122 G_pr0
  have K135 : Keep h0 h122 [pr0] := K119.wr W122 (Or.inl (List.mem_of_getElem? (i := 0) rfl))
  have hk136 : _ ≤ h122.size := Nat.le_trans hk120 (Nat.le_of_eq W122.size.symm)
  have pre137 : ∀ t, Steps p.tables e below (T122.setTop (mkF m 59 #[rv pr0, iv pi1, iv pi2, rv pr3, jv pj4, .second, jv pj5, .second, jv pj6, .second, jv pj7, .second, jv pj8, .second] [(.long pj8), (.ref pr0)])) t → Go t := fun t kt => pre123 t (by
      refine y_aloadN X122.here hx (hb hby d2_56) rfl rfl (pc' := 57) rfl ?_
      refine y_lload X122.here hx (hb hby d2_57) rfl (pc' := 59) rfl ?_
      exact kt)
  obtain ⟨T138, h138, X138, e138, W138, st138⟩ := putF X122 hx hZ hown (host := "") (Or.inl (hw _ (List.mem_of_getElem? (i := 48) rfl))) Via.refl e122 f126 f124 (Or.inr ⟨(hw _ (List.mem_of_getElem? (i := 49) rfl)), rfl, hnm⟩) (hw _ (List.mem_of_getElem? (i := 1) rfl)) (ty := .long) (by decide) rfl rfl (g := (mkF m 59 #[rv pr0, iv pi1, iv pi2, rv pr3, jv pj4, .second, jv pj5, .second, jv pj6, .second, jv pj7, .second, jv pj8, .second] [(.long pj8), (.ref pr0)])) rfl rfl (hb hby d2_59)
  have pre139 : ∀ t, Steps p.tables e below (T138.setTop (mkF m 62 #[rv pr0, iv pi1, iv pi2, rv pr3, jv pj4, .second, jv pj5, .second, jv pj6, .second, jv pj7, .second, jv pj8, .second] [])) t → Go t := fun t kt => pre137 t (st138 t kt)
  have f140 : Exa Z h138 pr0 "com/example/procord/procord/lock/LockMessage" := (f124.wr W138)
  have f142 : Exa Z h138 pr3 "com/example/procord/procord/lock/LockMessage$Kind" := (f127.wr W138)
  have f143 : Fld Z h138 pr0 "com/example/procord/procord/lock/LockMessage" "from" "I" (.int pi1) := (f128.other W138 (Or.inr (slot_ne (Or.inr (hw _ (List.mem_of_getElem? (i := 21) rfl))) (Or.inr (hw _ (List.mem_of_getElem? (i := 49) rfl))) (by decide) (t := .int) (t' := .long) (by decide) (by decide))))
  have f144 : Fld Z h138 pr0 "com/example/procord/procord/lock/LockMessage" "to" "I" (.int pi2) := (f129.other W138 (Or.inr (slot_ne (Or.inr (hw _ (List.mem_of_getElem? (i := 23) rfl))) (Or.inr (hw _ (List.mem_of_getElem? (i := 49) rfl))) (by decide) (t := .int) (t' := .long) (by decide) (by decide))))
  have f145 : Fld Z h138 pr0 "com/example/procord/procord/lock/LockMessage" "kind" "Lcom/example/procord/procord/lock/LockMessage$Kind;" (.ref pr3) := (f130.other W138 (Or.inr (slot_ne (Or.inr (hw _ (List.mem_of_getElem? (i := 39) rfl))) (Or.inr (hw _ (List.mem_of_getElem? (i := 49) rfl))) (by decide) (t := (.object "com/example/procord/procord/lock/LockMessage$Kind")) (t' := .long) (by decide) (by decide))))
  have f146 : Fld Z h138 pr0 "com/example/procord/procord/lock/LockMessage" "stamp" "J" (.long pj4) := (f131.other W138 (Or.inr (slot_ne (Or.inr (hw _ (List.mem_of_getElem? (i := 41) rfl))) (Or.inr (hw _ (List.mem_of_getElem? (i := 49) rfl))) (by decide) (t := .long) (t' := .long) (by decide) (by decide))))
  have f147 : Fld Z h138 pr0 "com/example/procord/procord/lock/LockMessage" "fencing" "J" (.long pj5) := (f132.other W138 (Or.inr (slot_ne (Or.inr (hw _ (List.mem_of_getElem? (i := 43) rfl))) (Or.inr (hw _ (List.mem_of_getElem? (i := 49) rfl))) (by decide) (t := .long) (t' := .long) (by decide) (by decide))))
  have f148 : Fld Z h138 pr0 "com/example/procord/procord/lock/LockMessage" "lease" "J" (.long pj6) := (f133.other W138 (Or.inr (slot_ne (Or.inr (hw _ (List.mem_of_getElem? (i := 45) rfl))) (Or.inr (hw _ (List.mem_of_getElem? (i := 49) rfl))) (by decide) (t := .long) (t' := .long) (by decide) (by decide))))
  have f149 : Fld Z h138 pr0 "com/example/procord/procord/lock/LockMessage" "waited" "J" (.long pj7) := (f134.other W138 (Or.inr (slot_ne (Or.inr (hw _ (List.mem_of_getElem? (i := 47) rfl))) (Or.inr (hw _ (List.mem_of_getElem? (i := 49) rfl))) (by decide) (t := .long) (t' := .long) (by decide) (by decide))))
  have f150 : Fld Z h138 pr0 "com/example/procord/procord/lock/LockMessage" "known" "J" (.long pj8) := f126.same W138
  have N151 := Fr.snoc X138 N135 G_pr0
  have O151 := O135.wr W138 G_pr0
  have K151 : Keep h0 h138 [pr0] := K135.wr W138 (Or.inl (List.mem_of_getElem? (i := 0) rfl))
  have hk152 : _ ≤ h138.size := Nat.le_trans hk136 (Nat.le_of_eq W138.size.symm)
  obtain ⟨fs, hr, hrun, hended, hRW⟩ := Stand.leaveW (s := s) (vm₁ := T41.vm) X138 hS41 (by rw [e138]; exact hk152) (v := none) (fun _ => rfl)
  refine ⟨_, _, (hGo _).mp (pre139 _ ?_), hrun, hended, _, _, rfl, ?_, hRW.1, hRW.2.1, hRW.2.2.1, hRW.2.2.2.mono (by decide) (by decide)⟩
  · exact X138.returnOut hx Bd.returns (hb hby d2_62) hr
  · show Q2 Z pr0 pi1 pi2 pr3 pj4 pj5 pj6 pj7 pj8 h0 n0 _ T138.heap _
    rw [e138]
    exact ⟨rfl, N151, K151, f143, f144, f145, f146, f147, f148, f149, f150⟩
theorem d6_0 : decode prog_36_method_14_code 0 = .ok (.aload_n 1, 1) := by decide +kernel
theorem d6_1 : decode prog_36_method_14_code 1 = .ok (.instanceof 4, 3) := by decide +kernel
theorem d6_4 : decode prog_36_method_14_code 4 = .ok (.ifCond .ne 5, 3) := by decide +kernel
theorem d6_9 : decode prog_36_method_14_code 9 = .ok (.aload_n 1, 1) := by decide +kernel
theorem d6_10 : decode prog_36_method_14_code 10 = .ok (.checkcast 4, 3) := by decide +kernel
theorem d6_13 : decode prog_36_method_14_code 13 = .ok (.astore_n 2, 1) := by decide +kernel
theorem d6_14 : decode prog_36_method_14_code 14 = .ok (.aload_n 0, 1) := by decide +kernel
theorem d6_15 : decode prog_36_method_14_code 15 = .ok (.getfield 26, 3) := by decide +kernel
theorem d6_18 : decode prog_36_method_14_code 18 = .ok (.aload_n 2, 1) := by decide +kernel
theorem d6_19 : decode prog_36_method_14_code 19 = .ok (.getfield 26, 3) := by decide +kernel
theorem d6_22 : decode prog_36_method_14_code 22 = .ok (.if_icmp .ne 89, 3) := by decide +kernel
theorem d6_25 : decode prog_36_method_14_code 25 = .ok (.aload_n 0, 1) := by decide +kernel
theorem d6_26 : decode prog_36_method_14_code 26 = .ok (.getfield 30, 3) := by decide +kernel
theorem d6_29 : decode prog_36_method_14_code 29 = .ok (.aload_n 2, 1) := by decide +kernel
theorem d6_30 : decode prog_36_method_14_code 30 = .ok (.getfield 30, 3) := by decide +kernel
theorem d6_33 : decode prog_36_method_14_code 33 = .ok (.if_icmp .ne 78, 3) := by decide +kernel
theorem d6_36 : decode prog_36_method_14_code 36 = .ok (.aload_n 0, 1) := by decide +kernel
theorem d6_37 : decode prog_36_method_14_code 37 = .ok (.getfield 43, 3) := by decide +kernel
theorem d6_40 : decode prog_36_method_14_code 40 = .ok (.aload_n 2, 1) := by decide +kernel
theorem d6_41 : decode prog_36_method_14_code 41 = .ok (.getfield 43, 3) := by decide +kernel
theorem d6_44 : decode prog_36_method_14_code 44 = .ok (.if_acmp .ne 67, 3) := by decide +kernel
theorem d6_47 : decode prog_36_method_14_code 47 = .ok (.aload_n 0, 1) := by decide +kernel
theorem d6_48 : decode prog_36_method_14_code 48 = .ok (.getfield 46, 3) := by decide +kernel
theorem d6_51 : decode prog_36_method_14_code 51 = .ok (.aload_n 2, 1) := by decide +kernel
theorem d6_52 : decode prog_36_method_14_code 52 = .ok (.getfield 46, 3) := by decide +kernel
theorem d6_55 : decode prog_36_method_14_code 55 = .ok (.lcmp, 1) := by decide +kernel
theorem d6_56 : decode prog_36_method_14_code 56 = .ok (.ifCond .ne 55, 3) := by decide +kernel
theorem d6_59 : decode prog_36_method_14_code 59 = .ok (.aload_n 0, 1) := by decide +kernel
theorem d6_60 : decode prog_36_method_14_code 60 = .ok (.getfield 50, 3) := by decide +kernel
theorem d6_63 : decode prog_36_method_14_code 63 = .ok (.aload_n 2, 1) := by decide +kernel
theorem d6_64 : decode prog_36_method_14_code 64 = .ok (.getfield 50, 3) := by decide +kernel
theorem d6_67 : decode prog_36_method_14_code 67 = .ok (.lcmp, 1) := by decide +kernel
theorem d6_68 : decode prog_36_method_14_code 68 = .ok (.ifCond .ne 43, 3) := by decide +kernel
theorem d6_71 : decode prog_36_method_14_code 71 = .ok (.aload_n 0, 1) := by decide +kernel
theorem d6_72 : decode prog_36_method_14_code 72 = .ok (.getfield 53, 3) := by decide +kernel
theorem d6_75 : decode prog_36_method_14_code 75 = .ok (.aload_n 2, 1) := by decide +kernel
theorem d6_76 : decode prog_36_method_14_code 76 = .ok (.getfield 53, 3) := by decide +kernel
theorem d6_79 : decode prog_36_method_14_code 79 = .ok (.lcmp, 1) := by decide +kernel
theorem d6_80 : decode prog_36_method_14_code 80 = .ok (.ifCond .ne 31, 3) := by decide +kernel
theorem d6_83 : decode prog_36_method_14_code 83 = .ok (.aload_n 0, 1) := by decide +kernel
theorem d6_84 : decode prog_36_method_14_code 84 = .ok (.getfield 56, 3) := by decide +kernel
theorem d6_87 : decode prog_36_method_14_code 87 = .ok (.aload_n 2, 1) := by decide +kernel
theorem d6_88 : decode prog_36_method_14_code 88 = .ok (.getfield 56, 3) := by decide +kernel
theorem d6_91 : decode prog_36_method_14_code 91 = .ok (.lcmp, 1) := by decide +kernel
theorem d6_92 : decode prog_36_method_14_code 92 = .ok (.ifCond .ne 19, 3) := by decide +kernel
theorem d6_95 : decode prog_36_method_14_code 95 = .ok (.aload_n 0, 1) := by decide +kernel
theorem d6_96 : decode prog_36_method_14_code 96 = .ok (.getfield 59, 3) := by decide +kernel
theorem d6_99 : decode prog_36_method_14_code 99 = .ok (.aload_n 2, 1) := by decide +kernel
theorem d6_100 : decode prog_36_method_14_code 100 = .ok (.getfield 59, 3) := by decide +kernel
theorem d6_103 : decode prog_36_method_14_code 103 = .ok (.lcmp, 1) := by decide +kernel
theorem d6_104 : decode prog_36_method_14_code 104 = .ok (.ifCond .ne 7, 3) := by decide +kernel
theorem d6_107 : decode prog_36_method_14_code 107 = .ok (.iconst 1, 1) := by decide +kernel
theorem d6_108 : decode prog_36_method_14_code 108 = .ok (.goto 4, 3) := by decide +kernel
theorem d6_111 : decode prog_36_method_14_code 111 = .ok (.iconst 0, 1) := by decide +kernel
theorem d6_112 : decode prog_36_method_14_code 112 = .ok (.ireturn, 1) := by decide +kernel
theorem ef_6 (m : MethodId) (x0 : Addr) (x1 : Addr) : entryFrame m #[(.ref x0), (.ref x1)] 3 = mkF m 0 #[rv x0, rv x1, .unset] [] := by first | (simp [entryFrame, mkF, argsToLocals, Value.category]; done) | rfl
def Q6 (Z : State) (pr0 : Addr) (pr1 : Addr) (u_from_pr0 : Int32) (u_to_pr0 : Int32) (u_kind_pr0 : Addr) (u_stamp_pr0 : Int64) (u_fencing_pr0 : Int64) (u_lease_pr0 : Int64) (u_waited_pr0 : Int64) (u_known_pr0 : Int64) (u_from_pr1 : Int32) (u_to_pr1 : Int32) (u_kind_pr1 : Addr) (u_stamp_pr1 : Int64) (u_fencing_pr1 : Int64) (u_lease_pr1 : Int64) (u_waited_pr1 : Int64) (u_known_pr1 : Int64) (h0 : Heap) (n0 : Nat) (v : Option Value) (h : Heap) (L : List Loc) : Prop := v = some (.int (if u_from_pr0 = u_from_pr1 then (if u_to_pr0 = u_to_pr1 then (if u_kind_pr0 = u_kind_pr1 then (if u_stamp_pr0 = u_stamp_pr1 then (if u_fencing_pr0 = u_fencing_pr1 then (if u_lease_pr0 = u_lease_pr1 then (if u_waited_pr0 = u_waited_pr1 then (if u_known_pr0 = u_known_pr1 then (1 : Int32) else (0 : Int32)) else (0 : Int32)) else (0 : Int32)) else (0 : Int32)) else (0 : Int32)) else (0 : Int32)) else (0 : Int32)) else (0 : Int32))) ∧ Fr n0 L ∧ h = h0
set_option maxRecDepth 65536 in
set_option maxHeartbeats 40000000 in
theorem rm6 (l : Launch) (Z : State) (a0 : Array Value) (hw : ∀ d ∈ tables_1, d.before a0 Z = true) (ws : List Jvm.Cond) (pr0 : Addr) (pr1 : Addr) (u_from_pr0 : Int32) (u_to_pr0 : Int32) (u_kind_pr0 : Addr) (u_stamp_pr0 : Int64) (u_fencing_pr0 : Int64) (u_lease_pr0 : Int64) (u_waited_pr0 : Int64) (u_known_pr0 : Int64) (u_from_pr1 : Int32) (u_to_pr1 : Int32) (u_kind_pr1 : Addr) (u_stamp_pr1 : Int64) (u_fencing_pr1 : Int64) (u_lease_pr1 : Int64) (u_waited_pr1 : Int64) (u_known_pr1 : Int64) (h0 : Heap) (n0 : Nat) (O0 : Old Z n0 h0) (E_pr0 : Exa Z h0 pr0 "com/example/procord/procord/lock/LockMessage") (F_from_pr0 : Fld Z h0 pr0 "com/example/procord/procord/lock/LockMessage" "from" "I" (.int u_from_pr0)) (F_to_pr0 : Fld Z h0 pr0 "com/example/procord/procord/lock/LockMessage" "to" "I" (.int u_to_pr0)) (F_kind_pr0 : Fld Z h0 pr0 "com/example/procord/procord/lock/LockMessage" "kind" "Lcom/example/procord/procord/lock/LockMessage$Kind;" (.ref u_kind_pr0)) (F_stamp_pr0 : Fld Z h0 pr0 "com/example/procord/procord/lock/LockMessage" "stamp" "J" (.long u_stamp_pr0)) (F_fencing_pr0 : Fld Z h0 pr0 "com/example/procord/procord/lock/LockMessage" "fencing" "J" (.long u_fencing_pr0)) (F_lease_pr0 : Fld Z h0 pr0 "com/example/procord/procord/lock/LockMessage" "lease" "J" (.long u_lease_pr0)) (F_waited_pr0 : Fld Z h0 pr0 "com/example/procord/procord/lock/LockMessage" "waited" "J" (.long u_waited_pr0)) (F_known_pr0 : Fld Z h0 pr0 "com/example/procord/procord/lock/LockMessage" "known" "J" (.long u_known_pr0)) (E_pr1 : Exa Z h0 pr1 "com/example/procord/procord/lock/LockMessage") (F_from_pr1 : Fld Z h0 pr1 "com/example/procord/procord/lock/LockMessage" "from" "I" (.int u_from_pr1)) (F_to_pr1 : Fld Z h0 pr1 "com/example/procord/procord/lock/LockMessage" "to" "I" (.int u_to_pr1)) (F_kind_pr1 : Fld Z h0 pr1 "com/example/procord/procord/lock/LockMessage" "kind" "Lcom/example/procord/procord/lock/LockMessage$Kind;" (.ref u_kind_pr1)) (F_stamp_pr1 : Fld Z h0 pr1 "com/example/procord/procord/lock/LockMessage" "stamp" "J" (.long u_stamp_pr1)) (F_fencing_pr1 : Fld Z h0 pr1 "com/example/procord/procord/lock/LockMessage" "fencing" "J" (.long u_fencing_pr1)) (F_lease_pr1 : Fld Z h0 pr1 "com/example/procord/procord/lock/LockMessage" "lease" "J" (.long u_lease_pr1)) (F_waited_pr1 : Fld Z h0 pr1 "com/example/procord/procord/lock/LockMessage" "waited" "J" (.long u_waited_pr1)) (F_known_pr1 : Fld Z h0 pr1 "com/example/procord/procord/lock/LockMessage" "known" "J" (.long u_known_pr1)) :
    MetFree l (⟨"com/example/procord/procord/lock/LockMessage", "equals", "(Ljava/lang/Object;)Z"⟩ : MethodName) (head1 (Jvm.Cond.code (⟨"com/example/procord/procord/lock/LockMessage", "equals", "(Ljava/lang/Object;)Z"⟩ : MethodName) prog_36_method_14_code 3 (some .boolean) :: ws) ({ frames := 0, cells := 0, slots := 0, locals := 0 } : Room)) (fun a U => a = #[(.ref pr0), (.ref pr1)] ∧ Z.Warmed39 U.vm ∧ U.heap = h0) (fun _ _ _ _ _ => True) (fun _ U o U' => ∃ v L, o = .returned v ∧ Q6 Z pr0 pr1 u_from_pr0 u_to_pr0 u_kind_pr0 u_stamp_pr0 u_fencing_pr0 u_lease_pr0 u_waited_pr0 u_known_pr0 u_from_pr1 u_to_pr1 u_kind_pr1 u_stamp_pr1 u_fencing_pr1 u_lease_pr1 u_waited_pr1 u_known_pr1 h0 n0 v U'.heap L ∧ FrameEnd U o U' L ({ frames := 0, cells := 0, slots := 0, locals := 0 } : Room).cells ({ frames := 0, cells := 0, slots := 0, locals := 0 } : Room).slots) := by
  refine MetFree.of_bodySF (plainFor_of_name pn_com_example_procord_procord_lock_LockMessage) hisR ?_
  intro p e s m args below meth c s₁ Bd hml0 hP hK
  obtain ⟨rfl, hZ, hh⟩ := hP
  have hx := Bd.exec
  have hby := Bd.bytes
  have hml : c.maxLocals = 3 := hml0
  have hown : s.vm.findClass "com/example/procord/procord/lock/LockMessage" = some m.cls := findClass_of_methodNamed Bd.named
  have hnm := (name_of_methodNamed Bd.named Bd.method).1
  have X0 : Stand p l e ({ frames := 0, cells := 0, slots := 0, locals := 0 } : Room) s m #[(.ref pr0), (.ref pr1)] below meth c s₁ [] 0 0 := Stand.of_body Bd
  have e0 : s₁.heap = h0 := by rw [← hh, Bd.state]; rfl
  have N0 := Fr.nil n0
  obtain ⟨Go, hGo⟩ : ∃ P : State → Prop, ∀ t, P t ↔ Steps p.tables e below (s₁.setTop (entryFrame m #[(.ref pr0), (.ref pr1)] 3)) t := ⟨_, fun _ => Iff.rfl⟩
  have pre0 : ∀ t, Steps p.tables e below (s₁.setTop (mkF m 0 #[rv pr0, rv pr1, .unset] [])) t → Go t := fun t k => (hGo t).mpr (castTop (ef_6 m pr0 pr1) k)
  have pre1 : ∀ t, Steps p.tables e below (s₁.setTop (mkF m 1 #[rv pr0, rv pr1, .unset] [(.ref pr1)])) t → Go t := fun t kt => pre0 t (by
      refine y_aloadN X0.here hx (hb hby d6_0) rfl rfl (pc' := 1) rfl ?_
      exact kt)
  obtain ⟨T2, X2, e2, st2⟩ := instY X0 hx hZ hown (hw _ (List.mem_of_getElem? (i := 55) rfl)) e0 (Ins.self E_pr1) (g := (mkF m 1 #[rv pr0, rv pr1, .unset] [(.ref pr1)])) rfl rfl (hb hby d6_1)
  have pre3 : ∀ t, Steps p.tables e below (T2.setTop (mkF m 4 #[rv pr0, rv pr1, .unset] [(.int (1 : Int32))])) t → Go t := fun t kt => pre1 t (st2 t kt)
  have pre4 : ∀ t, Steps p.tables e below (T2.setTop (mkF m 10 #[rv pr0, rv pr1, .unset] [(.ref pr1)])) t → Go t := fun t kt => pre3 t (by
      refine y_ifYes X2.here hx (hb hby d6_4) ((if0 _ _).trans (feq (by decide : ¬ ((1 : Int32) = (0 : Int32)))).2) (pc' := 9) (by decide) rfl ?_
      refine y_aloadN X2.here hx (hb hby d6_9) rfl rfl (pc' := 10) rfl ?_
      exact kt)
  obtain ⟨T5, X5, e5, st5⟩ := castY X2 hx hZ hown (hw _ (List.mem_of_getElem? (i := 55) rfl)) e2 (Ins.self E_pr1) (g := (mkF m 10 #[rv pr0, rv pr1, .unset] [(.ref pr1)])) rfl rfl (hb hby d6_10)
  have pre6 : ∀ t, Steps p.tables e below (T5.setTop (mkF m 13 #[rv pr0, rv pr1, .unset] [(.ref pr1)])) t → Go t := fun t kt => pre4 t (st5 t kt)
  have pre7 : ∀ t, Steps p.tables e below (T5.setTop (mkF m 15 #[rv pr0, rv pr1, rv pr1] [(.ref pr0)])) t → Go t := fun t kt => pre6 t (by
      refine y_astoreN X5.here hx (hb hby d6_13) rfl (l' := #[rv pr0, rv pr1, rv pr1]) rfl (pc' := 14) rfl ?_
      refine y_aloadN X5.here hx (hb hby d6_14) rfl rfl (pc' := 15) rfl ?_
      exact kt)
  obtain ⟨T8, X8, e8, st8⟩ := getF X5 hx hZ hown (host := "") (Or.inl (hw _ (List.mem_of_getElem? (i := 20) rfl))) Via.refl e5 F_from_pr0 (g := (mkF m 15 #[rv pr0, rv pr1, rv pr1] [(.ref pr0)])) rfl rfl (hb hby d6_15)
  have pre9 : ∀ t, Steps p.tables e below (T8.setTop (mkF m 18 #[rv pr0, rv pr1, rv pr1] [(.int u_from_pr0)])) t → Go t := fun t kt => pre7 t (st8 t kt)
  have pre10 : ∀ t, Steps p.tables e below (T8.setTop (mkF m 19 #[rv pr0, rv pr1, rv pr1] [(.ref pr1), (.int u_from_pr0)])) t → Go t := fun t kt => pre9 t (by
      refine y_aloadN X8.here hx (hb hby d6_18) rfl rfl (pc' := 19) rfl ?_
      exact kt)
  obtain ⟨T11, X11, e11, st11⟩ := getF X8 hx hZ hown (host := "") (Or.inl (hw _ (List.mem_of_getElem? (i := 20) rfl))) Via.refl e8 F_from_pr1 (g := (mkF m 19 #[rv pr0, rv pr1, rv pr1] [(.ref pr1), (.int u_from_pr0)])) rfl rfl (hb hby d6_19)
  have pre12 : ∀ t, Steps p.tables e below (T11.setTop (mkF m 22 #[rv pr0, rv pr1, rv pr1] [(.int u_from_pr1), (.int u_from_pr0)])) t → Go t := fun t kt => pre10 t (st11 t kt)
  by_cases hc22_13 : u_from_pr0 = u_from_pr1
  · have pre14 : ∀ t, Steps p.tables e below (T11.setTop (mkF m 26 #[rv pr0, rv pr1, rv pr1] [(.ref pr0)])) t → Go t := fun t kt => pre12 t (by
        refine y_icmpNo X11.here hx (hb hby d6_22) (teq hc22_13).2 (pc' := 25) rfl ?_
        refine y_aloadN X11.here hx (hb hby d6_25) rfl rfl (pc' := 26) rfl ?_
        exact kt)
    obtain ⟨T15, X15, e15, st15⟩ := getF X11 hx hZ hown (host := "") (Or.inl (hw _ (List.mem_of_getElem? (i := 22) rfl))) Via.refl e11 F_to_pr0 (g := (mkF m 26 #[rv pr0, rv pr1, rv pr1] [(.ref pr0)])) rfl rfl (hb hby d6_26)
    have pre16 : ∀ t, Steps p.tables e below (T15.setTop (mkF m 29 #[rv pr0, rv pr1, rv pr1] [(.int u_to_pr0)])) t → Go t := fun t kt => pre14 t (st15 t kt)
    have pre17 : ∀ t, Steps p.tables e below (T15.setTop (mkF m 30 #[rv pr0, rv pr1, rv pr1] [(.ref pr1), (.int u_to_pr0)])) t → Go t := fun t kt => pre16 t (by
        refine y_aloadN X15.here hx (hb hby d6_29) rfl rfl (pc' := 30) rfl ?_
        exact kt)
    obtain ⟨T18, X18, e18, st18⟩ := getF X15 hx hZ hown (host := "") (Or.inl (hw _ (List.mem_of_getElem? (i := 22) rfl))) Via.refl e15 F_to_pr1 (g := (mkF m 30 #[rv pr0, rv pr1, rv pr1] [(.ref pr1), (.int u_to_pr0)])) rfl rfl (hb hby d6_30)
    have pre19 : ∀ t, Steps p.tables e below (T18.setTop (mkF m 33 #[rv pr0, rv pr1, rv pr1] [(.int u_to_pr1), (.int u_to_pr0)])) t → Go t := fun t kt => pre17 t (st18 t kt)
    by_cases hc33_20 : u_to_pr0 = u_to_pr1
    · have pre21 : ∀ t, Steps p.tables e below (T18.setTop (mkF m 37 #[rv pr0, rv pr1, rv pr1] [(.ref pr0)])) t → Go t := fun t kt => pre19 t (by
          refine y_icmpNo X18.here hx (hb hby d6_33) (teq hc33_20).2 (pc' := 36) rfl ?_
          refine y_aloadN X18.here hx (hb hby d6_36) rfl rfl (pc' := 37) rfl ?_
          exact kt)
      obtain ⟨T22, X22, e22, st22⟩ := getF X18 hx hZ hown (host := "") (Or.inl (hw _ (List.mem_of_getElem? (i := 38) rfl))) Via.refl e18 F_kind_pr0 (g := (mkF m 37 #[rv pr0, rv pr1, rv pr1] [(.ref pr0)])) rfl rfl (hb hby d6_37)
      have pre23 : ∀ t, Steps p.tables e below (T22.setTop (mkF m 40 #[rv pr0, rv pr1, rv pr1] [(.ref u_kind_pr0)])) t → Go t := fun t kt => pre21 t (st22 t kt)
      have pre24 : ∀ t, Steps p.tables e below (T22.setTop (mkF m 41 #[rv pr0, rv pr1, rv pr1] [(.ref pr1), (.ref u_kind_pr0)])) t → Go t := fun t kt => pre23 t (by
          refine y_aloadN X22.here hx (hb hby d6_40) rfl rfl (pc' := 41) rfl ?_
          exact kt)
      obtain ⟨T25, X25, e25, st25⟩ := getF X22 hx hZ hown (host := "") (Or.inl (hw _ (List.mem_of_getElem? (i := 38) rfl))) Via.refl e22 F_kind_pr1 (g := (mkF m 41 #[rv pr0, rv pr1, rv pr1] [(.ref pr1), (.ref u_kind_pr0)])) rfl rfl (hb hby d6_41)
      have pre26 : ∀ t, Steps p.tables e below (T25.setTop (mkF m 44 #[rv pr0, rv pr1, rv pr1] [(.ref u_kind_pr1), (.ref u_kind_pr0)])) t → Go t := fun t kt => pre24 t (st25 t kt)
      by_cases hc44_27 : u_kind_pr0 = u_kind_pr1
      · have pre28 : ∀ t, Steps p.tables e below (T25.setTop (mkF m 48 #[rv pr0, rv pr1, rv pr1] [(.ref pr0)])) t → Go t := fun t kt => pre26 t (by
            refine Jvm.RoadKit.acmp (g := (mkF m 44 #[rv pr0, rv pr1, rv pr1] [(.ref u_kind_pr1), (.ref u_kind_pr0)])) X25 hx rfl rfl rfl (pc0 := 44) (pc' := 47) (same := true) rfl (hb hby d6_44) rfl (decide_eq_true (congrArg Value.ref hc44_27)) (by decide) (by decide) ?_
            show Steps p.tables e below (T25.setTop (mkF m 47 #[rv pr0, rv pr1, rv pr1] [])) _
            refine y_aloadN X25.here hx (hb hby d6_47) rfl rfl (pc' := 48) rfl ?_
            exact kt)
        obtain ⟨T29, X29, e29, st29⟩ := getF X25 hx hZ hown (host := "") (Or.inl (hw _ (List.mem_of_getElem? (i := 40) rfl))) Via.refl e25 F_stamp_pr0 (g := (mkF m 48 #[rv pr0, rv pr1, rv pr1] [(.ref pr0)])) rfl rfl (hb hby d6_48)
        have pre30 : ∀ t, Steps p.tables e below (T29.setTop (mkF m 51 #[rv pr0, rv pr1, rv pr1] [(.long u_stamp_pr0)])) t → Go t := fun t kt => pre28 t (st29 t kt)
        have pre31 : ∀ t, Steps p.tables e below (T29.setTop (mkF m 52 #[rv pr0, rv pr1, rv pr1] [(.ref pr1), (.long u_stamp_pr0)])) t → Go t := fun t kt => pre30 t (by
            refine y_aloadN X29.here hx (hb hby d6_51) rfl rfl (pc' := 52) rfl ?_
            exact kt)
        obtain ⟨T32, X32, e32, st32⟩ := getF X29 hx hZ hown (host := "") (Or.inl (hw _ (List.mem_of_getElem? (i := 40) rfl))) Via.refl e29 F_stamp_pr1 (g := (mkF m 52 #[rv pr0, rv pr1, rv pr1] [(.ref pr1), (.long u_stamp_pr0)])) rfl rfl (hb hby d6_52)
        have pre33 : ∀ t, Steps p.tables e below (T32.setTop (mkF m 55 #[rv pr0, rv pr1, rv pr1] [(.long u_stamp_pr1), (.long u_stamp_pr0)])) t → Go t := fun t kt => pre31 t (st32 t kt)
        have pre34 : ∀ t, Steps p.tables e below (T32.setTop (mkF m 56 #[rv pr0, rv pr1, rv pr1] [(.int (lcmpW u_stamp_pr0 u_stamp_pr1))])) t → Go t := fun t kt => pre33 t (by
            refine y_lcmp X32.here hx (hb hby d6_55) (pc' := 56) rfl ?_
            exact kt)
        by_cases hc56_35 : u_stamp_pr0 = u_stamp_pr1
        · have pre36 : ∀ t, Steps p.tables e below (T32.setTop (mkF m 60 #[rv pr0, rv pr1, rv pr1] [(.ref pr0)])) t → Go t := fun t kt => pre34 t (by
              refine y_ifNo X32.here hx (hb hby d6_56) ((if0 _ _).trans (teq (lq_eq hc56_35)).2) (pc' := 59) rfl ?_
              refine y_aloadN X32.here hx (hb hby d6_59) rfl rfl (pc' := 60) rfl ?_
              exact kt)
          obtain ⟨T37, X37, e37, st37⟩ := getF X32 hx hZ hown (host := "") (Or.inl (hw _ (List.mem_of_getElem? (i := 42) rfl))) Via.refl e32 F_fencing_pr0 (g := (mkF m 60 #[rv pr0, rv pr1, rv pr1] [(.ref pr0)])) rfl rfl (hb hby d6_60)
          have pre38 : ∀ t, Steps p.tables e below (T37.setTop (mkF m 63 #[rv pr0, rv pr1, rv pr1] [(.long u_fencing_pr0)])) t → Go t := fun t kt => pre36 t (st37 t kt)
          have pre39 : ∀ t, Steps p.tables e below (T37.setTop (mkF m 64 #[rv pr0, rv pr1, rv pr1] [(.ref pr1), (.long u_fencing_pr0)])) t → Go t := fun t kt => pre38 t (by
              refine y_aloadN X37.here hx (hb hby d6_63) rfl rfl (pc' := 64) rfl ?_
              exact kt)
          obtain ⟨T40, X40, e40, st40⟩ := getF X37 hx hZ hown (host := "") (Or.inl (hw _ (List.mem_of_getElem? (i := 42) rfl))) Via.refl e37 F_fencing_pr1 (g := (mkF m 64 #[rv pr0, rv pr1, rv pr1] [(.ref pr1), (.long u_fencing_pr0)])) rfl rfl (hb hby d6_64)
          have pre41 : ∀ t, Steps p.tables e below (T40.setTop (mkF m 67 #[rv pr0, rv pr1, rv pr1] [(.long u_fencing_pr1), (.long u_fencing_pr0)])) t → Go t := fun t kt => pre39 t (st40 t kt)
          have pre42 : ∀ t, Steps p.tables e below (T40.setTop (mkF m 68 #[rv pr0, rv pr1, rv pr1] [(.int (lcmpW u_fencing_pr0 u_fencing_pr1))])) t → Go t := fun t kt => pre41 t (by
              refine y_lcmp X40.here hx (hb hby d6_67) (pc' := 68) rfl ?_
              exact kt)
          by_cases hc68_43 : u_fencing_pr0 = u_fencing_pr1
          · have pre44 : ∀ t, Steps p.tables e below (T40.setTop (mkF m 72 #[rv pr0, rv pr1, rv pr1] [(.ref pr0)])) t → Go t := fun t kt => pre42 t (by
                refine y_ifNo X40.here hx (hb hby d6_68) ((if0 _ _).trans (teq (lq_eq hc68_43)).2) (pc' := 71) rfl ?_
                refine y_aloadN X40.here hx (hb hby d6_71) rfl rfl (pc' := 72) rfl ?_
                exact kt)
            obtain ⟨T45, X45, e45, st45⟩ := getF X40 hx hZ hown (host := "") (Or.inl (hw _ (List.mem_of_getElem? (i := 44) rfl))) Via.refl e40 F_lease_pr0 (g := (mkF m 72 #[rv pr0, rv pr1, rv pr1] [(.ref pr0)])) rfl rfl (hb hby d6_72)
            have pre46 : ∀ t, Steps p.tables e below (T45.setTop (mkF m 75 #[rv pr0, rv pr1, rv pr1] [(.long u_lease_pr0)])) t → Go t := fun t kt => pre44 t (st45 t kt)
            have pre47 : ∀ t, Steps p.tables e below (T45.setTop (mkF m 76 #[rv pr0, rv pr1, rv pr1] [(.ref pr1), (.long u_lease_pr0)])) t → Go t := fun t kt => pre46 t (by
                refine y_aloadN X45.here hx (hb hby d6_75) rfl rfl (pc' := 76) rfl ?_
                exact kt)
            obtain ⟨T48, X48, e48, st48⟩ := getF X45 hx hZ hown (host := "") (Or.inl (hw _ (List.mem_of_getElem? (i := 44) rfl))) Via.refl e45 F_lease_pr1 (g := (mkF m 76 #[rv pr0, rv pr1, rv pr1] [(.ref pr1), (.long u_lease_pr0)])) rfl rfl (hb hby d6_76)
            have pre49 : ∀ t, Steps p.tables e below (T48.setTop (mkF m 79 #[rv pr0, rv pr1, rv pr1] [(.long u_lease_pr1), (.long u_lease_pr0)])) t → Go t := fun t kt => pre47 t (st48 t kt)
            have pre50 : ∀ t, Steps p.tables e below (T48.setTop (mkF m 80 #[rv pr0, rv pr1, rv pr1] [(.int (lcmpW u_lease_pr0 u_lease_pr1))])) t → Go t := fun t kt => pre49 t (by
                refine y_lcmp X48.here hx (hb hby d6_79) (pc' := 80) rfl ?_
                exact kt)
            by_cases hc80_51 : u_lease_pr0 = u_lease_pr1
            · have pre52 : ∀ t, Steps p.tables e below (T48.setTop (mkF m 84 #[rv pr0, rv pr1, rv pr1] [(.ref pr0)])) t → Go t := fun t kt => pre50 t (by
                  refine y_ifNo X48.here hx (hb hby d6_80) ((if0 _ _).trans (teq (lq_eq hc80_51)).2) (pc' := 83) rfl ?_
                  refine y_aloadN X48.here hx (hb hby d6_83) rfl rfl (pc' := 84) rfl ?_
                  exact kt)
              obtain ⟨T53, X53, e53, st53⟩ := getF X48 hx hZ hown (host := "") (Or.inl (hw _ (List.mem_of_getElem? (i := 46) rfl))) Via.refl e48 F_waited_pr0 (g := (mkF m 84 #[rv pr0, rv pr1, rv pr1] [(.ref pr0)])) rfl rfl (hb hby d6_84)
              have pre54 : ∀ t, Steps p.tables e below (T53.setTop (mkF m 87 #[rv pr0, rv pr1, rv pr1] [(.long u_waited_pr0)])) t → Go t := fun t kt => pre52 t (st53 t kt)
              have pre55 : ∀ t, Steps p.tables e below (T53.setTop (mkF m 88 #[rv pr0, rv pr1, rv pr1] [(.ref pr1), (.long u_waited_pr0)])) t → Go t := fun t kt => pre54 t (by
                  refine y_aloadN X53.here hx (hb hby d6_87) rfl rfl (pc' := 88) rfl ?_
                  exact kt)
              obtain ⟨T56, X56, e56, st56⟩ := getF X53 hx hZ hown (host := "") (Or.inl (hw _ (List.mem_of_getElem? (i := 46) rfl))) Via.refl e53 F_waited_pr1 (g := (mkF m 88 #[rv pr0, rv pr1, rv pr1] [(.ref pr1), (.long u_waited_pr0)])) rfl rfl (hb hby d6_88)
              have pre57 : ∀ t, Steps p.tables e below (T56.setTop (mkF m 91 #[rv pr0, rv pr1, rv pr1] [(.long u_waited_pr1), (.long u_waited_pr0)])) t → Go t := fun t kt => pre55 t (st56 t kt)
              have pre58 : ∀ t, Steps p.tables e below (T56.setTop (mkF m 92 #[rv pr0, rv pr1, rv pr1] [(.int (lcmpW u_waited_pr0 u_waited_pr1))])) t → Go t := fun t kt => pre57 t (by
                  refine y_lcmp X56.here hx (hb hby d6_91) (pc' := 92) rfl ?_
                  exact kt)
              by_cases hc92_59 : u_waited_pr0 = u_waited_pr1
              · have pre60 : ∀ t, Steps p.tables e below (T56.setTop (mkF m 96 #[rv pr0, rv pr1, rv pr1] [(.ref pr0)])) t → Go t := fun t kt => pre58 t (by
                    refine y_ifNo X56.here hx (hb hby d6_92) ((if0 _ _).trans (teq (lq_eq hc92_59)).2) (pc' := 95) rfl ?_
                    refine y_aloadN X56.here hx (hb hby d6_95) rfl rfl (pc' := 96) rfl ?_
                    exact kt)
                obtain ⟨T61, X61, e61, st61⟩ := getF X56 hx hZ hown (host := "") (Or.inl (hw _ (List.mem_of_getElem? (i := 48) rfl))) Via.refl e56 F_known_pr0 (g := (mkF m 96 #[rv pr0, rv pr1, rv pr1] [(.ref pr0)])) rfl rfl (hb hby d6_96)
                have pre62 : ∀ t, Steps p.tables e below (T61.setTop (mkF m 99 #[rv pr0, rv pr1, rv pr1] [(.long u_known_pr0)])) t → Go t := fun t kt => pre60 t (st61 t kt)
                have pre63 : ∀ t, Steps p.tables e below (T61.setTop (mkF m 100 #[rv pr0, rv pr1, rv pr1] [(.ref pr1), (.long u_known_pr0)])) t → Go t := fun t kt => pre62 t (by
                    refine y_aloadN X61.here hx (hb hby d6_99) rfl rfl (pc' := 100) rfl ?_
                    exact kt)
                obtain ⟨T64, X64, e64, st64⟩ := getF X61 hx hZ hown (host := "") (Or.inl (hw _ (List.mem_of_getElem? (i := 48) rfl))) Via.refl e61 F_known_pr1 (g := (mkF m 100 #[rv pr0, rv pr1, rv pr1] [(.ref pr1), (.long u_known_pr0)])) rfl rfl (hb hby d6_100)
                have pre65 : ∀ t, Steps p.tables e below (T64.setTop (mkF m 103 #[rv pr0, rv pr1, rv pr1] [(.long u_known_pr1), (.long u_known_pr0)])) t → Go t := fun t kt => pre63 t (st64 t kt)
                have pre66 : ∀ t, Steps p.tables e below (T64.setTop (mkF m 104 #[rv pr0, rv pr1, rv pr1] [(.int (lcmpW u_known_pr0 u_known_pr1))])) t → Go t := fun t kt => pre65 t (by
                    refine y_lcmp X64.here hx (hb hby d6_103) (pc' := 104) rfl ?_
                    exact kt)
                by_cases hc104_67 : u_known_pr0 = u_known_pr1
                · have pre68 : ∀ t, Steps p.tables e below (T64.setTop (mkF m 112 #[rv pr0, rv pr1, rv pr1] [(.int (1 : Int32))])) t → Go t := fun t kt => pre66 t (by
                      refine y_ifNo X64.here hx (hb hby d6_104) ((if0 _ _).trans (teq (lq_eq hc104_67)).2) (pc' := 107) rfl ?_
                      refine y_iconst X64.here hx (hb hby d6_107) (v := (1 : Int32)) rfl (pc' := 108) rfl ?_
                      refine y_goto X64.here hx (hb hby d6_108) (pc' := 112) (by decide) rfl ?_
                      exact kt)
                  obtain ⟨fs, hr, hrun, hended, hW, hsame⟩ := X64.leave (v := some (.int (1 : Int32))) (fun h => by rw [Bd.returns] at h; cases h)
                  refine ⟨_, _, (hGo _).mp (pre68 _ ?_), hrun, hended, _, _, rfl, ?_, ⟨_, rfl⟩, hW, hsame.mono (by decide) (by decide)⟩
                  · exact retN X64 hx (t := .boolean) Bd.returns (by simp) (hb hby d6_112) hr
                  · show Q6 Z pr0 pr1 u_from_pr0 u_to_pr0 u_kind_pr0 u_stamp_pr0 u_fencing_pr0 u_lease_pr0 u_waited_pr0 u_known_pr0 u_from_pr1 u_to_pr1 u_kind_pr1 u_stamp_pr1 u_fencing_pr1 u_lease_pr1 u_waited_pr1 u_known_pr1 h0 n0 _ T64.heap _
                    rw [e64]
                    exact ⟨(by first | (simp only [if_pos hc22_13, if_pos hc33_20, if_pos hc44_27, if_pos hc56_35, if_pos hc68_43, if_pos hc80_51, if_pos hc92_59, if_pos hc104_67]; done) | (simp only [if_pos hc22_13, if_pos hc33_20, if_pos hc44_27, if_pos hc56_35, if_pos hc68_43, if_pos hc80_51, if_pos hc92_59, if_pos hc104_67]; exact rfl) | exact rfl), N0, rfl⟩
                · have pre69 : ∀ t, Steps p.tables e below (T64.setTop (mkF m 112 #[rv pr0, rv pr1, rv pr1] [(.int (0 : Int32))])) t → Go t := fun t kt => pre66 t (by
                      refine y_ifYes X64.here hx (hb hby d6_104) ((if0 _ _).trans (feq (lq_ne hc104_67)).2) (pc' := 111) (by decide) rfl ?_
                      refine y_iconst X64.here hx (hb hby d6_111) (v := (0 : Int32)) rfl (pc' := 112) rfl ?_
                      exact kt)
                  obtain ⟨fs, hr, hrun, hended, hW, hsame⟩ := X64.leave (v := some (.int (0 : Int32))) (fun h => by rw [Bd.returns] at h; cases h)
                  refine ⟨_, _, (hGo _).mp (pre69 _ ?_), hrun, hended, _, _, rfl, ?_, ⟨_, rfl⟩, hW, hsame.mono (by decide) (by decide)⟩
                  · exact retN X64 hx (t := .boolean) Bd.returns (by simp) (hb hby d6_112) hr
                  · show Q6 Z pr0 pr1 u_from_pr0 u_to_pr0 u_kind_pr0 u_stamp_pr0 u_fencing_pr0 u_lease_pr0 u_waited_pr0 u_known_pr0 u_from_pr1 u_to_pr1 u_kind_pr1 u_stamp_pr1 u_fencing_pr1 u_lease_pr1 u_waited_pr1 u_known_pr1 h0 n0 _ T64.heap _
                    rw [e64]
                    exact ⟨(by first | (simp only [if_pos hc22_13, if_pos hc33_20, if_pos hc44_27, if_pos hc56_35, if_pos hc68_43, if_pos hc80_51, if_pos hc92_59, if_neg hc104_67]; done) | (simp only [if_pos hc22_13, if_pos hc33_20, if_pos hc44_27, if_pos hc56_35, if_pos hc68_43, if_pos hc80_51, if_pos hc92_59, if_neg hc104_67]; exact rfl) | exact rfl), N0, rfl⟩
              · have pre70 : ∀ t, Steps p.tables e below (T56.setTop (mkF m 112 #[rv pr0, rv pr1, rv pr1] [(.int (0 : Int32))])) t → Go t := fun t kt => pre58 t (by
                    refine y_ifYes X56.here hx (hb hby d6_92) ((if0 _ _).trans (feq (lq_ne hc92_59)).2) (pc' := 111) (by decide) rfl ?_
                    refine y_iconst X56.here hx (hb hby d6_111) (v := (0 : Int32)) rfl (pc' := 112) rfl ?_
                    exact kt)
                obtain ⟨fs, hr, hrun, hended, hW, hsame⟩ := X56.leave (v := some (.int (0 : Int32))) (fun h => by rw [Bd.returns] at h; cases h)
                refine ⟨_, _, (hGo _).mp (pre70 _ ?_), hrun, hended, _, _, rfl, ?_, ⟨_, rfl⟩, hW, hsame.mono (by decide) (by decide)⟩
                · exact retN X56 hx (t := .boolean) Bd.returns (by simp) (hb hby d6_112) hr
                · show Q6 Z pr0 pr1 u_from_pr0 u_to_pr0 u_kind_pr0 u_stamp_pr0 u_fencing_pr0 u_lease_pr0 u_waited_pr0 u_known_pr0 u_from_pr1 u_to_pr1 u_kind_pr1 u_stamp_pr1 u_fencing_pr1 u_lease_pr1 u_waited_pr1 u_known_pr1 h0 n0 _ T56.heap _
                  rw [e56]
                  exact ⟨(by first | (simp only [if_pos hc22_13, if_pos hc33_20, if_pos hc44_27, if_pos hc56_35, if_pos hc68_43, if_pos hc80_51, if_neg hc92_59]; done) | (simp only [if_pos hc22_13, if_pos hc33_20, if_pos hc44_27, if_pos hc56_35, if_pos hc68_43, if_pos hc80_51, if_neg hc92_59]; exact rfl) | exact rfl), N0, rfl⟩
            · have pre71 : ∀ t, Steps p.tables e below (T48.setTop (mkF m 112 #[rv pr0, rv pr1, rv pr1] [(.int (0 : Int32))])) t → Go t := fun t kt => pre50 t (by
                  refine y_ifYes X48.here hx (hb hby d6_80) ((if0 _ _).trans (feq (lq_ne hc80_51)).2) (pc' := 111) (by decide) rfl ?_
                  refine y_iconst X48.here hx (hb hby d6_111) (v := (0 : Int32)) rfl (pc' := 112) rfl ?_
                  exact kt)
              obtain ⟨fs, hr, hrun, hended, hW, hsame⟩ := X48.leave (v := some (.int (0 : Int32))) (fun h => by rw [Bd.returns] at h; cases h)
              refine ⟨_, _, (hGo _).mp (pre71 _ ?_), hrun, hended, _, _, rfl, ?_, ⟨_, rfl⟩, hW, hsame.mono (by decide) (by decide)⟩
              · exact retN X48 hx (t := .boolean) Bd.returns (by simp) (hb hby d6_112) hr
              · show Q6 Z pr0 pr1 u_from_pr0 u_to_pr0 u_kind_pr0 u_stamp_pr0 u_fencing_pr0 u_lease_pr0 u_waited_pr0 u_known_pr0 u_from_pr1 u_to_pr1 u_kind_pr1 u_stamp_pr1 u_fencing_pr1 u_lease_pr1 u_waited_pr1 u_known_pr1 h0 n0 _ T48.heap _
                rw [e48]
                exact ⟨(by first | (simp only [if_pos hc22_13, if_pos hc33_20, if_pos hc44_27, if_pos hc56_35, if_pos hc68_43, if_neg hc80_51]; done) | (simp only [if_pos hc22_13, if_pos hc33_20, if_pos hc44_27, if_pos hc56_35, if_pos hc68_43, if_neg hc80_51]; exact rfl) | exact rfl), N0, rfl⟩
          · have pre72 : ∀ t, Steps p.tables e below (T40.setTop (mkF m 112 #[rv pr0, rv pr1, rv pr1] [(.int (0 : Int32))])) t → Go t := fun t kt => pre42 t (by
                refine y_ifYes X40.here hx (hb hby d6_68) ((if0 _ _).trans (feq (lq_ne hc68_43)).2) (pc' := 111) (by decide) rfl ?_
                refine y_iconst X40.here hx (hb hby d6_111) (v := (0 : Int32)) rfl (pc' := 112) rfl ?_
                exact kt)
            obtain ⟨fs, hr, hrun, hended, hW, hsame⟩ := X40.leave (v := some (.int (0 : Int32))) (fun h => by rw [Bd.returns] at h; cases h)
            refine ⟨_, _, (hGo _).mp (pre72 _ ?_), hrun, hended, _, _, rfl, ?_, ⟨_, rfl⟩, hW, hsame.mono (by decide) (by decide)⟩
            · exact retN X40 hx (t := .boolean) Bd.returns (by simp) (hb hby d6_112) hr
            · show Q6 Z pr0 pr1 u_from_pr0 u_to_pr0 u_kind_pr0 u_stamp_pr0 u_fencing_pr0 u_lease_pr0 u_waited_pr0 u_known_pr0 u_from_pr1 u_to_pr1 u_kind_pr1 u_stamp_pr1 u_fencing_pr1 u_lease_pr1 u_waited_pr1 u_known_pr1 h0 n0 _ T40.heap _
              rw [e40]
              exact ⟨(by first | (simp only [if_pos hc22_13, if_pos hc33_20, if_pos hc44_27, if_pos hc56_35, if_neg hc68_43]; done) | (simp only [if_pos hc22_13, if_pos hc33_20, if_pos hc44_27, if_pos hc56_35, if_neg hc68_43]; exact rfl) | exact rfl), N0, rfl⟩
        · have pre73 : ∀ t, Steps p.tables e below (T32.setTop (mkF m 112 #[rv pr0, rv pr1, rv pr1] [(.int (0 : Int32))])) t → Go t := fun t kt => pre34 t (by
              refine y_ifYes X32.here hx (hb hby d6_56) ((if0 _ _).trans (feq (lq_ne hc56_35)).2) (pc' := 111) (by decide) rfl ?_
              refine y_iconst X32.here hx (hb hby d6_111) (v := (0 : Int32)) rfl (pc' := 112) rfl ?_
              exact kt)
          obtain ⟨fs, hr, hrun, hended, hW, hsame⟩ := X32.leave (v := some (.int (0 : Int32))) (fun h => by rw [Bd.returns] at h; cases h)
          refine ⟨_, _, (hGo _).mp (pre73 _ ?_), hrun, hended, _, _, rfl, ?_, ⟨_, rfl⟩, hW, hsame.mono (by decide) (by decide)⟩
          · exact retN X32 hx (t := .boolean) Bd.returns (by simp) (hb hby d6_112) hr
          · show Q6 Z pr0 pr1 u_from_pr0 u_to_pr0 u_kind_pr0 u_stamp_pr0 u_fencing_pr0 u_lease_pr0 u_waited_pr0 u_known_pr0 u_from_pr1 u_to_pr1 u_kind_pr1 u_stamp_pr1 u_fencing_pr1 u_lease_pr1 u_waited_pr1 u_known_pr1 h0 n0 _ T32.heap _
            rw [e32]
            exact ⟨(by first | (simp only [if_pos hc22_13, if_pos hc33_20, if_pos hc44_27, if_neg hc56_35]; done) | (simp only [if_pos hc22_13, if_pos hc33_20, if_pos hc44_27, if_neg hc56_35]; exact rfl) | exact rfl), N0, rfl⟩
      · have pre74 : ∀ t, Steps p.tables e below (T25.setTop (mkF m 112 #[rv pr0, rv pr1, rv pr1] [(.int (0 : Int32))])) t → Go t := fun t kt => pre26 t (by
            refine Jvm.RoadKit.acmp (g := (mkF m 44 #[rv pr0, rv pr1, rv pr1] [(.ref u_kind_pr1), (.ref u_kind_pr0)])) X25 hx rfl rfl rfl (pc0 := 44) (pc' := 111) (same := false) rfl (hb hby d6_44) rfl (decide_eq_false fun q => hc44_27 (Value.ref.inj q)) (by decide) (by decide) ?_
            show Steps p.tables e below (T25.setTop (mkF m 111 #[rv pr0, rv pr1, rv pr1] [])) _
            refine y_iconst X25.here hx (hb hby d6_111) (v := (0 : Int32)) rfl (pc' := 112) rfl ?_
            exact kt)
        obtain ⟨fs, hr, hrun, hended, hW, hsame⟩ := X25.leave (v := some (.int (0 : Int32))) (fun h => by rw [Bd.returns] at h; cases h)
        refine ⟨_, _, (hGo _).mp (pre74 _ ?_), hrun, hended, _, _, rfl, ?_, ⟨_, rfl⟩, hW, hsame.mono (by decide) (by decide)⟩
        · exact retN X25 hx (t := .boolean) Bd.returns (by simp) (hb hby d6_112) hr
        · show Q6 Z pr0 pr1 u_from_pr0 u_to_pr0 u_kind_pr0 u_stamp_pr0 u_fencing_pr0 u_lease_pr0 u_waited_pr0 u_known_pr0 u_from_pr1 u_to_pr1 u_kind_pr1 u_stamp_pr1 u_fencing_pr1 u_lease_pr1 u_waited_pr1 u_known_pr1 h0 n0 _ T25.heap _
          rw [e25]
          exact ⟨(by first | (simp only [if_pos hc22_13, if_pos hc33_20, if_neg hc44_27]; done) | (simp only [if_pos hc22_13, if_pos hc33_20, if_neg hc44_27]; exact rfl) | exact rfl), N0, rfl⟩
    · have pre75 : ∀ t, Steps p.tables e below (T18.setTop (mkF m 112 #[rv pr0, rv pr1, rv pr1] [(.int (0 : Int32))])) t → Go t := fun t kt => pre19 t (by
          refine y_icmpYes X18.here hx (hb hby d6_33) (feq hc33_20).2 (pc' := 111) (by decide) rfl ?_
          refine y_iconst X18.here hx (hb hby d6_111) (v := (0 : Int32)) rfl (pc' := 112) rfl ?_
          exact kt)
      obtain ⟨fs, hr, hrun, hended, hW, hsame⟩ := X18.leave (v := some (.int (0 : Int32))) (fun h => by rw [Bd.returns] at h; cases h)
      refine ⟨_, _, (hGo _).mp (pre75 _ ?_), hrun, hended, _, _, rfl, ?_, ⟨_, rfl⟩, hW, hsame.mono (by decide) (by decide)⟩
      · exact retN X18 hx (t := .boolean) Bd.returns (by simp) (hb hby d6_112) hr
      · show Q6 Z pr0 pr1 u_from_pr0 u_to_pr0 u_kind_pr0 u_stamp_pr0 u_fencing_pr0 u_lease_pr0 u_waited_pr0 u_known_pr0 u_from_pr1 u_to_pr1 u_kind_pr1 u_stamp_pr1 u_fencing_pr1 u_lease_pr1 u_waited_pr1 u_known_pr1 h0 n0 _ T18.heap _
        rw [e18]
        exact ⟨(by first | (simp only [if_pos hc22_13, if_neg hc33_20]; done) | (simp only [if_pos hc22_13, if_neg hc33_20]; exact rfl) | exact rfl), N0, rfl⟩
  · have pre76 : ∀ t, Steps p.tables e below (T11.setTop (mkF m 112 #[rv pr0, rv pr1, rv pr1] [(.int (0 : Int32))])) t → Go t := fun t kt => pre12 t (by
        refine y_icmpYes X11.here hx (hb hby d6_22) (feq hc22_13).2 (pc' := 111) (by decide) rfl ?_
        refine y_iconst X11.here hx (hb hby d6_111) (v := (0 : Int32)) rfl (pc' := 112) rfl ?_
        exact kt)
    obtain ⟨fs, hr, hrun, hended, hW, hsame⟩ := X11.leave (v := some (.int (0 : Int32))) (fun h => by rw [Bd.returns] at h; cases h)
    refine ⟨_, _, (hGo _).mp (pre76 _ ?_), hrun, hended, _, _, rfl, ?_, ⟨_, rfl⟩, hW, hsame.mono (by decide) (by decide)⟩
    · exact retN X11 hx (t := .boolean) Bd.returns (by simp) (hb hby d6_112) hr
    · show Q6 Z pr0 pr1 u_from_pr0 u_to_pr0 u_kind_pr0 u_stamp_pr0 u_fencing_pr0 u_lease_pr0 u_waited_pr0 u_known_pr0 u_from_pr1 u_to_pr1 u_kind_pr1 u_stamp_pr1 u_fencing_pr1 u_lease_pr1 u_waited_pr1 u_known_pr1 h0 n0 _ T11.heap _
      rw [e11]
      exact ⟨(by first | (simp only [if_neg hc22_13]; done) | (simp only [if_neg hc22_13]; exact rfl) | exact rfl), N0, rfl⟩
theorem d6_7 : decode prog_36_method_14_code 7 = .ok (.iconst 0, 1) := by decide +kernel
theorem d6_8 : decode prog_36_method_14_code 8 = .ok (.ireturn, 1) := by decide +kernel
theorem ef_6n (m : MethodId) (x0 : Addr) : entryFrame m #[(.ref x0), .null] 3 = mkF m 0 #[rv x0, .val .null, .unset] [] := by first | (simp [entryFrame, mkF, argsToLocals, Value.category]; done) | rfl
def Q6n (Z : State) (pr0 : Addr) (h0 : Heap) (n0 : Nat) (v : Option Value) (h : Heap) (L : List Loc) : Prop := v = some (.int (0 : Int32)) ∧ Fr n0 L ∧ h = h0
set_option maxRecDepth 65536 in
set_option maxHeartbeats 40000000 in
theorem rm6n (l : Launch) (Z : State) (a0 : Array Value) (hw : ∀ d ∈ tables_1, d.before a0 Z = true) (ws : List Jvm.Cond) (pr0 : Addr) (h0 : Heap) (n0 : Nat) (O0 : Old Z n0 h0) :
    MetFree l (⟨"com/example/procord/procord/lock/LockMessage", "equals", "(Ljava/lang/Object;)Z"⟩ : MethodName) (head1 (Jvm.Cond.code (⟨"com/example/procord/procord/lock/LockMessage", "equals", "(Ljava/lang/Object;)Z"⟩ : MethodName) prog_36_method_14_code 3 (some .boolean) :: ws) ({ frames := 0, cells := 0, slots := 0, locals := 0 } : Room)) (fun a U => a = #[(.ref pr0), .null] ∧ Z.Warmed39 U.vm ∧ U.heap = h0) (fun _ _ _ _ _ => True) (fun _ U o U' => ∃ v L, o = .returned v ∧ Q6n Z pr0 h0 n0 v U'.heap L ∧ FrameEnd U o U' L ({ frames := 0, cells := 0, slots := 0, locals := 0 } : Room).cells ({ frames := 0, cells := 0, slots := 0, locals := 0 } : Room).slots) := by
  refine MetFree.of_bodySF (plainFor_of_name pn_com_example_procord_procord_lock_LockMessage) hisR ?_
  intro p e s m args below meth c s₁ Bd hml0 hP hK
  obtain ⟨rfl, hZ, hh⟩ := hP
  have hx := Bd.exec
  have hby := Bd.bytes
  have hml : c.maxLocals = 3 := hml0
  have hown : s.vm.findClass "com/example/procord/procord/lock/LockMessage" = some m.cls := findClass_of_methodNamed Bd.named
  have hnm := (name_of_methodNamed Bd.named Bd.method).1
  have X0 : Stand p l e ({ frames := 0, cells := 0, slots := 0, locals := 0 } : Room) s m #[(.ref pr0), .null] below meth c s₁ [] 0 0 := Stand.of_body Bd
  have e0 : s₁.heap = h0 := by rw [← hh, Bd.state]; rfl
  have N0 := Fr.nil n0
  obtain ⟨Go, hGo⟩ : ∃ P : State → Prop, ∀ t, P t ↔ Steps p.tables e below (s₁.setTop (entryFrame m #[(.ref pr0), .null] 3)) t := ⟨_, fun _ => Iff.rfl⟩
  have pre0 : ∀ t, Steps p.tables e below (s₁.setTop (mkF m 0 #[rv pr0, .val .null, .unset] [])) t → Go t := fun t k => (hGo t).mpr (castTop (ef_6n m pr0) k)
  have pre1 : ∀ t, Steps p.tables e below (s₁.setTop (mkF m 1 #[rv pr0, .val .null, .unset] [.null])) t → Go t := fun t kt => pre0 t (by
      refine y_aloadN X0.here hx (hb hby d6_0) rfl rfl (pc' := 1) rfl ?_
      exact kt)
  have pre2 : ∀ t, Steps p.tables e below (s₁.setTop (mkF m 8 #[rv pr0, .val .null, .unset] [(.int (0 : Int32))])) t → Go t := fun t kt => pre1 t (by
      refine X0.instanceofNull hx (g := (mkF m 1 #[rv pr0, .val .null, .unset] [.null])) rfl rfl (hb hby d6_1) _ ?_
      show Steps p.tables e below (s₁.setTop (mkF m 4 #[rv pr0, .val .null, .unset] [(.int (0 : Int32))])) _
      refine y_ifNo X0.here hx (hb hby d6_4) ((if0 _ _).trans (teq (rfl : (0 : Int32) = (0 : Int32))).2) (pc' := 7) rfl ?_
      refine y_iconst X0.here hx (hb hby d6_7) (v := (0 : Int32)) rfl (pc' := 8) rfl ?_
      exact kt)
  obtain ⟨fs, hr, hrun, hended, hW, hsame⟩ := X0.leave (v := some (.int (0 : Int32))) (fun h => by rw [Bd.returns] at h; cases h)
  refine ⟨_, _, (hGo _).mp (pre2 _ ?_), hrun, hended, _, _, rfl, ?_, ⟨_, rfl⟩, hW, hsame.mono (by decide) (by decide)⟩
  · exact retN X0 hx (t := .boolean) Bd.returns (by simp) (hb hby d6_8) hr
  · show Q6n Z pr0 h0 n0 _ s₁.heap _
    rw [e0]
    exact ⟨rfl, N0, rfl⟩
theorem ef_6x (m : MethodId) (x0 : Addr) (x1 : Addr) : entryFrame m #[(.ref x0), (.ref x1)] 3 = mkF m 0 #[rv x0, rv x1, .unset] [] := by first | (simp [entryFrame, mkF, argsToLocals, Value.category]; done) | rfl
def Q6x (Z : State) (pr0 : Addr) (pr1 : Addr) (h0 : Heap) (n0 : Nat) (v : Option Value) (h : Heap) (L : List Loc) : Prop := v = some (.int (0 : Int32)) ∧ Fr n0 L ∧ h = h0
set_option maxRecDepth 65536 in
set_option maxHeartbeats 40000000 in
theorem rm6x (l : Launch) (Z : State) (a0 : Array Value) (hw : ∀ d ∈ tables_1, d.before a0 Z = true) (ws : List Jvm.Cond) (pr0 : Addr) (pr1 : Addr) (h0 : Heap) (n0 : Nat) (O0 : Old Z n0 h0) (E_pr1 : Exa Z h0 pr1 "java/lang/Integer") (NI_pr1 : Nas Z "java/lang/Integer" "com/example/procord/procord/lock/LockMessage") :
    MetFree l (⟨"com/example/procord/procord/lock/LockMessage", "equals", "(Ljava/lang/Object;)Z"⟩ : MethodName) (head1 (Jvm.Cond.code (⟨"com/example/procord/procord/lock/LockMessage", "equals", "(Ljava/lang/Object;)Z"⟩ : MethodName) prog_36_method_14_code 3 (some .boolean) :: ws) ({ frames := 0, cells := 0, slots := 0, locals := 0 } : Room)) (fun a U => a = #[(.ref pr0), (.ref pr1)] ∧ Z.Warmed39 U.vm ∧ U.heap = h0) (fun _ _ _ _ _ => True) (fun _ U o U' => ∃ v L, o = .returned v ∧ Q6x Z pr0 pr1 h0 n0 v U'.heap L ∧ FrameEnd U o U' L ({ frames := 0, cells := 0, slots := 0, locals := 0 } : Room).cells ({ frames := 0, cells := 0, slots := 0, locals := 0 } : Room).slots) := by
  refine MetFree.of_bodySF (plainFor_of_name pn_com_example_procord_procord_lock_LockMessage) hisR ?_
  intro p e s m args below meth c s₁ Bd hml0 hP hK
  obtain ⟨rfl, hZ, hh⟩ := hP
  have hx := Bd.exec
  have hby := Bd.bytes
  have hml : c.maxLocals = 3 := hml0
  have hown : s.vm.findClass "com/example/procord/procord/lock/LockMessage" = some m.cls := findClass_of_methodNamed Bd.named
  have hnm := (name_of_methodNamed Bd.named Bd.method).1
  have X0 : Stand p l e ({ frames := 0, cells := 0, slots := 0, locals := 0 } : Room) s m #[(.ref pr0), (.ref pr1)] below meth c s₁ [] 0 0 := Stand.of_body Bd
  have e0 : s₁.heap = h0 := by rw [← hh, Bd.state]; rfl
  have N0 := Fr.nil n0
  obtain ⟨Go, hGo⟩ : ∃ P : State → Prop, ∀ t, P t ↔ Steps p.tables e below (s₁.setTop (entryFrame m #[(.ref pr0), (.ref pr1)] 3)) t := ⟨_, fun _ => Iff.rfl⟩
  have pre0 : ∀ t, Steps p.tables e below (s₁.setTop (mkF m 0 #[rv pr0, rv pr1, .unset] [])) t → Go t := fun t k => (hGo t).mpr (castTop (ef_6x m pr0 pr1) k)
  have pre1 : ∀ t, Steps p.tables e below (s₁.setTop (mkF m 1 #[rv pr0, rv pr1, .unset] [(.ref pr1)])) t → Go t := fun t kt => pre0 t (by
      refine y_aloadN X0.here hx (hb hby d6_0) rfl rfl (pc' := 1) rfl ?_
      exact kt)
  obtain ⟨T2, X2, e2, st2⟩ := instNo X0 hx hZ hown (hw _ (List.mem_of_getElem? (i := 55) rfl)) e0 E_pr1 NI_pr1 (g := (mkF m 1 #[rv pr0, rv pr1, .unset] [(.ref pr1)])) rfl rfl (hb hby d6_1)
  have pre3 : ∀ t, Steps p.tables e below (T2.setTop (mkF m 4 #[rv pr0, rv pr1, .unset] [(.int (0 : Int32))])) t → Go t := fun t kt => pre1 t (st2 t kt)
  have pre4 : ∀ t, Steps p.tables e below (T2.setTop (mkF m 8 #[rv pr0, rv pr1, .unset] [(.int (0 : Int32))])) t → Go t := fun t kt => pre3 t (by
      refine y_ifNo X2.here hx (hb hby d6_4) ((if0 _ _).trans (teq (rfl : (0 : Int32) = (0 : Int32))).2) (pc' := 7) rfl ?_
      refine y_iconst X2.here hx (hb hby d6_7) (v := (0 : Int32)) rfl (pc' := 8) rfl ?_
      exact kt)
  obtain ⟨fs, hr, hrun, hended, hW, hsame⟩ := X2.leave (v := some (.int (0 : Int32))) (fun h => by rw [Bd.returns] at h; cases h)
  refine ⟨_, _, (hGo _).mp (pre4 _ ?_), hrun, hended, _, _, rfl, ?_, ⟨_, rfl⟩, hW, hsame.mono (by decide) (by decide)⟩
  · exact retN X2 hx (t := .boolean) Bd.returns (by simp) (hb hby d6_8) hr
  · show Q6x Z pr0 pr1 h0 n0 _ T2.heap _
    rw [e2]
    exact ⟨rfl, N0, rfl⟩
theorem own_ti (y : Int32) : (y.toBitVec.toNat < 2147483648 ∧ y.toInt = (y.toBitVec.toNat : Int)) ∨ (2147483648 ≤ y.toBitVec.toNat ∧ y.toInt = (y.toBitVec.toNat : Int) - 4294967296 ∧ y.toBitVec.toNat < 4294967296) := by
  have e : y.toInt = if 2 * y.toBitVec.toNat < 2 ^ 32 then (y.toBitVec.toNat : Int) else (y.toBitVec.toNat : Int) - ((2 ^ 32 : Nat) : Int) := BitVec.toInt_eq_toNat_cond y.toBitVec
  have b := y.toBitVec.isLt
  split at e <;> omega
theorem own_odd (x : Int32) : (x ||| (1 : Int32)).toInt % 2 = 1 := by
  have n : (x ||| (1 : Int32)).toBitVec.toNat = x.toBitVec.toNat ||| 1 := (BitVec.toNat_or x.toBitVec (1 : Int32).toBitVec).trans rfl
  have p : (x.toBitVec.toNat ||| 1) % 2 = 1 := Nat.or_mod_two_eq_one.mpr (Or.inr rfl)
  have e := own_ti (x ||| (1 : Int32))
  rw [n] at e
  generalize x.toBitVec.toNat ||| 1 = w at e p
  omega
theorem own_da {d : Int32} (h : d.toInt % 2 = 1) (a : Int32) : ¬ a = a + d := fun q => by
  have z := c_iadd a d
  rw [← q] at z
  omega
theorem own_ds {d : Int32} (h : d.toInt % 2 = 1) (a : Int32) : ¬ a = a - d := fun q => by
  have z := c_isub a d
  rw [← q] at z
  omega
theorem own_dd {d : Int32} (h : d.toInt % 2 = 1) (a : Int32) : ¬ a - d = a + d := fun q => by
  have z := c_isub a d
  have w := c_iadd a d
  rw [q] at z
  omega
theorem own_fne {d : Int32} (h : d.toInt % 2 = 1) (a y : Int32) : ¬ a = (if a + d = y then a - d else a + d) := by
  by_cases c : a + d = y
  · rw [if_pos c]; exact own_ds h a
  · rw [if_neg c]; exact own_da h a
theorem own_f2 {d : Int32} (h : d.toInt % 2 = 1) (a y : Int32) : ¬ (if a + d = y then a - d else a + d) = y := by
  by_cases c : a + d = y
  · rw [if_pos c]; exact fun q => own_dd h a (q.trans c.symm)
  · rw [if_neg c]; exact c
theorem own_t (f t : Int32) : ¬ f = (if t = f then (f + (1 : Int32)) else t) := by
  by_cases c : t = f
  · rw [if_pos c]; exact own_ne1 f
  · rw [if_neg c]; exact fun q => c q.symm
theorem own_nq2 {d : Int32} (h : d.toInt % 2 = 1) (a y sel : Int32) (n : ¬ a = y) : ¬ (if sel = (1 : Int32) then (if (a + d) = y then (a - d) else (a + d)) else a) = (if sel = (2 : Int32) then (if (y + d) = a then (y - d) else (y + d)) else y) := by
  by_cases s1 : sel = (1 : Int32)
  · have s2 : ¬ sel = (2 : Int32) := by rw [s1]; decide
    rw [if_pos s1, if_neg s2]; exact own_f2 h a y
  · rw [if_neg s1]
    by_cases s2 : sel = (2 : Int32)
    · rw [if_pos s2]; exact fun q => own_f2 h y a q.symm
    · rw [if_neg s2]; exact n
theorem own_n64 {e : Int64} (h : ¬ e = 0) (a : Int64) : ¬ a = a + e := fun q => by
  have z := c_ladd a e
  rw [← q] at z
  have l := e.le_toInt
  have u := e.toInt_lt
  have e0 : (0 : Int64).toInt = 0 := rfl
  exact h (Int64.toInt_inj.mp (by omega))
theorem own_e5 (q : Int64) : ¬ (if q = (0 : Int64) then (1 : Int64) else q) = 0 := by
  by_cases c : q = (0 : Int64)
  · rw [if_pos c]; decide
  · rw [if_neg c]; exact c
theorem own_k8 (k : Int32) : 0 ≤ ((k &&& (15 : Int32)) % (13 : Int32)).toInt ∧ ((k &&& (15 : Int32)) % (13 : Int32)).toInt ≤ 12 := by
  have r : (k &&& (15 : Int32)).toInt = k.toInt % 16 := c_mask k 15 4 (by decide) (by decide)
  have q := (c_irem (k &&& (15 : Int32)) 13 13 rfl).1 (by omega)
  omega
theorem own_sel (k : Int32) : 0 ≤ ((k &&& (15 : Int32)) % (10 : Int32)).toInt ∧ ((k &&& (15 : Int32)) % (10 : Int32)).toInt ≤ 9 := by
  have r : (k &&& (15 : Int32)).toInt = k.toInt % 16 := c_mask k 15 4 (by decide) (by decide)
  have q := (c_irem (k &&& (15 : Int32)) 10 10 rfl).1 (by omega)
  omega
theorem own_kk (x r : Int32) (h : 0 ≤ x.toInt ∧ x.toInt ≤ 12) : 0 ≤ (((x + (1 : Int32)) + ((r &&& (8388607 : Int32)) % (12 : Int32))) % (13 : Int32)).toInt ∧ (((x + (1 : Int32)) + ((r &&& (8388607 : Int32)) % (12 : Int32))) % (13 : Int32)).toInt ≤ 12 ∧ ¬ x = (((x + (1 : Int32)) + ((r &&& (8388607 : Int32)) % (12 : Int32))) % (13 : Int32)) := by
  have a : (r &&& (8388607 : Int32)).toInt = r.toInt % 8388608 := c_mask r 8388607 23 (by decide) (by decide)
  have b := (c_irem (r &&& (8388607 : Int32)) 12 12 rfl).1 (by omega)
  generalize (r &&& (8388607 : Int32)) % (12 : Int32) = u at b ⊢
  have c := c_iadd x 1
  have d := c_iadd (x + (1 : Int32)) u
  have e1 : (1 : Int32).toInt = 1 := rfl
  have l1 := (x + (1 : Int32)).le_toInt
  have l2 := (x + (1 : Int32)).toInt_lt
  have l3 := (x + (1 : Int32) + u).le_toInt
  have l4 := (x + (1 : Int32) + u).toInt_lt
  have hu : 0 ≤ u.toInt ∧ u.toInt ≤ 11 := by omega
  clear a b
  have c1 : (x + (1 : Int32)).toInt = x.toInt + 1 := by omega
  have d1 : (x + (1 : Int32) + u).toInt = x.toInt + 1 + u.toInt := by omega
  have f := (c_irem (x + (1 : Int32) + u) 13 13 rfl).1 (by omega)
  rw [d1] at f
  clear c d l1 l2 l3 l4 c1 d1
  refine ⟨by omega, by omega, fun q => ?_⟩
  rw [← q] at f
  omega

theorem own_kind {Z : State} {w_REQUEST w_GRANT w_RELEASE w_RENEW w_RENEWED w_CANCEL w_CANCELLED w_TAKEOVER w_FOLLOW w_REPLY w_VOTE w_INQUIRE w_RELINQUISH : Addr} (F0 : Fld Z Z.heap w_REQUEST "java/lang/Enum" "ordinal" "I" (.int (0 : Int32))) (F1 : Fld Z Z.heap w_GRANT "java/lang/Enum" "ordinal" "I" (.int (1 : Int32))) (F2 : Fld Z Z.heap w_RELEASE "java/lang/Enum" "ordinal" "I" (.int (2 : Int32))) (F3 : Fld Z Z.heap w_RENEW "java/lang/Enum" "ordinal" "I" (.int (3 : Int32))) (F4 : Fld Z Z.heap w_RENEWED "java/lang/Enum" "ordinal" "I" (.int (4 : Int32))) (F5 : Fld Z Z.heap w_CANCEL "java/lang/Enum" "ordinal" "I" (.int (5 : Int32))) (F6 : Fld Z Z.heap w_CANCELLED "java/lang/Enum" "ordinal" "I" (.int (6 : Int32))) (F7 : Fld Z Z.heap w_TAKEOVER "java/lang/Enum" "ordinal" "I" (.int (7 : Int32))) (F8 : Fld Z Z.heap w_FOLLOW "java/lang/Enum" "ordinal" "I" (.int (8 : Int32))) (F9 : Fld Z Z.heap w_REPLY "java/lang/Enum" "ordinal" "I" (.int (9 : Int32))) (F10 : Fld Z Z.heap w_VOTE "java/lang/Enum" "ordinal" "I" (.int (10 : Int32))) (F11 : Fld Z Z.heap w_INQUIRE "java/lang/Enum" "ordinal" "I" (.int (11 : Int32))) (F12 : Fld Z Z.heap w_RELINQUISH "java/lang/Enum" "ordinal" "I" (.int (12 : Int32))) (k : Int32) (h : 0 ≤ k.toInt ∧ k.toInt ≤ 12) : Fld Z Z.heap (if k = (0 : Int32) then w_REQUEST else (if k = (1 : Int32) then w_GRANT else (if k = (2 : Int32) then w_RELEASE else (if k = (3 : Int32) then w_RENEW else (if k = (4 : Int32) then w_RENEWED else (if k = (5 : Int32) then w_CANCEL else (if k = (6 : Int32) then w_CANCELLED else (if k = (7 : Int32) then w_TAKEOVER else (if k = (8 : Int32) then w_FOLLOW else (if k = (9 : Int32) then w_REPLY else (if k = (10 : Int32) then w_VOTE else (if k = (11 : Int32) then w_INQUIRE else w_RELINQUISH)))))))))))) "java/lang/Enum" "ordinal" "I" (.int k) := by
  have q : k.toInt = 0 ∨ k.toInt = 1 ∨ k.toInt = 2 ∨ k.toInt = 3 ∨ k.toInt = 4 ∨ k.toInt = 5 ∨ k.toInt = 6 ∨ k.toInt = 7 ∨ k.toInt = 8 ∨ k.toInt = 9 ∨ k.toInt = 10 ∨ k.toInt = 11 ∨ k.toInt = 12 := by omega
  rcases q with q | q | q | q | q | q | q | q | q | q | q | q | q
  · obtain rfl : k = (0 : Int32) := own_of q
    rw [if_pos rfl]; exact F0
  · obtain rfl : k = (1 : Int32) := own_of q
    rw [if_neg (by decide), if_pos rfl]; exact F1
  · obtain rfl : k = (2 : Int32) := own_of q
    rw [if_neg (by decide), if_neg (by decide), if_pos rfl]; exact F2
  · obtain rfl : k = (3 : Int32) := own_of q
    rw [if_neg (by decide), if_neg (by decide), if_neg (by decide), if_pos rfl]; exact F3
  · obtain rfl : k = (4 : Int32) := own_of q
    rw [if_neg (by decide), if_neg (by decide), if_neg (by decide), if_neg (by decide), if_pos rfl]; exact F4
  · obtain rfl : k = (5 : Int32) := own_of q
    rw [if_neg (by decide), if_neg (by decide), if_neg (by decide), if_neg (by decide), if_neg (by decide), if_pos rfl]; exact F5
  · obtain rfl : k = (6 : Int32) := own_of q
    rw [if_neg (by decide), if_neg (by decide), if_neg (by decide), if_neg (by decide), if_neg (by decide), if_neg (by decide), if_pos rfl]; exact F6
  · obtain rfl : k = (7 : Int32) := own_of q
    rw [if_neg (by decide), if_neg (by decide), if_neg (by decide), if_neg (by decide), if_neg (by decide), if_neg (by decide), if_neg (by decide), if_pos rfl]; exact F7
  · obtain rfl : k = (8 : Int32) := own_of q
    rw [if_neg (by decide), if_neg (by decide), if_neg (by decide), if_neg (by decide), if_neg (by decide), if_neg (by decide), if_neg (by decide), if_neg (by decide), if_pos rfl]; exact F8
  · obtain rfl : k = (9 : Int32) := own_of q
    rw [if_neg (by decide), if_neg (by decide), if_neg (by decide), if_neg (by decide), if_neg (by decide), if_neg (by decide), if_neg (by decide), if_neg (by decide), if_neg (by decide), if_pos rfl]; exact F9
  · obtain rfl : k = (10 : Int32) := own_of q
    rw [if_neg (by decide), if_neg (by decide), if_neg (by decide), if_neg (by decide), if_neg (by decide), if_neg (by decide), if_neg (by decide), if_neg (by decide), if_neg (by decide), if_neg (by decide), if_pos rfl]; exact F10
  · obtain rfl : k = (11 : Int32) := own_of q
    rw [if_neg (by decide), if_neg (by decide), if_neg (by decide), if_neg (by decide), if_neg (by decide), if_neg (by decide), if_neg (by decide), if_neg (by decide), if_neg (by decide), if_neg (by decide), if_neg (by decide), if_pos rfl]; exact F11
  · obtain rfl : k = (12 : Int32) := own_of q
    rw [if_neg (by decide), if_neg (by decide), if_neg (by decide), if_neg (by decide), if_neg (by decide), if_neg (by decide), if_neg (by decide), if_neg (by decide), if_neg (by decide), if_neg (by decide), if_neg (by decide), if_neg (by decide)]; exact F12
theorem law0_87 (pi0 : Int32) (pi1 : Int32) (x2 : Int32) (hx2 : x2 = (if pi1 = pi0 then (pi0 + (1 : Int32)) else pi1)) : ¬ pi0 = x2 := by
  rw [hx2]; exact own_t _ _
theorem law0_88 (pi0 : Int32) (pi2 : Int32) (x2 : Int32) (x10 : Int32) (x12 : Int32) (x26 : Int32) (x36 : Int32) (hx12 : x12 = ((pi2 >>> ((8 : Int32) &&& 31)) ||| (1 : Int32))) (hx26 : x26 = (if x10 = (1 : Int32) then (if (pi0 + x12) = x2 then (pi0 - x12) else (pi0 + x12)) else pi0)) (hx36 : x36 = (if x10 = (2 : Int32) then (if (x2 + x12) = pi0 then (x2 - x12) else (x2 + x12)) else x2)) (N : ¬ pi0 = x2) : ¬ x26 = x36 := by
  rw [hx26, hx36]; exact own_nq2 (by rw [hx12]; exact own_odd _) _ _ _ N
theorem law0_223 (pi0 : Int32) (pi1 : Int32) (pi2 : Int32) (pj3 : Int64) (pj4 : Int64) (pj5 : Int64) (w_REQUEST : Addr) (w_GRANT : Addr) (w_RELEASE : Addr) (w_RENEW : Addr) (w_RENEWED : Addr) (w_CANCEL : Addr) (w_CANCELLED : Addr) (w_TAKEOVER : Addr) (w_FOLLOW : Addr) (w_REPLY : Addr) (w_VOTE : Addr) (w_INQUIRE : Addr) (w_RELINQUISH : Addr) (x2 : Int32) (x8 : Int32) (x10 : Int32) (x12 : Int32) (x15 : Int64) (x21 : Int64) (x23 : Int64) (x26 : Int32) (x36 : Int32) (x46 : Int32) (x53 : Int64) (x60 : Int64) (x67 : Int64) (x74 : Int64) (x81 : Int64) (x104 : Addr) (x146 : Addr) (x210 : Int32) (x219 : Int32) (hx2 : x2 = (if pi1 = pi0 then (pi0 + (1 : Int32)) else pi1)) (hx8 : x8 = ((pi2 &&& (15 : Int32)) % (13 : Int32))) (hx10 : x10 = ((((pi2.toUInt32 >>> ((4 : Int32) &&& 31).toUInt32).toInt32) &&& (15 : Int32)) % (10 : Int32))) (hx12 : x12 = ((pi2 >>> ((8 : Int32) &&& 31)) ||| (1 : Int32))) (hx15 : x15 = (if pj5 = (0 : Int64) then (1 : Int64) else pj5)) (hx21 : x21 = (pj4 - pj5)) (hx23 : x23 = (pj3 ^^^ pj4)) (hx26 : x26 = (if x10 = (1 : Int32) then (if (pi0 + x12) = x2 then (pi0 - x12) else (pi0 + x12)) else pi0)) (hx36 : x36 = (if x10 = (2 : Int32) then (if (x2 + x12) = pi0 then (x2 - x12) else (x2 + x12)) else x2)) (hx46 : x46 = (if x10 = (3 : Int32) then (((x8 + (1 : Int32)) + ((((pi2.toUInt32 >>> ((8 : Int32) &&& 31).toUInt32).toInt32) &&& (8388607 : Int32)) % (12 : Int32))) % (13 : Int32)) else x8)) (hx53 : x53 = (if x10 = (4 : Int32) then (pj3 + x15) else pj3)) (hx60 : x60 = (if x10 = (5 : Int32) then (pj4 + x15) else pj4)) (hx67 : x67 = (if x10 = (6 : Int32) then (pj5 + x15) else pj5)) (hx74 : x74 = (if x10 = (7 : Int32) then (x21 + x15) else x21)) (hx81 : x81 = (if x10 = (8 : Int32) then (x23 + x15) else x23)) (hx104 : x104 = (if x8 = (0 : Int32) then w_REQUEST else (if x8 = (1 : Int32) then w_GRANT else (if x8 = (2 : Int32) then w_RELEASE else (if x8 = (3 : Int32) then w_RENEW else (if x8 = (4 : Int32) then w_RENEWED else (if x8 = (5 : Int32) then w_CANCEL else (if x8 = (6 : Int32) then w_CANCELLED else (if x8 = (7 : Int32) then w_TAKEOVER else (if x8 = (8 : Int32) then w_FOLLOW else (if x8 = (9 : Int32) then w_REPLY else (if x8 = (10 : Int32) then w_VOTE else (if x8 = (11 : Int32) then w_INQUIRE else w_RELINQUISH))))))))))))) (hx146 : x146 = (if x46 = (0 : Int32) then w_REQUEST else (if x46 = (1 : Int32) then w_GRANT else (if x46 = (2 : Int32) then w_RELEASE else (if x46 = (3 : Int32) then w_RENEW else (if x46 = (4 : Int32) then w_RENEWED else (if x46 = (5 : Int32) then w_CANCEL else (if x46 = (6 : Int32) then w_CANCELLED else (if x46 = (7 : Int32) then w_TAKEOVER else (if x46 = (8 : Int32) then w_FOLLOW else (if x46 = (9 : Int32) then w_REPLY else (if x46 = (10 : Int32) then w_VOTE else (if x46 = (11 : Int32) then w_INQUIRE else w_RELINQUISH))))))))))))) (hx210 : x210 = (if x10 = (0 : Int32) then (1 : Int32) else (0 : Int32))) (hx219 : x219 = (if pi0 = x26 then (if x2 = x36 then (if x104 = x146 then (if pj3 = x53 then (if pj4 = x60 then (if pj5 = x67 then (if x21 = x74 then (if x23 = x81 then (1 : Int32) else (0 : Int32)) else (0 : Int32)) else (0 : Int32)) else (0 : Int32)) else (0 : Int32)) else (0 : Int32)) else (0 : Int32)) else (0 : Int32))) (hc317_172 : ¬ (x10 = (9 : Int32))) (KN : ¬ x8 = x46 → ¬ x104 = x146) : x219 = x210 := by
  have S1 : 0 ≤ x10.toInt ∧ x10.toInt ≤ 9 := by rw [hx10]; exact own_sel _
  have S2 : ¬ x10.toInt = 9 := fun q => hc317_172 (own_of q)
  have S : x10.toInt = 0 ∨ x10.toInt = 1 ∨ x10.toInt = 2 ∨ x10.toInt = 3 ∨ x10.toInt = 4 ∨ x10.toInt = 5 ∨ x10.toInt = 6 ∨ x10.toInt = 7 ∨ x10.toInt = 8 := by omega
  have E : ¬ x15 = 0 := by rw [hx15]; exact own_e5 _
  have D : x12.toInt % 2 = 1 := by rw [hx12]; exact own_odd _
  rcases S with S | S | S | S | S | S | S | S | S
  · replace S : x10 = (0 : Int32) := own_of S
    have qx26 : x26 = pi0 := hx26.trans (if_neg (by rw [S]; decide))
    have qx36 : x36 = x2 := hx36.trans (if_neg (by rw [S]; decide))
    have qx53 : x53 = pj3 := hx53.trans (if_neg (by rw [S]; decide))
    have qx60 : x60 = pj4 := hx60.trans (if_neg (by rw [S]; decide))
    have qx67 : x67 = pj5 := hx67.trans (if_neg (by rw [S]; decide))
    have qx74 : x74 = x21 := hx74.trans (if_neg (by rw [S]; decide))
    have qx81 : x81 = x23 := hx81.trans (if_neg (by rw [S]; decide))
    have qn : x46 = x8 := hx46.trans (if_neg (by rw [S]; decide))
    have qk : x146 = x104 := by rw [hx146, hx104, qn]
    have hR : x210 = (1 : Int32) := hx210.trans (if_pos S)
    rw [hR, hx219]
    simp only [qx26, qx36, qx53, qx60, qx67, qx74, qx81, qk, ↓reduceIte]
  · replace S : x10 = (1 : Int32) := own_of S
    have mx26 : ¬ pi0 = x26 := by rw [hx26, if_pos S]; exact own_fne D _ _
    have nx26 : ¬ x26 = pi0 := fun q => mx26 q.symm
    have qx36 : x36 = x2 := hx36.trans (if_neg (by rw [S]; decide))
    have qx53 : x53 = pj3 := hx53.trans (if_neg (by rw [S]; decide))
    have qx60 : x60 = pj4 := hx60.trans (if_neg (by rw [S]; decide))
    have qx67 : x67 = pj5 := hx67.trans (if_neg (by rw [S]; decide))
    have qx74 : x74 = x21 := hx74.trans (if_neg (by rw [S]; decide))
    have qx81 : x81 = x23 := hx81.trans (if_neg (by rw [S]; decide))
    have qn : x46 = x8 := hx46.trans (if_neg (by rw [S]; decide))
    have qk : x146 = x104 := by rw [hx146, hx104, qn]
    have hR : x210 = (0 : Int32) := hx210.trans (if_neg (by rw [S]; decide))
    rw [hR, hx219]
    simp only [mx26, nx26, qx36, qx53, qx60, qx67, qx74, qx81, qk, ↓reduceIte]
  · replace S : x10 = (2 : Int32) := own_of S
    have qx26 : x26 = pi0 := hx26.trans (if_neg (by rw [S]; decide))
    have mx36 : ¬ x2 = x36 := by rw [hx36, if_pos S]; exact own_fne D _ _
    have nx36 : ¬ x36 = x2 := fun q => mx36 q.symm
    have qx53 : x53 = pj3 := hx53.trans (if_neg (by rw [S]; decide))
    have qx60 : x60 = pj4 := hx60.trans (if_neg (by rw [S]; decide))
    have qx67 : x67 = pj5 := hx67.trans (if_neg (by rw [S]; decide))
    have qx74 : x74 = x21 := hx74.trans (if_neg (by rw [S]; decide))
    have qx81 : x81 = x23 := hx81.trans (if_neg (by rw [S]; decide))
    have qn : x46 = x8 := hx46.trans (if_neg (by rw [S]; decide))
    have qk : x146 = x104 := by rw [hx146, hx104, qn]
    have hR : x210 = (0 : Int32) := hx210.trans (if_neg (by rw [S]; decide))
    rw [hR, hx219]
    simp only [qx26, mx36, nx36, qx53, qx60, qx67, qx74, qx81, qk, ↓reduceIte]
  · replace S : x10 = (3 : Int32) := own_of S
    have qx26 : x26 = pi0 := hx26.trans (if_neg (by rw [S]; decide))
    have qx36 : x36 = x2 := hx36.trans (if_neg (by rw [S]; decide))
    have qx53 : x53 = pj3 := hx53.trans (if_neg (by rw [S]; decide))
    have qx60 : x60 = pj4 := hx60.trans (if_neg (by rw [S]; decide))
    have qx67 : x67 = pj5 := hx67.trans (if_neg (by rw [S]; decide))
    have qx74 : x74 = x21 := hx74.trans (if_neg (by rw [S]; decide))
    have qx81 : x81 = x23 := hx81.trans (if_neg (by rw [S]; decide))
    have mk : ¬ x104 = x146 := KN (by rw [hx46, if_pos S]; exact (own_kk x8 _ (by rw [hx8]; exact own_k8 _)).2.2)
    have nk : ¬ x146 = x104 := fun q => mk q.symm
    have hR : x210 = (0 : Int32) := hx210.trans (if_neg (by rw [S]; decide))
    rw [hR, hx219]
    simp only [qx26, qx36, qx53, qx60, qx67, qx74, qx81, mk, nk, ↓reduceIte]
  · replace S : x10 = (4 : Int32) := own_of S
    have qx26 : x26 = pi0 := hx26.trans (if_neg (by rw [S]; decide))
    have qx36 : x36 = x2 := hx36.trans (if_neg (by rw [S]; decide))
    have mx53 : ¬ pj3 = x53 := by rw [hx53, if_pos S]; exact own_n64 E _
    have nx53 : ¬ x53 = pj3 := fun q => mx53 q.symm
    have qx60 : x60 = pj4 := hx60.trans (if_neg (by rw [S]; decide))
    have qx67 : x67 = pj5 := hx67.trans (if_neg (by rw [S]; decide))
    have qx74 : x74 = x21 := hx74.trans (if_neg (by rw [S]; decide))
    have qx81 : x81 = x23 := hx81.trans (if_neg (by rw [S]; decide))
    have qn : x46 = x8 := hx46.trans (if_neg (by rw [S]; decide))
    have qk : x146 = x104 := by rw [hx146, hx104, qn]
    have hR : x210 = (0 : Int32) := hx210.trans (if_neg (by rw [S]; decide))
    rw [hR, hx219]
    simp only [qx26, qx36, mx53, nx53, qx60, qx67, qx74, qx81, qk, ↓reduceIte]
  · replace S : x10 = (5 : Int32) := own_of S
    have qx26 : x26 = pi0 := hx26.trans (if_neg (by rw [S]; decide))
    have qx36 : x36 = x2 := hx36.trans (if_neg (by rw [S]; decide))
    have qx53 : x53 = pj3 := hx53.trans (if_neg (by rw [S]; decide))
    have mx60 : ¬ pj4 = x60 := by rw [hx60, if_pos S]; exact own_n64 E _
    have nx60 : ¬ x60 = pj4 := fun q => mx60 q.symm
    have qx67 : x67 = pj5 := hx67.trans (if_neg (by rw [S]; decide))
    have qx74 : x74 = x21 := hx74.trans (if_neg (by rw [S]; decide))
    have qx81 : x81 = x23 := hx81.trans (if_neg (by rw [S]; decide))
    have qn : x46 = x8 := hx46.trans (if_neg (by rw [S]; decide))
    have qk : x146 = x104 := by rw [hx146, hx104, qn]
    have hR : x210 = (0 : Int32) := hx210.trans (if_neg (by rw [S]; decide))
    rw [hR, hx219]
    simp only [qx26, qx36, qx53, mx60, nx60, qx67, qx74, qx81, qk, ↓reduceIte]
  · replace S : x10 = (6 : Int32) := own_of S
    have qx26 : x26 = pi0 := hx26.trans (if_neg (by rw [S]; decide))
    have qx36 : x36 = x2 := hx36.trans (if_neg (by rw [S]; decide))
    have qx53 : x53 = pj3 := hx53.trans (if_neg (by rw [S]; decide))
    have qx60 : x60 = pj4 := hx60.trans (if_neg (by rw [S]; decide))
    have mx67 : ¬ pj5 = x67 := by rw [hx67, if_pos S]; exact own_n64 E _
    have nx67 : ¬ x67 = pj5 := fun q => mx67 q.symm
    have qx74 : x74 = x21 := hx74.trans (if_neg (by rw [S]; decide))
    have qx81 : x81 = x23 := hx81.trans (if_neg (by rw [S]; decide))
    have qn : x46 = x8 := hx46.trans (if_neg (by rw [S]; decide))
    have qk : x146 = x104 := by rw [hx146, hx104, qn]
    have hR : x210 = (0 : Int32) := hx210.trans (if_neg (by rw [S]; decide))
    rw [hR, hx219]
    simp only [qx26, qx36, qx53, qx60, mx67, nx67, qx74, qx81, qk, ↓reduceIte]
  · replace S : x10 = (7 : Int32) := own_of S
    have qx26 : x26 = pi0 := hx26.trans (if_neg (by rw [S]; decide))
    have qx36 : x36 = x2 := hx36.trans (if_neg (by rw [S]; decide))
    have qx53 : x53 = pj3 := hx53.trans (if_neg (by rw [S]; decide))
    have qx60 : x60 = pj4 := hx60.trans (if_neg (by rw [S]; decide))
    have qx67 : x67 = pj5 := hx67.trans (if_neg (by rw [S]; decide))
    have mx74 : ¬ x21 = x74 := by rw [hx74, if_pos S]; exact own_n64 E _
    have nx74 : ¬ x74 = x21 := fun q => mx74 q.symm
    have qx81 : x81 = x23 := hx81.trans (if_neg (by rw [S]; decide))
    have qn : x46 = x8 := hx46.trans (if_neg (by rw [S]; decide))
    have qk : x146 = x104 := by rw [hx146, hx104, qn]
    have hR : x210 = (0 : Int32) := hx210.trans (if_neg (by rw [S]; decide))
    rw [hR, hx219]
    simp only [qx26, qx36, qx53, qx60, qx67, mx74, nx74, qx81, qk, ↓reduceIte]
  · replace S : x10 = (8 : Int32) := own_of S
    have qx26 : x26 = pi0 := hx26.trans (if_neg (by rw [S]; decide))
    have qx36 : x36 = x2 := hx36.trans (if_neg (by rw [S]; decide))
    have qx53 : x53 = pj3 := hx53.trans (if_neg (by rw [S]; decide))
    have qx60 : x60 = pj4 := hx60.trans (if_neg (by rw [S]; decide))
    have qx67 : x67 = pj5 := hx67.trans (if_neg (by rw [S]; decide))
    have qx74 : x74 = x21 := hx74.trans (if_neg (by rw [S]; decide))
    have mx81 : ¬ x23 = x81 := by rw [hx81, if_pos S]; exact own_n64 E _
    have nx81 : ¬ x81 = x23 := fun q => mx81 q.symm
    have qn : x46 = x8 := hx46.trans (if_neg (by rw [S]; decide))
    have qk : x146 = x104 := by rw [hx146, hx104, qn]
    have hR : x210 = (0 : Int32) := hx210.trans (if_neg (by rw [S]; decide))
    rw [hR, hx219]
    simp only [qx26, qx36, qx53, qx60, qx67, qx74, mx81, nx81, qk, ↓reduceIte]
theorem law0_231 (pi0 : Int32) (pi1 : Int32) (pi2 : Int32) (pj3 : Int64) (pj4 : Int64) (pj5 : Int64) (w_REQUEST : Addr) (w_GRANT : Addr) (w_RELEASE : Addr) (w_RENEW : Addr) (w_RENEWED : Addr) (w_CANCEL : Addr) (w_CANCELLED : Addr) (w_TAKEOVER : Addr) (w_FOLLOW : Addr) (w_REPLY : Addr) (w_VOTE : Addr) (w_INQUIRE : Addr) (w_RELINQUISH : Addr) (x2 : Int32) (x8 : Int32) (x10 : Int32) (x12 : Int32) (x15 : Int64) (x21 : Int64) (x23 : Int64) (x26 : Int32) (x36 : Int32) (x46 : Int32) (x53 : Int64) (x60 : Int64) (x67 : Int64) (x74 : Int64) (x81 : Int64) (x104 : Addr) (x146 : Addr) (x210 : Int32) (x227 : Int32) (hx2 : x2 = (if pi1 = pi0 then (pi0 + (1 : Int32)) else pi1)) (hx8 : x8 = ((pi2 &&& (15 : Int32)) % (13 : Int32))) (hx10 : x10 = ((((pi2.toUInt32 >>> ((4 : Int32) &&& 31).toUInt32).toInt32) &&& (15 : Int32)) % (10 : Int32))) (hx12 : x12 = ((pi2 >>> ((8 : Int32) &&& 31)) ||| (1 : Int32))) (hx15 : x15 = (if pj5 = (0 : Int64) then (1 : Int64) else pj5)) (hx21 : x21 = (pj4 - pj5)) (hx23 : x23 = (pj3 ^^^ pj4)) (hx26 : x26 = (if x10 = (1 : Int32) then (if (pi0 + x12) = x2 then (pi0 - x12) else (pi0 + x12)) else pi0)) (hx36 : x36 = (if x10 = (2 : Int32) then (if (x2 + x12) = pi0 then (x2 - x12) else (x2 + x12)) else x2)) (hx46 : x46 = (if x10 = (3 : Int32) then (((x8 + (1 : Int32)) + ((((pi2.toUInt32 >>> ((8 : Int32) &&& 31).toUInt32).toInt32) &&& (8388607 : Int32)) % (12 : Int32))) % (13 : Int32)) else x8)) (hx53 : x53 = (if x10 = (4 : Int32) then (pj3 + x15) else pj3)) (hx60 : x60 = (if x10 = (5 : Int32) then (pj4 + x15) else pj4)) (hx67 : x67 = (if x10 = (6 : Int32) then (pj5 + x15) else pj5)) (hx74 : x74 = (if x10 = (7 : Int32) then (x21 + x15) else x21)) (hx81 : x81 = (if x10 = (8 : Int32) then (x23 + x15) else x23)) (hx104 : x104 = (if x8 = (0 : Int32) then w_REQUEST else (if x8 = (1 : Int32) then w_GRANT else (if x8 = (2 : Int32) then w_RELEASE else (if x8 = (3 : Int32) then w_RENEW else (if x8 = (4 : Int32) then w_RENEWED else (if x8 = (5 : Int32) then w_CANCEL else (if x8 = (6 : Int32) then w_CANCELLED else (if x8 = (7 : Int32) then w_TAKEOVER else (if x8 = (8 : Int32) then w_FOLLOW else (if x8 = (9 : Int32) then w_REPLY else (if x8 = (10 : Int32) then w_VOTE else (if x8 = (11 : Int32) then w_INQUIRE else w_RELINQUISH))))))))))))) (hx146 : x146 = (if x46 = (0 : Int32) then w_REQUEST else (if x46 = (1 : Int32) then w_GRANT else (if x46 = (2 : Int32) then w_RELEASE else (if x46 = (3 : Int32) then w_RENEW else (if x46 = (4 : Int32) then w_RENEWED else (if x46 = (5 : Int32) then w_CANCEL else (if x46 = (6 : Int32) then w_CANCELLED else (if x46 = (7 : Int32) then w_TAKEOVER else (if x46 = (8 : Int32) then w_FOLLOW else (if x46 = (9 : Int32) then w_REPLY else (if x46 = (10 : Int32) then w_VOTE else (if x46 = (11 : Int32) then w_INQUIRE else w_RELINQUISH))))))))))))) (hx210 : x210 = (if x10 = (0 : Int32) then (1 : Int32) else (0 : Int32))) (hx227 : x227 = (if x26 = pi0 then (if x36 = x2 then (if x146 = x104 then (if x53 = pj3 then (if x60 = pj4 then (if x67 = pj5 then (if x74 = x21 then (if x81 = x23 then (1 : Int32) else (0 : Int32)) else (0 : Int32)) else (0 : Int32)) else (0 : Int32)) else (0 : Int32)) else (0 : Int32)) else (0 : Int32)) else (0 : Int32))) (hc317_172 : ¬ (x10 = (9 : Int32))) (KN : ¬ x8 = x46 → ¬ x104 = x146) : x227 = x210 := by
  have S1 : 0 ≤ x10.toInt ∧ x10.toInt ≤ 9 := by rw [hx10]; exact own_sel _
  have S2 : ¬ x10.toInt = 9 := fun q => hc317_172 (own_of q)
  have S : x10.toInt = 0 ∨ x10.toInt = 1 ∨ x10.toInt = 2 ∨ x10.toInt = 3 ∨ x10.toInt = 4 ∨ x10.toInt = 5 ∨ x10.toInt = 6 ∨ x10.toInt = 7 ∨ x10.toInt = 8 := by omega
  have E : ¬ x15 = 0 := by rw [hx15]; exact own_e5 _
  have D : x12.toInt % 2 = 1 := by rw [hx12]; exact own_odd _
  rcases S with S | S | S | S | S | S | S | S | S
  · replace S : x10 = (0 : Int32) := own_of S
    have qx26 : x26 = pi0 := hx26.trans (if_neg (by rw [S]; decide))
    have qx36 : x36 = x2 := hx36.trans (if_neg (by rw [S]; decide))
    have qx53 : x53 = pj3 := hx53.trans (if_neg (by rw [S]; decide))
    have qx60 : x60 = pj4 := hx60.trans (if_neg (by rw [S]; decide))
    have qx67 : x67 = pj5 := hx67.trans (if_neg (by rw [S]; decide))
    have qx74 : x74 = x21 := hx74.trans (if_neg (by rw [S]; decide))
    have qx81 : x81 = x23 := hx81.trans (if_neg (by rw [S]; decide))
    have qn : x46 = x8 := hx46.trans (if_neg (by rw [S]; decide))
    have qk : x146 = x104 := by rw [hx146, hx104, qn]
    have hR : x210 = (1 : Int32) := hx210.trans (if_pos S)
    rw [hR, hx227]
    simp only [qx26, qx36, qx53, qx60, qx67, qx74, qx81, qk, ↓reduceIte]
  · replace S : x10 = (1 : Int32) := own_of S
    have mx26 : ¬ pi0 = x26 := by rw [hx26, if_pos S]; exact own_fne D _ _
    have nx26 : ¬ x26 = pi0 := fun q => mx26 q.symm
    have qx36 : x36 = x2 := hx36.trans (if_neg (by rw [S]; decide))
    have qx53 : x53 = pj3 := hx53.trans (if_neg (by rw [S]; decide))
    have qx60 : x60 = pj4 := hx60.trans (if_neg (by rw [S]; decide))
    have qx67 : x67 = pj5 := hx67.trans (if_neg (by rw [S]; decide))
    have qx74 : x74 = x21 := hx74.trans (if_neg (by rw [S]; decide))
    have qx81 : x81 = x23 := hx81.trans (if_neg (by rw [S]; decide))
    have qn : x46 = x8 := hx46.trans (if_neg (by rw [S]; decide))
    have qk : x146 = x104 := by rw [hx146, hx104, qn]
    have hR : x210 = (0 : Int32) := hx210.trans (if_neg (by rw [S]; decide))
    rw [hR, hx227]
    simp only [mx26, nx26, qx36, qx53, qx60, qx67, qx74, qx81, qk, ↓reduceIte]
  · replace S : x10 = (2 : Int32) := own_of S
    have qx26 : x26 = pi0 := hx26.trans (if_neg (by rw [S]; decide))
    have mx36 : ¬ x2 = x36 := by rw [hx36, if_pos S]; exact own_fne D _ _
    have nx36 : ¬ x36 = x2 := fun q => mx36 q.symm
    have qx53 : x53 = pj3 := hx53.trans (if_neg (by rw [S]; decide))
    have qx60 : x60 = pj4 := hx60.trans (if_neg (by rw [S]; decide))
    have qx67 : x67 = pj5 := hx67.trans (if_neg (by rw [S]; decide))
    have qx74 : x74 = x21 := hx74.trans (if_neg (by rw [S]; decide))
    have qx81 : x81 = x23 := hx81.trans (if_neg (by rw [S]; decide))
    have qn : x46 = x8 := hx46.trans (if_neg (by rw [S]; decide))
    have qk : x146 = x104 := by rw [hx146, hx104, qn]
    have hR : x210 = (0 : Int32) := hx210.trans (if_neg (by rw [S]; decide))
    rw [hR, hx227]
    simp only [qx26, mx36, nx36, qx53, qx60, qx67, qx74, qx81, qk, ↓reduceIte]
  · replace S : x10 = (3 : Int32) := own_of S
    have qx26 : x26 = pi0 := hx26.trans (if_neg (by rw [S]; decide))
    have qx36 : x36 = x2 := hx36.trans (if_neg (by rw [S]; decide))
    have qx53 : x53 = pj3 := hx53.trans (if_neg (by rw [S]; decide))
    have qx60 : x60 = pj4 := hx60.trans (if_neg (by rw [S]; decide))
    have qx67 : x67 = pj5 := hx67.trans (if_neg (by rw [S]; decide))
    have qx74 : x74 = x21 := hx74.trans (if_neg (by rw [S]; decide))
    have qx81 : x81 = x23 := hx81.trans (if_neg (by rw [S]; decide))
    have mk : ¬ x104 = x146 := KN (by rw [hx46, if_pos S]; exact (own_kk x8 _ (by rw [hx8]; exact own_k8 _)).2.2)
    have nk : ¬ x146 = x104 := fun q => mk q.symm
    have hR : x210 = (0 : Int32) := hx210.trans (if_neg (by rw [S]; decide))
    rw [hR, hx227]
    simp only [qx26, qx36, qx53, qx60, qx67, qx74, qx81, mk, nk, ↓reduceIte]
  · replace S : x10 = (4 : Int32) := own_of S
    have qx26 : x26 = pi0 := hx26.trans (if_neg (by rw [S]; decide))
    have qx36 : x36 = x2 := hx36.trans (if_neg (by rw [S]; decide))
    have mx53 : ¬ pj3 = x53 := by rw [hx53, if_pos S]; exact own_n64 E _
    have nx53 : ¬ x53 = pj3 := fun q => mx53 q.symm
    have qx60 : x60 = pj4 := hx60.trans (if_neg (by rw [S]; decide))
    have qx67 : x67 = pj5 := hx67.trans (if_neg (by rw [S]; decide))
    have qx74 : x74 = x21 := hx74.trans (if_neg (by rw [S]; decide))
    have qx81 : x81 = x23 := hx81.trans (if_neg (by rw [S]; decide))
    have qn : x46 = x8 := hx46.trans (if_neg (by rw [S]; decide))
    have qk : x146 = x104 := by rw [hx146, hx104, qn]
    have hR : x210 = (0 : Int32) := hx210.trans (if_neg (by rw [S]; decide))
    rw [hR, hx227]
    simp only [qx26, qx36, mx53, nx53, qx60, qx67, qx74, qx81, qk, ↓reduceIte]
  · replace S : x10 = (5 : Int32) := own_of S
    have qx26 : x26 = pi0 := hx26.trans (if_neg (by rw [S]; decide))
    have qx36 : x36 = x2 := hx36.trans (if_neg (by rw [S]; decide))
    have qx53 : x53 = pj3 := hx53.trans (if_neg (by rw [S]; decide))
    have mx60 : ¬ pj4 = x60 := by rw [hx60, if_pos S]; exact own_n64 E _
    have nx60 : ¬ x60 = pj4 := fun q => mx60 q.symm
    have qx67 : x67 = pj5 := hx67.trans (if_neg (by rw [S]; decide))
    have qx74 : x74 = x21 := hx74.trans (if_neg (by rw [S]; decide))
    have qx81 : x81 = x23 := hx81.trans (if_neg (by rw [S]; decide))
    have qn : x46 = x8 := hx46.trans (if_neg (by rw [S]; decide))
    have qk : x146 = x104 := by rw [hx146, hx104, qn]
    have hR : x210 = (0 : Int32) := hx210.trans (if_neg (by rw [S]; decide))
    rw [hR, hx227]
    simp only [qx26, qx36, qx53, mx60, nx60, qx67, qx74, qx81, qk, ↓reduceIte]
  · replace S : x10 = (6 : Int32) := own_of S
    have qx26 : x26 = pi0 := hx26.trans (if_neg (by rw [S]; decide))
    have qx36 : x36 = x2 := hx36.trans (if_neg (by rw [S]; decide))
    have qx53 : x53 = pj3 := hx53.trans (if_neg (by rw [S]; decide))
    have qx60 : x60 = pj4 := hx60.trans (if_neg (by rw [S]; decide))
    have mx67 : ¬ pj5 = x67 := by rw [hx67, if_pos S]; exact own_n64 E _
    have nx67 : ¬ x67 = pj5 := fun q => mx67 q.symm
    have qx74 : x74 = x21 := hx74.trans (if_neg (by rw [S]; decide))
    have qx81 : x81 = x23 := hx81.trans (if_neg (by rw [S]; decide))
    have qn : x46 = x8 := hx46.trans (if_neg (by rw [S]; decide))
    have qk : x146 = x104 := by rw [hx146, hx104, qn]
    have hR : x210 = (0 : Int32) := hx210.trans (if_neg (by rw [S]; decide))
    rw [hR, hx227]
    simp only [qx26, qx36, qx53, qx60, mx67, nx67, qx74, qx81, qk, ↓reduceIte]
  · replace S : x10 = (7 : Int32) := own_of S
    have qx26 : x26 = pi0 := hx26.trans (if_neg (by rw [S]; decide))
    have qx36 : x36 = x2 := hx36.trans (if_neg (by rw [S]; decide))
    have qx53 : x53 = pj3 := hx53.trans (if_neg (by rw [S]; decide))
    have qx60 : x60 = pj4 := hx60.trans (if_neg (by rw [S]; decide))
    have qx67 : x67 = pj5 := hx67.trans (if_neg (by rw [S]; decide))
    have mx74 : ¬ x21 = x74 := by rw [hx74, if_pos S]; exact own_n64 E _
    have nx74 : ¬ x74 = x21 := fun q => mx74 q.symm
    have qx81 : x81 = x23 := hx81.trans (if_neg (by rw [S]; decide))
    have qn : x46 = x8 := hx46.trans (if_neg (by rw [S]; decide))
    have qk : x146 = x104 := by rw [hx146, hx104, qn]
    have hR : x210 = (0 : Int32) := hx210.trans (if_neg (by rw [S]; decide))
    rw [hR, hx227]
    simp only [qx26, qx36, qx53, qx60, qx67, mx74, nx74, qx81, qk, ↓reduceIte]
  · replace S : x10 = (8 : Int32) := own_of S
    have qx26 : x26 = pi0 := hx26.trans (if_neg (by rw [S]; decide))
    have qx36 : x36 = x2 := hx36.trans (if_neg (by rw [S]; decide))
    have qx53 : x53 = pj3 := hx53.trans (if_neg (by rw [S]; decide))
    have qx60 : x60 = pj4 := hx60.trans (if_neg (by rw [S]; decide))
    have qx67 : x67 = pj5 := hx67.trans (if_neg (by rw [S]; decide))
    have qx74 : x74 = x21 := hx74.trans (if_neg (by rw [S]; decide))
    have mx81 : ¬ x23 = x81 := by rw [hx81, if_pos S]; exact own_n64 E _
    have nx81 : ¬ x81 = x23 := fun q => mx81 q.symm
    have qn : x46 = x8 := hx46.trans (if_neg (by rw [S]; decide))
    have qk : x146 = x104 := by rw [hx146, hx104, qn]
    have hR : x210 = (0 : Int32) := hx210.trans (if_neg (by rw [S]; decide))
    rw [hR, hx227]
    simp only [qx26, qx36, qx53, qx60, qx67, qx74, mx81, nx81, qk, ↓reduceIte]
theorem pd__I_Lcom_example_procord_procord_lock_LockMessage_Kind_ : parseMethodDescriptor "(I)Lcom/example/procord/procord/lock/LockMessage$Kind;" = some ⟨[.int], some (.object "com/example/procord/procord/lock/LockMessage$Kind")⟩ := by decide +kernel
theorem pd__IILcom_example_procord_procord_lock_LockMessage_Kind_JJJJJ_V : parseMethodDescriptor "(IILcom/example/procord/procord/lock/LockMessage$Kind;JJJJJ)V" = some ⟨[.int, .int, (.object "com/example/procord/procord/lock/LockMessage$Kind"), .long, .long, .long, .long, .long], none⟩ := by decide +kernel
theorem pd__I_Ljava_lang_Integer_ : parseMethodDescriptor "(I)Ljava/lang/Integer;" = some ⟨[.int], some (.object "java/lang/Integer")⟩ := by decide +kernel
theorem pd__Ljava_lang_Object__Z : parseMethodDescriptor "(Ljava/lang/Object;)Z" = some ⟨[(.object "java/lang/Object")], some .boolean⟩ := by decide +kernel
theorem ef_0 (m : MethodId) (x0 : Int32) (x1 : Int32) (x2 : Int32) (x3 : Int64) (x4 : Int64) (x5 : Int64) : entryFrame m #[(.int x0), (.int x1), (.int x2), (.long x3), (.long x4), (.long x5)] maxLocals = mkF m 0 #[iv x0, iv x1, iv x2, jv x3, .second, jv x4, .second, jv x5, .second, .unset, .unset, .unset, .unset, .unset, .unset, .unset, .unset, .unset, .unset, .unset, .unset, .unset, .unset, .unset, .unset, .unset, .unset, .unset, .unset, .unset, .unset, .unset, .unset, .unset, .unset, .unset, .unset, .unset, .unset] [] := by first | (simp [entryFrame, mkF, argsToLocals, Value.category, maxLocals]; done) | rfl
def Q0 (Z : State) (pi0 : Int32) (pi1 : Int32) (pi2 : Int32) (pj3 : Int64) (pj4 : Int64) (pj5 : Int64) (w_cache : Addr) (w_REQUEST : Addr) (w_GRANT : Addr) (w_RELEASE : Addr) (w_RENEW : Addr) (w_RENEWED : Addr) (w_CANCEL : Addr) (w_CANCELLED : Addr) (w_TAKEOVER : Addr) (w_FOLLOW : Addr) (w_REPLY : Addr) (w_VOTE : Addr) (w_INQUIRE : Addr) (w_RELINQUISH : Addr) (cc : Cell) (h0 : Heap) (n0 : Nat) (v : Option Value) (h : Heap) (L : List Loc) : Prop := v = some (.int (1 : Int32)) ∧ Fr n0 L
set_option maxRecDepth 65536 in
set_option maxHeartbeats 40000000 in
theorem rm0 (l : Launch) (Z : State) (a0 : Array Value) (hw : ∀ d ∈ tables_1, d.before a0 Z = true) (ws : List Jvm.Cond) (pi0 : Int32) (pi1 : Int32) (pi2 : Int32) (pj3 : Int64) (pj4 : Int64) (pj5 : Int64) (w_cache : Addr) (w_REQUEST : Addr) (w_GRANT : Addr) (w_RELEASE : Addr) (w_RENEW : Addr) (w_RENEWED : Addr) (w_CANCEL : Addr) (w_CANCELLED : Addr) (w_TAKEOVER : Addr) (w_FOLLOW : Addr) (w_REPLY : Addr) (w_VOTE : Addr) (w_INQUIRE : Addr) (w_RELINQUISH : Addr) (cc : Cell) (h0 : Heap) (n0 : Nat) (O0 : Old Z n0 h0) (S_cache : Sta Z Z.heap "java/lang/Integer$IntegerCache" "cache" "[Ljava/lang/Integer;" (.ref w_cache)) (S_high : Sta Z Z.heap "java/lang/Integer$IntegerCache" "high" "I" (.int (127 : Int32))) (S_REQUEST : Sta Z Z.heap "com/example/procord/procord/lock/LockMessage$Kind" "REQUEST" "Lcom/example/procord/procord/lock/LockMessage$Kind;" (.ref w_REQUEST)) (S_GRANT : Sta Z Z.heap "com/example/procord/procord/lock/LockMessage$Kind" "GRANT" "Lcom/example/procord/procord/lock/LockMessage$Kind;" (.ref w_GRANT)) (S_RELEASE : Sta Z Z.heap "com/example/procord/procord/lock/LockMessage$Kind" "RELEASE" "Lcom/example/procord/procord/lock/LockMessage$Kind;" (.ref w_RELEASE)) (S_RENEW : Sta Z Z.heap "com/example/procord/procord/lock/LockMessage$Kind" "RENEW" "Lcom/example/procord/procord/lock/LockMessage$Kind;" (.ref w_RENEW)) (S_RENEWED : Sta Z Z.heap "com/example/procord/procord/lock/LockMessage$Kind" "RENEWED" "Lcom/example/procord/procord/lock/LockMessage$Kind;" (.ref w_RENEWED)) (S_CANCEL : Sta Z Z.heap "com/example/procord/procord/lock/LockMessage$Kind" "CANCEL" "Lcom/example/procord/procord/lock/LockMessage$Kind;" (.ref w_CANCEL)) (S_CANCELLED : Sta Z Z.heap "com/example/procord/procord/lock/LockMessage$Kind" "CANCELLED" "Lcom/example/procord/procord/lock/LockMessage$Kind;" (.ref w_CANCELLED)) (S_TAKEOVER : Sta Z Z.heap "com/example/procord/procord/lock/LockMessage$Kind" "TAKEOVER" "Lcom/example/procord/procord/lock/LockMessage$Kind;" (.ref w_TAKEOVER)) (S_FOLLOW : Sta Z Z.heap "com/example/procord/procord/lock/LockMessage$Kind" "FOLLOW" "Lcom/example/procord/procord/lock/LockMessage$Kind;" (.ref w_FOLLOW)) (S_REPLY : Sta Z Z.heap "com/example/procord/procord/lock/LockMessage$Kind" "REPLY" "Lcom/example/procord/procord/lock/LockMessage$Kind;" (.ref w_REPLY)) (S_VOTE : Sta Z Z.heap "com/example/procord/procord/lock/LockMessage$Kind" "VOTE" "Lcom/example/procord/procord/lock/LockMessage$Kind;" (.ref w_VOTE)) (S_INQUIRE : Sta Z Z.heap "com/example/procord/procord/lock/LockMessage$Kind" "INQUIRE" "Lcom/example/procord/procord/lock/LockMessage$Kind;" (.ref w_INQUIRE)) (S_RELINQUISH : Sta Z Z.heap "com/example/procord/procord/lock/LockMessage$Kind" "RELINQUISH" "Lcom/example/procord/procord/lock/LockMessage$Kind;" (.ref w_RELINQUISH)) (CA : Bxs Z w_cache cc "java/lang/Integer" "I" (256 : Int32) (fun j => .int (j - 128))) (NI_pr1 : Nas Z "java/lang/Integer" "com/example/procord/procord/lock/LockMessage") (E_w_REQUEST : Exa Z Z.heap w_REQUEST "com/example/procord/procord/lock/LockMessage$Kind") (E_w_GRANT : Exa Z Z.heap w_GRANT "com/example/procord/procord/lock/LockMessage$Kind") (E_w_RELEASE : Exa Z Z.heap w_RELEASE "com/example/procord/procord/lock/LockMessage$Kind") (E_w_RENEW : Exa Z Z.heap w_RENEW "com/example/procord/procord/lock/LockMessage$Kind") (E_w_RENEWED : Exa Z Z.heap w_RENEWED "com/example/procord/procord/lock/LockMessage$Kind") (E_w_CANCEL : Exa Z Z.heap w_CANCEL "com/example/procord/procord/lock/LockMessage$Kind") (E_w_CANCELLED : Exa Z Z.heap w_CANCELLED "com/example/procord/procord/lock/LockMessage$Kind") (E_w_TAKEOVER : Exa Z Z.heap w_TAKEOVER "com/example/procord/procord/lock/LockMessage$Kind") (E_w_FOLLOW : Exa Z Z.heap w_FOLLOW "com/example/procord/procord/lock/LockMessage$Kind") (E_w_REPLY : Exa Z Z.heap w_REPLY "com/example/procord/procord/lock/LockMessage$Kind") (E_w_VOTE : Exa Z Z.heap w_VOTE "com/example/procord/procord/lock/LockMessage$Kind") (E_w_INQUIRE : Exa Z Z.heap w_INQUIRE "com/example/procord/procord/lock/LockMessage$Kind") (E_w_RELINQUISH : Exa Z Z.heap w_RELINQUISH "com/example/procord/procord/lock/LockMessage$Kind") (F_ordinal_w_REQUEST : Fld Z Z.heap w_REQUEST "java/lang/Enum" "ordinal" "I" (.int (0 : Int32))) (F_ordinal_w_GRANT : Fld Z Z.heap w_GRANT "java/lang/Enum" "ordinal" "I" (.int (1 : Int32))) (F_ordinal_w_RELEASE : Fld Z Z.heap w_RELEASE "java/lang/Enum" "ordinal" "I" (.int (2 : Int32))) (F_ordinal_w_RENEW : Fld Z Z.heap w_RENEW "java/lang/Enum" "ordinal" "I" (.int (3 : Int32))) (F_ordinal_w_RENEWED : Fld Z Z.heap w_RENEWED "java/lang/Enum" "ordinal" "I" (.int (4 : Int32))) (F_ordinal_w_CANCEL : Fld Z Z.heap w_CANCEL "java/lang/Enum" "ordinal" "I" (.int (5 : Int32))) (F_ordinal_w_CANCELLED : Fld Z Z.heap w_CANCELLED "java/lang/Enum" "ordinal" "I" (.int (6 : Int32))) (F_ordinal_w_TAKEOVER : Fld Z Z.heap w_TAKEOVER "java/lang/Enum" "ordinal" "I" (.int (7 : Int32))) (F_ordinal_w_FOLLOW : Fld Z Z.heap w_FOLLOW "java/lang/Enum" "ordinal" "I" (.int (8 : Int32))) (F_ordinal_w_REPLY : Fld Z Z.heap w_REPLY "java/lang/Enum" "ordinal" "I" (.int (9 : Int32))) (F_ordinal_w_VOTE : Fld Z Z.heap w_VOTE "java/lang/Enum" "ordinal" "I" (.int (10 : Int32))) (F_ordinal_w_INQUIRE : Fld Z Z.heap w_INQUIRE "java/lang/Enum" "ordinal" "I" (.int (11 : Int32))) (F_ordinal_w_RELINQUISH : Fld Z Z.heap w_RELINQUISH "java/lang/Enum" "ordinal" "I" (.int (12 : Int32))) :
    MetFree l x (head1 (Jvm.Cond.code x code maxLocals ret :: ws) room_1) (fun a U => a = #[(.int pi0), (.int pi1), (.int pi2), (.long pj3), (.long pj4), (.long pj5)] ∧ Z.Warmed39 U.vm ∧ U.heap = h0) (fun _ _ _ _ _ => True) (fun _ U o U' => ∃ v L, o = .returned v ∧ Q0 Z pi0 pi1 pi2 pj3 pj4 pj5 w_cache w_REQUEST w_GRANT w_RELEASE w_RENEW w_RENEWED w_CANCEL w_CANCELLED w_TAKEOVER w_FOLLOW w_REPLY w_VOTE w_INQUIRE w_RELINQUISH cc h0 n0 v U'.heap L ∧ ReturnedEndW U o U' L room_1.cells room_1.slots) := by
  refine MetFree.of_bodySF (plainFor_of_name pn_com_example_procord_procord_lock_LockMessageEqualsPinLaw) hisR ?_
  intro p e s m args below meth c s₁ Bd hml0 hP hK
  obtain ⟨rfl, hZ, hh⟩ := hP
  have hx := Bd.exec
  have hby := Bd.bytes
  have hml : c.maxLocals = 39 := hml0
  have hown : s.vm.findClass "com/example/procord/procord/lock/LockMessageEqualsPinLaw" = some m.cls := findClass_of_methodNamed Bd.named
  have hnm := (name_of_methodNamed Bd.named Bd.method).1
  have X0 : Stand p l e room_1 s m #[(.int pi0), (.int pi1), (.int pi2), (.long pj3), (.long pj4), (.long pj5)] below meth c s₁ [] 0 0 := Stand.of_body Bd
  have e0 : s₁.heap = h0 := by rw [← hh, Bd.state]; rfl
  have N0 := Fr.nil n0
  have hS0 : s.Since s.vm 0 := (State.WarmedH.refl s).since 0
  obtain ⟨Go, hGo⟩ : ∃ P : State → Prop, ∀ t, P t ↔ Steps p.tables e below (s₁.setTop (entryFrame m #[(.int pi0), (.int pi1), (.int pi2), (.long pj3), (.long pj4), (.long pj5)] maxLocals)) t := ⟨_, fun _ => Iff.rfl⟩
  have pre0 : ∀ t, Steps p.tables e below (s₁.setTop (mkF m 0 #[iv pi0, iv pi1, iv pi2, jv pj3, .second, jv pj4, .second, jv pj5, .second, .unset, .unset, .unset, .unset, .unset, .unset, .unset, .unset, .unset, .unset, .unset, .unset, .unset, .unset, .unset, .unset, .unset, .unset, .unset, .unset, .unset, .unset, .unset, .unset, .unset, .unset, .unset, .unset, .unset, .unset] [])) t → Go t := fun t k => (hGo t).mpr (castTop (ef_0 m pi0 pi1 pi2 pj3 pj4 pj5) k)
  have pre1 : ∀ t, Steps p.tables e below (s₁.setTop (mkF m 2 #[iv pi0, iv pi1, iv pi2, jv pj3, .second, jv pj4, .second, jv pj5, .second, .unset, .unset, .unset, .unset, .unset, .unset, .unset, .unset, .unset, .unset, .unset, .unset, .unset, .unset, .unset, .unset, .unset, .unset, .unset, .unset, .unset, .unset, .unset, .unset, .unset, .unset, .unset, .unset, .unset, .unset] [(.int pi0), (.int pi1)])) t → Go t := fun t kt => pre0 t (by
      refine y_iloadN X0.here hx (hb hby at_0) rfl (pc' := 1) rfl ?_
      refine y_iloadN X0.here hx (hb hby at_1) rfl (pc' := 2) rfl ?_
      exact kt)
  obtain ⟨x2, hx2⟩ : ∃ z : Int32, z = (if pi1 = pi0 then (pi0 + (1 : Int32)) else pi1) := ⟨_, rfl⟩
  obtain ⟨T3, ⟨X3, q3⟩, st3⟩ : ∃ T', Nx X0 T' ∧ ∀ t, Steps p.tables e below (T'.setTop (mkF m 12 #[iv pi0, iv pi1, iv pi2, jv pj3, .second, jv pj4, .second, jv pj5, .second, .unset, .unset, .unset, .unset, .unset, .unset, .unset, .unset, .unset, .unset, .unset, .unset, .unset, .unset, .unset, .unset, .unset, .unset, .unset, .unset, .unset, .unset, .unset, .unset, .unset, .unset, .unset, .unset, .unset, .unset] [(.int x2)])) t → Steps p.tables e below (s₁.setTop (mkF m 2 #[iv pi0, iv pi1, iv pi2, jv pj3, .second, jv pj4, .second, jv pj5, .second, .unset, .unset, .unset, .unset, .unset, .unset, .unset, .unset, .unset, .unset, .unset, .unset, .unset, .unset, .unset, .unset, .unset, .unset, .unset, .unset, .unset, .unset, .unset, .unset, .unset, .unset, .unset, .unset, .unset, .unset] [(.int pi0), (.int pi1)])) t := by
    have pre3_ : ∀ t, Steps p.tables e below (s₁.setTop (mkF m 2 #[iv pi0, iv pi1, iv pi2, jv pj3, .second, jv pj4, .second, jv pj5, .second, .unset, .unset, .unset, .unset, .unset, .unset, .unset, .unset, .unset, .unset, .unset, .unset, .unset, .unset, .unset, .unset, .unset, .unset, .unset, .unset, .unset, .unset, .unset, .unset, .unset, .unset, .unset, .unset, .unset, .unset] [(.int pi0), (.int pi1)])) t → Steps p.tables e below (s₁.setTop (mkF m 2 #[iv pi0, iv pi1, iv pi2, jv pj3, .second, jv pj4, .second, jv pj5, .second, .unset, .unset, .unset, .unset, .unset, .unset, .unset, .unset, .unset, .unset, .unset, .unset, .unset, .unset, .unset, .unset, .unset, .unset, .unset, .unset, .unset, .unset, .unset, .unset, .unset, .unset, .unset, .unset, .unset, .unset] [(.int pi0), (.int pi1)])) t := fun t kt => kt
    subst hx2
    by_cases hm2_4 : pi1 = pi0
    · have pre5 : ∀ t, Steps p.tables e below (s₁.setTop (mkF m 12 #[iv pi0, iv pi1, iv pi2, jv pj3, .second, jv pj4, .second, jv pj5, .second, .unset, .unset, .unset, .unset, .unset, .unset, .unset, .unset, .unset, .unset, .unset, .unset, .unset, .unset, .unset, .unset, .unset, .unset, .unset, .unset, .unset, .unset, .unset, .unset, .unset, .unset, .unset, .unset, .unset, .unset] [(.int (pi0 + (1 : Int32)))])) t → Steps p.tables e below (s₁.setTop (mkF m 2 #[iv pi0, iv pi1, iv pi2, jv pj3, .second, jv pj4, .second, jv pj5, .second, .unset, .unset, .unset, .unset, .unset, .unset, .unset, .unset, .unset, .unset, .unset, .unset, .unset, .unset, .unset, .unset, .unset, .unset, .unset, .unset, .unset, .unset, .unset, .unset, .unset, .unset, .unset, .unset, .unset, .unset] [(.int pi0), (.int pi1)])) t := fun t kt => pre3_ t (by
          refine y_icmpNo X0.here hx (hb hby at_2) (teq hm2_4).2 (pc' := 5) rfl ?_
          refine y_iloadN X0.here hx (hb hby at_5) rfl (pc' := 6) rfl ?_
          refine y_iconst X0.here hx (hb hby at_6) (v := (1 : Int32)) rfl (pc' := 7) rfl ?_
          refine y_iadd X0.here hx (hb hby at_7) rfl (pc' := 8) rfl ?_
          refine y_goto X0.here hx (hb hby at_8) (pc' := 12) (by decide) rfl ?_
          exact kt)
      refine ⟨s₁, ⟨X0, e0.trans e0.symm⟩, fun t kt => pre5 t ?_⟩
      (try simp only [if_pos hm2_4] at kt)
      exact kt
    · have pre6 : ∀ t, Steps p.tables e below (s₁.setTop (mkF m 12 #[iv pi0, iv pi1, iv pi2, jv pj3, .second, jv pj4, .second, jv pj5, .second, .unset, .unset, .unset, .unset, .unset, .unset, .unset, .unset, .unset, .unset, .unset, .unset, .unset, .unset, .unset, .unset, .unset, .unset, .unset, .unset, .unset, .unset, .unset, .unset, .unset, .unset, .unset, .unset, .unset, .unset] [(.int pi1)])) t → Steps p.tables e below (s₁.setTop (mkF m 2 #[iv pi0, iv pi1, iv pi2, jv pj3, .second, jv pj4, .second, jv pj5, .second, .unset, .unset, .unset, .unset, .unset, .unset, .unset, .unset, .unset, .unset, .unset, .unset, .unset, .unset, .unset, .unset, .unset, .unset, .unset, .unset, .unset, .unset, .unset, .unset, .unset, .unset, .unset, .unset, .unset, .unset] [(.int pi0), (.int pi1)])) t := fun t kt => pre3_ t (by
          refine y_icmpYes X0.here hx (hb hby at_2) (feq hm2_4).2 (pc' := 11) (by decide) rfl ?_
          refine y_iloadN X0.here hx (hb hby at_11) rfl (pc' := 12) rfl ?_
          exact kt)
      refine ⟨s₁, ⟨X0, e0.trans e0.symm⟩, fun t kt => pre6 t ?_⟩
      (try simp only [if_neg hm2_4] at kt)
      exact kt
  have e3 : T3.heap = h0 := q3.trans e0
  have pre7 : ∀ t, Steps p.tables e below (T3.setTop (mkF m 12 #[iv pi0, iv pi1, iv pi2, jv pj3, .second, jv pj4, .second, jv pj5, .second, .unset, .unset, .unset, .unset, .unset, .unset, .unset, .unset, .unset, .unset, .unset, .unset, .unset, .unset, .unset, .unset, .unset, .unset, .unset, .unset, .unset, .unset, .unset, .unset, .unset, .unset, .unset, .unset, .unset, .unset] [(.int x2)])) t → Go t := fun t kt => pre1 t (st3 t kt)
  obtain ⟨x8, hx8⟩ : ∃ z : Int32, z = ((pi2 &&& (15 : Int32)) % (13 : Int32)) := ⟨_, rfl⟩
  have pre9 : ∀ t, Steps p.tables e below (T3.setTop (mkF m 23 #[iv pi0, iv pi1, iv pi2, jv pj3, .second, jv pj4, .second, jv pj5, .second, iv x2, iv x8, .unset, .unset, .unset, .unset, .unset, .unset, .unset, .unset, .unset, .unset, .unset, .unset, .unset, .unset, .unset, .unset, .unset, .unset, .unset, .unset, .unset, .unset, .unset, .unset, .unset, .unset, .unset, .unset] [])) t → Go t := fun t kt => pre7 t (by
      subst hx8
      refine y_istore X3.here hx (hb hby at_12) (l' := #[iv pi0, iv pi1, iv pi2, jv pj3, .second, jv pj4, .second, jv pj5, .second, iv x2, .unset, .unset, .unset, .unset, .unset, .unset, .unset, .unset, .unset, .unset, .unset, .unset, .unset, .unset, .unset, .unset, .unset, .unset, .unset, .unset, .unset, .unset, .unset, .unset, .unset, .unset, .unset, .unset, .unset]) rfl (pc' := 14) rfl ?_
      refine y_iloadN X3.here hx (hb hby at_14) rfl (pc' := 15) rfl ?_
      refine y_bipush X3.here hx (hb hby at_15) (v := (15 : Int32)) rfl (pc' := 17) rfl ?_
      refine y_iand X3.here hx (hb hby at_17) rfl (pc' := 18) rfl ?_
      refine y_bipush X3.here hx (hb hby at_18) (v := (13 : Int32)) rfl (pc' := 20) rfl ?_
      refine iremM (g := (mkF m 20 #[iv pi0, iv pi1, iv pi2, jv pj3, .second, jv pj4, .second, jv pj5, .second, iv x2, .unset, .unset, .unset, .unset, .unset, .unset, .unset, .unset, .unset, .unset, .unset, .unset, .unset, .unset, .unset, .unset, .unset, .unset, .unset, .unset, .unset, .unset, .unset, .unset, .unset, .unset, .unset, .unset, .unset] [(.int (13 : Int32)), (.int (pi2 &&& (15 : Int32)))])) X3 hx rfl (hb hby at_20) rfl (by decide) ?_
      show Steps p.tables e below (T3.setTop (mkF m 21 #[iv pi0, iv pi1, iv pi2, jv pj3, .second, jv pj4, .second, jv pj5, .second, iv x2, .unset, .unset, .unset, .unset, .unset, .unset, .unset, .unset, .unset, .unset, .unset, .unset, .unset, .unset, .unset, .unset, .unset, .unset, .unset, .unset, .unset, .unset, .unset, .unset, .unset, .unset, .unset, .unset, .unset] [(.int ((pi2 &&& (15 : Int32)) % (13 : Int32)))])) _
      refine y_istore X3.here hx (hb hby at_21) (l' := #[iv pi0, iv pi1, iv pi2, jv pj3, .second, jv pj4, .second, jv pj5, .second, iv x2, iv ((pi2 &&& (15 : Int32)) % (13 : Int32)), .unset, .unset, .unset, .unset, .unset, .unset, .unset, .unset, .unset, .unset, .unset, .unset, .unset, .unset, .unset, .unset, .unset, .unset, .unset, .unset, .unset, .unset, .unset, .unset, .unset, .unset, .unset, .unset]) rfl (pc' := 23) rfl ?_
      exact kt)
  obtain ⟨x10, hx10⟩ : ∃ z : Int32, z = ((((pi2.toUInt32 >>> ((4 : Int32) &&& 31).toUInt32).toInt32) &&& (15 : Int32)) % (10 : Int32)) := ⟨_, rfl⟩
  have pre11 : ∀ t, Steps p.tables e below (T3.setTop (mkF m 34 #[iv pi0, iv pi1, iv pi2, jv pj3, .second, jv pj4, .second, jv pj5, .second, iv x2, iv x8, iv x10, .unset, .unset, .unset, .unset, .unset, .unset, .unset, .unset, .unset, .unset, .unset, .unset, .unset, .unset, .unset, .unset, .unset, .unset, .unset, .unset, .unset, .unset, .unset, .unset, .unset, .unset, .unset] [])) t → Go t := fun t kt => pre9 t (by
      subst hx10
      refine y_iloadN X3.here hx (hb hby at_23) rfl (pc' := 24) rfl ?_
      refine y_iconst X3.here hx (hb hby at_24) (v := (4 : Int32)) rfl (pc' := 25) rfl ?_
      refine y_iushr X3.here hx (hb hby at_25) (z := ((pi2.toUInt32 >>> ((4 : Int32) &&& 31).toUInt32).toInt32)) rfl (pc' := 26) rfl ?_
      refine y_bipush X3.here hx (hb hby at_26) (v := (15 : Int32)) rfl (pc' := 28) rfl ?_
      refine y_iand X3.here hx (hb hby at_28) rfl (pc' := 29) rfl ?_
      refine y_bipush X3.here hx (hb hby at_29) (v := (10 : Int32)) rfl (pc' := 31) rfl ?_
      refine iremM (g := (mkF m 31 #[iv pi0, iv pi1, iv pi2, jv pj3, .second, jv pj4, .second, jv pj5, .second, iv x2, iv x8, .unset, .unset, .unset, .unset, .unset, .unset, .unset, .unset, .unset, .unset, .unset, .unset, .unset, .unset, .unset, .unset, .unset, .unset, .unset, .unset, .unset, .unset, .unset, .unset, .unset, .unset, .unset, .unset] [(.int (10 : Int32)), (.int (((pi2.toUInt32 >>> ((4 : Int32) &&& 31).toUInt32).toInt32) &&& (15 : Int32)))])) X3 hx rfl (hb hby at_31) rfl (by decide) ?_
      show Steps p.tables e below (T3.setTop (mkF m 32 #[iv pi0, iv pi1, iv pi2, jv pj3, .second, jv pj4, .second, jv pj5, .second, iv x2, iv x8, .unset, .unset, .unset, .unset, .unset, .unset, .unset, .unset, .unset, .unset, .unset, .unset, .unset, .unset, .unset, .unset, .unset, .unset, .unset, .unset, .unset, .unset, .unset, .unset, .unset, .unset, .unset, .unset] [(.int ((((pi2.toUInt32 >>> ((4 : Int32) &&& 31).toUInt32).toInt32) &&& (15 : Int32)) % (10 : Int32)))])) _
      refine y_istore X3.here hx (hb hby at_32) (l' := #[iv pi0, iv pi1, iv pi2, jv pj3, .second, jv pj4, .second, jv pj5, .second, iv x2, iv x8, iv ((((pi2.toUInt32 >>> ((4 : Int32) &&& 31).toUInt32).toInt32) &&& (15 : Int32)) % (10 : Int32)), .unset, .unset, .unset, .unset, .unset, .unset, .unset, .unset, .unset, .unset, .unset, .unset, .unset, .unset, .unset, .unset, .unset, .unset, .unset, .unset, .unset, .unset, .unset, .unset, .unset, .unset, .unset]) rfl (pc' := 34) rfl ?_
      exact kt)
  obtain ⟨x12, hx12⟩ : ∃ z : Int32, z = ((pi2 >>> ((8 : Int32) &&& 31)) ||| (1 : Int32)) := ⟨_, rfl⟩
  have pre13 : ∀ t, Steps p.tables e below (T3.setTop (mkF m 42 #[iv pi0, iv pi1, iv pi2, jv pj3, .second, jv pj4, .second, jv pj5, .second, iv x2, iv x8, iv x10, iv x12, .unset, .unset, .unset, .unset, .unset, .unset, .unset, .unset, .unset, .unset, .unset, .unset, .unset, .unset, .unset, .unset, .unset, .unset, .unset, .unset, .unset, .unset, .unset, .unset, .unset, .unset] [])) t → Go t := fun t kt => pre11 t (by
      subst hx12
      refine y_iloadN X3.here hx (hb hby at_34) rfl (pc' := 35) rfl ?_
      refine y_bipush X3.here hx (hb hby at_35) (v := (8 : Int32)) rfl (pc' := 37) rfl ?_
      refine y_ishr X3.here hx (hb hby at_37) (z := (pi2 >>> ((8 : Int32) &&& 31))) rfl (pc' := 38) rfl ?_
      refine y_iconst X3.here hx (hb hby at_38) (v := (1 : Int32)) rfl (pc' := 39) rfl ?_
      refine y_ior X3.here hx (hb hby at_39) rfl (pc' := 40) rfl ?_
      refine y_istore X3.here hx (hb hby at_40) (l' := #[iv pi0, iv pi1, iv pi2, jv pj3, .second, jv pj4, .second, jv pj5, .second, iv x2, iv x8, iv x10, iv ((pi2 >>> ((8 : Int32) &&& 31)) ||| (1 : Int32)), .unset, .unset, .unset, .unset, .unset, .unset, .unset, .unset, .unset, .unset, .unset, .unset, .unset, .unset, .unset, .unset, .unset, .unset, .unset, .unset, .unset, .unset, .unset, .unset, .unset, .unset]) rfl (pc' := 42) rfl ?_
      exact kt)
  have pre14 : ∀ t, Steps p.tables e below (T3.setTop (mkF m 46 #[iv pi0, iv pi1, iv pi2, jv pj3, .second, jv pj4, .second, jv pj5, .second, iv x2, iv x8, iv x10, iv x12, .unset, .unset, .unset, .unset, .unset, .unset, .unset, .unset, .unset, .unset, .unset, .unset, .unset, .unset, .unset, .unset, .unset, .unset, .unset, .unset, .unset, .unset, .unset, .unset, .unset, .unset] [(.int (lcmpW pj5 (0 : Int64)))])) t → Go t := fun t kt => pre13 t (by
      refine y_lload X3.here hx (hb hby at_42) rfl (pc' := 44) rfl ?_
      refine y_lconst X3.here hx (hb hby at_44) (v := (0 : Int64)) rfl (pc' := 45) rfl ?_
      refine y_lcmp X3.here hx (hb hby at_45) (pc' := 46) rfl ?_
      exact kt)
  obtain ⟨x15, hx15⟩ : ∃ z : Int64, z = (if pj5 = (0 : Int64) then (1 : Int64) else pj5) := ⟨_, rfl⟩
  obtain ⟨T16, ⟨X16, q16⟩, st16⟩ : ∃ T', Nx X3 T' ∧ ∀ t, Steps p.tables e below (T'.setTop (mkF m 55 #[iv pi0, iv pi1, iv pi2, jv pj3, .second, jv pj4, .second, jv pj5, .second, iv x2, iv x8, iv x10, iv x12, .unset, .unset, .unset, .unset, .unset, .unset, .unset, .unset, .unset, .unset, .unset, .unset, .unset, .unset, .unset, .unset, .unset, .unset, .unset, .unset, .unset, .unset, .unset, .unset, .unset, .unset] [(.long x15)])) t → Steps p.tables e below (T3.setTop (mkF m 46 #[iv pi0, iv pi1, iv pi2, jv pj3, .second, jv pj4, .second, jv pj5, .second, iv x2, iv x8, iv x10, iv x12, .unset, .unset, .unset, .unset, .unset, .unset, .unset, .unset, .unset, .unset, .unset, .unset, .unset, .unset, .unset, .unset, .unset, .unset, .unset, .unset, .unset, .unset, .unset, .unset, .unset, .unset] [(.int (lcmpW pj5 (0 : Int64)))])) t := by
    have pre16_ : ∀ t, Steps p.tables e below (T3.setTop (mkF m 46 #[iv pi0, iv pi1, iv pi2, jv pj3, .second, jv pj4, .second, jv pj5, .second, iv x2, iv x8, iv x10, iv x12, .unset, .unset, .unset, .unset, .unset, .unset, .unset, .unset, .unset, .unset, .unset, .unset, .unset, .unset, .unset, .unset, .unset, .unset, .unset, .unset, .unset, .unset, .unset, .unset, .unset, .unset] [(.int (lcmpW pj5 (0 : Int64)))])) t → Steps p.tables e below (T3.setTop (mkF m 46 #[iv pi0, iv pi1, iv pi2, jv pj3, .second, jv pj4, .second, jv pj5, .second, iv x2, iv x8, iv x10, iv x12, .unset, .unset, .unset, .unset, .unset, .unset, .unset, .unset, .unset, .unset, .unset, .unset, .unset, .unset, .unset, .unset, .unset, .unset, .unset, .unset, .unset, .unset, .unset, .unset, .unset, .unset] [(.int (lcmpW pj5 (0 : Int64)))])) t := fun t kt => kt
    subst hx15
    by_cases hm46_17 : pj5 = (0 : Int64)
    · have pre18 : ∀ t, Steps p.tables e below (T3.setTop (mkF m 55 #[iv pi0, iv pi1, iv pi2, jv pj3, .second, jv pj4, .second, jv pj5, .second, iv x2, iv x8, iv x10, iv x12, .unset, .unset, .unset, .unset, .unset, .unset, .unset, .unset, .unset, .unset, .unset, .unset, .unset, .unset, .unset, .unset, .unset, .unset, .unset, .unset, .unset, .unset, .unset, .unset, .unset, .unset] [(.long (1 : Int64))])) t → Steps p.tables e below (T3.setTop (mkF m 46 #[iv pi0, iv pi1, iv pi2, jv pj3, .second, jv pj4, .second, jv pj5, .second, iv x2, iv x8, iv x10, iv x12, .unset, .unset, .unset, .unset, .unset, .unset, .unset, .unset, .unset, .unset, .unset, .unset, .unset, .unset, .unset, .unset, .unset, .unset, .unset, .unset, .unset, .unset, .unset, .unset, .unset, .unset] [(.int (lcmpW pj5 (0 : Int64)))])) t := fun t kt => pre16_ t (by
          refine y_ifYes X3.here hx (hb hby at_46) ((if0 _ _).trans (teq (lq_eq hm46_17)).1) (pc' := 54) (by decide) rfl ?_
          refine y_lconst X3.here hx (hb hby at_54) (v := (1 : Int64)) rfl (pc' := 55) rfl ?_
          exact kt)
      refine ⟨T3, ⟨X3, e3.trans e3.symm⟩, fun t kt => pre18 t ?_⟩
      (try simp only [if_pos hm46_17] at kt)
      exact kt
    · have pre19 : ∀ t, Steps p.tables e below (T3.setTop (mkF m 55 #[iv pi0, iv pi1, iv pi2, jv pj3, .second, jv pj4, .second, jv pj5, .second, iv x2, iv x8, iv x10, iv x12, .unset, .unset, .unset, .unset, .unset, .unset, .unset, .unset, .unset, .unset, .unset, .unset, .unset, .unset, .unset, .unset, .unset, .unset, .unset, .unset, .unset, .unset, .unset, .unset, .unset, .unset] [(.long pj5)])) t → Steps p.tables e below (T3.setTop (mkF m 46 #[iv pi0, iv pi1, iv pi2, jv pj3, .second, jv pj4, .second, jv pj5, .second, iv x2, iv x8, iv x10, iv x12, .unset, .unset, .unset, .unset, .unset, .unset, .unset, .unset, .unset, .unset, .unset, .unset, .unset, .unset, .unset, .unset, .unset, .unset, .unset, .unset, .unset, .unset, .unset, .unset, .unset, .unset] [(.int (lcmpW pj5 (0 : Int64)))])) t := fun t kt => pre16_ t (by
          refine y_ifNo X3.here hx (hb hby at_46) ((if0 _ _).trans (feq (lq_ne hm46_17)).1) (pc' := 49) rfl ?_
          refine y_lload X3.here hx (hb hby at_49) rfl (pc' := 51) rfl ?_
          refine y_goto X3.here hx (hb hby at_51) (pc' := 55) (by decide) rfl ?_
          exact kt)
      refine ⟨T3, ⟨X3, e3.trans e3.symm⟩, fun t kt => pre19 t ?_⟩
      (try simp only [if_neg hm46_17] at kt)
      exact kt
  have e16 : T16.heap = h0 := q16.trans e3
  have pre20 : ∀ t, Steps p.tables e below (T16.setTop (mkF m 55 #[iv pi0, iv pi1, iv pi2, jv pj3, .second, jv pj4, .second, jv pj5, .second, iv x2, iv x8, iv x10, iv x12, .unset, .unset, .unset, .unset, .unset, .unset, .unset, .unset, .unset, .unset, .unset, .unset, .unset, .unset, .unset, .unset, .unset, .unset, .unset, .unset, .unset, .unset, .unset, .unset, .unset, .unset] [(.long x15)])) t → Go t := fun t kt => pre14 t (st16 t kt)
  obtain ⟨x21, hx21⟩ : ∃ z : Int64, z = (pj4 - pj5) := ⟨_, rfl⟩
  have pre22 : ∀ t, Steps p.tables e below (T16.setTop (mkF m 72 #[iv pi0, iv pi1, iv pi2, jv pj3, .second, jv pj4, .second, jv pj5, .second, iv x2, iv x8, iv x10, iv x12, jv x15, .second, jv pj4, .second, jv pj5, .second, jv x21, .second, .unset, .unset, .unset, .unset, .unset, .unset, .unset, .unset, .unset, .unset, .unset, .unset, .unset, .unset, .unset, .unset, .unset, .unset] [])) t → Go t := fun t kt => pre20 t (by
      subst hx21
      refine y_lstore X16.here hx (hb hby at_55) (l' := #[iv pi0, iv pi1, iv pi2, jv pj3, .second, jv pj4, .second, jv pj5, .second, iv x2, iv x8, iv x10, iv x12, jv x15, .second, .unset, .unset, .unset, .unset, .unset, .unset, .unset, .unset, .unset, .unset, .unset, .unset, .unset, .unset, .unset, .unset, .unset, .unset, .unset, .unset, .unset, .unset, .unset, .unset]) rfl (pc' := 57) rfl ?_
      refine y_lload X16.here hx (hb hby at_57) rfl (pc' := 59) rfl ?_
      refine y_lstore X16.here hx (hb hby at_59) (l' := #[iv pi0, iv pi1, iv pi2, jv pj3, .second, jv pj4, .second, jv pj5, .second, iv x2, iv x8, iv x10, iv x12, jv x15, .second, jv pj4, .second, .unset, .unset, .unset, .unset, .unset, .unset, .unset, .unset, .unset, .unset, .unset, .unset, .unset, .unset, .unset, .unset, .unset, .unset, .unset, .unset, .unset, .unset]) rfl (pc' := 61) rfl ?_
      refine y_lload X16.here hx (hb hby at_61) rfl (pc' := 63) rfl ?_
      refine y_lstore X16.here hx (hb hby at_63) (l' := #[iv pi0, iv pi1, iv pi2, jv pj3, .second, jv pj4, .second, jv pj5, .second, iv x2, iv x8, iv x10, iv x12, jv x15, .second, jv pj4, .second, jv pj5, .second, .unset, .unset, .unset, .unset, .unset, .unset, .unset, .unset, .unset, .unset, .unset, .unset, .unset, .unset, .unset, .unset, .unset, .unset, .unset, .unset]) rfl (pc' := 65) rfl ?_
      refine y_lload X16.here hx (hb hby at_65) rfl (pc' := 67) rfl ?_
      refine y_lload X16.here hx (hb hby at_67) rfl (pc' := 69) rfl ?_
      refine y_lsub X16.here hx (hb hby at_69) rfl (pc' := 70) rfl ?_
      refine y_lstore X16.here hx (hb hby at_70) (l' := #[iv pi0, iv pi1, iv pi2, jv pj3, .second, jv pj4, .second, jv pj5, .second, iv x2, iv x8, iv x10, iv x12, jv x15, .second, jv pj4, .second, jv pj5, .second, jv (pj4 - pj5), .second, .unset, .unset, .unset, .unset, .unset, .unset, .unset, .unset, .unset, .unset, .unset, .unset, .unset, .unset, .unset, .unset, .unset, .unset]) rfl (pc' := 72) rfl ?_
      exact kt)
  obtain ⟨x23, hx23⟩ : ∃ z : Int64, z = (pj3 ^^^ pj4) := ⟨_, rfl⟩
  have pre24 : ∀ t, Steps p.tables e below (T16.setTop (mkF m 78 #[iv pi0, iv pi1, iv pi2, jv pj3, .second, jv pj4, .second, jv pj5, .second, iv x2, iv x8, iv x10, iv x12, jv x15, .second, jv pj4, .second, jv pj5, .second, jv x21, .second, jv x23, .second, .unset, .unset, .unset, .unset, .unset, .unset, .unset, .unset, .unset, .unset, .unset, .unset, .unset, .unset, .unset, .unset] [])) t → Go t := fun t kt => pre22 t (by
      subst hx23
      refine y_lloadN X16.here hx (hb hby at_72) rfl (pc' := 73) rfl ?_
      refine y_lload X16.here hx (hb hby at_73) rfl (pc' := 75) rfl ?_
      refine y_lxor X16.here hx (hb hby at_75) rfl (pc' := 76) rfl ?_
      refine y_lstore X16.here hx (hb hby at_76) (l' := #[iv pi0, iv pi1, iv pi2, jv pj3, .second, jv pj4, .second, jv pj5, .second, iv x2, iv x8, iv x10, iv x12, jv x15, .second, jv pj4, .second, jv pj5, .second, jv x21, .second, jv (pj3 ^^^ pj4), .second, .unset, .unset, .unset, .unset, .unset, .unset, .unset, .unset, .unset, .unset, .unset, .unset, .unset, .unset, .unset, .unset]) rfl (pc' := 78) rfl ?_
      exact kt)
  have pre25 : ∀ t, Steps p.tables e below (T16.setTop (mkF m 111 #[iv pi0, iv pi1, iv pi2, jv pj3, .second, jv pj4, .second, jv pj5, .second, iv x2, iv x8, iv x10, iv x12, jv x15, .second, jv pj4, .second, jv pj5, .second, jv x21, .second, jv x23, .second, iv pi0, iv x2, iv x8, jv pj3, .second, jv pj4, .second, jv pj5, .second, jv x21, .second, jv x23, .second, .unset, .unset, .unset] [(.int (1 : Int32)), (.int x10)])) t → Go t := fun t kt => pre24 t (by
      refine y_iloadN X16.here hx (hb hby at_78) rfl (pc' := 79) rfl ?_
      refine y_istore X16.here hx (hb hby at_79) (l' := #[iv pi0, iv pi1, iv pi2, jv pj3, .second, jv pj4, .second, jv pj5, .second, iv x2, iv x8, iv x10, iv x12, jv x15, .second, jv pj4, .second, jv pj5, .second, jv x21, .second, jv x23, .second, iv pi0, .unset, .unset, .unset, .unset, .unset, .unset, .unset, .unset, .unset, .unset, .unset, .unset, .unset, .unset, .unset]) rfl (pc' := 81) rfl ?_
      refine y_iload X16.here hx (hb hby at_81) rfl (pc' := 83) rfl ?_
      refine y_istore X16.here hx (hb hby at_83) (l' := #[iv pi0, iv pi1, iv pi2, jv pj3, .second, jv pj4, .second, jv pj5, .second, iv x2, iv x8, iv x10, iv x12, jv x15, .second, jv pj4, .second, jv pj5, .second, jv x21, .second, jv x23, .second, iv pi0, iv x2, .unset, .unset, .unset, .unset, .unset, .unset, .unset, .unset, .unset, .unset, .unset, .unset, .unset, .unset]) rfl (pc' := 85) rfl ?_
      refine y_iload X16.here hx (hb hby at_85) rfl (pc' := 87) rfl ?_
      refine y_istore X16.here hx (hb hby at_87) (l' := #[iv pi0, iv pi1, iv pi2, jv pj3, .second, jv pj4, .second, jv pj5, .second, iv x2, iv x8, iv x10, iv x12, jv x15, .second, jv pj4, .second, jv pj5, .second, jv x21, .second, jv x23, .second, iv pi0, iv x2, iv x8, .unset, .unset, .unset, .unset, .unset, .unset, .unset, .unset, .unset, .unset, .unset, .unset, .unset]) rfl (pc' := 89) rfl ?_
      refine y_lloadN X16.here hx (hb hby at_89) rfl (pc' := 90) rfl ?_
      refine y_lstore X16.here hx (hb hby at_90) (l' := #[iv pi0, iv pi1, iv pi2, jv pj3, .second, jv pj4, .second, jv pj5, .second, iv x2, iv x8, iv x10, iv x12, jv x15, .second, jv pj4, .second, jv pj5, .second, jv x21, .second, jv x23, .second, iv pi0, iv x2, iv x8, jv pj3, .second, .unset, .unset, .unset, .unset, .unset, .unset, .unset, .unset, .unset, .unset, .unset]) rfl (pc' := 92) rfl ?_
      refine y_lload X16.here hx (hb hby at_92) rfl (pc' := 94) rfl ?_
      refine y_lstore X16.here hx (hb hby at_94) (l' := #[iv pi0, iv pi1, iv pi2, jv pj3, .second, jv pj4, .second, jv pj5, .second, iv x2, iv x8, iv x10, iv x12, jv x15, .second, jv pj4, .second, jv pj5, .second, jv x21, .second, jv x23, .second, iv pi0, iv x2, iv x8, jv pj3, .second, jv pj4, .second, .unset, .unset, .unset, .unset, .unset, .unset, .unset, .unset, .unset]) rfl (pc' := 96) rfl ?_
      refine y_lload X16.here hx (hb hby at_96) rfl (pc' := 98) rfl ?_
      refine y_lstore X16.here hx (hb hby at_98) (l' := #[iv pi0, iv pi1, iv pi2, jv pj3, .second, jv pj4, .second, jv pj5, .second, iv x2, iv x8, iv x10, iv x12, jv x15, .second, jv pj4, .second, jv pj5, .second, jv x21, .second, jv x23, .second, iv pi0, iv x2, iv x8, jv pj3, .second, jv pj4, .second, jv pj5, .second, .unset, .unset, .unset, .unset, .unset, .unset, .unset]) rfl (pc' := 100) rfl ?_
      refine y_lload X16.here hx (hb hby at_100) rfl (pc' := 102) rfl ?_
      refine y_lstore X16.here hx (hb hby at_102) (l' := #[iv pi0, iv pi1, iv pi2, jv pj3, .second, jv pj4, .second, jv pj5, .second, iv x2, iv x8, iv x10, iv x12, jv x15, .second, jv pj4, .second, jv pj5, .second, jv x21, .second, jv x23, .second, iv pi0, iv x2, iv x8, jv pj3, .second, jv pj4, .second, jv pj5, .second, jv x21, .second, .unset, .unset, .unset, .unset, .unset]) rfl (pc' := 104) rfl ?_
      refine y_lload X16.here hx (hb hby at_104) rfl (pc' := 106) rfl ?_
      refine y_lstore X16.here hx (hb hby at_106) (l' := #[iv pi0, iv pi1, iv pi2, jv pj3, .second, jv pj4, .second, jv pj5, .second, iv x2, iv x8, iv x10, iv x12, jv x15, .second, jv pj4, .second, jv pj5, .second, jv x21, .second, jv x23, .second, iv pi0, iv x2, iv x8, jv pj3, .second, jv pj4, .second, jv pj5, .second, jv x21, .second, jv x23, .second, .unset, .unset, .unset]) rfl (pc' := 108) rfl ?_
      refine y_iload X16.here hx (hb hby at_108) rfl (pc' := 110) rfl ?_
      refine y_iconst X16.here hx (hb hby at_110) (v := (1 : Int32)) rfl (pc' := 111) rfl ?_
      exact kt)
  obtain ⟨x26, hx26⟩ : ∃ z : Int32, z = (if x10 = (1 : Int32) then (if (pi0 + x12) = x2 then (pi0 - x12) else (pi0 + x12)) else pi0) := ⟨_, rfl⟩
  obtain ⟨T27, ⟨X27, q27⟩, st27⟩ : ∃ T', Nx X16 T' ∧ ∀ t, Steps p.tables e below (T'.setTop (mkF m 136 #[iv pi0, iv pi1, iv pi2, jv pj3, .second, jv pj4, .second, jv pj5, .second, iv x2, iv x8, iv x10, iv x12, jv x15, .second, jv pj4, .second, jv pj5, .second, jv x21, .second, jv x23, .second, iv x26, iv x2, iv x8, jv pj3, .second, jv pj4, .second, jv pj5, .second, jv x21, .second, jv x23, .second, .unset, .unset, .unset] [])) t → Steps p.tables e below (T16.setTop (mkF m 111 #[iv pi0, iv pi1, iv pi2, jv pj3, .second, jv pj4, .second, jv pj5, .second, iv x2, iv x8, iv x10, iv x12, jv x15, .second, jv pj4, .second, jv pj5, .second, jv x21, .second, jv x23, .second, iv pi0, iv x2, iv x8, jv pj3, .second, jv pj4, .second, jv pj5, .second, jv x21, .second, jv x23, .second, .unset, .unset, .unset] [(.int (1 : Int32)), (.int x10)])) t := by
    have pre27_ : ∀ t, Steps p.tables e below (T16.setTop (mkF m 111 #[iv pi0, iv pi1, iv pi2, jv pj3, .second, jv pj4, .second, jv pj5, .second, iv x2, iv x8, iv x10, iv x12, jv x15, .second, jv pj4, .second, jv pj5, .second, jv x21, .second, jv x23, .second, iv pi0, iv x2, iv x8, jv pj3, .second, jv pj4, .second, jv pj5, .second, jv x21, .second, jv x23, .second, .unset, .unset, .unset] [(.int (1 : Int32)), (.int x10)])) t → Steps p.tables e below (T16.setTop (mkF m 111 #[iv pi0, iv pi1, iv pi2, jv pj3, .second, jv pj4, .second, jv pj5, .second, iv x2, iv x8, iv x10, iv x12, jv x15, .second, jv pj4, .second, jv pj5, .second, jv x21, .second, jv x23, .second, iv pi0, iv x2, iv x8, jv pj3, .second, jv pj4, .second, jv pj5, .second, jv x21, .second, jv x23, .second, .unset, .unset, .unset] [(.int (1 : Int32)), (.int x10)])) t := fun t kt => kt
    subst hx26
    by_cases hm111_28 : x10 = (1 : Int32)
    · have pre29 : ∀ t, Steps p.tables e below (T16.setTop (mkF m 120 #[iv pi0, iv pi1, iv pi2, jv pj3, .second, jv pj4, .second, jv pj5, .second, iv x2, iv x8, iv x10, iv x12, jv x15, .second, jv pj4, .second, jv pj5, .second, jv x21, .second, jv x23, .second, iv pi0, iv x2, iv x8, jv pj3, .second, jv pj4, .second, jv pj5, .second, jv x21, .second, jv x23, .second, .unset, .unset, .unset] [(.int x2), (.int (pi0 + x12))])) t → Steps p.tables e below (T16.setTop (mkF m 111 #[iv pi0, iv pi1, iv pi2, jv pj3, .second, jv pj4, .second, jv pj5, .second, iv x2, iv x8, iv x10, iv x12, jv x15, .second, jv pj4, .second, jv pj5, .second, jv x21, .second, jv x23, .second, iv pi0, iv x2, iv x8, jv pj3, .second, jv pj4, .second, jv pj5, .second, jv x21, .second, jv x23, .second, .unset, .unset, .unset] [(.int (1 : Int32)), (.int x10)])) t := fun t kt => pre27_ t (by
          refine y_icmpNo X16.here hx (hb hby at_111) (teq hm111_28).2 (pc' := 114) rfl ?_
          refine y_iloadN X16.here hx (hb hby at_114) rfl (pc' := 115) rfl ?_
          refine y_iload X16.here hx (hb hby at_115) rfl (pc' := 117) rfl ?_
          refine y_iadd X16.here hx (hb hby at_117) rfl (pc' := 118) rfl ?_
          refine y_iload X16.here hx (hb hby at_118) rfl (pc' := 120) rfl ?_
          exact kt)
      by_cases hm120_30 : (pi0 + x12) = x2
      · have pre31 : ∀ t, Steps p.tables e below (T16.setTop (mkF m 136 #[iv pi0, iv pi1, iv pi2, jv pj3, .second, jv pj4, .second, jv pj5, .second, iv x2, iv x8, iv x10, iv x12, jv x15, .second, jv pj4, .second, jv pj5, .second, jv x21, .second, jv x23, .second, iv (pi0 - x12), iv x2, iv x8, jv pj3, .second, jv pj4, .second, jv pj5, .second, jv x21, .second, jv x23, .second, .unset, .unset, .unset] [])) t → Steps p.tables e below (T16.setTop (mkF m 111 #[iv pi0, iv pi1, iv pi2, jv pj3, .second, jv pj4, .second, jv pj5, .second, iv x2, iv x8, iv x10, iv x12, jv x15, .second, jv pj4, .second, jv pj5, .second, jv x21, .second, jv x23, .second, iv pi0, iv x2, iv x8, jv pj3, .second, jv pj4, .second, jv pj5, .second, jv x21, .second, jv x23, .second, .unset, .unset, .unset] [(.int (1 : Int32)), (.int x10)])) t := fun t kt => pre29 t (by
            refine y_icmpYes X16.here hx (hb hby at_120) (teq hm120_30).1 (pc' := 130) (by decide) rfl ?_
            refine y_iloadN X16.here hx (hb hby at_130) rfl (pc' := 131) rfl ?_
            refine y_iload X16.here hx (hb hby at_131) rfl (pc' := 133) rfl ?_
            refine y_isub X16.here hx (hb hby at_133) rfl (pc' := 134) rfl ?_
            refine y_istore X16.here hx (hb hby at_134) (l' := #[iv pi0, iv pi1, iv pi2, jv pj3, .second, jv pj4, .second, jv pj5, .second, iv x2, iv x8, iv x10, iv x12, jv x15, .second, jv pj4, .second, jv pj5, .second, jv x21, .second, jv x23, .second, iv (pi0 - x12), iv x2, iv x8, jv pj3, .second, jv pj4, .second, jv pj5, .second, jv x21, .second, jv x23, .second, .unset, .unset, .unset]) rfl (pc' := 136) rfl ?_
            exact kt)
        refine ⟨T16, ⟨X16, e16.trans e16.symm⟩, fun t kt => pre31 t ?_⟩
        (try simp only [if_pos hm111_28, if_pos hm120_30] at kt)
        exact kt
      · have pre32 : ∀ t, Steps p.tables e below (T16.setTop (mkF m 136 #[iv pi0, iv pi1, iv pi2, jv pj3, .second, jv pj4, .second, jv pj5, .second, iv x2, iv x8, iv x10, iv x12, jv x15, .second, jv pj4, .second, jv pj5, .second, jv x21, .second, jv x23, .second, iv (pi0 + x12), iv x2, iv x8, jv pj3, .second, jv pj4, .second, jv pj5, .second, jv x21, .second, jv x23, .second, .unset, .unset, .unset] [])) t → Steps p.tables e below (T16.setTop (mkF m 111 #[iv pi0, iv pi1, iv pi2, jv pj3, .second, jv pj4, .second, jv pj5, .second, iv x2, iv x8, iv x10, iv x12, jv x15, .second, jv pj4, .second, jv pj5, .second, jv x21, .second, jv x23, .second, iv pi0, iv x2, iv x8, jv pj3, .second, jv pj4, .second, jv pj5, .second, jv x21, .second, jv x23, .second, .unset, .unset, .unset] [(.int (1 : Int32)), (.int x10)])) t := fun t kt => pre29 t (by
            refine y_icmpNo X16.here hx (hb hby at_120) (feq hm120_30).1 (pc' := 123) rfl ?_
            refine y_iloadN X16.here hx (hb hby at_123) rfl (pc' := 124) rfl ?_
            refine y_iload X16.here hx (hb hby at_124) rfl (pc' := 126) rfl ?_
            refine y_iadd X16.here hx (hb hby at_126) rfl (pc' := 127) rfl ?_
            refine y_goto X16.here hx (hb hby at_127) (pc' := 134) (by decide) rfl ?_
            refine y_istore X16.here hx (hb hby at_134) (l' := #[iv pi0, iv pi1, iv pi2, jv pj3, .second, jv pj4, .second, jv pj5, .second, iv x2, iv x8, iv x10, iv x12, jv x15, .second, jv pj4, .second, jv pj5, .second, jv x21, .second, jv x23, .second, iv (pi0 + x12), iv x2, iv x8, jv pj3, .second, jv pj4, .second, jv pj5, .second, jv x21, .second, jv x23, .second, .unset, .unset, .unset]) rfl (pc' := 136) rfl ?_
            exact kt)
        refine ⟨T16, ⟨X16, e16.trans e16.symm⟩, fun t kt => pre32 t ?_⟩
        (try simp only [if_pos hm111_28, if_neg hm120_30] at kt)
        exact kt
    · have pre33 : ∀ t, Steps p.tables e below (T16.setTop (mkF m 136 #[iv pi0, iv pi1, iv pi2, jv pj3, .second, jv pj4, .second, jv pj5, .second, iv x2, iv x8, iv x10, iv x12, jv x15, .second, jv pj4, .second, jv pj5, .second, jv x21, .second, jv x23, .second, iv pi0, iv x2, iv x8, jv pj3, .second, jv pj4, .second, jv pj5, .second, jv x21, .second, jv x23, .second, .unset, .unset, .unset] [])) t → Steps p.tables e below (T16.setTop (mkF m 111 #[iv pi0, iv pi1, iv pi2, jv pj3, .second, jv pj4, .second, jv pj5, .second, iv x2, iv x8, iv x10, iv x12, jv x15, .second, jv pj4, .second, jv pj5, .second, jv x21, .second, jv x23, .second, iv pi0, iv x2, iv x8, jv pj3, .second, jv pj4, .second, jv pj5, .second, jv x21, .second, jv x23, .second, .unset, .unset, .unset] [(.int (1 : Int32)), (.int x10)])) t := fun t kt => pre27_ t (by
          refine y_icmpYes X16.here hx (hb hby at_111) (feq hm111_28).2 (pc' := 136) (by decide) rfl ?_
          exact kt)
      refine ⟨T16, ⟨X16, e16.trans e16.symm⟩, fun t kt => pre33 t ?_⟩
      (try simp only [if_neg hm111_28] at kt)
      exact kt
  have e27 : T27.heap = h0 := q27.trans e16
  have pre34 : ∀ t, Steps p.tables e below (T27.setTop (mkF m 136 #[iv pi0, iv pi1, iv pi2, jv pj3, .second, jv pj4, .second, jv pj5, .second, iv x2, iv x8, iv x10, iv x12, jv x15, .second, jv pj4, .second, jv pj5, .second, jv x21, .second, jv x23, .second, iv x26, iv x2, iv x8, jv pj3, .second, jv pj4, .second, jv pj5, .second, jv x21, .second, jv x23, .second, .unset, .unset, .unset] [])) t → Go t := fun t kt => pre25 t (st27 t kt)
  have pre35 : ∀ t, Steps p.tables e below (T27.setTop (mkF m 139 #[iv pi0, iv pi1, iv pi2, jv pj3, .second, jv pj4, .second, jv pj5, .second, iv x2, iv x8, iv x10, iv x12, jv x15, .second, jv pj4, .second, jv pj5, .second, jv x21, .second, jv x23, .second, iv x26, iv x2, iv x8, jv pj3, .second, jv pj4, .second, jv pj5, .second, jv x21, .second, jv x23, .second, .unset, .unset, .unset] [(.int (2 : Int32)), (.int x10)])) t → Go t := fun t kt => pre34 t (by
      refine y_iload X27.here hx (hb hby at_136) rfl (pc' := 138) rfl ?_
      refine y_iconst X27.here hx (hb hby at_138) (v := (2 : Int32)) rfl (pc' := 139) rfl ?_
      exact kt)
  obtain ⟨x36, hx36⟩ : ∃ z : Int32, z = (if x10 = (2 : Int32) then (if (x2 + x12) = pi0 then (x2 - x12) else (x2 + x12)) else x2) := ⟨_, rfl⟩
  obtain ⟨T37, ⟨X37, q37⟩, st37⟩ : ∃ T', Nx X27 T' ∧ ∀ t, Steps p.tables e below (T'.setTop (mkF m 166 #[iv pi0, iv pi1, iv pi2, jv pj3, .second, jv pj4, .second, jv pj5, .second, iv x2, iv x8, iv x10, iv x12, jv x15, .second, jv pj4, .second, jv pj5, .second, jv x21, .second, jv x23, .second, iv x26, iv x36, iv x8, jv pj3, .second, jv pj4, .second, jv pj5, .second, jv x21, .second, jv x23, .second, .unset, .unset, .unset] [])) t → Steps p.tables e below (T27.setTop (mkF m 139 #[iv pi0, iv pi1, iv pi2, jv pj3, .second, jv pj4, .second, jv pj5, .second, iv x2, iv x8, iv x10, iv x12, jv x15, .second, jv pj4, .second, jv pj5, .second, jv x21, .second, jv x23, .second, iv x26, iv x2, iv x8, jv pj3, .second, jv pj4, .second, jv pj5, .second, jv x21, .second, jv x23, .second, .unset, .unset, .unset] [(.int (2 : Int32)), (.int x10)])) t := by
    have pre37_ : ∀ t, Steps p.tables e below (T27.setTop (mkF m 139 #[iv pi0, iv pi1, iv pi2, jv pj3, .second, jv pj4, .second, jv pj5, .second, iv x2, iv x8, iv x10, iv x12, jv x15, .second, jv pj4, .second, jv pj5, .second, jv x21, .second, jv x23, .second, iv x26, iv x2, iv x8, jv pj3, .second, jv pj4, .second, jv pj5, .second, jv x21, .second, jv x23, .second, .unset, .unset, .unset] [(.int (2 : Int32)), (.int x10)])) t → Steps p.tables e below (T27.setTop (mkF m 139 #[iv pi0, iv pi1, iv pi2, jv pj3, .second, jv pj4, .second, jv pj5, .second, iv x2, iv x8, iv x10, iv x12, jv x15, .second, jv pj4, .second, jv pj5, .second, jv x21, .second, jv x23, .second, iv x26, iv x2, iv x8, jv pj3, .second, jv pj4, .second, jv pj5, .second, jv x21, .second, jv x23, .second, .unset, .unset, .unset] [(.int (2 : Int32)), (.int x10)])) t := fun t kt => kt
    subst hx36
    by_cases hm139_38 : x10 = (2 : Int32)
    · have pre39 : ∀ t, Steps p.tables e below (T27.setTop (mkF m 148 #[iv pi0, iv pi1, iv pi2, jv pj3, .second, jv pj4, .second, jv pj5, .second, iv x2, iv x8, iv x10, iv x12, jv x15, .second, jv pj4, .second, jv pj5, .second, jv x21, .second, jv x23, .second, iv x26, iv x2, iv x8, jv pj3, .second, jv pj4, .second, jv pj5, .second, jv x21, .second, jv x23, .second, .unset, .unset, .unset] [(.int pi0), (.int (x2 + x12))])) t → Steps p.tables e below (T27.setTop (mkF m 139 #[iv pi0, iv pi1, iv pi2, jv pj3, .second, jv pj4, .second, jv pj5, .second, iv x2, iv x8, iv x10, iv x12, jv x15, .second, jv pj4, .second, jv pj5, .second, jv x21, .second, jv x23, .second, iv x26, iv x2, iv x8, jv pj3, .second, jv pj4, .second, jv pj5, .second, jv x21, .second, jv x23, .second, .unset, .unset, .unset] [(.int (2 : Int32)), (.int x10)])) t := fun t kt => pre37_ t (by
          refine y_icmpNo X27.here hx (hb hby at_139) (teq hm139_38).2 (pc' := 142) rfl ?_
          refine y_iload X27.here hx (hb hby at_142) rfl (pc' := 144) rfl ?_
          refine y_iload X27.here hx (hb hby at_144) rfl (pc' := 146) rfl ?_
          refine y_iadd X27.here hx (hb hby at_146) rfl (pc' := 147) rfl ?_
          refine y_iloadN X27.here hx (hb hby at_147) rfl (pc' := 148) rfl ?_
          exact kt)
      by_cases hm148_40 : (x2 + x12) = pi0
      · have pre41 : ∀ t, Steps p.tables e below (T27.setTop (mkF m 166 #[iv pi0, iv pi1, iv pi2, jv pj3, .second, jv pj4, .second, jv pj5, .second, iv x2, iv x8, iv x10, iv x12, jv x15, .second, jv pj4, .second, jv pj5, .second, jv x21, .second, jv x23, .second, iv x26, iv (x2 - x12), iv x8, jv pj3, .second, jv pj4, .second, jv pj5, .second, jv x21, .second, jv x23, .second, .unset, .unset, .unset] [])) t → Steps p.tables e below (T27.setTop (mkF m 139 #[iv pi0, iv pi1, iv pi2, jv pj3, .second, jv pj4, .second, jv pj5, .second, iv x2, iv x8, iv x10, iv x12, jv x15, .second, jv pj4, .second, jv pj5, .second, jv x21, .second, jv x23, .second, iv x26, iv x2, iv x8, jv pj3, .second, jv pj4, .second, jv pj5, .second, jv x21, .second, jv x23, .second, .unset, .unset, .unset] [(.int (2 : Int32)), (.int x10)])) t := fun t kt => pre39 t (by
            refine y_icmpYes X27.here hx (hb hby at_148) (teq hm148_40).1 (pc' := 159) (by decide) rfl ?_
            refine y_iload X27.here hx (hb hby at_159) rfl (pc' := 161) rfl ?_
            refine y_iload X27.here hx (hb hby at_161) rfl (pc' := 163) rfl ?_
            refine y_isub X27.here hx (hb hby at_163) rfl (pc' := 164) rfl ?_
            refine y_istore X27.here hx (hb hby at_164) (l' := #[iv pi0, iv pi1, iv pi2, jv pj3, .second, jv pj4, .second, jv pj5, .second, iv x2, iv x8, iv x10, iv x12, jv x15, .second, jv pj4, .second, jv pj5, .second, jv x21, .second, jv x23, .second, iv x26, iv (x2 - x12), iv x8, jv pj3, .second, jv pj4, .second, jv pj5, .second, jv x21, .second, jv x23, .second, .unset, .unset, .unset]) rfl (pc' := 166) rfl ?_
            exact kt)
        refine ⟨T27, ⟨X27, e27.trans e27.symm⟩, fun t kt => pre41 t ?_⟩
        (try simp only [if_pos hm139_38, if_pos hm148_40] at kt)
        exact kt
      · have pre42 : ∀ t, Steps p.tables e below (T27.setTop (mkF m 166 #[iv pi0, iv pi1, iv pi2, jv pj3, .second, jv pj4, .second, jv pj5, .second, iv x2, iv x8, iv x10, iv x12, jv x15, .second, jv pj4, .second, jv pj5, .second, jv x21, .second, jv x23, .second, iv x26, iv (x2 + x12), iv x8, jv pj3, .second, jv pj4, .second, jv pj5, .second, jv x21, .second, jv x23, .second, .unset, .unset, .unset] [])) t → Steps p.tables e below (T27.setTop (mkF m 139 #[iv pi0, iv pi1, iv pi2, jv pj3, .second, jv pj4, .second, jv pj5, .second, iv x2, iv x8, iv x10, iv x12, jv x15, .second, jv pj4, .second, jv pj5, .second, jv x21, .second, jv x23, .second, iv x26, iv x2, iv x8, jv pj3, .second, jv pj4, .second, jv pj5, .second, jv x21, .second, jv x23, .second, .unset, .unset, .unset] [(.int (2 : Int32)), (.int x10)])) t := fun t kt => pre39 t (by
            refine y_icmpNo X27.here hx (hb hby at_148) (feq hm148_40).1 (pc' := 151) rfl ?_
            refine y_iload X27.here hx (hb hby at_151) rfl (pc' := 153) rfl ?_
            refine y_iload X27.here hx (hb hby at_153) rfl (pc' := 155) rfl ?_
            refine y_iadd X27.here hx (hb hby at_155) rfl (pc' := 156) rfl ?_
            refine y_goto X27.here hx (hb hby at_156) (pc' := 164) (by decide) rfl ?_
            refine y_istore X27.here hx (hb hby at_164) (l' := #[iv pi0, iv pi1, iv pi2, jv pj3, .second, jv pj4, .second, jv pj5, .second, iv x2, iv x8, iv x10, iv x12, jv x15, .second, jv pj4, .second, jv pj5, .second, jv x21, .second, jv x23, .second, iv x26, iv (x2 + x12), iv x8, jv pj3, .second, jv pj4, .second, jv pj5, .second, jv x21, .second, jv x23, .second, .unset, .unset, .unset]) rfl (pc' := 166) rfl ?_
            exact kt)
        refine ⟨T27, ⟨X27, e27.trans e27.symm⟩, fun t kt => pre42 t ?_⟩
        (try simp only [if_pos hm139_38, if_neg hm148_40] at kt)
        exact kt
    · have pre43 : ∀ t, Steps p.tables e below (T27.setTop (mkF m 166 #[iv pi0, iv pi1, iv pi2, jv pj3, .second, jv pj4, .second, jv pj5, .second, iv x2, iv x8, iv x10, iv x12, jv x15, .second, jv pj4, .second, jv pj5, .second, jv x21, .second, jv x23, .second, iv x26, iv x2, iv x8, jv pj3, .second, jv pj4, .second, jv pj5, .second, jv x21, .second, jv x23, .second, .unset, .unset, .unset] [])) t → Steps p.tables e below (T27.setTop (mkF m 139 #[iv pi0, iv pi1, iv pi2, jv pj3, .second, jv pj4, .second, jv pj5, .second, iv x2, iv x8, iv x10, iv x12, jv x15, .second, jv pj4, .second, jv pj5, .second, jv x21, .second, jv x23, .second, iv x26, iv x2, iv x8, jv pj3, .second, jv pj4, .second, jv pj5, .second, jv x21, .second, jv x23, .second, .unset, .unset, .unset] [(.int (2 : Int32)), (.int x10)])) t := fun t kt => pre37_ t (by
          refine y_icmpYes X27.here hx (hb hby at_139) (feq hm139_38).2 (pc' := 166) (by decide) rfl ?_
          exact kt)
      refine ⟨T27, ⟨X27, e27.trans e27.symm⟩, fun t kt => pre43 t ?_⟩
      (try simp only [if_neg hm139_38] at kt)
      exact kt
  have e37 : T37.heap = h0 := q37.trans e27
  have pre44 : ∀ t, Steps p.tables e below (T37.setTop (mkF m 166 #[iv pi0, iv pi1, iv pi2, jv pj3, .second, jv pj4, .second, jv pj5, .second, iv x2, iv x8, iv x10, iv x12, jv x15, .second, jv pj4, .second, jv pj5, .second, jv x21, .second, jv x23, .second, iv x26, iv x36, iv x8, jv pj3, .second, jv pj4, .second, jv pj5, .second, jv x21, .second, jv x23, .second, .unset, .unset, .unset] [])) t → Go t := fun t kt => pre35 t (st37 t kt)
  have pre45 : ∀ t, Steps p.tables e below (T37.setTop (mkF m 169 #[iv pi0, iv pi1, iv pi2, jv pj3, .second, jv pj4, .second, jv pj5, .second, iv x2, iv x8, iv x10, iv x12, jv x15, .second, jv pj4, .second, jv pj5, .second, jv x21, .second, jv x23, .second, iv x26, iv x36, iv x8, jv pj3, .second, jv pj4, .second, jv pj5, .second, jv x21, .second, jv x23, .second, .unset, .unset, .unset] [(.int (3 : Int32)), (.int x10)])) t → Go t := fun t kt => pre44 t (by
      refine y_iload X37.here hx (hb hby at_166) rfl (pc' := 168) rfl ?_
      refine y_iconst X37.here hx (hb hby at_168) (v := (3 : Int32)) rfl (pc' := 169) rfl ?_
      exact kt)
  obtain ⟨x46, hx46⟩ : ∃ z : Int32, z = (if x10 = (3 : Int32) then (((x8 + (1 : Int32)) + ((((pi2.toUInt32 >>> ((8 : Int32) &&& 31).toUInt32).toInt32) &&& (8388607 : Int32)) % (12 : Int32))) % (13 : Int32)) else x8) := ⟨_, rfl⟩
  obtain ⟨T47, ⟨X47, q47⟩, st47⟩ : ∃ T', Nx X37 T' ∧ ∀ t, Steps p.tables e below (T'.setTop (mkF m 192 #[iv pi0, iv pi1, iv pi2, jv pj3, .second, jv pj4, .second, jv pj5, .second, iv x2, iv x8, iv x10, iv x12, jv x15, .second, jv pj4, .second, jv pj5, .second, jv x21, .second, jv x23, .second, iv x26, iv x36, iv x46, jv pj3, .second, jv pj4, .second, jv pj5, .second, jv x21, .second, jv x23, .second, .unset, .unset, .unset] [])) t → Steps p.tables e below (T37.setTop (mkF m 169 #[iv pi0, iv pi1, iv pi2, jv pj3, .second, jv pj4, .second, jv pj5, .second, iv x2, iv x8, iv x10, iv x12, jv x15, .second, jv pj4, .second, jv pj5, .second, jv x21, .second, jv x23, .second, iv x26, iv x36, iv x8, jv pj3, .second, jv pj4, .second, jv pj5, .second, jv x21, .second, jv x23, .second, .unset, .unset, .unset] [(.int (3 : Int32)), (.int x10)])) t := by
    have pre47_ : ∀ t, Steps p.tables e below (T37.setTop (mkF m 169 #[iv pi0, iv pi1, iv pi2, jv pj3, .second, jv pj4, .second, jv pj5, .second, iv x2, iv x8, iv x10, iv x12, jv x15, .second, jv pj4, .second, jv pj5, .second, jv x21, .second, jv x23, .second, iv x26, iv x36, iv x8, jv pj3, .second, jv pj4, .second, jv pj5, .second, jv x21, .second, jv x23, .second, .unset, .unset, .unset] [(.int (3 : Int32)), (.int x10)])) t → Steps p.tables e below (T37.setTop (mkF m 169 #[iv pi0, iv pi1, iv pi2, jv pj3, .second, jv pj4, .second, jv pj5, .second, iv x2, iv x8, iv x10, iv x12, jv x15, .second, jv pj4, .second, jv pj5, .second, jv x21, .second, jv x23, .second, iv x26, iv x36, iv x8, jv pj3, .second, jv pj4, .second, jv pj5, .second, jv x21, .second, jv x23, .second, .unset, .unset, .unset] [(.int (3 : Int32)), (.int x10)])) t := fun t kt => kt
    subst hx46
    by_cases hm169_48 : x10 = (3 : Int32)
    · have pre49 : ∀ t, Steps p.tables e below (T37.setTop (mkF m 192 #[iv pi0, iv pi1, iv pi2, jv pj3, .second, jv pj4, .second, jv pj5, .second, iv x2, iv x8, iv x10, iv x12, jv x15, .second, jv pj4, .second, jv pj5, .second, jv x21, .second, jv x23, .second, iv x26, iv x36, iv (((x8 + (1 : Int32)) + ((((pi2.toUInt32 >>> ((8 : Int32) &&& 31).toUInt32).toInt32) &&& (8388607 : Int32)) % (12 : Int32))) % (13 : Int32)), jv pj3, .second, jv pj4, .second, jv pj5, .second, jv x21, .second, jv x23, .second, .unset, .unset, .unset] [])) t → Steps p.tables e below (T37.setTop (mkF m 169 #[iv pi0, iv pi1, iv pi2, jv pj3, .second, jv pj4, .second, jv pj5, .second, iv x2, iv x8, iv x10, iv x12, jv x15, .second, jv pj4, .second, jv pj5, .second, jv x21, .second, jv x23, .second, iv x26, iv x36, iv x8, jv pj3, .second, jv pj4, .second, jv pj5, .second, jv x21, .second, jv x23, .second, .unset, .unset, .unset] [(.int (3 : Int32)), (.int x10)])) t := fun t kt => pre47_ t (by
          refine y_icmpNo X37.here hx (hb hby at_169) (teq hm169_48).2 (pc' := 172) rfl ?_
          refine y_iload X37.here hx (hb hby at_172) rfl (pc' := 174) rfl ?_
          refine y_iconst X37.here hx (hb hby at_174) (v := (1 : Int32)) rfl (pc' := 175) rfl ?_
          refine y_iadd X37.here hx (hb hby at_175) rfl (pc' := 176) rfl ?_
          refine y_iloadN X37.here hx (hb hby at_176) rfl (pc' := 177) rfl ?_
          refine y_bipush X37.here hx (hb hby at_177) (v := (8 : Int32)) rfl (pc' := 179) rfl ?_
          refine y_iushr X37.here hx (hb hby at_179) (z := ((pi2.toUInt32 >>> ((8 : Int32) &&& 31).toUInt32).toInt32)) rfl (pc' := 180) rfl ?_
          refine X37.ldcInt hx hown (mvT hZ (hw _ (List.mem_of_getElem? (i := 59) rfl))) (g := (mkF m 180 #[iv pi0, iv pi1, iv pi2, jv pj3, .second, jv pj4, .second, jv pj5, .second, iv x2, iv x8, iv x10, iv x12, jv x15, .second, jv pj4, .second, jv pj5, .second, jv x21, .second, jv x23, .second, iv x26, iv x36, iv x8, jv pj3, .second, jv pj4, .second, jv pj5, .second, jv x21, .second, jv x23, .second, .unset, .unset, .unset] [(.int ((pi2.toUInt32 >>> ((8 : Int32) &&& 31).toUInt32).toInt32)), (.int (x8 + (1 : Int32)))])) rfl (hb hby at_180) _ ?_
          show Steps p.tables e below (T37.setTop (mkF m 182 #[iv pi0, iv pi1, iv pi2, jv pj3, .second, jv pj4, .second, jv pj5, .second, iv x2, iv x8, iv x10, iv x12, jv x15, .second, jv pj4, .second, jv pj5, .second, jv x21, .second, jv x23, .second, iv x26, iv x36, iv x8, jv pj3, .second, jv pj4, .second, jv pj5, .second, jv x21, .second, jv x23, .second, .unset, .unset, .unset] [(.int (8388607 : Int32)), (.int ((pi2.toUInt32 >>> ((8 : Int32) &&& 31).toUInt32).toInt32)), (.int (x8 + (1 : Int32)))])) _
          refine y_iand X37.here hx (hb hby at_182) rfl (pc' := 183) rfl ?_
          refine y_bipush X37.here hx (hb hby at_183) (v := (12 : Int32)) rfl (pc' := 185) rfl ?_
          refine iremM (g := (mkF m 185 #[iv pi0, iv pi1, iv pi2, jv pj3, .second, jv pj4, .second, jv pj5, .second, iv x2, iv x8, iv x10, iv x12, jv x15, .second, jv pj4, .second, jv pj5, .second, jv x21, .second, jv x23, .second, iv x26, iv x36, iv x8, jv pj3, .second, jv pj4, .second, jv pj5, .second, jv x21, .second, jv x23, .second, .unset, .unset, .unset] [(.int (12 : Int32)), (.int (((pi2.toUInt32 >>> ((8 : Int32) &&& 31).toUInt32).toInt32) &&& (8388607 : Int32))), (.int (x8 + (1 : Int32)))])) X37 hx rfl (hb hby at_185) rfl (by decide) ?_
          show Steps p.tables e below (T37.setTop (mkF m 186 #[iv pi0, iv pi1, iv pi2, jv pj3, .second, jv pj4, .second, jv pj5, .second, iv x2, iv x8, iv x10, iv x12, jv x15, .second, jv pj4, .second, jv pj5, .second, jv x21, .second, jv x23, .second, iv x26, iv x36, iv x8, jv pj3, .second, jv pj4, .second, jv pj5, .second, jv x21, .second, jv x23, .second, .unset, .unset, .unset] [(.int ((((pi2.toUInt32 >>> ((8 : Int32) &&& 31).toUInt32).toInt32) &&& (8388607 : Int32)) % (12 : Int32))), (.int (x8 + (1 : Int32)))])) _
          refine y_iadd X37.here hx (hb hby at_186) rfl (pc' := 187) rfl ?_
          refine y_bipush X37.here hx (hb hby at_187) (v := (13 : Int32)) rfl (pc' := 189) rfl ?_
          refine iremM (g := (mkF m 189 #[iv pi0, iv pi1, iv pi2, jv pj3, .second, jv pj4, .second, jv pj5, .second, iv x2, iv x8, iv x10, iv x12, jv x15, .second, jv pj4, .second, jv pj5, .second, jv x21, .second, jv x23, .second, iv x26, iv x36, iv x8, jv pj3, .second, jv pj4, .second, jv pj5, .second, jv x21, .second, jv x23, .second, .unset, .unset, .unset] [(.int (13 : Int32)), (.int ((x8 + (1 : Int32)) + ((((pi2.toUInt32 >>> ((8 : Int32) &&& 31).toUInt32).toInt32) &&& (8388607 : Int32)) % (12 : Int32))))])) X37 hx rfl (hb hby at_189) rfl (by decide) ?_
          show Steps p.tables e below (T37.setTop (mkF m 190 #[iv pi0, iv pi1, iv pi2, jv pj3, .second, jv pj4, .second, jv pj5, .second, iv x2, iv x8, iv x10, iv x12, jv x15, .second, jv pj4, .second, jv pj5, .second, jv x21, .second, jv x23, .second, iv x26, iv x36, iv x8, jv pj3, .second, jv pj4, .second, jv pj5, .second, jv x21, .second, jv x23, .second, .unset, .unset, .unset] [(.int (((x8 + (1 : Int32)) + ((((pi2.toUInt32 >>> ((8 : Int32) &&& 31).toUInt32).toInt32) &&& (8388607 : Int32)) % (12 : Int32))) % (13 : Int32)))])) _
          refine y_istore X37.here hx (hb hby at_190) (l' := #[iv pi0, iv pi1, iv pi2, jv pj3, .second, jv pj4, .second, jv pj5, .second, iv x2, iv x8, iv x10, iv x12, jv x15, .second, jv pj4, .second, jv pj5, .second, jv x21, .second, jv x23, .second, iv x26, iv x36, iv (((x8 + (1 : Int32)) + ((((pi2.toUInt32 >>> ((8 : Int32) &&& 31).toUInt32).toInt32) &&& (8388607 : Int32)) % (12 : Int32))) % (13 : Int32)), jv pj3, .second, jv pj4, .second, jv pj5, .second, jv x21, .second, jv x23, .second, .unset, .unset, .unset]) rfl (pc' := 192) rfl ?_
          exact kt)
      refine ⟨T37, ⟨X37, e37.trans e37.symm⟩, fun t kt => pre49 t ?_⟩
      (try simp only [if_pos hm169_48] at kt)
      exact kt
    · have pre50 : ∀ t, Steps p.tables e below (T37.setTop (mkF m 192 #[iv pi0, iv pi1, iv pi2, jv pj3, .second, jv pj4, .second, jv pj5, .second, iv x2, iv x8, iv x10, iv x12, jv x15, .second, jv pj4, .second, jv pj5, .second, jv x21, .second, jv x23, .second, iv x26, iv x36, iv x8, jv pj3, .second, jv pj4, .second, jv pj5, .second, jv x21, .second, jv x23, .second, .unset, .unset, .unset] [])) t → Steps p.tables e below (T37.setTop (mkF m 169 #[iv pi0, iv pi1, iv pi2, jv pj3, .second, jv pj4, .second, jv pj5, .second, iv x2, iv x8, iv x10, iv x12, jv x15, .second, jv pj4, .second, jv pj5, .second, jv x21, .second, jv x23, .second, iv x26, iv x36, iv x8, jv pj3, .second, jv pj4, .second, jv pj5, .second, jv x21, .second, jv x23, .second, .unset, .unset, .unset] [(.int (3 : Int32)), (.int x10)])) t := fun t kt => pre47_ t (by
          refine y_icmpYes X37.here hx (hb hby at_169) (feq hm169_48).2 (pc' := 192) (by decide) rfl ?_
          exact kt)
      refine ⟨T37, ⟨X37, e37.trans e37.symm⟩, fun t kt => pre50 t ?_⟩
      (try simp only [if_neg hm169_48] at kt)
      exact kt
  have e47 : T47.heap = h0 := q47.trans e37
  have pre51 : ∀ t, Steps p.tables e below (T47.setTop (mkF m 192 #[iv pi0, iv pi1, iv pi2, jv pj3, .second, jv pj4, .second, jv pj5, .second, iv x2, iv x8, iv x10, iv x12, jv x15, .second, jv pj4, .second, jv pj5, .second, jv x21, .second, jv x23, .second, iv x26, iv x36, iv x46, jv pj3, .second, jv pj4, .second, jv pj5, .second, jv x21, .second, jv x23, .second, .unset, .unset, .unset] [])) t → Go t := fun t kt => pre45 t (st47 t kt)
  have pre52 : ∀ t, Steps p.tables e below (T47.setTop (mkF m 195 #[iv pi0, iv pi1, iv pi2, jv pj3, .second, jv pj4, .second, jv pj5, .second, iv x2, iv x8, iv x10, iv x12, jv x15, .second, jv pj4, .second, jv pj5, .second, jv x21, .second, jv x23, .second, iv x26, iv x36, iv x46, jv pj3, .second, jv pj4, .second, jv pj5, .second, jv x21, .second, jv x23, .second, .unset, .unset, .unset] [(.int (4 : Int32)), (.int x10)])) t → Go t := fun t kt => pre51 t (by
      refine y_iload X47.here hx (hb hby at_192) rfl (pc' := 194) rfl ?_
      refine y_iconst X47.here hx (hb hby at_194) (v := (4 : Int32)) rfl (pc' := 195) rfl ?_
      exact kt)
  obtain ⟨x53, hx53⟩ : ∃ z : Int64, z = (if x10 = (4 : Int32) then (pj3 + x15) else pj3) := ⟨_, rfl⟩
  obtain ⟨T54, ⟨X54, q54⟩, st54⟩ : ∃ T', Nx X47 T' ∧ ∀ t, Steps p.tables e below (T'.setTop (mkF m 204 #[iv pi0, iv pi1, iv pi2, jv pj3, .second, jv pj4, .second, jv pj5, .second, iv x2, iv x8, iv x10, iv x12, jv x15, .second, jv pj4, .second, jv pj5, .second, jv x21, .second, jv x23, .second, iv x26, iv x36, iv x46, jv x53, .second, jv pj4, .second, jv pj5, .second, jv x21, .second, jv x23, .second, .unset, .unset, .unset] [])) t → Steps p.tables e below (T47.setTop (mkF m 195 #[iv pi0, iv pi1, iv pi2, jv pj3, .second, jv pj4, .second, jv pj5, .second, iv x2, iv x8, iv x10, iv x12, jv x15, .second, jv pj4, .second, jv pj5, .second, jv x21, .second, jv x23, .second, iv x26, iv x36, iv x46, jv pj3, .second, jv pj4, .second, jv pj5, .second, jv x21, .second, jv x23, .second, .unset, .unset, .unset] [(.int (4 : Int32)), (.int x10)])) t := by
    have pre54_ : ∀ t, Steps p.tables e below (T47.setTop (mkF m 195 #[iv pi0, iv pi1, iv pi2, jv pj3, .second, jv pj4, .second, jv pj5, .second, iv x2, iv x8, iv x10, iv x12, jv x15, .second, jv pj4, .second, jv pj5, .second, jv x21, .second, jv x23, .second, iv x26, iv x36, iv x46, jv pj3, .second, jv pj4, .second, jv pj5, .second, jv x21, .second, jv x23, .second, .unset, .unset, .unset] [(.int (4 : Int32)), (.int x10)])) t → Steps p.tables e below (T47.setTop (mkF m 195 #[iv pi0, iv pi1, iv pi2, jv pj3, .second, jv pj4, .second, jv pj5, .second, iv x2, iv x8, iv x10, iv x12, jv x15, .second, jv pj4, .second, jv pj5, .second, jv x21, .second, jv x23, .second, iv x26, iv x36, iv x46, jv pj3, .second, jv pj4, .second, jv pj5, .second, jv x21, .second, jv x23, .second, .unset, .unset, .unset] [(.int (4 : Int32)), (.int x10)])) t := fun t kt => kt
    subst hx53
    by_cases hm195_55 : x10 = (4 : Int32)
    · have pre56 : ∀ t, Steps p.tables e below (T47.setTop (mkF m 204 #[iv pi0, iv pi1, iv pi2, jv pj3, .second, jv pj4, .second, jv pj5, .second, iv x2, iv x8, iv x10, iv x12, jv x15, .second, jv pj4, .second, jv pj5, .second, jv x21, .second, jv x23, .second, iv x26, iv x36, iv x46, jv (pj3 + x15), .second, jv pj4, .second, jv pj5, .second, jv x21, .second, jv x23, .second, .unset, .unset, .unset] [])) t → Steps p.tables e below (T47.setTop (mkF m 195 #[iv pi0, iv pi1, iv pi2, jv pj3, .second, jv pj4, .second, jv pj5, .second, iv x2, iv x8, iv x10, iv x12, jv x15, .second, jv pj4, .second, jv pj5, .second, jv x21, .second, jv x23, .second, iv x26, iv x36, iv x46, jv pj3, .second, jv pj4, .second, jv pj5, .second, jv x21, .second, jv x23, .second, .unset, .unset, .unset] [(.int (4 : Int32)), (.int x10)])) t := fun t kt => pre54_ t (by
          refine y_icmpNo X47.here hx (hb hby at_195) (teq hm195_55).2 (pc' := 198) rfl ?_
          refine y_lloadN X47.here hx (hb hby at_198) rfl (pc' := 199) rfl ?_
          refine y_lload X47.here hx (hb hby at_199) rfl (pc' := 201) rfl ?_
          refine y_ladd X47.here hx (hb hby at_201) rfl (pc' := 202) rfl ?_
          refine y_lstore X47.here hx (hb hby at_202) (l' := #[iv pi0, iv pi1, iv pi2, jv pj3, .second, jv pj4, .second, jv pj5, .second, iv x2, iv x8, iv x10, iv x12, jv x15, .second, jv pj4, .second, jv pj5, .second, jv x21, .second, jv x23, .second, iv x26, iv x36, iv x46, jv (pj3 + x15), .second, jv pj4, .second, jv pj5, .second, jv x21, .second, jv x23, .second, .unset, .unset, .unset]) rfl (pc' := 204) rfl ?_
          exact kt)
      refine ⟨T47, ⟨X47, e47.trans e47.symm⟩, fun t kt => pre56 t ?_⟩
      (try simp only [if_pos hm195_55] at kt)
      exact kt
    · have pre57 : ∀ t, Steps p.tables e below (T47.setTop (mkF m 204 #[iv pi0, iv pi1, iv pi2, jv pj3, .second, jv pj4, .second, jv pj5, .second, iv x2, iv x8, iv x10, iv x12, jv x15, .second, jv pj4, .second, jv pj5, .second, jv x21, .second, jv x23, .second, iv x26, iv x36, iv x46, jv pj3, .second, jv pj4, .second, jv pj5, .second, jv x21, .second, jv x23, .second, .unset, .unset, .unset] [])) t → Steps p.tables e below (T47.setTop (mkF m 195 #[iv pi0, iv pi1, iv pi2, jv pj3, .second, jv pj4, .second, jv pj5, .second, iv x2, iv x8, iv x10, iv x12, jv x15, .second, jv pj4, .second, jv pj5, .second, jv x21, .second, jv x23, .second, iv x26, iv x36, iv x46, jv pj3, .second, jv pj4, .second, jv pj5, .second, jv x21, .second, jv x23, .second, .unset, .unset, .unset] [(.int (4 : Int32)), (.int x10)])) t := fun t kt => pre54_ t (by
          refine y_icmpYes X47.here hx (hb hby at_195) (feq hm195_55).2 (pc' := 204) (by decide) rfl ?_
          exact kt)
      refine ⟨T47, ⟨X47, e47.trans e47.symm⟩, fun t kt => pre57 t ?_⟩
      (try simp only [if_neg hm195_55] at kt)
      exact kt
  have e54 : T54.heap = h0 := q54.trans e47
  have pre58 : ∀ t, Steps p.tables e below (T54.setTop (mkF m 204 #[iv pi0, iv pi1, iv pi2, jv pj3, .second, jv pj4, .second, jv pj5, .second, iv x2, iv x8, iv x10, iv x12, jv x15, .second, jv pj4, .second, jv pj5, .second, jv x21, .second, jv x23, .second, iv x26, iv x36, iv x46, jv x53, .second, jv pj4, .second, jv pj5, .second, jv x21, .second, jv x23, .second, .unset, .unset, .unset] [])) t → Go t := fun t kt => pre52 t (st54 t kt)
  have pre59 : ∀ t, Steps p.tables e below (T54.setTop (mkF m 207 #[iv pi0, iv pi1, iv pi2, jv pj3, .second, jv pj4, .second, jv pj5, .second, iv x2, iv x8, iv x10, iv x12, jv x15, .second, jv pj4, .second, jv pj5, .second, jv x21, .second, jv x23, .second, iv x26, iv x36, iv x46, jv x53, .second, jv pj4, .second, jv pj5, .second, jv x21, .second, jv x23, .second, .unset, .unset, .unset] [(.int (5 : Int32)), (.int x10)])) t → Go t := fun t kt => pre58 t (by
      refine y_iload X54.here hx (hb hby at_204) rfl (pc' := 206) rfl ?_
      refine y_iconst X54.here hx (hb hby at_206) (v := (5 : Int32)) rfl (pc' := 207) rfl ?_
      exact kt)
  obtain ⟨x60, hx60⟩ : ∃ z : Int64, z = (if x10 = (5 : Int32) then (pj4 + x15) else pj4) := ⟨_, rfl⟩
  obtain ⟨T61, ⟨X61, q61⟩, st61⟩ : ∃ T', Nx X54 T' ∧ ∀ t, Steps p.tables e below (T'.setTop (mkF m 217 #[iv pi0, iv pi1, iv pi2, jv pj3, .second, jv pj4, .second, jv pj5, .second, iv x2, iv x8, iv x10, iv x12, jv x15, .second, jv pj4, .second, jv pj5, .second, jv x21, .second, jv x23, .second, iv x26, iv x36, iv x46, jv x53, .second, jv x60, .second, jv pj5, .second, jv x21, .second, jv x23, .second, .unset, .unset, .unset] [])) t → Steps p.tables e below (T54.setTop (mkF m 207 #[iv pi0, iv pi1, iv pi2, jv pj3, .second, jv pj4, .second, jv pj5, .second, iv x2, iv x8, iv x10, iv x12, jv x15, .second, jv pj4, .second, jv pj5, .second, jv x21, .second, jv x23, .second, iv x26, iv x36, iv x46, jv x53, .second, jv pj4, .second, jv pj5, .second, jv x21, .second, jv x23, .second, .unset, .unset, .unset] [(.int (5 : Int32)), (.int x10)])) t := by
    have pre61_ : ∀ t, Steps p.tables e below (T54.setTop (mkF m 207 #[iv pi0, iv pi1, iv pi2, jv pj3, .second, jv pj4, .second, jv pj5, .second, iv x2, iv x8, iv x10, iv x12, jv x15, .second, jv pj4, .second, jv pj5, .second, jv x21, .second, jv x23, .second, iv x26, iv x36, iv x46, jv x53, .second, jv pj4, .second, jv pj5, .second, jv x21, .second, jv x23, .second, .unset, .unset, .unset] [(.int (5 : Int32)), (.int x10)])) t → Steps p.tables e below (T54.setTop (mkF m 207 #[iv pi0, iv pi1, iv pi2, jv pj3, .second, jv pj4, .second, jv pj5, .second, iv x2, iv x8, iv x10, iv x12, jv x15, .second, jv pj4, .second, jv pj5, .second, jv x21, .second, jv x23, .second, iv x26, iv x36, iv x46, jv x53, .second, jv pj4, .second, jv pj5, .second, jv x21, .second, jv x23, .second, .unset, .unset, .unset] [(.int (5 : Int32)), (.int x10)])) t := fun t kt => kt
    subst hx60
    by_cases hm207_62 : x10 = (5 : Int32)
    · have pre63 : ∀ t, Steps p.tables e below (T54.setTop (mkF m 217 #[iv pi0, iv pi1, iv pi2, jv pj3, .second, jv pj4, .second, jv pj5, .second, iv x2, iv x8, iv x10, iv x12, jv x15, .second, jv pj4, .second, jv pj5, .second, jv x21, .second, jv x23, .second, iv x26, iv x36, iv x46, jv x53, .second, jv (pj4 + x15), .second, jv pj5, .second, jv x21, .second, jv x23, .second, .unset, .unset, .unset] [])) t → Steps p.tables e below (T54.setTop (mkF m 207 #[iv pi0, iv pi1, iv pi2, jv pj3, .second, jv pj4, .second, jv pj5, .second, iv x2, iv x8, iv x10, iv x12, jv x15, .second, jv pj4, .second, jv pj5, .second, jv x21, .second, jv x23, .second, iv x26, iv x36, iv x46, jv x53, .second, jv pj4, .second, jv pj5, .second, jv x21, .second, jv x23, .second, .unset, .unset, .unset] [(.int (5 : Int32)), (.int x10)])) t := fun t kt => pre61_ t (by
          refine y_icmpNo X54.here hx (hb hby at_207) (teq hm207_62).2 (pc' := 210) rfl ?_
          refine y_lload X54.here hx (hb hby at_210) rfl (pc' := 212) rfl ?_
          refine y_lload X54.here hx (hb hby at_212) rfl (pc' := 214) rfl ?_
          refine y_ladd X54.here hx (hb hby at_214) rfl (pc' := 215) rfl ?_
          refine y_lstore X54.here hx (hb hby at_215) (l' := #[iv pi0, iv pi1, iv pi2, jv pj3, .second, jv pj4, .second, jv pj5, .second, iv x2, iv x8, iv x10, iv x12, jv x15, .second, jv pj4, .second, jv pj5, .second, jv x21, .second, jv x23, .second, iv x26, iv x36, iv x46, jv x53, .second, jv (pj4 + x15), .second, jv pj5, .second, jv x21, .second, jv x23, .second, .unset, .unset, .unset]) rfl (pc' := 217) rfl ?_
          exact kt)
      refine ⟨T54, ⟨X54, e54.trans e54.symm⟩, fun t kt => pre63 t ?_⟩
      (try simp only [if_pos hm207_62] at kt)
      exact kt
    · have pre64 : ∀ t, Steps p.tables e below (T54.setTop (mkF m 217 #[iv pi0, iv pi1, iv pi2, jv pj3, .second, jv pj4, .second, jv pj5, .second, iv x2, iv x8, iv x10, iv x12, jv x15, .second, jv pj4, .second, jv pj5, .second, jv x21, .second, jv x23, .second, iv x26, iv x36, iv x46, jv x53, .second, jv pj4, .second, jv pj5, .second, jv x21, .second, jv x23, .second, .unset, .unset, .unset] [])) t → Steps p.tables e below (T54.setTop (mkF m 207 #[iv pi0, iv pi1, iv pi2, jv pj3, .second, jv pj4, .second, jv pj5, .second, iv x2, iv x8, iv x10, iv x12, jv x15, .second, jv pj4, .second, jv pj5, .second, jv x21, .second, jv x23, .second, iv x26, iv x36, iv x46, jv x53, .second, jv pj4, .second, jv pj5, .second, jv x21, .second, jv x23, .second, .unset, .unset, .unset] [(.int (5 : Int32)), (.int x10)])) t := fun t kt => pre61_ t (by
          refine y_icmpYes X54.here hx (hb hby at_207) (feq hm207_62).2 (pc' := 217) (by decide) rfl ?_
          exact kt)
      refine ⟨T54, ⟨X54, e54.trans e54.symm⟩, fun t kt => pre64 t ?_⟩
      (try simp only [if_neg hm207_62] at kt)
      exact kt
  have e61 : T61.heap = h0 := q61.trans e54
  have pre65 : ∀ t, Steps p.tables e below (T61.setTop (mkF m 217 #[iv pi0, iv pi1, iv pi2, jv pj3, .second, jv pj4, .second, jv pj5, .second, iv x2, iv x8, iv x10, iv x12, jv x15, .second, jv pj4, .second, jv pj5, .second, jv x21, .second, jv x23, .second, iv x26, iv x36, iv x46, jv x53, .second, jv x60, .second, jv pj5, .second, jv x21, .second, jv x23, .second, .unset, .unset, .unset] [])) t → Go t := fun t kt => pre59 t (st61 t kt)
  have pre66 : ∀ t, Steps p.tables e below (T61.setTop (mkF m 221 #[iv pi0, iv pi1, iv pi2, jv pj3, .second, jv pj4, .second, jv pj5, .second, iv x2, iv x8, iv x10, iv x12, jv x15, .second, jv pj4, .second, jv pj5, .second, jv x21, .second, jv x23, .second, iv x26, iv x36, iv x46, jv x53, .second, jv x60, .second, jv pj5, .second, jv x21, .second, jv x23, .second, .unset, .unset, .unset] [(.int (6 : Int32)), (.int x10)])) t → Go t := fun t kt => pre65 t (by
      refine y_iload X61.here hx (hb hby at_217) rfl (pc' := 219) rfl ?_
      refine y_bipush X61.here hx (hb hby at_219) (v := (6 : Int32)) rfl (pc' := 221) rfl ?_
      exact kt)
  obtain ⟨x67, hx67⟩ : ∃ z : Int64, z = (if x10 = (6 : Int32) then (pj5 + x15) else pj5) := ⟨_, rfl⟩
  obtain ⟨T68, ⟨X68, q68⟩, st68⟩ : ∃ T', Nx X61 T' ∧ ∀ t, Steps p.tables e below (T'.setTop (mkF m 231 #[iv pi0, iv pi1, iv pi2, jv pj3, .second, jv pj4, .second, jv pj5, .second, iv x2, iv x8, iv x10, iv x12, jv x15, .second, jv pj4, .second, jv pj5, .second, jv x21, .second, jv x23, .second, iv x26, iv x36, iv x46, jv x53, .second, jv x60, .second, jv x67, .second, jv x21, .second, jv x23, .second, .unset, .unset, .unset] [])) t → Steps p.tables e below (T61.setTop (mkF m 221 #[iv pi0, iv pi1, iv pi2, jv pj3, .second, jv pj4, .second, jv pj5, .second, iv x2, iv x8, iv x10, iv x12, jv x15, .second, jv pj4, .second, jv pj5, .second, jv x21, .second, jv x23, .second, iv x26, iv x36, iv x46, jv x53, .second, jv x60, .second, jv pj5, .second, jv x21, .second, jv x23, .second, .unset, .unset, .unset] [(.int (6 : Int32)), (.int x10)])) t := by
    have pre68_ : ∀ t, Steps p.tables e below (T61.setTop (mkF m 221 #[iv pi0, iv pi1, iv pi2, jv pj3, .second, jv pj4, .second, jv pj5, .second, iv x2, iv x8, iv x10, iv x12, jv x15, .second, jv pj4, .second, jv pj5, .second, jv x21, .second, jv x23, .second, iv x26, iv x36, iv x46, jv x53, .second, jv x60, .second, jv pj5, .second, jv x21, .second, jv x23, .second, .unset, .unset, .unset] [(.int (6 : Int32)), (.int x10)])) t → Steps p.tables e below (T61.setTop (mkF m 221 #[iv pi0, iv pi1, iv pi2, jv pj3, .second, jv pj4, .second, jv pj5, .second, iv x2, iv x8, iv x10, iv x12, jv x15, .second, jv pj4, .second, jv pj5, .second, jv x21, .second, jv x23, .second, iv x26, iv x36, iv x46, jv x53, .second, jv x60, .second, jv pj5, .second, jv x21, .second, jv x23, .second, .unset, .unset, .unset] [(.int (6 : Int32)), (.int x10)])) t := fun t kt => kt
    subst hx67
    by_cases hm221_69 : x10 = (6 : Int32)
    · have pre70 : ∀ t, Steps p.tables e below (T61.setTop (mkF m 231 #[iv pi0, iv pi1, iv pi2, jv pj3, .second, jv pj4, .second, jv pj5, .second, iv x2, iv x8, iv x10, iv x12, jv x15, .second, jv pj4, .second, jv pj5, .second, jv x21, .second, jv x23, .second, iv x26, iv x36, iv x46, jv x53, .second, jv x60, .second, jv (pj5 + x15), .second, jv x21, .second, jv x23, .second, .unset, .unset, .unset] [])) t → Steps p.tables e below (T61.setTop (mkF m 221 #[iv pi0, iv pi1, iv pi2, jv pj3, .second, jv pj4, .second, jv pj5, .second, iv x2, iv x8, iv x10, iv x12, jv x15, .second, jv pj4, .second, jv pj5, .second, jv x21, .second, jv x23, .second, iv x26, iv x36, iv x46, jv x53, .second, jv x60, .second, jv pj5, .second, jv x21, .second, jv x23, .second, .unset, .unset, .unset] [(.int (6 : Int32)), (.int x10)])) t := fun t kt => pre68_ t (by
          refine y_icmpNo X61.here hx (hb hby at_221) (teq hm221_69).2 (pc' := 224) rfl ?_
          refine y_lload X61.here hx (hb hby at_224) rfl (pc' := 226) rfl ?_
          refine y_lload X61.here hx (hb hby at_226) rfl (pc' := 228) rfl ?_
          refine y_ladd X61.here hx (hb hby at_228) rfl (pc' := 229) rfl ?_
          refine y_lstore X61.here hx (hb hby at_229) (l' := #[iv pi0, iv pi1, iv pi2, jv pj3, .second, jv pj4, .second, jv pj5, .second, iv x2, iv x8, iv x10, iv x12, jv x15, .second, jv pj4, .second, jv pj5, .second, jv x21, .second, jv x23, .second, iv x26, iv x36, iv x46, jv x53, .second, jv x60, .second, jv (pj5 + x15), .second, jv x21, .second, jv x23, .second, .unset, .unset, .unset]) rfl (pc' := 231) rfl ?_
          exact kt)
      refine ⟨T61, ⟨X61, e61.trans e61.symm⟩, fun t kt => pre70 t ?_⟩
      (try simp only [if_pos hm221_69] at kt)
      exact kt
    · have pre71 : ∀ t, Steps p.tables e below (T61.setTop (mkF m 231 #[iv pi0, iv pi1, iv pi2, jv pj3, .second, jv pj4, .second, jv pj5, .second, iv x2, iv x8, iv x10, iv x12, jv x15, .second, jv pj4, .second, jv pj5, .second, jv x21, .second, jv x23, .second, iv x26, iv x36, iv x46, jv x53, .second, jv x60, .second, jv pj5, .second, jv x21, .second, jv x23, .second, .unset, .unset, .unset] [])) t → Steps p.tables e below (T61.setTop (mkF m 221 #[iv pi0, iv pi1, iv pi2, jv pj3, .second, jv pj4, .second, jv pj5, .second, iv x2, iv x8, iv x10, iv x12, jv x15, .second, jv pj4, .second, jv pj5, .second, jv x21, .second, jv x23, .second, iv x26, iv x36, iv x46, jv x53, .second, jv x60, .second, jv pj5, .second, jv x21, .second, jv x23, .second, .unset, .unset, .unset] [(.int (6 : Int32)), (.int x10)])) t := fun t kt => pre68_ t (by
          refine y_icmpYes X61.here hx (hb hby at_221) (feq hm221_69).2 (pc' := 231) (by decide) rfl ?_
          exact kt)
      refine ⟨T61, ⟨X61, e61.trans e61.symm⟩, fun t kt => pre71 t ?_⟩
      (try simp only [if_neg hm221_69] at kt)
      exact kt
  have e68 : T68.heap = h0 := q68.trans e61
  have pre72 : ∀ t, Steps p.tables e below (T68.setTop (mkF m 231 #[iv pi0, iv pi1, iv pi2, jv pj3, .second, jv pj4, .second, jv pj5, .second, iv x2, iv x8, iv x10, iv x12, jv x15, .second, jv pj4, .second, jv pj5, .second, jv x21, .second, jv x23, .second, iv x26, iv x36, iv x46, jv x53, .second, jv x60, .second, jv x67, .second, jv x21, .second, jv x23, .second, .unset, .unset, .unset] [])) t → Go t := fun t kt => pre66 t (st68 t kt)
  have pre73 : ∀ t, Steps p.tables e below (T68.setTop (mkF m 235 #[iv pi0, iv pi1, iv pi2, jv pj3, .second, jv pj4, .second, jv pj5, .second, iv x2, iv x8, iv x10, iv x12, jv x15, .second, jv pj4, .second, jv pj5, .second, jv x21, .second, jv x23, .second, iv x26, iv x36, iv x46, jv x53, .second, jv x60, .second, jv x67, .second, jv x21, .second, jv x23, .second, .unset, .unset, .unset] [(.int (7 : Int32)), (.int x10)])) t → Go t := fun t kt => pre72 t (by
      refine y_iload X68.here hx (hb hby at_231) rfl (pc' := 233) rfl ?_
      refine y_bipush X68.here hx (hb hby at_233) (v := (7 : Int32)) rfl (pc' := 235) rfl ?_
      exact kt)
  obtain ⟨x74, hx74⟩ : ∃ z : Int64, z = (if x10 = (7 : Int32) then (x21 + x15) else x21) := ⟨_, rfl⟩
  obtain ⟨T75, ⟨X75, q75⟩, st75⟩ : ∃ T', Nx X68 T' ∧ ∀ t, Steps p.tables e below (T'.setTop (mkF m 245 #[iv pi0, iv pi1, iv pi2, jv pj3, .second, jv pj4, .second, jv pj5, .second, iv x2, iv x8, iv x10, iv x12, jv x15, .second, jv pj4, .second, jv pj5, .second, jv x21, .second, jv x23, .second, iv x26, iv x36, iv x46, jv x53, .second, jv x60, .second, jv x67, .second, jv x74, .second, jv x23, .second, .unset, .unset, .unset] [])) t → Steps p.tables e below (T68.setTop (mkF m 235 #[iv pi0, iv pi1, iv pi2, jv pj3, .second, jv pj4, .second, jv pj5, .second, iv x2, iv x8, iv x10, iv x12, jv x15, .second, jv pj4, .second, jv pj5, .second, jv x21, .second, jv x23, .second, iv x26, iv x36, iv x46, jv x53, .second, jv x60, .second, jv x67, .second, jv x21, .second, jv x23, .second, .unset, .unset, .unset] [(.int (7 : Int32)), (.int x10)])) t := by
    have pre75_ : ∀ t, Steps p.tables e below (T68.setTop (mkF m 235 #[iv pi0, iv pi1, iv pi2, jv pj3, .second, jv pj4, .second, jv pj5, .second, iv x2, iv x8, iv x10, iv x12, jv x15, .second, jv pj4, .second, jv pj5, .second, jv x21, .second, jv x23, .second, iv x26, iv x36, iv x46, jv x53, .second, jv x60, .second, jv x67, .second, jv x21, .second, jv x23, .second, .unset, .unset, .unset] [(.int (7 : Int32)), (.int x10)])) t → Steps p.tables e below (T68.setTop (mkF m 235 #[iv pi0, iv pi1, iv pi2, jv pj3, .second, jv pj4, .second, jv pj5, .second, iv x2, iv x8, iv x10, iv x12, jv x15, .second, jv pj4, .second, jv pj5, .second, jv x21, .second, jv x23, .second, iv x26, iv x36, iv x46, jv x53, .second, jv x60, .second, jv x67, .second, jv x21, .second, jv x23, .second, .unset, .unset, .unset] [(.int (7 : Int32)), (.int x10)])) t := fun t kt => kt
    subst hx74
    by_cases hm235_76 : x10 = (7 : Int32)
    · have pre77 : ∀ t, Steps p.tables e below (T68.setTop (mkF m 245 #[iv pi0, iv pi1, iv pi2, jv pj3, .second, jv pj4, .second, jv pj5, .second, iv x2, iv x8, iv x10, iv x12, jv x15, .second, jv pj4, .second, jv pj5, .second, jv x21, .second, jv x23, .second, iv x26, iv x36, iv x46, jv x53, .second, jv x60, .second, jv x67, .second, jv (x21 + x15), .second, jv x23, .second, .unset, .unset, .unset] [])) t → Steps p.tables e below (T68.setTop (mkF m 235 #[iv pi0, iv pi1, iv pi2, jv pj3, .second, jv pj4, .second, jv pj5, .second, iv x2, iv x8, iv x10, iv x12, jv x15, .second, jv pj4, .second, jv pj5, .second, jv x21, .second, jv x23, .second, iv x26, iv x36, iv x46, jv x53, .second, jv x60, .second, jv x67, .second, jv x21, .second, jv x23, .second, .unset, .unset, .unset] [(.int (7 : Int32)), (.int x10)])) t := fun t kt => pre75_ t (by
          refine y_icmpNo X68.here hx (hb hby at_235) (teq hm235_76).2 (pc' := 238) rfl ?_
          refine y_lload X68.here hx (hb hby at_238) rfl (pc' := 240) rfl ?_
          refine y_lload X68.here hx (hb hby at_240) rfl (pc' := 242) rfl ?_
          refine y_ladd X68.here hx (hb hby at_242) rfl (pc' := 243) rfl ?_
          refine y_lstore X68.here hx (hb hby at_243) (l' := #[iv pi0, iv pi1, iv pi2, jv pj3, .second, jv pj4, .second, jv pj5, .second, iv x2, iv x8, iv x10, iv x12, jv x15, .second, jv pj4, .second, jv pj5, .second, jv x21, .second, jv x23, .second, iv x26, iv x36, iv x46, jv x53, .second, jv x60, .second, jv x67, .second, jv (x21 + x15), .second, jv x23, .second, .unset, .unset, .unset]) rfl (pc' := 245) rfl ?_
          exact kt)
      refine ⟨T68, ⟨X68, e68.trans e68.symm⟩, fun t kt => pre77 t ?_⟩
      (try simp only [if_pos hm235_76] at kt)
      exact kt
    · have pre78 : ∀ t, Steps p.tables e below (T68.setTop (mkF m 245 #[iv pi0, iv pi1, iv pi2, jv pj3, .second, jv pj4, .second, jv pj5, .second, iv x2, iv x8, iv x10, iv x12, jv x15, .second, jv pj4, .second, jv pj5, .second, jv x21, .second, jv x23, .second, iv x26, iv x36, iv x46, jv x53, .second, jv x60, .second, jv x67, .second, jv x21, .second, jv x23, .second, .unset, .unset, .unset] [])) t → Steps p.tables e below (T68.setTop (mkF m 235 #[iv pi0, iv pi1, iv pi2, jv pj3, .second, jv pj4, .second, jv pj5, .second, iv x2, iv x8, iv x10, iv x12, jv x15, .second, jv pj4, .second, jv pj5, .second, jv x21, .second, jv x23, .second, iv x26, iv x36, iv x46, jv x53, .second, jv x60, .second, jv x67, .second, jv x21, .second, jv x23, .second, .unset, .unset, .unset] [(.int (7 : Int32)), (.int x10)])) t := fun t kt => pre75_ t (by
          refine y_icmpYes X68.here hx (hb hby at_235) (feq hm235_76).2 (pc' := 245) (by decide) rfl ?_
          exact kt)
      refine ⟨T68, ⟨X68, e68.trans e68.symm⟩, fun t kt => pre78 t ?_⟩
      (try simp only [if_neg hm235_76] at kt)
      exact kt
  have e75 : T75.heap = h0 := q75.trans e68
  have pre79 : ∀ t, Steps p.tables e below (T75.setTop (mkF m 245 #[iv pi0, iv pi1, iv pi2, jv pj3, .second, jv pj4, .second, jv pj5, .second, iv x2, iv x8, iv x10, iv x12, jv x15, .second, jv pj4, .second, jv pj5, .second, jv x21, .second, jv x23, .second, iv x26, iv x36, iv x46, jv x53, .second, jv x60, .second, jv x67, .second, jv x74, .second, jv x23, .second, .unset, .unset, .unset] [])) t → Go t := fun t kt => pre73 t (st75 t kt)
  have pre80 : ∀ t, Steps p.tables e below (T75.setTop (mkF m 249 #[iv pi0, iv pi1, iv pi2, jv pj3, .second, jv pj4, .second, jv pj5, .second, iv x2, iv x8, iv x10, iv x12, jv x15, .second, jv pj4, .second, jv pj5, .second, jv x21, .second, jv x23, .second, iv x26, iv x36, iv x46, jv x53, .second, jv x60, .second, jv x67, .second, jv x74, .second, jv x23, .second, .unset, .unset, .unset] [(.int (8 : Int32)), (.int x10)])) t → Go t := fun t kt => pre79 t (by
      refine y_iload X75.here hx (hb hby at_245) rfl (pc' := 247) rfl ?_
      refine y_bipush X75.here hx (hb hby at_247) (v := (8 : Int32)) rfl (pc' := 249) rfl ?_
      exact kt)
  obtain ⟨x81, hx81⟩ : ∃ z : Int64, z = (if x10 = (8 : Int32) then (x23 + x15) else x23) := ⟨_, rfl⟩
  obtain ⟨T82, ⟨X82, q82⟩, st82⟩ : ∃ T', Nx X75 T' ∧ ∀ t, Steps p.tables e below (T'.setTop (mkF m 259 #[iv pi0, iv pi1, iv pi2, jv pj3, .second, jv pj4, .second, jv pj5, .second, iv x2, iv x8, iv x10, iv x12, jv x15, .second, jv pj4, .second, jv pj5, .second, jv x21, .second, jv x23, .second, iv x26, iv x36, iv x46, jv x53, .second, jv x60, .second, jv x67, .second, jv x74, .second, jv x81, .second, .unset, .unset, .unset] [])) t → Steps p.tables e below (T75.setTop (mkF m 249 #[iv pi0, iv pi1, iv pi2, jv pj3, .second, jv pj4, .second, jv pj5, .second, iv x2, iv x8, iv x10, iv x12, jv x15, .second, jv pj4, .second, jv pj5, .second, jv x21, .second, jv x23, .second, iv x26, iv x36, iv x46, jv x53, .second, jv x60, .second, jv x67, .second, jv x74, .second, jv x23, .second, .unset, .unset, .unset] [(.int (8 : Int32)), (.int x10)])) t := by
    have pre82_ : ∀ t, Steps p.tables e below (T75.setTop (mkF m 249 #[iv pi0, iv pi1, iv pi2, jv pj3, .second, jv pj4, .second, jv pj5, .second, iv x2, iv x8, iv x10, iv x12, jv x15, .second, jv pj4, .second, jv pj5, .second, jv x21, .second, jv x23, .second, iv x26, iv x36, iv x46, jv x53, .second, jv x60, .second, jv x67, .second, jv x74, .second, jv x23, .second, .unset, .unset, .unset] [(.int (8 : Int32)), (.int x10)])) t → Steps p.tables e below (T75.setTop (mkF m 249 #[iv pi0, iv pi1, iv pi2, jv pj3, .second, jv pj4, .second, jv pj5, .second, iv x2, iv x8, iv x10, iv x12, jv x15, .second, jv pj4, .second, jv pj5, .second, jv x21, .second, jv x23, .second, iv x26, iv x36, iv x46, jv x53, .second, jv x60, .second, jv x67, .second, jv x74, .second, jv x23, .second, .unset, .unset, .unset] [(.int (8 : Int32)), (.int x10)])) t := fun t kt => kt
    subst hx81
    by_cases hm249_83 : x10 = (8 : Int32)
    · have pre84 : ∀ t, Steps p.tables e below (T75.setTop (mkF m 259 #[iv pi0, iv pi1, iv pi2, jv pj3, .second, jv pj4, .second, jv pj5, .second, iv x2, iv x8, iv x10, iv x12, jv x15, .second, jv pj4, .second, jv pj5, .second, jv x21, .second, jv x23, .second, iv x26, iv x36, iv x46, jv x53, .second, jv x60, .second, jv x67, .second, jv x74, .second, jv (x23 + x15), .second, .unset, .unset, .unset] [])) t → Steps p.tables e below (T75.setTop (mkF m 249 #[iv pi0, iv pi1, iv pi2, jv pj3, .second, jv pj4, .second, jv pj5, .second, iv x2, iv x8, iv x10, iv x12, jv x15, .second, jv pj4, .second, jv pj5, .second, jv x21, .second, jv x23, .second, iv x26, iv x36, iv x46, jv x53, .second, jv x60, .second, jv x67, .second, jv x74, .second, jv x23, .second, .unset, .unset, .unset] [(.int (8 : Int32)), (.int x10)])) t := fun t kt => pre82_ t (by
          refine y_icmpNo X75.here hx (hb hby at_249) (teq hm249_83).2 (pc' := 252) rfl ?_
          refine y_lload X75.here hx (hb hby at_252) rfl (pc' := 254) rfl ?_
          refine y_lload X75.here hx (hb hby at_254) rfl (pc' := 256) rfl ?_
          refine y_ladd X75.here hx (hb hby at_256) rfl (pc' := 257) rfl ?_
          refine y_lstore X75.here hx (hb hby at_257) (l' := #[iv pi0, iv pi1, iv pi2, jv pj3, .second, jv pj4, .second, jv pj5, .second, iv x2, iv x8, iv x10, iv x12, jv x15, .second, jv pj4, .second, jv pj5, .second, jv x21, .second, jv x23, .second, iv x26, iv x36, iv x46, jv x53, .second, jv x60, .second, jv x67, .second, jv x74, .second, jv (x23 + x15), .second, .unset, .unset, .unset]) rfl (pc' := 259) rfl ?_
          exact kt)
      refine ⟨T75, ⟨X75, e75.trans e75.symm⟩, fun t kt => pre84 t ?_⟩
      (try simp only [if_pos hm249_83] at kt)
      exact kt
    · have pre85 : ∀ t, Steps p.tables e below (T75.setTop (mkF m 259 #[iv pi0, iv pi1, iv pi2, jv pj3, .second, jv pj4, .second, jv pj5, .second, iv x2, iv x8, iv x10, iv x12, jv x15, .second, jv pj4, .second, jv pj5, .second, jv x21, .second, jv x23, .second, iv x26, iv x36, iv x46, jv x53, .second, jv x60, .second, jv x67, .second, jv x74, .second, jv x23, .second, .unset, .unset, .unset] [])) t → Steps p.tables e below (T75.setTop (mkF m 249 #[iv pi0, iv pi1, iv pi2, jv pj3, .second, jv pj4, .second, jv pj5, .second, iv x2, iv x8, iv x10, iv x12, jv x15, .second, jv pj4, .second, jv pj5, .second, jv x21, .second, jv x23, .second, iv x26, iv x36, iv x46, jv x53, .second, jv x60, .second, jv x67, .second, jv x74, .second, jv x23, .second, .unset, .unset, .unset] [(.int (8 : Int32)), (.int x10)])) t := fun t kt => pre82_ t (by
          refine y_icmpYes X75.here hx (hb hby at_249) (feq hm249_83).2 (pc' := 259) (by decide) rfl ?_
          exact kt)
      refine ⟨T75, ⟨X75, e75.trans e75.symm⟩, fun t kt => pre85 t ?_⟩
      (try simp only [if_neg hm249_83] at kt)
      exact kt
  have e82 : T82.heap = h0 := q82.trans e75
  have pre86 : ∀ t, Steps p.tables e below (T82.setTop (mkF m 259 #[iv pi0, iv pi1, iv pi2, jv pj3, .second, jv pj4, .second, jv pj5, .second, iv x2, iv x8, iv x10, iv x12, jv x15, .second, jv pj4, .second, jv pj5, .second, jv x21, .second, jv x23, .second, iv x26, iv x36, iv x46, jv x53, .second, jv x60, .second, jv x67, .second, jv x74, .second, jv x81, .second, .unset, .unset, .unset] [])) t → Go t := fun t kt => pre80 t (st82 t kt)
  have NQ_pi0_x2 : ¬ pi0 = x2 := by exact law0_87 pi0 pi1 x2 hx2
  have NQ_x26_x36 : ¬ x26 = x36 := by exact law0_88 pi0 pi2 x2 x10 x12 x26 x36 hx12 hx26 hx36 NQ_pi0_x2
  obtain ⟨T89, h89, X89, e89, E89, A89, D89, -, st89⟩ := newO X82 hx hZ hown (hw _ (List.mem_of_getElem? (i := 0) rfl)) (hw _ (List.mem_of_getElem? (i := 1) rfl)) (hw _ (List.mem_of_getElem? (i := 2) rfl)) e82 (g := (mkF m 259 #[iv pi0, iv pi1, iv pi2, jv pj3, .second, jv pj4, .second, jv pj5, .second, iv x2, iv x8, iv x10, iv x12, jv x15, .second, jv pj4, .second, jv pj5, .second, jv x21, .second, jv x23, .second, iv x26, iv x36, iv x46, jv x53, .second, jv x60, .second, jv x67, .second, jv x74, .second, jv x81, .second, .unset, .unset, .unset] [])) rfl (hb hby at_259) (by decide) (by decide)
  obtain ⟨b89, g89⟩ : ∃ z, z = h0.size := ⟨_, rfl⟩
  rw [← g89] at A89 D89 st89
  have pre90 : ∀ t, Steps p.tables e below (T89.setTop (mkF m 262 #[iv pi0, iv pi1, iv pi2, jv pj3, .second, jv pj4, .second, jv pj5, .second, iv x2, iv x8, iv x10, iv x12, jv x15, .second, jv pj4, .second, jv pj5, .second, jv x21, .second, jv x23, .second, iv x26, iv x36, iv x46, jv x53, .second, jv x60, .second, jv x67, .second, jv x74, .second, jv x81, .second, .unset, .unset, .unset] [(.ref b89)])) t → Go t := fun t kt => pre86 t (st89 t kt)
  have G91 : n0 ≤ b89 := Nat.le_trans (O0.1 ▸ O0.2.1) (Nat.le_of_eq g89.symm)
  have O91 := O0.ext E89
  have hk92 : _ ≤ h89.size := Nat.le_trans (Nat.zero_le _) E89.1
  have f93 : Fld Z h89 b89 "com/example/procord/procord/lock/LockMessage" "from" "I" (.int (0 : Int32)) := D89 (Or.inr (hw _ (List.mem_of_getElem? (i := 21) rfl))) (ty := .int) (by decide)
  have f94 : Fld Z h89 b89 "com/example/procord/procord/lock/LockMessage" "to" "I" (.int (0 : Int32)) := D89 (Or.inr (hw _ (List.mem_of_getElem? (i := 23) rfl))) (ty := .int) (by decide)
  have f95 : Fld Z h89 b89 "com/example/procord/procord/lock/LockMessage" "kind" "Lcom/example/procord/procord/lock/LockMessage$Kind;" .null := D89 (Or.inr (hw _ (List.mem_of_getElem? (i := 39) rfl))) (ty := (.object "com/example/procord/procord/lock/LockMessage$Kind")) (by decide)
  have f96 : Fld Z h89 b89 "com/example/procord/procord/lock/LockMessage" "stamp" "J" (.long (0 : Int64)) := D89 (Or.inr (hw _ (List.mem_of_getElem? (i := 41) rfl))) (ty := .long) (by decide)
  have f97 : Fld Z h89 b89 "com/example/procord/procord/lock/LockMessage" "fencing" "J" (.long (0 : Int64)) := D89 (Or.inr (hw _ (List.mem_of_getElem? (i := 43) rfl))) (ty := .long) (by decide)
  have f98 : Fld Z h89 b89 "com/example/procord/procord/lock/LockMessage" "lease" "J" (.long (0 : Int64)) := D89 (Or.inr (hw _ (List.mem_of_getElem? (i := 45) rfl))) (ty := .long) (by decide)
  have f99 : Fld Z h89 b89 "com/example/procord/procord/lock/LockMessage" "waited" "J" (.long (0 : Int64)) := D89 (Or.inr (hw _ (List.mem_of_getElem? (i := 47) rfl))) (ty := .long) (by decide)
  have f100 : Fld Z h89 b89 "com/example/procord/procord/lock/LockMessage" "known" "J" (.long (0 : Int64)) := D89 (Or.inr (hw _ (List.mem_of_getElem? (i := 49) rfl))) (ty := .long) (by decide)
  have pre101 : ∀ t, Steps p.tables e below (T89.setTop (mkF m 268 #[iv pi0, iv pi1, iv pi2, jv pj3, .second, jv pj4, .second, jv pj5, .second, iv x2, iv x8, iv x10, iv x12, jv x15, .second, jv pj4, .second, jv pj5, .second, jv x21, .second, jv x23, .second, iv x26, iv x36, iv x46, jv x53, .second, jv x60, .second, jv x67, .second, jv x74, .second, jv x81, .second, .unset, .unset, .unset] [(.int x8), (.int x2), (.int pi0), (.ref b89), (.ref b89)])) t → Go t := fun t kt => pre90 t (by
      refine y_dup X89.here hx (hb hby at_262) rfl (pc' := 263) rfl ?_
      refine y_iloadN X89.here hx (hb hby at_263) rfl (pc' := 264) rfl ?_
      refine y_iload X89.here hx (hb hby at_264) rfl (pc' := 266) rfl ?_
      refine y_iload X89.here hx (hb hby at_266) rfl (pc' := 268) rfl ?_
      exact kt)
  obtain ⟨v102, _, ⟨T102, L102, k102, n102⟩, -, X102, ⟨Lc102, hQ102, l102, y102, z102⟩, st102⟩ := Jvm.LawKit.callS X89 hx (y := (⟨"com/example/procord/procord/lock/LockMessageEqualsPinLaw", "kindOf", "(I)Lcom/example/procord/procord/lock/LockMessage$Kind;"⟩ : MethodName)) hown (mvT hZ (hw _ (List.mem_of_getElem? (i := 3) rfl))) (mvT hZ (hw _ (List.mem_of_getElem? (i := 4) rfl))) (mvT hZ (hw _ (List.mem_of_getElem? (i := 5) rfl))) (mvT hZ (hw _ (List.mem_of_getElem? (i := 6) rfl))) (by decide) (backOf (W := 4) (rm1 l Z a0 hw [] x8 w_REQUEST w_GRANT w_RELEASE w_RENEW w_RENEWED w_CANCEL w_CANCELLED w_TAKEOVER w_FOLLOW w_REPLY w_VOTE w_INQUIRE w_RELINQUISH h89 n0 O91 S_REQUEST S_GRANT S_RELEASE S_RENEW S_RENEWED S_CANCEL S_CANCELLED S_TAKEOVER S_FOLLOW S_REPLY S_VOTE S_INQUIRE S_RELINQUISH) hZ (hw _ (List.mem_of_getElem? (i := 6) rfl)) (hw _ (List.mem_of_getElem? (i := 5) rfl)) (by decide) (by decide)) (g := (mkF m 268 #[iv pi0, iv pi1, iv pi2, jv pj3, .second, jv pj4, .second, jv pj5, .second, iv x2, iv x8, iv x10, iv x12, jv x15, .second, jv pj4, .second, jv pj5, .second, jv x21, .second, jv x23, .second, iv x26, iv x36, iv x46, jv x53, .second, jv x60, .second, jv x67, .second, jv x74, .second, jv x81, .second, .unset, .unset, .unset] [(.int x8), (.int x2), (.int pi0), (.ref b89), (.ref b89)])) rfl (by rw [hml]; rfl) (argsL := [(.int x8)]) (rest := [(.int x2), (.int pi0), (.ref b89), (.ref b89)]) (lenOf pd__I_Lcom_example_procord_procord_lock_LockMessage_Kind_ rfl) rfl (by show 2 * 0 + _ ≤ _; exact Nat.le_of_eq rfl) (hb hby at_268) (fun _ _ => ⟨rfl, e89, (by decide : 1 + 0 ≤ _), (by decide : 8 + 0 ≤ _)⟩)
  dsimp only [Pt.U, Pt.locs, Pt.cells, Pt.slots] at X102 l102 y102 z102 st102 hQ102
  replace l102 := l102.symm
  subst l102 y102 z102
  obtain ⟨hv102, N102q, e102q⟩ := hQ102
  have N103 := Fr.app N0 N102q
  have hw102 := hv102
  obtain ⟨x104, hx104⟩ : ∃ z : Addr, z = (if x8 = (0 : Int32) then w_REQUEST else (if x8 = (1 : Int32) then w_GRANT else (if x8 = (2 : Int32) then w_RELEASE else (if x8 = (3 : Int32) then w_RENEW else (if x8 = (4 : Int32) then w_RENEWED else (if x8 = (5 : Int32) then w_CANCEL else (if x8 = (6 : Int32) then w_CANCELLED else (if x8 = (7 : Int32) then w_TAKEOVER else (if x8 = (8 : Int32) then w_FOLLOW else (if x8 = (9 : Int32) then w_REPLY else (if x8 = (10 : Int32) then w_VOTE else (if x8 = (11 : Int32) then w_INQUIRE else w_RELINQUISH)))))))))))) := ⟨_, rfl⟩
  rw [← hx104] at hw102
  have E_x104 : Exa Z Z.heap x104 "com/example/procord/procord/lock/LockMessage$Kind" := by rw [hx104]; exact (own_exIte E_w_REQUEST (own_exIte E_w_GRANT (own_exIte E_w_RELEASE (own_exIte E_w_RENEW (own_exIte E_w_RENEWED (own_exIte E_w_CANCEL (own_exIte E_w_CANCELLED (own_exIte E_w_TAKEOVER (own_exIte E_w_FOLLOW (own_exIte E_w_REPLY (own_exIte E_w_VOTE (own_exIte E_w_INQUIRE E_w_RELINQUISH))))))))))))
  subst hw102
  have pre105 : ∀ t, Steps p.tables e below (T102.setTop (mkF m 271 #[iv pi0, iv pi1, iv pi2, jv pj3, .second, jv pj4, .second, jv pj5, .second, iv x2, iv x8, iv x10, iv x12, jv x15, .second, jv pj4, .second, jv pj5, .second, jv x21, .second, jv x23, .second, iv x26, iv x36, iv x46, jv x53, .second, jv x60, .second, jv x67, .second, jv x74, .second, jv x81, .second, .unset, .unset, .unset] [(.ref x104), (.int x2), (.int pi0), (.ref b89), (.ref b89)])) t → Go t := fun t kt => pre101 t (st102 t kt)
  have pre106 : ∀ t, Steps p.tables e below (T102.setTop (mkF m 280 #[iv pi0, iv pi1, iv pi2, jv pj3, .second, jv pj4, .second, jv pj5, .second, iv x2, iv x8, iv x10, iv x12, jv x15, .second, jv pj4, .second, jv pj5, .second, jv x21, .second, jv x23, .second, iv x26, iv x36, iv x46, jv x53, .second, jv x60, .second, jv x67, .second, jv x74, .second, jv x81, .second, .unset, .unset, .unset] [(.long x23), (.long x21), (.long pj5), (.long pj4), (.long pj3), (.ref x104), (.int x2), (.int pi0), (.ref b89), (.ref b89)])) t → Go t := fun t kt => pre105 t (by
      refine y_lloadN X102.here hx (hb hby at_271) rfl (pc' := 272) rfl ?_
      refine y_lload X102.here hx (hb hby at_272) rfl (pc' := 274) rfl ?_
      refine y_lload X102.here hx (hb hby at_274) rfl (pc' := 276) rfl ?_
      refine y_lload X102.here hx (hb hby at_276) rfl (pc' := 278) rfl ?_
      refine y_lload X102.here hx (hb hby at_278) rfl (pc' := 280) rfl ?_
      exact kt)
  obtain ⟨v107, _, ⟨T107, L107, k107, n107⟩, -, X107, hS107q, hg107, ⟨Lc107, hQ107, l107, y107, z107⟩, st107⟩ := X102.specialBackS hx (y := (⟨"com/example/procord/procord/lock/LockMessage", "<init>", "(IILcom/example/procord/procord/lock/LockMessage$Kind;JJJJJ)V"⟩ : MethodName)) rfl hown (mvT hZ (hw _ (List.mem_of_getElem? (i := 10) rfl))) (mvT hZ (hw _ (List.mem_of_getElem? (i := 11) rfl))) (mvT hZ (hw _ (List.mem_of_getElem? (i := 12) rfl))) (by decide) (backOfS (W := 1) (rm2 l Z a0 hw [] b89 pi0 x2 x104 pj3 pj4 pj5 x21 x23 h89 n0 O91 A89 f93 f94 f95 f96 f97 f98 f99 f100 (E_x104.ext O91.2) G91 NQ_pi0_x2) hZ (hw _ (List.mem_of_getElem? (i := 12) rfl)) (hw _ (List.mem_of_getElem? (i := 2) rfl)) (by decide) (by decide)) (g := (mkF m 280 #[iv pi0, iv pi1, iv pi2, jv pj3, .second, jv pj4, .second, jv pj5, .second, iv x2, iv x8, iv x10, iv x12, jv x15, .second, jv pj4, .second, jv pj5, .second, jv x21, .second, jv x23, .second, iv x26, iv x36, iv x46, jv x53, .second, jv x60, .second, jv x67, .second, jv x74, .second, jv x81, .second, .unset, .unset, .unset] [(.long x23), (.long x21), (.long pj5), (.long pj4), (.long pj3), (.ref x104), (.int x2), (.int pi0), (.ref b89), (.ref b89)])) rfl (by rw [hml]; rfl) (Steps.refl _) (a := b89) (argsL := [(.int pi0), (.int x2), (.ref x104), (.long pj3), (.long pj4), (.long pj5), (.long x21), (.long x23)]) (rest := [(.ref b89)]) (lenOf pd__IILcom_example_procord_procord_lock_LockMessage_Kind_JJJJJ_V rfl) rfl (by show 2 * 0 + _ ≤ _; exact Nat.le_of_eq rfl) (hb hby at_280) (fun _ _ => ⟨rfl, e102q, (by decide : 1 + 2 ≤ _), (by decide : 8 + 20 ≤ _)⟩)
  dsimp only [Pt.U, Pt.locs, Pt.cells, Pt.slots] at X107 l107 y107 z107 st107 hQ107
  replace l107 := l107.symm
  subst l107 y107 z107
  have hS107 : s.Since T107.vm T107.heap.size := hS0.trans hS107q (Nat.le_trans hk92 (e102q ▸ hg107))
  have hZ : Z.Warmed39 (s.setVm T107.vm).vm := State.Warmed39.trans (t := s.setVm s.vm) hZ hS107q.1
  have hown : (s.setVm T107.vm).vm.findClass "com/example/procord/procord/lock/LockMessageEqualsPinLaw" = some m.cls := by show T107.vm.findClass _ = _; rw [hS107q.1.alike.findClass]; exact hown
  obtain ⟨hv107, N107q, K107q, p107_0, p107_1, p107_2, p107_3, p107_4, p107_5, p107_6, p107_7⟩ := hQ107
  have N108 := Fr.app N103 N107q
  subst hv107
  have pre109 : ∀ t, Steps p.tables e below (T107.setTop (mkF m 283 #[iv pi0, iv pi1, iv pi2, jv pj3, .second, jv pj4, .second, jv pj5, .second, iv x2, iv x8, iv x10, iv x12, jv x15, .second, jv pj4, .second, jv pj5, .second, jv x21, .second, jv x23, .second, iv x26, iv x36, iv x46, jv x53, .second, jv x60, .second, jv x67, .second, jv x74, .second, jv x81, .second, .unset, .unset, .unset] [(.ref b89)])) t → Go t := fun t kt => pre106 t (st107.trans kt)
  obtain ⟨h107, eh107⟩ : ∃ z, T107.heap = z := ⟨_, rfl⟩
  rw [eh107] at K107q p107_0 p107_1 p107_2 p107_3 p107_4 p107_5 p107_6 p107_7
  have f110 : Exa Z h107 b89 "com/example/procord/procord/lock/LockMessage" := (A89.keep K107q)
  have O119 := O91.keep K107q (allS G91 all0)
  have pre120 : ∀ t, Steps p.tables e below (T107.setTop (mkF m 285 #[iv pi0, iv pi1, iv pi2, jv pj3, .second, jv pj4, .second, jv pj5, .second, iv x2, iv x8, iv x10, iv x12, jv x15, .second, jv pj4, .second, jv pj5, .second, jv x21, .second, jv x23, .second, iv x26, iv x36, iv x46, jv x53, .second, jv x60, .second, jv x67, .second, jv x74, .second, jv x81, .second, rv b89, .unset, .unset] [])) t → Go t := fun t kt => pre109 t (by
      refine y_astore X107.here hx (hb hby at_283) rfl (l' := #[iv pi0, iv pi1, iv pi2, jv pj3, .second, jv pj4, .second, jv pj5, .second, iv x2, iv x8, iv x10, iv x12, jv x15, .second, jv pj4, .second, jv pj5, .second, jv x21, .second, jv x23, .second, iv x26, iv x36, iv x46, jv x53, .second, jv x60, .second, jv x67, .second, jv x74, .second, jv x81, .second, rv b89, .unset, .unset]) rfl (pc' := 285) rfl ?_
      exact kt)
  obtain ⟨T121, h121, X121, e121, E121, A121, D121, -, st121⟩ := newO X107 hx hZ hown (hw _ (List.mem_of_getElem? (i := 0) rfl)) (hw _ (List.mem_of_getElem? (i := 1) rfl)) (hw _ (List.mem_of_getElem? (i := 2) rfl)) eh107 (g := (mkF m 285 #[iv pi0, iv pi1, iv pi2, jv pj3, .second, jv pj4, .second, jv pj5, .second, iv x2, iv x8, iv x10, iv x12, jv x15, .second, jv pj4, .second, jv pj5, .second, jv x21, .second, jv x23, .second, iv x26, iv x36, iv x46, jv x53, .second, jv x60, .second, jv x67, .second, jv x74, .second, jv x81, .second, rv b89, .unset, .unset] [])) rfl (hb hby at_285) (by decide) (by decide)
  obtain ⟨b121, g121⟩ : ∃ z, z = h107.size := ⟨_, rfl⟩
  rw [← g121] at A121 D121 st121
  have pre122 : ∀ t, Steps p.tables e below (T121.setTop (mkF m 288 #[iv pi0, iv pi1, iv pi2, jv pj3, .second, jv pj4, .second, jv pj5, .second, iv x2, iv x8, iv x10, iv x12, jv x15, .second, jv pj4, .second, jv pj5, .second, jv x21, .second, jv x23, .second, iv x26, iv x36, iv x46, jv x53, .second, jv x60, .second, jv x67, .second, jv x74, .second, jv x81, .second, rv b89, .unset, .unset] [(.ref b121)])) t → Go t := fun t kt => pre120 t (st121 t kt)
  have lt123 : b89 < b121 := Nat.lt_of_lt_of_le f110.lt (Nat.le_of_eq g121.symm)
  have ne123 : b89 ≠ b121 := Nat.ne_of_lt lt123
  have G124 : n0 ≤ b121 := Nat.le_trans (O119.1 ▸ O119.2.1) (Nat.le_of_eq g121.symm)
  have f125 : Exa Z h121 b89 "com/example/procord/procord/lock/LockMessage" := (f110.ext E121)
  have f126 : Fld Z h121 b89 "com/example/procord/procord/lock/LockMessage" "from" "I" (.int pi0) := (p107_0.ext E121)
  have f127 : Fld Z h121 b89 "com/example/procord/procord/lock/LockMessage" "to" "I" (.int x2) := (p107_1.ext E121)
  have f128 : Fld Z h121 b89 "com/example/procord/procord/lock/LockMessage" "kind" "Lcom/example/procord/procord/lock/LockMessage$Kind;" (.ref x104) := (p107_2.ext E121)
  have f129 : Fld Z h121 b89 "com/example/procord/procord/lock/LockMessage" "stamp" "J" (.long pj3) := (p107_3.ext E121)
  have f130 : Fld Z h121 b89 "com/example/procord/procord/lock/LockMessage" "fencing" "J" (.long pj4) := (p107_4.ext E121)
  have f131 : Fld Z h121 b89 "com/example/procord/procord/lock/LockMessage" "lease" "J" (.long pj5) := (p107_5.ext E121)
  have f132 : Fld Z h121 b89 "com/example/procord/procord/lock/LockMessage" "waited" "J" (.long x21) := (p107_6.ext E121)
  have f133 : Fld Z h121 b89 "com/example/procord/procord/lock/LockMessage" "known" "J" (.long x23) := (p107_7.ext E121)
  have O124 := O119.ext E121
  have hk134 : _ ≤ h121.size := Nat.le_trans (Nat.le_of_eq (congrArg Array.size eh107)) E121.1
  have f135 : Fld Z h121 b121 "com/example/procord/procord/lock/LockMessage" "from" "I" (.int (0 : Int32)) := D121 (Or.inr (hw _ (List.mem_of_getElem? (i := 21) rfl))) (ty := .int) (by decide)
  have f136 : Fld Z h121 b121 "com/example/procord/procord/lock/LockMessage" "to" "I" (.int (0 : Int32)) := D121 (Or.inr (hw _ (List.mem_of_getElem? (i := 23) rfl))) (ty := .int) (by decide)
  have f137 : Fld Z h121 b121 "com/example/procord/procord/lock/LockMessage" "kind" "Lcom/example/procord/procord/lock/LockMessage$Kind;" .null := D121 (Or.inr (hw _ (List.mem_of_getElem? (i := 39) rfl))) (ty := (.object "com/example/procord/procord/lock/LockMessage$Kind")) (by decide)
  have f138 : Fld Z h121 b121 "com/example/procord/procord/lock/LockMessage" "stamp" "J" (.long (0 : Int64)) := D121 (Or.inr (hw _ (List.mem_of_getElem? (i := 41) rfl))) (ty := .long) (by decide)
  have f139 : Fld Z h121 b121 "com/example/procord/procord/lock/LockMessage" "fencing" "J" (.long (0 : Int64)) := D121 (Or.inr (hw _ (List.mem_of_getElem? (i := 43) rfl))) (ty := .long) (by decide)
  have f140 : Fld Z h121 b121 "com/example/procord/procord/lock/LockMessage" "lease" "J" (.long (0 : Int64)) := D121 (Or.inr (hw _ (List.mem_of_getElem? (i := 45) rfl))) (ty := .long) (by decide)
  have f141 : Fld Z h121 b121 "com/example/procord/procord/lock/LockMessage" "waited" "J" (.long (0 : Int64)) := D121 (Or.inr (hw _ (List.mem_of_getElem? (i := 47) rfl))) (ty := .long) (by decide)
  have f142 : Fld Z h121 b121 "com/example/procord/procord/lock/LockMessage" "known" "J" (.long (0 : Int64)) := D121 (Or.inr (hw _ (List.mem_of_getElem? (i := 49) rfl))) (ty := .long) (by decide)
  have pre143 : ∀ t, Steps p.tables e below (T121.setTop (mkF m 295 #[iv pi0, iv pi1, iv pi2, jv pj3, .second, jv pj4, .second, jv pj5, .second, iv x2, iv x8, iv x10, iv x12, jv x15, .second, jv pj4, .second, jv pj5, .second, jv x21, .second, jv x23, .second, iv x26, iv x36, iv x46, jv x53, .second, jv x60, .second, jv x67, .second, jv x74, .second, jv x81, .second, rv b89, .unset, .unset] [(.int x46), (.int x36), (.int x26), (.ref b121), (.ref b121)])) t → Go t := fun t kt => pre122 t (by
      refine y_dup X121.here hx (hb hby at_288) rfl (pc' := 289) rfl ?_
      refine y_iload X121.here hx (hb hby at_289) rfl (pc' := 291) rfl ?_
      refine y_iload X121.here hx (hb hby at_291) rfl (pc' := 293) rfl ?_
      refine y_iload X121.here hx (hb hby at_293) rfl (pc' := 295) rfl ?_
      exact kt)
  obtain ⟨v144, _, ⟨T144, L144, k144, n144⟩, -, X144, ⟨Lc144, hQ144, l144, y144, z144⟩, st144⟩ := Jvm.LawKit.callS X121 hx (y := (⟨"com/example/procord/procord/lock/LockMessageEqualsPinLaw", "kindOf", "(I)Lcom/example/procord/procord/lock/LockMessage$Kind;"⟩ : MethodName)) hown (mvT hZ (hw _ (List.mem_of_getElem? (i := 3) rfl))) (mvT hZ (hw _ (List.mem_of_getElem? (i := 4) rfl))) (mvT hZ (hw _ (List.mem_of_getElem? (i := 5) rfl))) (mvT hZ (hw _ (List.mem_of_getElem? (i := 6) rfl))) (by decide) (backOf (W := 4) (rm1 l Z a0 hw [] x46 w_REQUEST w_GRANT w_RELEASE w_RENEW w_RENEWED w_CANCEL w_CANCELLED w_TAKEOVER w_FOLLOW w_REPLY w_VOTE w_INQUIRE w_RELINQUISH h121 n0 O124 S_REQUEST S_GRANT S_RELEASE S_RENEW S_RENEWED S_CANCEL S_CANCELLED S_TAKEOVER S_FOLLOW S_REPLY S_VOTE S_INQUIRE S_RELINQUISH) hZ (hw _ (List.mem_of_getElem? (i := 6) rfl)) (hw _ (List.mem_of_getElem? (i := 5) rfl)) (by decide) (by decide)) (g := (mkF m 295 #[iv pi0, iv pi1, iv pi2, jv pj3, .second, jv pj4, .second, jv pj5, .second, iv x2, iv x8, iv x10, iv x12, jv x15, .second, jv pj4, .second, jv pj5, .second, jv x21, .second, jv x23, .second, iv x26, iv x36, iv x46, jv x53, .second, jv x60, .second, jv x67, .second, jv x74, .second, jv x81, .second, rv b89, .unset, .unset] [(.int x46), (.int x36), (.int x26), (.ref b121), (.ref b121)])) rfl (by rw [hml]; rfl) (argsL := [(.int x46)]) (rest := [(.int x36), (.int x26), (.ref b121), (.ref b121)]) (lenOf pd__I_Lcom_example_procord_procord_lock_LockMessage_Kind_ rfl) rfl (by show 2 * 0 + _ ≤ _; exact Nat.le_of_eq rfl) (hb hby at_295) (fun _ _ => ⟨rfl, e121, (by decide : 4 + 0 ≤ _), (by decide : 36 + 0 ≤ _)⟩)
  dsimp only [Pt.U, Pt.locs, Pt.cells, Pt.slots] at X144 l144 y144 z144 st144 hQ144
  replace l144 := l144.symm
  subst l144 y144 z144
  obtain ⟨hv144, N144q, e144q⟩ := hQ144
  have N145 := Fr.app N108 N144q
  have hw144 := hv144
  obtain ⟨x146, hx146⟩ : ∃ z : Addr, z = (if x46 = (0 : Int32) then w_REQUEST else (if x46 = (1 : Int32) then w_GRANT else (if x46 = (2 : Int32) then w_RELEASE else (if x46 = (3 : Int32) then w_RENEW else (if x46 = (4 : Int32) then w_RENEWED else (if x46 = (5 : Int32) then w_CANCEL else (if x46 = (6 : Int32) then w_CANCELLED else (if x46 = (7 : Int32) then w_TAKEOVER else (if x46 = (8 : Int32) then w_FOLLOW else (if x46 = (9 : Int32) then w_REPLY else (if x46 = (10 : Int32) then w_VOTE else (if x46 = (11 : Int32) then w_INQUIRE else w_RELINQUISH)))))))))))) := ⟨_, rfl⟩
  rw [← hx146] at hw144
  have E_x146 : Exa Z Z.heap x146 "com/example/procord/procord/lock/LockMessage$Kind" := by rw [hx146]; exact (own_exIte E_w_REQUEST (own_exIte E_w_GRANT (own_exIte E_w_RELEASE (own_exIte E_w_RENEW (own_exIte E_w_RENEWED (own_exIte E_w_CANCEL (own_exIte E_w_CANCELLED (own_exIte E_w_TAKEOVER (own_exIte E_w_FOLLOW (own_exIte E_w_REPLY (own_exIte E_w_VOTE (own_exIte E_w_INQUIRE E_w_RELINQUISH))))))))))))
  subst hw144
  have pre147 : ∀ t, Steps p.tables e below (T144.setTop (mkF m 298 #[iv pi0, iv pi1, iv pi2, jv pj3, .second, jv pj4, .second, jv pj5, .second, iv x2, iv x8, iv x10, iv x12, jv x15, .second, jv pj4, .second, jv pj5, .second, jv x21, .second, jv x23, .second, iv x26, iv x36, iv x46, jv x53, .second, jv x60, .second, jv x67, .second, jv x74, .second, jv x81, .second, rv b89, .unset, .unset] [(.ref x146), (.int x36), (.int x26), (.ref b121), (.ref b121)])) t → Go t := fun t kt => pre143 t (st144 t kt)
  have pre148 : ∀ t, Steps p.tables e below (T144.setTop (mkF m 308 #[iv pi0, iv pi1, iv pi2, jv pj3, .second, jv pj4, .second, jv pj5, .second, iv x2, iv x8, iv x10, iv x12, jv x15, .second, jv pj4, .second, jv pj5, .second, jv x21, .second, jv x23, .second, iv x26, iv x36, iv x46, jv x53, .second, jv x60, .second, jv x67, .second, jv x74, .second, jv x81, .second, rv b89, .unset, .unset] [(.long x81), (.long x74), (.long x67), (.long x60), (.long x53), (.ref x146), (.int x36), (.int x26), (.ref b121), (.ref b121)])) t → Go t := fun t kt => pre147 t (by
      refine y_lload X144.here hx (hb hby at_298) rfl (pc' := 300) rfl ?_
      refine y_lload X144.here hx (hb hby at_300) rfl (pc' := 302) rfl ?_
      refine y_lload X144.here hx (hb hby at_302) rfl (pc' := 304) rfl ?_
      refine y_lload X144.here hx (hb hby at_304) rfl (pc' := 306) rfl ?_
      refine y_lload X144.here hx (hb hby at_306) rfl (pc' := 308) rfl ?_
      exact kt)
  obtain ⟨v149, _, ⟨T149, L149, k149, n149⟩, -, X149, hS149q, hg149, ⟨Lc149, hQ149, l149, y149, z149⟩, st149⟩ := X144.specialBackS hx (y := (⟨"com/example/procord/procord/lock/LockMessage", "<init>", "(IILcom/example/procord/procord/lock/LockMessage$Kind;JJJJJ)V"⟩ : MethodName)) rfl hown (mvT hZ (hw _ (List.mem_of_getElem? (i := 10) rfl))) (mvT hZ (hw _ (List.mem_of_getElem? (i := 11) rfl))) (mvT hZ (hw _ (List.mem_of_getElem? (i := 12) rfl))) (by decide) (backOfS (W := 1) (rm2 l Z a0 hw [] b121 x26 x36 x146 x53 x60 x67 x74 x81 h121 n0 O124 A121 f135 f136 f137 f138 f139 f140 f141 f142 (E_x146.ext O124.2) G124 NQ_x26_x36) hZ (hw _ (List.mem_of_getElem? (i := 12) rfl)) (hw _ (List.mem_of_getElem? (i := 2) rfl)) (by decide) (by decide)) (g := (mkF m 308 #[iv pi0, iv pi1, iv pi2, jv pj3, .second, jv pj4, .second, jv pj5, .second, iv x2, iv x8, iv x10, iv x12, jv x15, .second, jv pj4, .second, jv pj5, .second, jv x21, .second, jv x23, .second, iv x26, iv x36, iv x46, jv x53, .second, jv x60, .second, jv x67, .second, jv x74, .second, jv x81, .second, rv b89, .unset, .unset] [(.long x81), (.long x74), (.long x67), (.long x60), (.long x53), (.ref x146), (.int x36), (.int x26), (.ref b121), (.ref b121)])) rfl (by rw [hml]; rfl) (Steps.refl _) (a := b121) (argsL := [(.int x26), (.int x36), (.ref x146), (.long x53), (.long x60), (.long x67), (.long x74), (.long x81)]) (rest := [(.ref b121)]) (lenOf pd__IILcom_example_procord_procord_lock_LockMessage_Kind_JJJJJ_V rfl) rfl (by show 2 * 0 + _ ≤ _; exact Nat.le_of_eq rfl) (hb hby at_308) (fun _ _ => ⟨rfl, e144q, (by decide : 4 + 2 ≤ _), (by decide : 36 + 20 ≤ _)⟩)
  dsimp only [Pt.U, Pt.locs, Pt.cells, Pt.slots] at X149 l149 y149 z149 st149 hQ149
  replace l149 := l149.symm
  subst l149 y149 z149
  have hS149 : s.Since T149.vm T149.heap.size := hS107.trans hS149q (Nat.le_trans hk134 (e144q ▸ hg149))
  have hZ : Z.Warmed39 (s.setVm T149.vm).vm := State.Warmed39.trans (t := s.setVm T107.vm) hZ hS149q.1
  have hown : (s.setVm T149.vm).vm.findClass "com/example/procord/procord/lock/LockMessageEqualsPinLaw" = some m.cls := by show T149.vm.findClass _ = _; rw [hS149q.1.alike.findClass]; exact hown
  obtain ⟨hv149, N149q, K149q, p149_0, p149_1, p149_2, p149_3, p149_4, p149_5, p149_6, p149_7⟩ := hQ149
  have N150 := Fr.app N145 N149q
  subst hv149
  have pre151 : ∀ t, Steps p.tables e below (T149.setTop (mkF m 311 #[iv pi0, iv pi1, iv pi2, jv pj3, .second, jv pj4, .second, jv pj5, .second, iv x2, iv x8, iv x10, iv x12, jv x15, .second, jv pj4, .second, jv pj5, .second, jv x21, .second, jv x23, .second, iv x26, iv x36, iv x46, jv x53, .second, jv x60, .second, jv x67, .second, jv x74, .second, jv x81, .second, rv b89, .unset, .unset] [(.ref b121)])) t → Go t := fun t kt => pre148 t (st149.trans kt)
  obtain ⟨h149, eh149⟩ : ∃ z, T149.heap = z := ⟨_, rfl⟩
  rw [eh149] at K149q p149_0 p149_1 p149_2 p149_3 p149_4 p149_5 p149_6 p149_7
  have f152 : Exa Z h149 b89 "com/example/procord/procord/lock/LockMessage" := (f125.keep K149q)
  have f153 : Fld Z h149 b89 "com/example/procord/procord/lock/LockMessage" "from" "I" (.int pi0) := (f126.keep K149q (ninS ne123 nin0))
  have f154 : Fld Z h149 b89 "com/example/procord/procord/lock/LockMessage" "to" "I" (.int x2) := (f127.keep K149q (ninS ne123 nin0))
  have f155 : Fld Z h149 b89 "com/example/procord/procord/lock/LockMessage" "kind" "Lcom/example/procord/procord/lock/LockMessage$Kind;" (.ref x104) := (f128.keep K149q (ninS ne123 nin0))
  have f156 : Fld Z h149 b89 "com/example/procord/procord/lock/LockMessage" "stamp" "J" (.long pj3) := (f129.keep K149q (ninS ne123 nin0))
  have f157 : Fld Z h149 b89 "com/example/procord/procord/lock/LockMessage" "fencing" "J" (.long pj4) := (f130.keep K149q (ninS ne123 nin0))
  have f158 : Fld Z h149 b89 "com/example/procord/procord/lock/LockMessage" "lease" "J" (.long pj5) := (f131.keep K149q (ninS ne123 nin0))
  have f159 : Fld Z h149 b89 "com/example/procord/procord/lock/LockMessage" "waited" "J" (.long x21) := (f132.keep K149q (ninS ne123 nin0))
  have f160 : Fld Z h149 b89 "com/example/procord/procord/lock/LockMessage" "known" "J" (.long x23) := (f133.keep K149q (ninS ne123 nin0))
  have f161 : Exa Z h149 b121 "com/example/procord/procord/lock/LockMessage" := (A121.keep K149q)
  have O170 := O124.keep K149q (allS G124 all0)
  have pre171 : ∀ t, Steps p.tables e below (T149.setTop (mkF m 317 #[iv pi0, iv pi1, iv pi2, jv pj3, .second, jv pj4, .second, jv pj5, .second, iv x2, iv x8, iv x10, iv x12, jv x15, .second, jv pj4, .second, jv pj5, .second, jv x21, .second, jv x23, .second, iv x26, iv x36, iv x46, jv x53, .second, jv x60, .second, jv x67, .second, jv x74, .second, jv x81, .second, rv b89, rv b121, .unset] [(.int (9 : Int32)), (.int x10)])) t → Go t := fun t kt => pre151 t (by
      refine y_astore X149.here hx (hb hby at_311) rfl (l' := #[iv pi0, iv pi1, iv pi2, jv pj3, .second, jv pj4, .second, jv pj5, .second, iv x2, iv x8, iv x10, iv x12, jv x15, .second, jv pj4, .second, jv pj5, .second, jv x21, .second, jv x23, .second, iv x26, iv x36, iv x46, jv x53, .second, jv x60, .second, jv x67, .second, jv x74, .second, jv x81, .second, rv b89, rv b121, .unset]) rfl (pc' := 313) rfl ?_
      refine y_iload X149.here hx (hb hby at_313) rfl (pc' := 315) rfl ?_
      refine y_bipush X149.here hx (hb hby at_315) (v := (9 : Int32)) rfl (pc' := 317) rfl ?_
      exact kt)
  by_cases hc317_172 : x10 = (9 : Int32)
  · have pre173 : ∀ t, Steps p.tables e below (T149.setTop (mkF m 323 #[iv pi0, iv pi1, iv pi2, jv pj3, .second, jv pj4, .second, jv pj5, .second, iv x2, iv x8, iv x10, iv x12, jv x15, .second, jv pj4, .second, jv pj5, .second, jv x21, .second, jv x23, .second, iv x26, iv x36, iv x46, jv x53, .second, jv x60, .second, jv x67, .second, jv x74, .second, jv x81, .second, rv b89, rv b121, .unset] [(.int pi0), (.ref b89)])) t → Go t := fun t kt => pre171 t (by
        refine y_icmpNo X149.here hx (hb hby at_317) (teq hc317_172).2 (pc' := 320) rfl ?_
        refine y_aload X149.here hx (hb hby at_320) rfl rfl (pc' := 322) rfl ?_
        refine y_iloadN X149.here hx (hb hby at_322) rfl (pc' := 323) rfl ?_
        exact kt)
    obtain ⟨v174, _, ⟨T174, L174, k174, n174⟩, -, X174, ⟨Lc174, hQ174, l174, y174, z174⟩, st174⟩ := Jvm.LawKit.callS X149 hx (y := (⟨"java/lang/Integer", "valueOf", "(I)Ljava/lang/Integer;"⟩ : MethodName)) hown (mvT hZ (hw _ (List.mem_of_getElem? (i := 82) rfl))) (mvT hZ (hw _ (List.mem_of_getElem? (i := 83) rfl))) (mvT hZ (hw _ (List.mem_of_getElem? (i := 84) rfl))) (mvT hZ (hw _ (List.mem_of_getElem? (i := 85) rfl))) (by decide) (backOf (W := 1) (rm7 l Z a0 hw [] pi0 w_cache cc h149 n0 O170 S_cache S_high CA) hZ (hw _ (List.mem_of_getElem? (i := 85) rfl)) (hw _ (List.mem_of_getElem? (i := 84) rfl)) (by decide) (by decide)) (g := (mkF m 323 #[iv pi0, iv pi1, iv pi2, jv pj3, .second, jv pj4, .second, jv pj5, .second, iv x2, iv x8, iv x10, iv x12, jv x15, .second, jv pj4, .second, jv pj5, .second, jv x21, .second, jv x23, .second, iv x26, iv x36, iv x46, jv x53, .second, jv x60, .second, jv x67, .second, jv x74, .second, jv x81, .second, rv b89, rv b121, .unset] [(.int pi0), (.ref b89)])) rfl (by rw [hml]; rfl) (argsL := [(.int pi0)]) (rest := [(.ref b89)]) (lenOf pd__I_Ljava_lang_Integer_ rfl) rfl (by show 2 * 0 + _ ≤ _; exact Nat.le_of_eq rfl) (hb hby at_323) (fun _ _ => ⟨rfl, eh149, (by decide : 6 + 1 ≤ _), (by decide : 56 + 1 ≤ _)⟩)
    dsimp only [Pt.U, Pt.locs, Pt.cells, Pt.slots] at X174 l174 y174 z174 st174 hQ174
    replace l174 := l174.symm
    subst l174 y174 z174
    obtain ⟨⟨b174, hv174, B174⟩, N174q, K174q⟩ := hQ174
    have N175 := Fr.app N150 N174q
    subst hv174
    have pre176 : ∀ t, Steps p.tables e below (T174.setTop (mkF m 326 #[iv pi0, iv pi1, iv pi2, jv pj3, .second, jv pj4, .second, jv pj5, .second, iv x2, iv x8, iv x10, iv x12, jv x15, .second, jv pj4, .second, jv pj5, .second, jv x21, .second, jv x23, .second, iv x26, iv x36, iv x46, jv x53, .second, jv x60, .second, jv x67, .second, jv x74, .second, jv x81, .second, rv b89, rv b121, .unset] [(.ref b174), (.ref b89)])) t → Go t := fun t kt => pre173 t (st174 t kt)
    obtain ⟨h174, eh174⟩ : ∃ z, T174.heap = z := ⟨_, rfl⟩
    rw [eh174] at K174q B174
    have f177 : Exa Z h174 b89 "com/example/procord/procord/lock/LockMessage" := (f152.keep K174q)
    have f178 : Fld Z h174 b89 "com/example/procord/procord/lock/LockMessage" "from" "I" (.int pi0) := (f153.keep K174q nin0)
    have f179 : Fld Z h174 b89 "com/example/procord/procord/lock/LockMessage" "to" "I" (.int x2) := (f154.keep K174q nin0)
    have f180 : Fld Z h174 b89 "com/example/procord/procord/lock/LockMessage" "kind" "Lcom/example/procord/procord/lock/LockMessage$Kind;" (.ref x104) := (f155.keep K174q nin0)
    have f181 : Fld Z h174 b89 "com/example/procord/procord/lock/LockMessage" "stamp" "J" (.long pj3) := (f156.keep K174q nin0)
    have f182 : Fld Z h174 b89 "com/example/procord/procord/lock/LockMessage" "fencing" "J" (.long pj4) := (f157.keep K174q nin0)
    have f183 : Fld Z h174 b89 "com/example/procord/procord/lock/LockMessage" "lease" "J" (.long pj5) := (f158.keep K174q nin0)
    have f184 : Fld Z h174 b89 "com/example/procord/procord/lock/LockMessage" "waited" "J" (.long x21) := (f159.keep K174q nin0)
    have f185 : Fld Z h174 b89 "com/example/procord/procord/lock/LockMessage" "known" "J" (.long x23) := (f160.keep K174q nin0)
    have f186 : Exa Z h174 b121 "com/example/procord/procord/lock/LockMessage" := (f161.keep K174q)
    have f187 : Fld Z h174 b121 "com/example/procord/procord/lock/LockMessage" "from" "I" (.int x26) := (p149_0.keep K174q nin0)
    have f188 : Fld Z h174 b121 "com/example/procord/procord/lock/LockMessage" "to" "I" (.int x36) := (p149_1.keep K174q nin0)
    have f189 : Fld Z h174 b121 "com/example/procord/procord/lock/LockMessage" "kind" "Lcom/example/procord/procord/lock/LockMessage$Kind;" (.ref x146) := (p149_2.keep K174q nin0)
    have f190 : Fld Z h174 b121 "com/example/procord/procord/lock/LockMessage" "stamp" "J" (.long x53) := (p149_3.keep K174q nin0)
    have f191 : Fld Z h174 b121 "com/example/procord/procord/lock/LockMessage" "fencing" "J" (.long x60) := (p149_4.keep K174q nin0)
    have f192 : Fld Z h174 b121 "com/example/procord/procord/lock/LockMessage" "lease" "J" (.long x67) := (p149_5.keep K174q nin0)
    have f193 : Fld Z h174 b121 "com/example/procord/procord/lock/LockMessage" "waited" "J" (.long x74) := (p149_6.keep K174q nin0)
    have f194 : Fld Z h174 b121 "com/example/procord/procord/lock/LockMessage" "known" "J" (.long x81) := (p149_7.keep K174q nin0)
    have hk195 : _ ≤ h174.size := Nat.le_trans (Nat.le_of_eq (congrArg Array.size eh149)) K174q.1
    have O196 := O170.keep K174q all0
    obtain ⟨cq197, kq197, q197a, q197b, q197c⟩ := isOf hZ eh174 f177
    obtain ⟨v197, _, ⟨T197, L197, k197, n197⟩, -, X197, ⟨Lc197, hQ197, l197, y197, z197⟩, st197⟩ := X174.virtualBack hx (y := (⟨"com/example/procord/procord/lock/LockMessage", "equals", "(Ljava/lang/Object;)Z"⟩ : MethodName)) (z := (⟨"com/example/procord/procord/lock/LockMessage", "equals", "(Ljava/lang/Object;)Z"⟩ : MethodName)) hown (mvT hZ (hw _ (List.mem_of_getElem? (i := 50) rfl))) (mvT hZ (hw _ (List.mem_of_getElem? (i := 51) rfl))) (notFace_of_selects (args := #[]) (mvT hZ (hw _ (List.mem_of_getElem? (i := 53) rfl)))) (mvT hZ (hw _ (List.mem_of_getElem? (i := 53) rfl))) (mvT hZ (hw _ (List.mem_of_getElem? (i := 52) rfl))) (by decide) (backOf (W := 0) (rm6x l Z a0 hw [] b89 b174 h174 n0 O196 B174 NI_pr1) hZ (hw _ (List.mem_of_getElem? (i := 54) rfl)) (hw _ (List.mem_of_getElem? (i := 2) rfl)) (by decide) (by decide)) q197a q197c (g := (mkF m 326 #[iv pi0, iv pi1, iv pi2, jv pj3, .second, jv pj4, .second, jv pj5, .second, iv x2, iv x8, iv x10, iv x12, jv x15, .second, jv pj4, .second, jv pj5, .second, jv x21, .second, jv x23, .second, iv x26, iv x36, iv x46, jv x53, .second, jv x60, .second, jv x67, .second, jv x74, .second, jv x81, .second, rv b89, rv b121, .unset] [(.ref b174), (.ref b89)])) rfl (by rw [hml]; rfl) (Steps.refl _) (argsL := [(.ref b174)]) (rest := []) (lenOf pd__Ljava_lang_Object__Z rfl) rfl (by show 2 * 0 + _ ≤ _; exact Nat.le_of_eq rfl) (hb hby at_326) (fun _ _ => ⟨rfl, eh174, (by decide : 7 + 0 ≤ _), (by decide : 57 + 0 ≤ _)⟩)
    dsimp only [Pt.U, Pt.locs, Pt.cells, Pt.slots] at X197 l197 y197 z197 st197 hQ197
    replace l197 := l197.symm
    subst l197 y197 z197
    obtain ⟨hv197, N197q, e197q⟩ := hQ197
    have N198 := Fr.app N175 N197q
    have hw197 := hv197
    subst hw197
    have pre199 : ∀ t, Steps p.tables e below (T197.setTop (mkF m 329 #[iv pi0, iv pi1, iv pi2, jv pj3, .second, jv pj4, .second, jv pj5, .second, iv x2, iv x8, iv x10, iv x12, jv x15, .second, jv pj4, .second, jv pj5, .second, jv x21, .second, jv x23, .second, iv x26, iv x36, iv x46, jv x53, .second, jv x60, .second, jv x67, .second, jv x74, .second, jv x81, .second, rv b89, rv b121, .unset] [(.int (0 : Int32))])) t → Go t := fun t kt => pre176 t (st197.trans kt)
    have pre200 : ∀ t, Steps p.tables e below (T197.setTop (mkF m 335 #[iv pi0, iv pi1, iv pi2, jv pj3, .second, jv pj4, .second, jv pj5, .second, iv x2, iv x8, iv x10, iv x12, jv x15, .second, jv pj4, .second, jv pj5, .second, jv x21, .second, jv x23, .second, iv x26, iv x36, iv x46, jv x53, .second, jv x60, .second, jv x67, .second, jv x74, .second, jv x81, .second, rv b89, rv b121, .unset] [.null, (.ref b89)])) t → Go t := fun t kt => pre199 t (by
        refine y_ifNo X197.here hx (hb hby at_329) ((if0 _ _).trans (teq (rfl : (0 : Int32) = (0 : Int32))).2) (pc' := 332) rfl ?_
        refine y_aload X197.here hx (hb hby at_332) rfl rfl (pc' := 334) rfl ?_
        refine y_aconstNull X197.here hx (hb hby at_334) (pc' := 335) rfl ?_
        exact kt)
    obtain ⟨cq201, kq201, q201a, q201b, q201c⟩ := isOf hZ e197q f177
    obtain ⟨v201, _, ⟨T201, L201, k201, n201⟩, -, X201, ⟨Lc201, hQ201, l201, y201, z201⟩, st201⟩ := X197.virtualBack hx (y := (⟨"com/example/procord/procord/lock/LockMessage", "equals", "(Ljava/lang/Object;)Z"⟩ : MethodName)) (z := (⟨"com/example/procord/procord/lock/LockMessage", "equals", "(Ljava/lang/Object;)Z"⟩ : MethodName)) hown (mvT hZ (hw _ (List.mem_of_getElem? (i := 50) rfl))) (mvT hZ (hw _ (List.mem_of_getElem? (i := 51) rfl))) (notFace_of_selects (args := #[]) (mvT hZ (hw _ (List.mem_of_getElem? (i := 53) rfl)))) (mvT hZ (hw _ (List.mem_of_getElem? (i := 53) rfl))) (mvT hZ (hw _ (List.mem_of_getElem? (i := 52) rfl))) (by decide) (backOf (W := 0) (rm6n l Z a0 hw [] b89 h174 n0 O196 ) hZ (hw _ (List.mem_of_getElem? (i := 54) rfl)) (hw _ (List.mem_of_getElem? (i := 2) rfl)) (by decide) (by decide)) q201a q201c (g := (mkF m 335 #[iv pi0, iv pi1, iv pi2, jv pj3, .second, jv pj4, .second, jv pj5, .second, iv x2, iv x8, iv x10, iv x12, jv x15, .second, jv pj4, .second, jv pj5, .second, jv x21, .second, jv x23, .second, iv x26, iv x36, iv x46, jv x53, .second, jv x60, .second, jv x67, .second, jv x74, .second, jv x81, .second, rv b89, rv b121, .unset] [.null, (.ref b89)])) rfl (by rw [hml]; rfl) (Steps.refl _) (argsL := [.null]) (rest := []) (lenOf pd__Ljava_lang_Object__Z rfl) rfl (by show 2 * 0 + _ ≤ _; exact Nat.le_of_eq rfl) (hb hby at_335) (fun _ _ => ⟨rfl, e197q, (by decide : 7 + 0 ≤ _), (by decide : 57 + 0 ≤ _)⟩)
    dsimp only [Pt.U, Pt.locs, Pt.cells, Pt.slots] at X201 l201 y201 z201 st201 hQ201
    replace l201 := l201.symm
    subst l201 y201 z201
    obtain ⟨hv201, N201q, e201q⟩ := hQ201
    have N202 := Fr.app N198 N201q
    have hw201 := hv201
    subst hw201
    have pre203 : ∀ t, Steps p.tables e below (T201.setTop (mkF m 338 #[iv pi0, iv pi1, iv pi2, jv pj3, .second, jv pj4, .second, jv pj5, .second, iv x2, iv x8, iv x10, iv x12, jv x15, .second, jv pj4, .second, jv pj5, .second, jv x21, .second, jv x23, .second, iv x26, iv x36, iv x46, jv x53, .second, jv x60, .second, jv x67, .second, jv x74, .second, jv x81, .second, rv b89, rv b121, .unset] [(.int (0 : Int32))])) t → Go t := fun t kt => pre200 t (st201.trans kt)
    have pre204 : ∀ t, Steps p.tables e below (T201.setTop (mkF m 345 #[iv pi0, iv pi1, iv pi2, jv pj3, .second, jv pj4, .second, jv pj5, .second, iv x2, iv x8, iv x10, iv x12, jv x15, .second, jv pj4, .second, jv pj5, .second, jv x21, .second, jv x23, .second, iv x26, iv x36, iv x46, jv x53, .second, jv x60, .second, jv x67, .second, jv x74, .second, jv x81, .second, rv b89, rv b121, .unset] [(.ref b89), (.ref b89)])) t → Go t := fun t kt => pre203 t (by
        refine y_ifNo X201.here hx (hb hby at_338) ((if0 _ _).trans (teq (rfl : (0 : Int32) = (0 : Int32))).2) (pc' := 341) rfl ?_
        refine y_aload X201.here hx (hb hby at_341) rfl rfl (pc' := 343) rfl ?_
        refine y_aload X201.here hx (hb hby at_343) rfl rfl (pc' := 345) rfl ?_
        exact kt)
    obtain ⟨cq205, kq205, q205a, q205b, q205c⟩ := isOf hZ e201q f177
    obtain ⟨v205, _, ⟨T205, L205, k205, n205⟩, -, X205, ⟨Lc205, hQ205, l205, y205, z205⟩, st205⟩ := X201.virtualBack hx (y := (⟨"com/example/procord/procord/lock/LockMessage", "equals", "(Ljava/lang/Object;)Z"⟩ : MethodName)) (z := (⟨"com/example/procord/procord/lock/LockMessage", "equals", "(Ljava/lang/Object;)Z"⟩ : MethodName)) hown (mvT hZ (hw _ (List.mem_of_getElem? (i := 50) rfl))) (mvT hZ (hw _ (List.mem_of_getElem? (i := 51) rfl))) (notFace_of_selects (args := #[]) (mvT hZ (hw _ (List.mem_of_getElem? (i := 53) rfl)))) (mvT hZ (hw _ (List.mem_of_getElem? (i := 53) rfl))) (mvT hZ (hw _ (List.mem_of_getElem? (i := 52) rfl))) (by decide) (backOf (W := 0) (rm6 l Z a0 hw [] b89 b89 pi0 x2 x104 pj3 pj4 pj5 x21 x23 pi0 x2 x104 pj3 pj4 pj5 x21 x23 h174 n0 O196 f177 f178 f179 f180 f181 f182 f183 f184 f185 f177 f178 f179 f180 f181 f182 f183 f184 f185) hZ (hw _ (List.mem_of_getElem? (i := 54) rfl)) (hw _ (List.mem_of_getElem? (i := 2) rfl)) (by decide) (by decide)) q205a q205c (g := (mkF m 345 #[iv pi0, iv pi1, iv pi2, jv pj3, .second, jv pj4, .second, jv pj5, .second, iv x2, iv x8, iv x10, iv x12, jv x15, .second, jv pj4, .second, jv pj5, .second, jv x21, .second, jv x23, .second, iv x26, iv x36, iv x46, jv x53, .second, jv x60, .second, jv x67, .second, jv x74, .second, jv x81, .second, rv b89, rv b121, .unset] [(.ref b89), (.ref b89)])) rfl (by rw [hml]; rfl) (Steps.refl _) (argsL := [(.ref b89)]) (rest := []) (lenOf pd__Ljava_lang_Object__Z rfl) rfl (by show 2 * 0 + _ ≤ _; exact Nat.le_of_eq rfl) (hb hby at_345) (fun _ _ => ⟨rfl, e201q, (by decide : 7 + 0 ≤ _), (by decide : 57 + 0 ≤ _)⟩)
    dsimp only [Pt.U, Pt.locs, Pt.cells, Pt.slots] at X205 l205 y205 z205 st205 hQ205
    replace l205 := l205.symm
    subst l205 y205 z205
    obtain ⟨hv205, N205q, e205q⟩ := hQ205
    have N206 := Fr.app N202 N205q
    have hw205 : v205 = some (.int (1 : Int32)) := by rw [hv205, if_pos (rfl : pi0 = pi0), if_pos (rfl : x2 = x2), if_pos (rfl : x104 = x104), if_pos (rfl : pj3 = pj3), if_pos (rfl : pj4 = pj4), if_pos (rfl : pj5 = pj5), if_pos (rfl : x21 = x21), if_pos (rfl : x23 = x23)]
    subst hw205
    have pre207 : ∀ t, Steps p.tables e below (T205.setTop (mkF m 348 #[iv pi0, iv pi1, iv pi2, jv pj3, .second, jv pj4, .second, jv pj5, .second, iv x2, iv x8, iv x10, iv x12, jv x15, .second, jv pj4, .second, jv pj5, .second, jv x21, .second, jv x23, .second, iv x26, iv x36, iv x46, jv x53, .second, jv x60, .second, jv x67, .second, jv x74, .second, jv x81, .second, rv b89, rv b121, .unset] [(.int (1 : Int32))])) t → Go t := fun t kt => pre204 t (st205.trans kt)
    have pre208 : ∀ t, Steps p.tables e below (T205.setTop (mkF m 356 #[iv pi0, iv pi1, iv pi2, jv pj3, .second, jv pj4, .second, jv pj5, .second, iv x2, iv x8, iv x10, iv x12, jv x15, .second, jv pj4, .second, jv pj5, .second, jv x21, .second, jv x23, .second, iv x26, iv x36, iv x46, jv x53, .second, jv x60, .second, jv x67, .second, jv x74, .second, jv x81, .second, rv b89, rv b121, .unset] [(.int (1 : Int32))])) t → Go t := fun t kt => pre207 t (by
        refine y_ifNo X205.here hx (hb hby at_348) ((if0 _ _).trans (feq (by decide : ¬ ((1 : Int32) = (0 : Int32)))).1) (pc' := 351) rfl ?_
        refine y_iconst X205.here hx (hb hby at_351) (v := (1 : Int32)) rfl (pc' := 352) rfl ?_
        refine y_goto X205.here hx (hb hby at_352) (pc' := 356) (by decide) rfl ?_
        exact kt)
    obtain ⟨fs, hr, hrun, hended, hRW⟩ := Stand.leaveW (s := s) (vm₁ := T149.vm) X205 hS149 (by rw [e205q]; exact hk195) (v := some (.int (1 : Int32))) (fun h => by rw [Bd.returns] at h; cases h)
    refine ⟨_, _, (hGo _).mp (pre208 _ ?_), hrun, hended, _, _, rfl, ?_, hRW.1, hRW.2.1, hRW.2.2.1, hRW.2.2.2.mono (by decide) (by decide)⟩
    · exact retN X205 hx (t := .boolean) Bd.returns (by simp) (hb hby at_356) hr
    · show Q0 Z pi0 pi1 pi2 pj3 pj4 pj5 w_cache w_REQUEST w_GRANT w_RELEASE w_RENEW w_RENEWED w_CANCEL w_CANCELLED w_TAKEOVER w_FOLLOW w_REPLY w_VOTE w_INQUIRE w_RELINQUISH cc h0 n0 _ T205.heap _
      rw [e205q]
      exact ⟨rfl, N206⟩
  · have pre209 : ∀ t, Steps p.tables e below (T149.setTop (mkF m 359 #[iv pi0, iv pi1, iv pi2, jv pj3, .second, jv pj4, .second, jv pj5, .second, iv x2, iv x8, iv x10, iv x12, jv x15, .second, jv pj4, .second, jv pj5, .second, jv x21, .second, jv x23, .second, iv x26, iv x36, iv x46, jv x53, .second, jv x60, .second, jv x67, .second, jv x74, .second, jv x81, .second, rv b89, rv b121, .unset] [(.int x10)])) t → Go t := fun t kt => pre171 t (by
        refine y_icmpYes X149.here hx (hb hby at_317) (feq hc317_172).2 (pc' := 357) (by decide) rfl ?_
        refine y_iload X149.here hx (hb hby at_357) rfl (pc' := 359) rfl ?_
        exact kt)
    obtain ⟨x210, hx210⟩ : ∃ z : Int32, z = (if x10 = (0 : Int32) then (1 : Int32) else (0 : Int32)) := ⟨_, rfl⟩
    obtain ⟨T211, ⟨X211, q211⟩, st211⟩ : ∃ T', Nx X149 T' ∧ ∀ t, Steps p.tables e below (T'.setTop (mkF m 367 #[iv pi0, iv pi1, iv pi2, jv pj3, .second, jv pj4, .second, jv pj5, .second, iv x2, iv x8, iv x10, iv x12, jv x15, .second, jv pj4, .second, jv pj5, .second, jv x21, .second, jv x23, .second, iv x26, iv x36, iv x46, jv x53, .second, jv x60, .second, jv x67, .second, jv x74, .second, jv x81, .second, rv b89, rv b121, .unset] [(.int x210)])) t → Steps p.tables e below (T149.setTop (mkF m 359 #[iv pi0, iv pi1, iv pi2, jv pj3, .second, jv pj4, .second, jv pj5, .second, iv x2, iv x8, iv x10, iv x12, jv x15, .second, jv pj4, .second, jv pj5, .second, jv x21, .second, jv x23, .second, iv x26, iv x36, iv x46, jv x53, .second, jv x60, .second, jv x67, .second, jv x74, .second, jv x81, .second, rv b89, rv b121, .unset] [(.int x10)])) t := by
      have pre211_ : ∀ t, Steps p.tables e below (T149.setTop (mkF m 359 #[iv pi0, iv pi1, iv pi2, jv pj3, .second, jv pj4, .second, jv pj5, .second, iv x2, iv x8, iv x10, iv x12, jv x15, .second, jv pj4, .second, jv pj5, .second, jv x21, .second, jv x23, .second, iv x26, iv x36, iv x46, jv x53, .second, jv x60, .second, jv x67, .second, jv x74, .second, jv x81, .second, rv b89, rv b121, .unset] [(.int x10)])) t → Steps p.tables e below (T149.setTop (mkF m 359 #[iv pi0, iv pi1, iv pi2, jv pj3, .second, jv pj4, .second, jv pj5, .second, iv x2, iv x8, iv x10, iv x12, jv x15, .second, jv pj4, .second, jv pj5, .second, jv x21, .second, jv x23, .second, iv x26, iv x36, iv x46, jv x53, .second, jv x60, .second, jv x67, .second, jv x74, .second, jv x81, .second, rv b89, rv b121, .unset] [(.int x10)])) t := fun t kt => kt
      subst hx210
      by_cases hm359_212 : x10 = (0 : Int32)
      · have pre213 : ∀ t, Steps p.tables e below (T149.setTop (mkF m 367 #[iv pi0, iv pi1, iv pi2, jv pj3, .second, jv pj4, .second, jv pj5, .second, iv x2, iv x8, iv x10, iv x12, jv x15, .second, jv pj4, .second, jv pj5, .second, jv x21, .second, jv x23, .second, iv x26, iv x36, iv x46, jv x53, .second, jv x60, .second, jv x67, .second, jv x74, .second, jv x81, .second, rv b89, rv b121, .unset] [(.int (1 : Int32))])) t → Steps p.tables e below (T149.setTop (mkF m 359 #[iv pi0, iv pi1, iv pi2, jv pj3, .second, jv pj4, .second, jv pj5, .second, iv x2, iv x8, iv x10, iv x12, jv x15, .second, jv pj4, .second, jv pj5, .second, jv x21, .second, jv x23, .second, iv x26, iv x36, iv x46, jv x53, .second, jv x60, .second, jv x67, .second, jv x74, .second, jv x81, .second, rv b89, rv b121, .unset] [(.int x10)])) t := fun t kt => pre211_ t (by
            refine y_ifNo X149.here hx (hb hby at_359) ((if0 _ _).trans (teq hm359_212).2) (pc' := 362) rfl ?_
            refine y_iconst X149.here hx (hb hby at_362) (v := (1 : Int32)) rfl (pc' := 363) rfl ?_
            refine y_goto X149.here hx (hb hby at_363) (pc' := 367) (by decide) rfl ?_
            exact kt)
        refine ⟨T149, ⟨X149, eh149.trans eh149.symm⟩, fun t kt => pre213 t ?_⟩
        (try simp only [if_pos hm359_212] at kt)
        exact kt
      · have pre214 : ∀ t, Steps p.tables e below (T149.setTop (mkF m 367 #[iv pi0, iv pi1, iv pi2, jv pj3, .second, jv pj4, .second, jv pj5, .second, iv x2, iv x8, iv x10, iv x12, jv x15, .second, jv pj4, .second, jv pj5, .second, jv x21, .second, jv x23, .second, iv x26, iv x36, iv x46, jv x53, .second, jv x60, .second, jv x67, .second, jv x74, .second, jv x81, .second, rv b89, rv b121, .unset] [(.int (0 : Int32))])) t → Steps p.tables e below (T149.setTop (mkF m 359 #[iv pi0, iv pi1, iv pi2, jv pj3, .second, jv pj4, .second, jv pj5, .second, iv x2, iv x8, iv x10, iv x12, jv x15, .second, jv pj4, .second, jv pj5, .second, jv x21, .second, jv x23, .second, iv x26, iv x36, iv x46, jv x53, .second, jv x60, .second, jv x67, .second, jv x74, .second, jv x81, .second, rv b89, rv b121, .unset] [(.int x10)])) t := fun t kt => pre211_ t (by
            refine y_ifYes X149.here hx (hb hby at_359) ((if0 _ _).trans (feq hm359_212).2) (pc' := 366) (by decide) rfl ?_
            refine y_iconst X149.here hx (hb hby at_366) (v := (0 : Int32)) rfl (pc' := 367) rfl ?_
            exact kt)
        refine ⟨T149, ⟨X149, eh149.trans eh149.symm⟩, fun t kt => pre214 t ?_⟩
        (try simp only [if_neg hm359_212] at kt)
        exact kt
    have e211 : T211.heap = h149 := q211.trans eh149
    have pre215 : ∀ t, Steps p.tables e below (T211.setTop (mkF m 367 #[iv pi0, iv pi1, iv pi2, jv pj3, .second, jv pj4, .second, jv pj5, .second, iv x2, iv x8, iv x10, iv x12, jv x15, .second, jv pj4, .second, jv pj5, .second, jv x21, .second, jv x23, .second, iv x26, iv x36, iv x46, jv x53, .second, jv x60, .second, jv x67, .second, jv x74, .second, jv x81, .second, rv b89, rv b121, .unset] [(.int x210)])) t → Go t := fun t kt => pre209 t (st211 t kt)
    have pre216 : ∀ t, Steps p.tables e below (T211.setTop (mkF m 373 #[iv pi0, iv pi1, iv pi2, jv pj3, .second, jv pj4, .second, jv pj5, .second, iv x2, iv x8, iv x10, iv x12, jv x15, .second, jv pj4, .second, jv pj5, .second, jv x21, .second, jv x23, .second, iv x26, iv x36, iv x46, jv x53, .second, jv x60, .second, jv x67, .second, jv x74, .second, jv x81, .second, rv b89, rv b121, iv x210] [(.ref b121), (.ref b89)])) t → Go t := fun t kt => pre215 t (by
        refine y_istore X211.here hx (hb hby at_367) (l' := #[iv pi0, iv pi1, iv pi2, jv pj3, .second, jv pj4, .second, jv pj5, .second, iv x2, iv x8, iv x10, iv x12, jv x15, .second, jv pj4, .second, jv pj5, .second, jv x21, .second, jv x23, .second, iv x26, iv x36, iv x46, jv x53, .second, jv x60, .second, jv x67, .second, jv x74, .second, jv x81, .second, rv b89, rv b121, iv x210]) rfl (pc' := 369) rfl ?_
        refine y_aload X211.here hx (hb hby at_369) rfl rfl (pc' := 371) rfl ?_
        refine y_aload X211.here hx (hb hby at_371) rfl rfl (pc' := 373) rfl ?_
        exact kt)
    obtain ⟨cq217, kq217, q217a, q217b, q217c⟩ := isOf hZ e211 f152
    obtain ⟨v217, _, ⟨T217, L217, k217, n217⟩, -, X217, ⟨Lc217, hQ217, l217, y217, z217⟩, st217⟩ := X211.virtualBack hx (y := (⟨"com/example/procord/procord/lock/LockMessage", "equals", "(Ljava/lang/Object;)Z"⟩ : MethodName)) (z := (⟨"com/example/procord/procord/lock/LockMessage", "equals", "(Ljava/lang/Object;)Z"⟩ : MethodName)) hown (mvT hZ (hw _ (List.mem_of_getElem? (i := 50) rfl))) (mvT hZ (hw _ (List.mem_of_getElem? (i := 51) rfl))) (notFace_of_selects (args := #[]) (mvT hZ (hw _ (List.mem_of_getElem? (i := 53) rfl)))) (mvT hZ (hw _ (List.mem_of_getElem? (i := 53) rfl))) (mvT hZ (hw _ (List.mem_of_getElem? (i := 52) rfl))) (by decide) (backOf (W := 0) (rm6 l Z a0 hw [] b89 b121 pi0 x2 x104 pj3 pj4 pj5 x21 x23 x26 x36 x146 x53 x60 x67 x74 x81 h149 n0 O170 f152 f153 f154 f155 f156 f157 f158 f159 f160 f161 p149_0 p149_1 p149_2 p149_3 p149_4 p149_5 p149_6 p149_7) hZ (hw _ (List.mem_of_getElem? (i := 54) rfl)) (hw _ (List.mem_of_getElem? (i := 2) rfl)) (by decide) (by decide)) q217a q217c (g := (mkF m 373 #[iv pi0, iv pi1, iv pi2, jv pj3, .second, jv pj4, .second, jv pj5, .second, iv x2, iv x8, iv x10, iv x12, jv x15, .second, jv pj4, .second, jv pj5, .second, jv x21, .second, jv x23, .second, iv x26, iv x36, iv x46, jv x53, .second, jv x60, .second, jv x67, .second, jv x74, .second, jv x81, .second, rv b89, rv b121, iv x210] [(.ref b121), (.ref b89)])) rfl (by rw [hml]; rfl) (Steps.refl _) (argsL := [(.ref b121)]) (rest := []) (lenOf pd__Ljava_lang_Object__Z rfl) rfl (by show 2 * 0 + _ ≤ _; exact Nat.le_of_eq rfl) (hb hby at_373) (fun _ _ => ⟨rfl, e211, (by decide : 6 + 0 ≤ _), (by decide : 56 + 0 ≤ _)⟩)
    dsimp only [Pt.U, Pt.locs, Pt.cells, Pt.slots] at X217 l217 y217 z217 st217 hQ217
    replace l217 := l217.symm
    subst l217 y217 z217
    obtain ⟨hv217, N217q, e217q⟩ := hQ217
    have N218 := Fr.app N150 N217q
    have hw217 := hv217
    obtain ⟨x219, hx219⟩ : ∃ z : Int32, z = (if pi0 = x26 then (if x2 = x36 then (if x104 = x146 then (if pj3 = x53 then (if pj4 = x60 then (if pj5 = x67 then (if x21 = x74 then (if x23 = x81 then (1 : Int32) else (0 : Int32)) else (0 : Int32)) else (0 : Int32)) else (0 : Int32)) else (0 : Int32)) else (0 : Int32)) else (0 : Int32)) else (0 : Int32)) := ⟨_, rfl⟩
    rw [← hx219] at hw217
    subst hw217
    have pre220 : ∀ t, Steps p.tables e below (T217.setTop (mkF m 376 #[iv pi0, iv pi1, iv pi2, jv pj3, .second, jv pj4, .second, jv pj5, .second, iv x2, iv x8, iv x10, iv x12, jv x15, .second, jv pj4, .second, jv pj5, .second, jv x21, .second, jv x23, .second, iv x26, iv x36, iv x46, jv x53, .second, jv x60, .second, jv x67, .second, jv x74, .second, jv x81, .second, rv b89, rv b121, iv x210] [(.int x219)])) t → Go t := fun t kt => pre216 t (st217.trans kt)
    have pre222 : ∀ t, Steps p.tables e below (T217.setTop (mkF m 378 #[iv pi0, iv pi1, iv pi2, jv pj3, .second, jv pj4, .second, jv pj5, .second, iv x2, iv x8, iv x10, iv x12, jv x15, .second, jv pj4, .second, jv pj5, .second, jv x21, .second, jv x23, .second, iv x26, iv x36, iv x46, jv x53, .second, jv x60, .second, jv x67, .second, jv x74, .second, jv x81, .second, rv b89, rv b121, iv x210] [(.int x210), (.int x219)])) t → Go t := fun t kt => pre220 t (by
        refine y_iload X217.here hx (hb hby at_376) rfl (pc' := 378) rfl ?_
        exact kt)
    have hf378_221 : x219 = x210 := by
        have B1 : 0 ≤ x8.toInt ∧ x8.toInt ≤ 12 := by rw [hx8]; exact own_k8 _
        have B2 : 0 ≤ x46.toInt ∧ x46.toInt ≤ 12 := by
            rw [hx46]; split
            · exact ⟨(own_kk _ _ B1).1, (own_kk _ _ B1).2.1⟩
            · exact B1
        have KN : ¬ x8 = x46 → ¬ x104 = x146 := fun n => by
            rw [hx104, hx146]; exact Fld.ne (own_kind F_ordinal_w_REQUEST F_ordinal_w_GRANT F_ordinal_w_RELEASE F_ordinal_w_RENEW F_ordinal_w_RENEWED F_ordinal_w_CANCEL F_ordinal_w_CANCELLED F_ordinal_w_TAKEOVER F_ordinal_w_FOLLOW F_ordinal_w_REPLY F_ordinal_w_VOTE F_ordinal_w_INQUIRE F_ordinal_w_RELINQUISH x8 B1) (own_kind F_ordinal_w_REQUEST F_ordinal_w_GRANT F_ordinal_w_RELEASE F_ordinal_w_RENEW F_ordinal_w_RENEWED F_ordinal_w_CANCEL F_ordinal_w_CANCELLED F_ordinal_w_TAKEOVER F_ordinal_w_FOLLOW F_ordinal_w_REPLY F_ordinal_w_VOTE F_ordinal_w_INQUIRE F_ordinal_w_RELINQUISH x46 B2) (fun q => n (Value.int.inj q))
        exact law0_223 pi0 pi1 pi2 pj3 pj4 pj5 w_REQUEST w_GRANT w_RELEASE w_RENEW w_RENEWED w_CANCEL w_CANCELLED w_TAKEOVER w_FOLLOW w_REPLY w_VOTE w_INQUIRE w_RELINQUISH x2 x8 x10 x12 x15 x21 x23 x26 x36 x46 x53 x60 x67 x74 x81 x104 x146 x210 x219 hx2 hx8 hx10 hx12 hx15 hx21 hx23 hx26 hx36 hx46 hx53 hx60 hx67 hx74 hx81 hx104 hx146 hx210 hx219 hc317_172 KN
    have pre224 : ∀ t, Steps p.tables e below (T217.setTop (mkF m 385 #[iv pi0, iv pi1, iv pi2, jv pj3, .second, jv pj4, .second, jv pj5, .second, iv x2, iv x8, iv x10, iv x12, jv x15, .second, jv pj4, .second, jv pj5, .second, jv x21, .second, jv x23, .second, iv x26, iv x36, iv x46, jv x53, .second, jv x60, .second, jv x67, .second, jv x74, .second, jv x81, .second, rv b89, rv b121, iv x210] [(.ref b89), (.ref b121)])) t → Go t := fun t kt => pre222 t (by
        refine y_icmpNo X217.here hx (hb hby at_378) (teq hf378_221).2 (pc' := 381) rfl ?_
        refine y_aload X217.here hx (hb hby at_381) rfl rfl (pc' := 383) rfl ?_
        refine y_aload X217.here hx (hb hby at_383) rfl rfl (pc' := 385) rfl ?_
        exact kt)
    obtain ⟨cq225, kq225, q225a, q225b, q225c⟩ := isOf hZ e217q f161
    obtain ⟨v225, _, ⟨T225, L225, k225, n225⟩, -, X225, ⟨Lc225, hQ225, l225, y225, z225⟩, st225⟩ := X217.virtualBack hx (y := (⟨"com/example/procord/procord/lock/LockMessage", "equals", "(Ljava/lang/Object;)Z"⟩ : MethodName)) (z := (⟨"com/example/procord/procord/lock/LockMessage", "equals", "(Ljava/lang/Object;)Z"⟩ : MethodName)) hown (mvT hZ (hw _ (List.mem_of_getElem? (i := 50) rfl))) (mvT hZ (hw _ (List.mem_of_getElem? (i := 51) rfl))) (notFace_of_selects (args := #[]) (mvT hZ (hw _ (List.mem_of_getElem? (i := 53) rfl)))) (mvT hZ (hw _ (List.mem_of_getElem? (i := 53) rfl))) (mvT hZ (hw _ (List.mem_of_getElem? (i := 52) rfl))) (by decide) (backOf (W := 0) (rm6 l Z a0 hw [] b121 b89 x26 x36 x146 x53 x60 x67 x74 x81 pi0 x2 x104 pj3 pj4 pj5 x21 x23 h149 n0 O170 f161 p149_0 p149_1 p149_2 p149_3 p149_4 p149_5 p149_6 p149_7 f152 f153 f154 f155 f156 f157 f158 f159 f160) hZ (hw _ (List.mem_of_getElem? (i := 54) rfl)) (hw _ (List.mem_of_getElem? (i := 2) rfl)) (by decide) (by decide)) q225a q225c (g := (mkF m 385 #[iv pi0, iv pi1, iv pi2, jv pj3, .second, jv pj4, .second, jv pj5, .second, iv x2, iv x8, iv x10, iv x12, jv x15, .second, jv pj4, .second, jv pj5, .second, jv x21, .second, jv x23, .second, iv x26, iv x36, iv x46, jv x53, .second, jv x60, .second, jv x67, .second, jv x74, .second, jv x81, .second, rv b89, rv b121, iv x210] [(.ref b89), (.ref b121)])) rfl (by rw [hml]; rfl) (Steps.refl _) (argsL := [(.ref b89)]) (rest := []) (lenOf pd__Ljava_lang_Object__Z rfl) rfl (by show 2 * 0 + _ ≤ _; exact Nat.le_of_eq rfl) (hb hby at_385) (fun _ _ => ⟨rfl, e217q, (by decide : 6 + 0 ≤ _), (by decide : 56 + 0 ≤ _)⟩)
    dsimp only [Pt.U, Pt.locs, Pt.cells, Pt.slots] at X225 l225 y225 z225 st225 hQ225
    replace l225 := l225.symm
    subst l225 y225 z225
    obtain ⟨hv225, N225q, e225q⟩ := hQ225
    have N226 := Fr.app N218 N225q
    have hw225 := hv225
    obtain ⟨x227, hx227⟩ : ∃ z : Int32, z = (if x26 = pi0 then (if x36 = x2 then (if x146 = x104 then (if x53 = pj3 then (if x60 = pj4 then (if x67 = pj5 then (if x74 = x21 then (if x81 = x23 then (1 : Int32) else (0 : Int32)) else (0 : Int32)) else (0 : Int32)) else (0 : Int32)) else (0 : Int32)) else (0 : Int32)) else (0 : Int32)) else (0 : Int32)) := ⟨_, rfl⟩
    rw [← hx227] at hw225
    subst hw225
    have pre228 : ∀ t, Steps p.tables e below (T225.setTop (mkF m 388 #[iv pi0, iv pi1, iv pi2, jv pj3, .second, jv pj4, .second, jv pj5, .second, iv x2, iv x8, iv x10, iv x12, jv x15, .second, jv pj4, .second, jv pj5, .second, jv x21, .second, jv x23, .second, iv x26, iv x36, iv x46, jv x53, .second, jv x60, .second, jv x67, .second, jv x74, .second, jv x81, .second, rv b89, rv b121, iv x210] [(.int x227)])) t → Go t := fun t kt => pre224 t (st225.trans kt)
    have pre230 : ∀ t, Steps p.tables e below (T225.setTop (mkF m 390 #[iv pi0, iv pi1, iv pi2, jv pj3, .second, jv pj4, .second, jv pj5, .second, iv x2, iv x8, iv x10, iv x12, jv x15, .second, jv pj4, .second, jv pj5, .second, jv x21, .second, jv x23, .second, iv x26, iv x36, iv x46, jv x53, .second, jv x60, .second, jv x67, .second, jv x74, .second, jv x81, .second, rv b89, rv b121, iv x210] [(.int x210), (.int x227)])) t → Go t := fun t kt => pre228 t (by
        refine y_iload X225.here hx (hb hby at_388) rfl (pc' := 390) rfl ?_
        exact kt)
    have hf390_229 : x227 = x210 := by
        have B1 : 0 ≤ x8.toInt ∧ x8.toInt ≤ 12 := by rw [hx8]; exact own_k8 _
        have B2 : 0 ≤ x46.toInt ∧ x46.toInt ≤ 12 := by
            rw [hx46]; split
            · exact ⟨(own_kk _ _ B1).1, (own_kk _ _ B1).2.1⟩
            · exact B1
        have KN : ¬ x8 = x46 → ¬ x104 = x146 := fun n => by
            rw [hx104, hx146]; exact Fld.ne (own_kind F_ordinal_w_REQUEST F_ordinal_w_GRANT F_ordinal_w_RELEASE F_ordinal_w_RENEW F_ordinal_w_RENEWED F_ordinal_w_CANCEL F_ordinal_w_CANCELLED F_ordinal_w_TAKEOVER F_ordinal_w_FOLLOW F_ordinal_w_REPLY F_ordinal_w_VOTE F_ordinal_w_INQUIRE F_ordinal_w_RELINQUISH x8 B1) (own_kind F_ordinal_w_REQUEST F_ordinal_w_GRANT F_ordinal_w_RELEASE F_ordinal_w_RENEW F_ordinal_w_RENEWED F_ordinal_w_CANCEL F_ordinal_w_CANCELLED F_ordinal_w_TAKEOVER F_ordinal_w_FOLLOW F_ordinal_w_REPLY F_ordinal_w_VOTE F_ordinal_w_INQUIRE F_ordinal_w_RELINQUISH x46 B2) (fun q => n (Value.int.inj q))
        exact law0_231 pi0 pi1 pi2 pj3 pj4 pj5 w_REQUEST w_GRANT w_RELEASE w_RENEW w_RENEWED w_CANCEL w_CANCELLED w_TAKEOVER w_FOLLOW w_REPLY w_VOTE w_INQUIRE w_RELINQUISH x2 x8 x10 x12 x15 x21 x23 x26 x36 x46 x53 x60 x67 x74 x81 x104 x146 x210 x227 hx2 hx8 hx10 hx12 hx15 hx21 hx23 hx26 hx36 hx46 hx53 hx60 hx67 hx74 hx81 hx104 hx146 hx210 hx227 hc317_172 KN
    have pre232 : ∀ t, Steps p.tables e below (T225.setTop (mkF m 398 #[iv pi0, iv pi1, iv pi2, jv pj3, .second, jv pj4, .second, jv pj5, .second, iv x2, iv x8, iv x10, iv x12, jv x15, .second, jv pj4, .second, jv pj5, .second, jv x21, .second, jv x23, .second, iv x26, iv x36, iv x46, jv x53, .second, jv x60, .second, jv x67, .second, jv x74, .second, jv x81, .second, rv b89, rv b121, iv x210] [(.int (1 : Int32))])) t → Go t := fun t kt => pre230 t (by
        refine y_icmpNo X225.here hx (hb hby at_390) (teq hf390_229).2 (pc' := 393) rfl ?_
        refine y_iconst X225.here hx (hb hby at_393) (v := (1 : Int32)) rfl (pc' := 394) rfl ?_
        refine y_goto X225.here hx (hb hby at_394) (pc' := 398) (by decide) rfl ?_
        exact kt)
    obtain ⟨fs, hr, hrun, hended, hRW⟩ := Stand.leaveW (s := s) (vm₁ := T149.vm) X225 hS149 (by rw [e225q]; exact (Nat.le_of_eq (congrArg Array.size eh149))) (v := some (.int (1 : Int32))) (fun h => by rw [Bd.returns] at h; cases h)
    refine ⟨_, _, (hGo _).mp (pre232 _ ?_), hrun, hended, _, _, rfl, ?_, hRW.1, hRW.2.1, hRW.2.2.1, hRW.2.2.2.mono (by decide) (by decide)⟩
    · exact retN X225 hx (t := .boolean) Bd.returns (by simp) (hb hby at_398) hr
    · show Q0 Z pi0 pi1 pi2 pj3 pj4 pj5 w_cache w_REQUEST w_GRANT w_RELEASE w_RENEW w_RENEWED w_CANCEL w_CANCELLED w_TAKEOVER w_FOLLOW w_REPLY w_VOTE w_INQUIRE w_RELINQUISH cc h0 n0 _ T225.heap _
      rw [e225q]
      exact ⟨rfl, N226⟩
set_option maxRecDepth 65536 in
set_option maxHeartbeats 40000000 in
theorem comes_1 {Post : Tables → Env → Array Value → State → Outcome → State → Prop} (hpost : ∀ tb e args s v u, (limb_1_1.after args s (.returned v) u = true ∧ limb_1_2.after args s (.returned v) u = true ∧ True) → ReturnedEndW s (.returned v) u (Jvm.fieldLocs frame_1_writes args s ++ Jvm.arrayLocs frame_1_arrays args s ++ Jvm.staticLocs frame_1_statics s) 16 1152 → Post tb e args s (.returned v) u) :
    ArmFor flags0 classFile x code maxLocals ret World_1 tables_1 room_1 Calls_1 rest_1 Pre_1 Post := by
  intro l hfl _ _ p e ha hc hk s m args below hf hA hF happ hP
  obtain ⟨hcalls, hrest, hpre⟩ := hP
  obtain ⟨-, -, -, hnamed, -, -, -, hat⟩ := (Spec.applies_iff hf).mp happ
  obtain ⟨hg, hn⟩ := and_e (Cond.before_iff.mp (show (Jvm.Cond.and given_1 narrow_1).before args s = true from hpre))
  obtain ⟨g0, gr0⟩ := and_e hg
  obtain ⟨g1, gr1⟩ := and_e gr0
  obtain ⟨g2, gr2⟩ := and_e gr1
  obtain ⟨g3, gr3⟩ := and_e gr2
  obtain ⟨g4, gr4⟩ := and_e gr3
  obtain ⟨g5, gr5⟩ := and_e gr4
  obtain ⟨w0, w1, w2, w3, w4, w5, rfl⟩ : ∃ w0 w1 w2 w3 w4 w5 : Value, args = #[w0, w1, w2, w3, w4, w5] := by
    have hs : args.size = 6 := by simpa [Cond.value, given_1] using g0
    obtain ⟨L⟩ := args
    match L, hs with
    | [w0, w1, w2, w3, w4, w5], _ => exact ⟨w0, w1, w2, w3, w4, w5, rfl⟩
  have hw := fun d (hd : d ∈ tables_1) => atoms_spec (ws := Jvm.Cond.code x code maxLocals ret :: tables_1) hat d (List.mem_cons_of_mem _ hd)
  have hfit : Fit s := fun {y c} hc i hi => by
    obtain ⟨ha, rfl⟩ := Array.getElem?_eq_some_iff.mp hc
    have q := List.all_eq_true.mp ((Array.all_eq_true_iff_forall_mem.mp hF) _ (Array.getElem_mem ha)) i (List.mem_range.mpr hi)
    simpa [Array.getElem?_eq_getElem hi] using q
  obtain ⟨hsets, hown0⟩ := atoms_of _ (rest_1_c_eq ▸ (show rest_1_c.before _ s = true from hrest))
  obtain ⟨i0, ei0⟩ := is_v g1
  obtain rfl : w0 = (.int i0) := Option.some.inj ei0
  obtain ⟨i1, ei1⟩ := is_v g2
  obtain rfl : w1 = (.int i1) := Option.some.inj ei1
  obtain ⟨i2, ei2⟩ := is_v g3
  obtain rfl : w2 = (.int i2) := Option.some.inj ei2
  obtain ⟨i3, ei3⟩ := isL_v g4
  obtain rfl : w3 = (.long i3) := Option.some.inj ei3
  obtain ⟨i4, ei4⟩ := isL_v g5
  obtain rfl : w4 = (.long i4) := Option.some.inj ei4
  obtain ⟨i5, ei5⟩ := isL_v gr5
  obtain rfl : w5 = (.long i5) := Option.some.inj ei5
  obtain ⟨n0, nr0⟩ := and_e hn
  obtain ⟨n1, nr1⟩ := and_e nr0
  obtain ⟨n2, nr2⟩ := and_e nr1
  obtain ⟨n3, nr3⟩ := and_e nr2
  obtain ⟨n4, nr4⟩ := and_e nr3
  obtain ⟨n5, nr5⟩ := and_e nr4
  obtain ⟨n6, nr6⟩ := and_e nr5
  obtain ⟨n7, nr7⟩ := and_e nr6
  obtain ⟨n8, nr8⟩ := and_e nr7
  obtain ⟨n9, nr9⟩ := and_e nr8
  obtain ⟨n10, nr10⟩ := and_e nr9
  obtain ⟨n11, nr11⟩ := and_e nr10
  obtain ⟨n12, nr12⟩ := and_e nr11
  obtain ⟨n13, nr13⟩ := and_e nr12
  obtain ⟨n14, nr14⟩ := and_e nr13
  obtain ⟨n15, nr15⟩ := and_e nr14
  obtain ⟨n16, nr16⟩ := and_e nr15
  obtain ⟨n17, nr17⟩ := and_e nr16
  obtain ⟨n18, nr18⟩ := and_e nr17
  obtain ⟨n19, nr19⟩ := and_e nr18
  obtain ⟨n20, nr20⟩ := and_e nr19
  obtain ⟨n21, nr21⟩ := and_e nr20
  obtain ⟨n22, nr22⟩ := and_e nr21
  obtain ⟨n23, nr23⟩ := and_e nr22
  obtain ⟨n24, nr24⟩ := and_e nr23
  obtain ⟨w_RELEASE, ev_RELEASE⟩ := exa_v n0
  have S_RELEASE := Sta.start ev_RELEASE (Or.inr ⟨(hw _ (List.mem_of_getElem? (i := 8) rfl)), (hw _ (List.mem_of_getElem? (i := 9) rfl))⟩)
  have E_w_RELEASE := Exa.start ev_RELEASE n0
  obtain ⟨w_REQUEST, ev_REQUEST⟩ := exa_v n1
  have S_REQUEST := Sta.start ev_REQUEST (Or.inr ⟨(hw _ (List.mem_of_getElem? (i := 8) rfl)), (hw _ (List.mem_of_getElem? (i := 58) rfl))⟩)
  have E_w_REQUEST := Exa.start ev_REQUEST n1
  obtain ⟨w_GRANT, ev_GRANT⟩ := exa_v n2
  have S_GRANT := Sta.start ev_GRANT (Or.inr ⟨(hw _ (List.mem_of_getElem? (i := 8) rfl)), (hw _ (List.mem_of_getElem? (i := 61) rfl))⟩)
  have E_w_GRANT := Exa.start ev_GRANT n2
  obtain ⟨w_INQUIRE, ev_INQUIRE⟩ := exa_v n3
  have S_INQUIRE := Sta.start ev_INQUIRE (Or.inr ⟨(hw _ (List.mem_of_getElem? (i := 8) rfl)), (hw _ (List.mem_of_getElem? (i := 63) rfl))⟩)
  have E_w_INQUIRE := Exa.start ev_INQUIRE n3
  have F_ordinal_w_GRANT := Fld.start ((fld_at ev_GRANT).symm.trans (own_eqI n4))
  have F_ordinal_w_INQUIRE := Fld.start ((fld_at ev_INQUIRE).symm.trans (own_eqI n5))
  obtain ⟨w_TAKEOVER, ev_TAKEOVER⟩ := exa_v n6
  have S_TAKEOVER := Sta.start ev_TAKEOVER (Or.inr ⟨(hw _ (List.mem_of_getElem? (i := 8) rfl)), (hw _ (List.mem_of_getElem? (i := 65) rfl))⟩)
  have E_w_TAKEOVER := Exa.start ev_TAKEOVER n6
  obtain ⟨w_VOTE, ev_VOTE⟩ := exa_v n7
  have S_VOTE := Sta.start ev_VOTE (Or.inr ⟨(hw _ (List.mem_of_getElem? (i := 8) rfl)), (hw _ (List.mem_of_getElem? (i := 67) rfl))⟩)
  have E_w_VOTE := Exa.start ev_VOTE n7
  obtain ⟨w_RENEW, ev_RENEW⟩ := exa_v n8
  have S_RENEW := Sta.start ev_RENEW (Or.inr ⟨(hw _ (List.mem_of_getElem? (i := 8) rfl)), (hw _ (List.mem_of_getElem? (i := 69) rfl))⟩)
  have E_w_RENEW := Exa.start ev_RENEW n8
  obtain ⟨w_CANCELLED, ev_CANCELLED⟩ := exa_v n9
  have S_CANCELLED := Sta.start ev_CANCELLED (Or.inr ⟨(hw _ (List.mem_of_getElem? (i := 8) rfl)), (hw _ (List.mem_of_getElem? (i := 71) rfl))⟩)
  have E_w_CANCELLED := Exa.start ev_CANCELLED n9
  obtain ⟨w_REPLY, ev_REPLY⟩ := exa_v n10
  have S_REPLY := Sta.start ev_REPLY (Or.inr ⟨(hw _ (List.mem_of_getElem? (i := 8) rfl)), (hw _ (List.mem_of_getElem? (i := 73) rfl))⟩)
  have E_w_REPLY := Exa.start ev_REPLY n10
  obtain ⟨w_CANCEL, ev_CANCEL⟩ := exa_v n11
  have S_CANCEL := Sta.start ev_CANCEL (Or.inr ⟨(hw _ (List.mem_of_getElem? (i := 8) rfl)), (hw _ (List.mem_of_getElem? (i := 75) rfl))⟩)
  have E_w_CANCEL := Exa.start ev_CANCEL n11
  obtain ⟨w_FOLLOW, ev_FOLLOW⟩ := exa_v n12
  have S_FOLLOW := Sta.start ev_FOLLOW (Or.inr ⟨(hw _ (List.mem_of_getElem? (i := 8) rfl)), (hw _ (List.mem_of_getElem? (i := 77) rfl))⟩)
  have E_w_FOLLOW := Exa.start ev_FOLLOW n12
  obtain ⟨w_RENEWED, ev_RENEWED⟩ := exa_v n13
  have S_RENEWED := Sta.start ev_RENEWED (Or.inr ⟨(hw _ (List.mem_of_getElem? (i := 8) rfl)), (hw _ (List.mem_of_getElem? (i := 79) rfl))⟩)
  have E_w_RENEWED := Exa.start ev_RENEWED n13
  obtain ⟨w_RELINQUISH, ev_RELINQUISH⟩ := exa_v n14
  have S_RELINQUISH := Sta.start ev_RELINQUISH (Or.inr ⟨(hw _ (List.mem_of_getElem? (i := 8) rfl)), (hw _ (List.mem_of_getElem? (i := 81) rfl))⟩)
  have E_w_RELINQUISH := Exa.start ev_RELINQUISH n14
  have F_ordinal_w_REQUEST := Fld.start ((fld_at ev_REQUEST).symm.trans (own_eqI n15))
  have F_ordinal_w_FOLLOW := Fld.start ((fld_at ev_FOLLOW).symm.trans (own_eqI n16))
  have F_ordinal_w_REPLY := Fld.start ((fld_at ev_REPLY).symm.trans (own_eqI n17))
  have F_ordinal_w_RELEASE := Fld.start ((fld_at ev_RELEASE).symm.trans (own_eqI n18))
  have F_ordinal_w_RENEW := Fld.start ((fld_at ev_RENEW).symm.trans (own_eqI n19))
  have F_ordinal_w_RENEWED := Fld.start ((fld_at ev_RENEWED).symm.trans (own_eqI n20))
  have F_ordinal_w_TAKEOVER := Fld.start ((fld_at ev_TAKEOVER).symm.trans (own_eqI n21))
  have F_ordinal_w_RELINQUISH := Fld.start ((fld_at ev_RELINQUISH).symm.trans (own_eqI n22))
  have F_ordinal_w_VOTE := Fld.start ((fld_at ev_VOTE).symm.trans (own_eqI n23))
  have F_ordinal_w_CANCEL := Fld.start ((fld_at ev_CANCEL).symm.trans (own_eqI n24))
  have F_ordinal_w_CANCELLED := Fld.start ((fld_at ev_CANCELLED).symm.trans (own_eqI nr24))
  obtain ⟨w_cache, evc⟩ := arr_v (Cond.before_iff.mp (hsets _ (List.mem_of_getElem? (i := 4) rfl)))
  have S_cache := Sta.start evc (Or.inr ⟨(hw _ (List.mem_of_getElem? (i := 87) rfl)), (hsets _ (List.mem_of_getElem? (i := 2) rfl))⟩)
  obtain ⟨cc, Ac⟩ := Arr.start evc (Cond.before_iff.mp (hsets _ (List.mem_of_getElem? (i := 4) rfl)))
  obtain ⟨lc1, lc2⟩ := own_len evc (Ac.fin (Vm.Alike.refl _)) (own_eqI (Cond.before_iff.mp (hsets _ (List.mem_of_getElem? (i := 6) rfl))))
  have CA : Bxs s w_cache cc "java/lang/Integer" "I" (256 : Int32) (fun j => .int (j - 128)) := Bxs.start (fun _ => evc) Ac lc1 lc2 (by decide) (Cond.before_iff.mp (hsets _ (List.mem_of_getElem? (i := 7) rfl))) (fun X j nn h => eqv_i (Term.sub_int (idx_at nn) (Term.int_eval _)) h)
  have S_high := Sta.start (own_eqI (Cond.before_iff.mp (hsets _ (List.mem_of_getElem? (i := 3) rfl)))) (Or.inl (hsets _ (List.mem_of_getElem? (i := 1) rfl)))
  have NI_pr1 : Nas s "java/lang/Integer" "com/example/procord/procord/lock/LockMessage" := own_nas (hw _ (List.mem_of_getElem? (i := 89) rfl)) (hw _ (List.mem_of_getElem? (i := 1) rfl)) (NS.step (hw _ (List.mem_of_getElem? (i := 89) rfl)) (NS.step (hw _ (List.mem_of_getElem? (i := 90) rfl)) (own_root (hw _ (List.mem_of_getElem? (i := 91) rfl)) (hw _ (List.mem_of_getElem? (i := 1) rfl)) (by decide)) (by decide)) (by decide)) (by decide)
  obtain ⟨n, o, h1, h2, h3, _, L, rfl, ⟨rfl, N⟩, hq⟩ := rm0 l s _ hw tables_1 i0 i1 i2 i3 i4 i5 w_cache w_REQUEST w_GRANT w_RELEASE w_RENEW w_RENEWED w_CANCEL w_CANCELLED w_TAKEOVER w_FOLLOW w_REPLY w_VOTE w_INQUIRE w_RELINQUISH cc s.heap s.heap.size (Old.start s) S_cache S_high S_REQUEST S_GRANT S_RELEASE S_RENEW S_RENEWED S_CANCEL S_CANCELLED S_TAKEOVER S_FOLLOW S_REPLY S_VOTE S_INQUIRE S_RELINQUISH CA NI_pr1 E_w_REQUEST E_w_GRANT E_w_RELEASE E_w_RENEW E_w_RENEWED E_w_CANCEL E_w_CANCELLED E_w_TAKEOVER E_w_FOLLOW E_w_REPLY E_w_VOTE E_w_INQUIRE E_w_RELINQUISH F_ordinal_w_REQUEST F_ordinal_w_GRANT F_ordinal_w_RELEASE F_ordinal_w_RENEW F_ordinal_w_RENEWED F_ordinal_w_CANCEL F_ordinal_w_CANCELLED F_ordinal_w_TAKEOVER F_ordinal_w_FOLLOW F_ordinal_w_REPLY F_ordinal_w_VOTE F_ordinal_w_INQUIRE F_ordinal_w_RELINQUISH p e ha hc hk s m _ below hf ((Spec.applies_iff_loose hf).mp happ).1 ⟨rfl, State.Warmed39.refl s, rfl⟩ trivial
  refine ⟨n, _, h1, h2, h3, hpost _ _ _ _ _ _ ⟨Cond.after_iff.mpr rfl, Cond.after_iff.mpr (eq_i res_at (Term.int_eval (1)) rfl), trivial⟩ ⟨hq.1, hq.2.1, hq.2.2.1, (hq.2.2.2.sift fun y hy => Or.inr (N y hy)).mono (by decide) (by decide)⟩⟩
theorem main_1_1 : Claimed_1_1 := comes_1 fun _ _ _ _ _ _ h hF => ⟨h.1, hF⟩
theorem main_1_2 : Claimed_1_2 := comes_1 fun _ _ _ _ _ _ h hF => ⟨h.2.1, hF⟩
end Jvm.Pilot.@@N@@
namespace Jvm.Pilot.@@N@@
open Jvm Jvm.ClassFile Sem Op Lib Jvm.Free Jvm.Stand Jvm.Pilot.@@N@@.Jvm.D
/-! MADE BY PROGRAM (witnessworld.py) out of the Statement's table words and the real class files: 23 classes; the members and pool entries that the words name. The judged class is class 1, her method 2. -/
namespace start1
open Jvm.ClassFile
def u (s : String) : CpInfo := .utf8 (stringToUtf16 s)
/-- a pool by its gaps: so many unusable entries, then the entry; so many at the end -/
def gap : Nat → List CpInfo → List CpInfo
  | 0, r => r
  | n + 1, r => .unusable :: gap n r
def poolList (es : List (Nat × CpInfo)) (last : Nat) : List CpInfo := es.foldr (fun e r => gap e.1 (e.2 :: r)) (gap last [])
def pool (es : List (Nat × CpInfo)) (last : Nat) : Array CpInfo := ⟨poolList es last⟩
def fileOf (pool : Array CpInfo) (this : Nat) (attrs : Array Attribute := #[]) (ms : Array MethodInfo := #[]) (fl : Nat := 33) (sup : Nat := 0) (ifs : Array Nat := #[]) (fds : Array FieldInfo := #[]) : ClassFile where
  minorVersion := 0
  majorVersion := 65
  constantPool := pool
  accessFlags := fl
  thisClass := this
  superClass := sup
  interfaces := ifs
  fields := fds
  methods := ms
  attributes := attrs
def plain (name : String) (sup : Option ClassId) : Class where
  name := name
  kind := .ordinary
  loader := none
  accessFlags := 33
  super := sup
  interfaces := #[]
  cf := none
  fields := #[]
  methods := #[]
  instanceTypes := #[]
  staticTypes := #[]
  resolved := #[]
  callSites := []
  init := .initialized
  statics := none
  mirror := none

def pool0 : Array CpInfo := pool [(5, u "<init>"), (0, u "()V"), (1, .class_ 10), (1, u "java/lang/Object")] 113

def k0c0 : Code := { maxStack := 0, maxLocals := 1, code := object_method_1_code, exceptionTable := #[], attributes := #[] }
def k0m0 : Method := { name := "<init>", desc := "()V", sig := { parameters := [], returnType := none }, accessFlags := 1, code := some k0c0 }
/-- java/lang/Object -/
def k0 : Class := { plain "java/lang/Object" none with
  accessFlags := 33
  interfaces := #[]
  cf := some (fileOf pool0 8 #[] #[{ accessFlags := 1, nameIndex := 5, descriptorIndex := 6, attributes := #[] }] 33 0 #[] #[])
  fields := #[]
  methods := #[k0m0]
  instanceTypes := #[]
  staticTypes := #[]
  resolved := Array.replicate 124 none
  statics := none }

def pool1 : Array CpInfo := pool [(2, .class_ 4), (1, u "java/lang/Object"), (0, u "<init>"), (0, u "()V"), (0, .fieldref 8 9), (0, .class_ 10), (0, .nameAndType 11 12), (0, u "com/example/procord/procord/lock/LockMessage$Kind"), (0, u "REQUEST"), (0, u "Lcom/example/procord/procord/lock/LockMessage$Kind;"), (0, .fieldref 8 14), (0, .nameAndType 15 12), (0, u "GRANT"), (0, .fieldref 8 17), (0, .nameAndType 18 12), (0, u "RELEASE"), (0, .fieldref 8 20), (0, .nameAndType 21 12), (0, u "RENEW"), (0, .fieldref 8 23), (0, .nameAndType 24 12), (0, u "RENEWED"), (0, .fieldref 8 26), (0, .nameAndType 27 12), (0, u "CANCEL"), (0, .fieldref 8 29), (0, .nameAndType 30 12), (0, u "CANCELLED"), (0, .fieldref 8 32), (0, .nameAndType 33 12), (0, u "TAKEOVER"), (0, .fieldref 8 35), (0, .nameAndType 36 12), (0, u "FOLLOW"), (0, .fieldref 8 38), (0, .nameAndType 39 12), (0, u "REPLY"), (0, .fieldref 8 41), (0, .nameAndType 42 12), (0, u "VOTE"), (0, .fieldref 8 44), (0, .nameAndType 45 12), (0, u "INQUIRE"), (0, .fieldref 8 47), (0, .nameAndType 48 12), (0, u "RELINQUISH"), (0, .integer 8388607), (0, .class_ 51), (0, u "com/example/procord/procord/lock/LockMessage"), (0, .methodref 53 54), (0, .class_ 55), (0, .nameAndType 56 57), (0, u "com/example/procord/procord/lock/LockMessageEqualsPinLaw"), (0, u "kindOf"), (0, u "(I)Lcom/example/procord/procord/lock/LockMessage$Kind;"), (0, .methodref 50 59), (0, .nameAndType 5 60), (0, u "(IILcom/example/procord/procord/lock/LockMessage$Kind;JJJJJ)V"), (0, .methodref 62 63), (0, .class_ 64), (0, .nameAndType 65 66), (0, u "java/lang/Integer"), (0, u "valueOf"), (0, u "(I)Ljava/lang/Integer;"), (0, .methodref 50 68), (0, .nameAndType 69 70), (0, u "equals"), (0, u "(Ljava/lang/Object;)Z"), (3, u "law"), (0, u "(IIIJJJ)Z")] 4

def k1m0 : Method := { name := "<init>", desc := "()V", sig := { parameters := [], returnType := none }, accessFlags := 1, code := none }
def k1c1 : Code := { maxStack := 2, maxLocals := 1, code := method_2_code, exceptionTable := #[], attributes := #[] }
def k1m1 : Method := { name := "kindOf", desc := "(I)Lcom/example/procord/procord/lock/LockMessage$Kind;", sig := { parameters := [.int], returnType := some (.object "com/example/procord/procord/lock/LockMessage$Kind") }, accessFlags := 10, code := some k1c1 }
def k1c2 : Code := { maxStack := 15, maxLocals := 39, code := code, exceptionTable := #[], attributes := #[] }
def k1m2 : Method := { name := "law", desc := "(IIIJJJ)Z", sig := { parameters := [.int, .int, .int, .long, .long, .long], returnType := some .boolean }, accessFlags := 9, code := some k1c2 }
/-- com/example/procord/procord/lock/LockMessageEqualsPinLaw -/
def k1 : Class := { plain "com/example/procord/procord/lock/LockMessageEqualsPinLaw" (some 0) with
  accessFlags := 49
  interfaces := #[]
  cf := some (fileOf pool1 53 #[] #[{ accessFlags := 1, nameIndex := 5, descriptorIndex := 6, attributes := #[] }, { accessFlags := 10, nameIndex := 56, descriptorIndex := 57, attributes := #[] }, { accessFlags := 9, nameIndex := 74, descriptorIndex := 75, attributes := #[] }] 49 2 #[] #[])
  fields := #[]
  methods := #[k1m0, k1m1, k1m2]
  instanceTypes := #[]
  staticTypes := #[]
  resolved := Array.replicate 80 none
  statics := none }

def pool2 : Array CpInfo := pool [(14, .class_ 16), (1, u "com/example/procord/procord/message/Message"), (9, .class_ 27), (0, u "java/lang/Object"), (3, u "checkEnds"), (0, u "(II)V")] 22

def k2c0 : Code := { maxStack := 3, maxLocals := 2, code := prog_47_method_5_code, exceptionTable := #[], attributes := #[] }
def k2m0 : Method := { name := "checkEnds", desc := "(II)V", sig := { parameters := [.int, .int], returnType := none }, accessFlags := 9, code := some k2c0 }
/-- com/example/procord/procord/message/Message -/
def k2 : Class := { plain "com/example/procord/procord/message/Message" (some 0) with
  accessFlags := 1537
  interfaces := #[]
  cf := some (fileOf pool2 14 #[] #[{ accessFlags := 9, nameIndex := 31, descriptorIndex := 32, attributes := #[] }] 1537 26 #[] #[])
  fields := #[]
  methods := #[k2m0]
  instanceTypes := #[]
  staticTypes := #[]
  resolved := Array.replicate 55 none
  statics := none }

def pool3 : Array CpInfo := pool [(4, .class_ 6), (1, u "com/example/procord/procord/lock/LockMessage"), (0, u "<init>"), (6, u "(IILcom/example/procord/procord/lock/LockMessage$Kind;JJJJJ)V"), (0, .methodref 16 17), (0, .class_ 18), (0, .nameAndType 7 19), (0, u "java/lang/Object"), (0, u "()V"), (0, .interfaceMethodref 21 22), (0, .class_ 23), (0, .nameAndType 24 25), (0, u "com/example/procord/procord/message/Message"), (0, u "checkEnds"), (0, u "(II)V"), (0, .fieldref 4 27), (0, .nameAndType 28 29), (0, u "from"), (0, u "I"), (0, .fieldref 4 31), (0, .nameAndType 32 29), (0, u "to"), (0, .string 34), (0, u "kind"), (0, .methodref 36 37), (0, .class_ 38), (0, .nameAndType 39 40), (0, u "java/util/Objects"), (0, u "requireNonNull"), (0, u "(Ljava/lang/Object;Ljava/lang/String;)Ljava/lang/Object;"), (0, .class_ 42), (0, u "com/example/procord/procord/lock/LockMessage$Kind"), (0, .fieldref 4 44), (0, .nameAndType 34 45), (0, u "Lcom/example/procord/procord/lock/LockMessage$Kind;"), (0, .fieldref 4 47), (0, .nameAndType 48 49), (0, u "stamp"), (0, u "J"), (0, .fieldref 4 51), (0, .nameAndType 52 49), (0, u "fencing"), (0, .fieldref 4 54), (0, .nameAndType 55 49), (0, u "lease"), (0, .fieldref 4 57), (0, .nameAndType 58 49), (0, u "waited"), (0, .fieldref 4 60), (0, .nameAndType 61 49), (0, u "known"), (37, u "equals"), (0, u "(Ljava/lang/Object;)Z")] 32

def k3c0 : Code := { maxStack := 3, maxLocals := 14, code := prog_36_method_4_code, exceptionTable := #[], attributes := #[] }
def k3m0 : Method := { name := "<init>", desc := "(IILcom/example/procord/procord/lock/LockMessage$Kind;JJJJJ)V", sig := { parameters := [.int, .int, (.object "com/example/procord/procord/lock/LockMessage$Kind"), .long, .long, .long, .long, .long], returnType := none }, accessFlags := 1, code := some k3c0 }
def k3c1 : Code := { maxStack := 4, maxLocals := 3, code := prog_36_method_14_code, exceptionTable := #[], attributes := #[] }
def k3m1 : Method := { name := "equals", desc := "(Ljava/lang/Object;)Z", sig := { parameters := [(.object "java/lang/Object")], returnType := some .boolean }, accessFlags := 1, code := some k3c1 }
/-- com/example/procord/procord/lock/LockMessage -/
def k3 : Class := { plain "com/example/procord/procord/lock/LockMessage" (some 0) with
  accessFlags := 49
  interfaces := #[2]
  cf := some (fileOf pool3 4 #[.nestMembers #[41]] #[{ accessFlags := 1, nameIndex := 7, descriptorIndex := 14, attributes := #[] }, { accessFlags := 1, nameIndex := 99, descriptorIndex := 100, attributes := #[] }] 49 16 #[21] #[{ accessFlags := 18, nameIndex := 28, descriptorIndex := 29, attributes := #[] }, { accessFlags := 18, nameIndex := 32, descriptorIndex := 29, attributes := #[] }, { accessFlags := 18, nameIndex := 34, descriptorIndex := 45, attributes := #[] }, { accessFlags := 18, nameIndex := 48, descriptorIndex := 49, attributes := #[] }, { accessFlags := 18, nameIndex := 52, descriptorIndex := 49, attributes := #[] }, { accessFlags := 18, nameIndex := 55, descriptorIndex := 49, attributes := #[] }, { accessFlags := 18, nameIndex := 58, descriptorIndex := 49, attributes := #[] }, { accessFlags := 18, nameIndex := 61, descriptorIndex := 49, attributes := #[] }])
  fields := #[{ name := "from", type := .int, accessFlags := 18, slot := 0, constantValue := 0 }, { name := "to", type := .int, accessFlags := 18, slot := 1, constantValue := 0 }, { name := "kind", type := (.object "com/example/procord/procord/lock/LockMessage$Kind"), accessFlags := 18, slot := 2, constantValue := 0 }, { name := "stamp", type := .long, accessFlags := 18, slot := 3, constantValue := 0 }, { name := "fencing", type := .long, accessFlags := 18, slot := 4, constantValue := 0 }, { name := "lease", type := .long, accessFlags := 18, slot := 5, constantValue := 0 }, { name := "waited", type := .long, accessFlags := 18, slot := 6, constantValue := 0 }, { name := "known", type := .long, accessFlags := 18, slot := 7, constantValue := 0 }]
  methods := #[k3m0, k3m1]
  instanceTypes := #[.int, .int, (.object "com/example/procord/procord/lock/LockMessage$Kind"), .long, .long, .long, .long, .long]
  staticTypes := #[]
  resolved := Array.replicate 133 none
  statics := none }

def pool4 : Array CpInfo := pool [(1, .class_ 2), (0, u "java/lang/constant/Constable"), (0, .class_ 4), (0, u "java/lang/Object")] 6

/-- java/lang/constant/Constable -/
def k4 : Class := { plain "java/lang/constant/Constable" (some 0) with
  accessFlags := 1537
  interfaces := #[]
  cf := some (fileOf pool4 1 #[] #[] 1537 3 #[] #[])
  fields := #[]
  methods := #[]
  instanceTypes := #[]
  staticTypes := #[]
  resolved := Array.replicate 11 none
  statics := none }

def pool5 : Array CpInfo := pool [(1, .class_ 2), (0, u "java/lang/Comparable"), (0, .class_ 4), (0, u "java/lang/Object")] 7

/-- java/lang/Comparable -/
def k5 : Class := { plain "java/lang/Comparable" (some 0) with
  accessFlags := 1537
  interfaces := #[]
  cf := some (fileOf pool5 1 #[] #[] 1537 3 #[] #[])
  fields := #[]
  methods := #[]
  instanceTypes := #[]
  staticTypes := #[]
  resolved := Array.replicate 12 none
  statics := none }

def pool6 : Array CpInfo := pool [(1, .class_ 2), (0, u "java/io/Serializable"), (0, .class_ 4), (0, u "java/lang/Object")] 2

/-- java/io/Serializable -/
def k6 : Class := { plain "java/io/Serializable" (some 0) with
  accessFlags := 1537
  interfaces := #[]
  cf := some (fileOf pool6 1 #[] #[] 1537 3 #[] #[])
  fields := #[]
  methods := #[]
  instanceTypes := #[]
  staticTypes := #[]
  resolved := Array.replicate 7 none
  statics := none }

def pool7 : Array CpInfo := pool [(2, .class_ 4), (1, u "java/lang/Enum"), (0, u "name"), (0, u "Ljava/lang/String;"), (2, u "ordinal"), (0, u "I"), (1, .class_ 14), (1, u "java/lang/Object"), (4, u "hash"), (86, .class_ 108), (1, u "java/lang/Enum$EnumDesc"), (2, .class_ 112), (0, u "java/lang/constant/Constable"), (0, .class_ 114), (0, u "java/lang/Comparable"), (0, .class_ 116), (0, u "java/io/Serializable")] 87

/-- java/lang/Enum -/
def k7 : Class := { plain "java/lang/Enum" (some 0) with
  accessFlags := 1057
  interfaces := #[4, 5, 6]
  cf := some (fileOf pool7 2 #[.nestMembers #[106]] #[] 1057 12 #[111, 113, 115] #[{ accessFlags := 18, nameIndex := 5, descriptorIndex := 6, attributes := #[] }, { accessFlags := 18, nameIndex := 9, descriptorIndex := 10, attributes := #[] }, { accessFlags := 2, nameIndex := 19, descriptorIndex := 10, attributes := #[] }])
  fields := #[{ name := "name", type := (.object "java/lang/String"), accessFlags := 18, slot := 0, constantValue := 0 }, { name := "ordinal", type := .int, accessFlags := 18, slot := 1, constantValue := 0 }, { name := "hash", type := .int, accessFlags := 2, slot := 2, constantValue := 0 }]
  methods := #[]
  instanceTypes := #[(.object "java/lang/String"), .int, .int]
  staticTypes := #[]
  resolved := Array.replicate 204 none
  statics := none }

def pool8 : Array CpInfo := pool [(1, .class_ 2), (0, u "com/example/procord/procord/message/Messenger$Factory"), (0, .class_ 4), (0, u "java/lang/Object"), (10, .class_ 16), (0, u "com/example/procord/procord/message/Messenger")] 2

/-- com/example/procord/procord/message/Messenger$Factory -/
def k8 : Class := { plain "com/example/procord/procord/message/Messenger$Factory" (some 0) with
  accessFlags := 1537
  interfaces := #[]
  cf := some (fileOf pool8 1 #[.nestHost 15] #[] 1537 3 #[] #[])
  fields := #[]
  methods := #[]
  instanceTypes := #[]
  staticTypes := #[]
  resolved := Array.replicate 19 none
  statics := none }

def pool9 : Array CpInfo := pool [(1, .class_ 2), (0, u "com/example/procord/procord/lock/LockMessage$Kind"), (2, u "REQUEST"), (0, u "Lcom/example/procord/procord/lock/LockMessage$Kind;"), (2, u "GRANT"), (2, u "RELEASE"), (2, u "RENEW"), (2, u "RENEWED"), (2, u "CANCEL"), (2, u "CANCELLED"), (2, u "TAKEOVER"), (2, u "FOLLOW"), (2, u "REPLY"), (2, u "VOTE"), (2, u "INQUIRE"), (2, u "RELINQUISH"), (2, u "$VALUES"), (0, u "[Lcom/example/procord/procord/lock/LockMessage$Kind;"), (6, .class_ 55), (1, u "java/lang/Enum"), (8, u "label"), (0, u "Ljava/lang/String;"), (0, .class_ 67), (0, u "com/example/procord/procord/lock/LockMessage"), (53, .class_ 122), (0, u "com/example/procord/procord/message/Messenger$Factory")] 20

/-- com/example/procord/procord/lock/LockMessage$Kind -/
def k9 : Class := { plain "com/example/procord/procord/lock/LockMessage$Kind" (some 7) with
  accessFlags := 16433
  interfaces := #[8]
  cf := some (fileOf pool9 1 #[.nestHost 66] #[] 16433 53 #[121] #[{ accessFlags := 16409, nameIndex := 5, descriptorIndex := 6, attributes := #[] }, { accessFlags := 16409, nameIndex := 9, descriptorIndex := 6, attributes := #[] }, { accessFlags := 16409, nameIndex := 12, descriptorIndex := 6, attributes := #[] }, { accessFlags := 16409, nameIndex := 15, descriptorIndex := 6, attributes := #[] }, { accessFlags := 16409, nameIndex := 18, descriptorIndex := 6, attributes := #[] }, { accessFlags := 16409, nameIndex := 21, descriptorIndex := 6, attributes := #[] }, { accessFlags := 16409, nameIndex := 24, descriptorIndex := 6, attributes := #[] }, { accessFlags := 16409, nameIndex := 27, descriptorIndex := 6, attributes := #[] }, { accessFlags := 16409, nameIndex := 30, descriptorIndex := 6, attributes := #[] }, { accessFlags := 16409, nameIndex := 33, descriptorIndex := 6, attributes := #[] }, { accessFlags := 16409, nameIndex := 36, descriptorIndex := 6, attributes := #[] }, { accessFlags := 16409, nameIndex := 39, descriptorIndex := 6, attributes := #[] }, { accessFlags := 16409, nameIndex := 42, descriptorIndex := 6, attributes := #[] }, { accessFlags := 18, nameIndex := 64, descriptorIndex := 65, attributes := #[] }, { accessFlags := 4122, nameIndex := 45, descriptorIndex := 46, attributes := #[] }])
  fields := #[{ name := "REQUEST", type := (.object "com/example/procord/procord/lock/LockMessage$Kind"), accessFlags := 16409, slot := 0, constantValue := 0 }, { name := "GRANT", type := (.object "com/example/procord/procord/lock/LockMessage$Kind"), accessFlags := 16409, slot := 1, constantValue := 0 }, { name := "RELEASE", type := (.object "com/example/procord/procord/lock/LockMessage$Kind"), accessFlags := 16409, slot := 2, constantValue := 0 }, { name := "RENEW", type := (.object "com/example/procord/procord/lock/LockMessage$Kind"), accessFlags := 16409, slot := 3, constantValue := 0 }, { name := "RENEWED", type := (.object "com/example/procord/procord/lock/LockMessage$Kind"), accessFlags := 16409, slot := 4, constantValue := 0 }, { name := "CANCEL", type := (.object "com/example/procord/procord/lock/LockMessage$Kind"), accessFlags := 16409, slot := 5, constantValue := 0 }, { name := "CANCELLED", type := (.object "com/example/procord/procord/lock/LockMessage$Kind"), accessFlags := 16409, slot := 6, constantValue := 0 }, { name := "TAKEOVER", type := (.object "com/example/procord/procord/lock/LockMessage$Kind"), accessFlags := 16409, slot := 7, constantValue := 0 }, { name := "FOLLOW", type := (.object "com/example/procord/procord/lock/LockMessage$Kind"), accessFlags := 16409, slot := 8, constantValue := 0 }, { name := "REPLY", type := (.object "com/example/procord/procord/lock/LockMessage$Kind"), accessFlags := 16409, slot := 9, constantValue := 0 }, { name := "VOTE", type := (.object "com/example/procord/procord/lock/LockMessage$Kind"), accessFlags := 16409, slot := 10, constantValue := 0 }, { name := "INQUIRE", type := (.object "com/example/procord/procord/lock/LockMessage$Kind"), accessFlags := 16409, slot := 11, constantValue := 0 }, { name := "RELINQUISH", type := (.object "com/example/procord/procord/lock/LockMessage$Kind"), accessFlags := 16409, slot := 12, constantValue := 0 }, { name := "label", type := (.object "java/lang/String"), accessFlags := 18, slot := 3, constantValue := 0 }, { name := "$VALUES", type := (.array (.object "com/example/procord/procord/lock/LockMessage$Kind")), accessFlags := 4122, slot := 13, constantValue := 0 }]
  methods := #[]
  instanceTypes := #[(.object "java/lang/String"), .int, .int, (.object "java/lang/String")]
  staticTypes := #[(.object "com/example/procord/procord/lock/LockMessage$Kind"), (.object "com/example/procord/procord/lock/LockMessage$Kind"), (.object "com/example/procord/procord/lock/LockMessage$Kind"), (.object "com/example/procord/procord/lock/LockMessage$Kind"), (.object "com/example/procord/procord/lock/LockMessage$Kind"), (.object "com/example/procord/procord/lock/LockMessage$Kind"), (.object "com/example/procord/procord/lock/LockMessage$Kind"), (.object "com/example/procord/procord/lock/LockMessage$Kind"), (.object "com/example/procord/procord/lock/LockMessage$Kind"), (.object "com/example/procord/procord/lock/LockMessage$Kind"), (.object "com/example/procord/procord/lock/LockMessage$Kind"), (.object "com/example/procord/procord/lock/LockMessage$Kind"), (.object "com/example/procord/procord/lock/LockMessage$Kind"), (.array (.object "com/example/procord/procord/lock/LockMessage$Kind"))]
  resolved := Array.replicate 143 none
  statics := some 0 }

def pool10 : Array CpInfo := pool [(2, .class_ 4), (1, u "java/lang/CharSequence"), (42, .class_ 48), (0, u "java/lang/CharSequence$1CodePointIterator"), (10, .class_ 60), (0, u "java/lang/CharSequence$1CharIterator"), (5, .class_ 67), (0, u "java/lang/Object")] 63

/-- java/lang/CharSequence -/
def k10 : Class := { plain "java/lang/CharSequence" (some 0) with
  accessFlags := 1537
  interfaces := #[]
  cf := some (fileOf pool10 2 #[.nestMembers #[47, 59]] #[] 1537 66 #[] #[])
  fields := #[]
  methods := #[]
  instanceTypes := #[]
  staticTypes := #[]
  resolved := Array.replicate 131 none
  statics := none }

def pool11 : Array CpInfo := pool [(1, .class_ 2), (0, u "java/lang/constant/ConstantDesc"), (0, .class_ 4), (0, u "java/lang/Object")] 32

/-- java/lang/constant/ConstantDesc -/
def k11 : Class := { plain "java/lang/constant/ConstantDesc" (some 0) with
  accessFlags := 1537
  interfaces := #[]
  cf := some (fileOf pool11 1 #[] #[] 1537 3 #[] #[])
  fields := #[]
  methods := #[]
  instanceTypes := #[]
  staticTypes := #[]
  resolved := Array.replicate 37 none
  statics := none }

def pool12 : Array CpInfo := pool [(2, .class_ 4), (1, u "java/lang/Object"), (0, u "<init>"), (0, u "()V"), (3, .class_ 12), (1, u "java/lang/String"), (0, u "value"), (0, u "[B"), (2, u "coder"), (0, u "B"), (2, u "hash"), (0, u "I"), (2, u "hashIsZero"), (0, u "Z"), (13, u "COMPACT_STRINGS"), (534, .class_ 576), (0, u "java/lang/CharSequence"), (22, u "CASE_INSENSITIVE_ORDER"), (0, u "Ljava/util/Comparator;"), (500, u "serialPersistentFields"), (0, u "[Ljava/io/ObjectStreamField;"), (0, .class_ 1104), (0, u "java/lang/String$CaseInsensitiveComparator"), (1, .class_ 1107), (0, u "java/io/Serializable"), (0, .class_ 1109), (0, u "java/lang/Comparable"), (0, .class_ 1111), (0, u "java/lang/constant/Constable"), (0, .class_ 1113), (0, u "java/lang/constant/ConstantDesc"), (2, u "serialVersionUID"), (0, u "J"), (3, u "REPL"), (0, u "C"), (2, u "LATIN1"), (1, u "UTF16")] 323

def k12m0 : Method := { name := "<init>", desc := "()V", sig := { parameters := [], returnType := none }, accessFlags := 1, code := none }
/-- java/lang/String -/
def k12 : Class := { plain "java/lang/String" (some 0) with
  accessFlags := 49
  interfaces := #[6, 5, 10, 4, 11]
  cf := some (fileOf pool12 10 #[.nestMembers #[1103]] #[{ accessFlags := 1, nameIndex := 5, descriptorIndex := 6, attributes := #[] }] 49 2 #[1106, 1108, 575, 1110, 1112] #[{ accessFlags := 18, nameIndex := 13, descriptorIndex := 14, attributes := #[] }, { accessFlags := 18, nameIndex := 17, descriptorIndex := 18, attributes := #[] }, { accessFlags := 2, nameIndex := 21, descriptorIndex := 22, attributes := #[] }, { accessFlags := 2, nameIndex := 25, descriptorIndex := 26, attributes := #[] }, { accessFlags := 26, nameIndex := 1116, descriptorIndex := 1117, attributes := #[] }, { accessFlags := 24, nameIndex := 40, descriptorIndex := 26, attributes := #[] }, { accessFlags := 26, nameIndex := 1101, descriptorIndex := 1102, attributes := #[] }, { accessFlags := 26, nameIndex := 1121, descriptorIndex := 1122, attributes := #[] }, { accessFlags := 25, nameIndex := 599, descriptorIndex := 600, attributes := #[] }, { accessFlags := 24, nameIndex := 1125, descriptorIndex := 18, attributes := #[] }, { accessFlags := 24, nameIndex := 1127, descriptorIndex := 18, attributes := #[] }])
  fields := #[{ name := "value", type := (.array .byte), accessFlags := 18, slot := 0, constantValue := 0 }, { name := "coder", type := .byte, accessFlags := 18, slot := 1, constantValue := 0 }, { name := "hash", type := .int, accessFlags := 2, slot := 2, constantValue := 0 }, { name := "hashIsZero", type := .boolean, accessFlags := 2, slot := 3, constantValue := 0 }, { name := "serialVersionUID", type := .long, accessFlags := 26, slot := 0, constantValue := 0 }, { name := "COMPACT_STRINGS", type := .boolean, accessFlags := 24, slot := 1, constantValue := 0 }, { name := "serialPersistentFields", type := (.array (.object "java/io/ObjectStreamField")), accessFlags := 26, slot := 2, constantValue := 0 }, { name := "REPL", type := .char, accessFlags := 26, slot := 3, constantValue := 0 }, { name := "CASE_INSENSITIVE_ORDER", type := (.object "java/util/Comparator"), accessFlags := 25, slot := 4, constantValue := 0 }, { name := "LATIN1", type := .byte, accessFlags := 24, slot := 5, constantValue := 0 }, { name := "UTF16", type := .byte, accessFlags := 24, slot := 6, constantValue := 0 }]
  methods := #[k12m0]
  instanceTypes := #[(.array .byte), .byte, .int, .boolean]
  staticTypes := #[.long, .boolean, (.array (.object "java/io/ObjectStreamField")), .char, (.object "java/util/Comparator"), .byte, .byte]
  resolved := Array.replicate 1451 none
  statics := none }

def pool13 : Array CpInfo := pool [(2, .class_ 4), (1, u "java/lang/Object"), (0, u "<init>"), (0, u "()V"), (35, .class_ 44), (1, u "java/util/Objects"), (0, u "requireNonNull"), (48, u "(Ljava/lang/Object;Ljava/lang/String;)Ljava/lang/Object;")] 89

def k13m0 : Method := { name := "<init>", desc := "()V", sig := { parameters := [], returnType := none }, accessFlags := 2, code := none }
def k13c1 : Code := { maxStack := 3, maxLocals := 2, code := jdk_31_method_11_code, exceptionTable := #[], attributes := #[] }
def k13m1 : Method := { name := "requireNonNull", desc := "(Ljava/lang/Object;Ljava/lang/String;)Ljava/lang/Object;", sig := { parameters := [(.object "java/lang/Object"), (.object "java/lang/String")], returnType := some (.object "java/lang/Object") }, accessFlags := 9, code := some k13c1 }
/-- java/util/Objects -/
def k13 : Class := { plain "java/util/Objects" (some 0) with
  accessFlags := 49
  interfaces := #[]
  cf := some (fileOf pool13 42 #[] #[{ accessFlags := 2, nameIndex := 5, descriptorIndex := 6, attributes := #[] }, { accessFlags := 9, nameIndex := 45, descriptorIndex := 94, attributes := #[] }] 49 2 #[] #[])
  fields := #[]
  methods := #[k13m0, k13m1]
  instanceTypes := #[]
  staticTypes := #[]
  resolved := Array.replicate 184 none
  statics := none }

def pool14 : Array CpInfo := pool [(1, .methodref 2 3), (0, .class_ 4), (0, .nameAndType 5 6), (0, u "java/lang/Object"), (0, u "<init>"), (0, u "()V"), (1, .class_ 10), (1, u "java/lang/Number"), (2, .class_ 14), (0, u "java/io/Serializable"), (0, u "serialVersionUID"), (0, u "J")] 20

def k14c0 : Code := { maxStack := 1, maxLocals := 1, code := jdk_18_method_1_code, exceptionTable := #[], attributes := #[] }
def k14m0 : Method := { name := "<init>", desc := "()V", sig := { parameters := [], returnType := none }, accessFlags := 1, code := some k14c0 }
/-- java/lang/Number -/
def k14 : Class := { plain "java/lang/Number" (some 0) with
  accessFlags := 1057
  interfaces := #[6]
  cf := some (fileOf pool14 8 #[] #[{ accessFlags := 1, nameIndex := 5, descriptorIndex := 6, attributes := #[] }] 1057 2 #[13] #[{ accessFlags := 26, nameIndex := 15, descriptorIndex := 16, attributes := #[] }])
  fields := #[{ name := "serialVersionUID", type := .long, accessFlags := 26, slot := 0, constantValue := 0 }]
  methods := #[k14m0]
  instanceTypes := #[]
  staticTypes := #[.long]
  resolved := Array.replicate 37 none
  statics := none }

def pool15 : Array CpInfo := pool [(1, .class_ 2), (0, u "java/lang/Integer"), (16, u "digits"), (0, u "[C"), (46, u "<init>"), (17, u "DigitOnes"), (0, u "[B"), (2, u "DigitTens"), (10, .nameAndType 67 101), (0, u "()V"), (85, u "valueOf"), (0, u "(I)Ljava/lang/Integer;"), (0, .class_ 190), (0, u "java/lang/Integer$IntegerCache"), (0, .fieldref 189 192), (0, .nameAndType 193 194), (0, u "high"), (0, u "I"), (0, .fieldref 189 196), (0, .nameAndType 197 198), (0, u "cache"), (0, u "[Ljava/lang/Integer;"), (0, .methodref 1 200), (0, .nameAndType 67 201), (0, u "(I)V"), (0, .methodref 203 100), (0, .class_ 204), (0, u "java/lang/Number"), (0, .fieldref 1 206), (0, .nameAndType 207 194), (0, u "value"), (94, u "TYPE"), (0, u "Ljava/lang/Class;"), (0, .class_ 305), (0, u "java/lang/Comparable"), (0, .class_ 307), (0, u "java/lang/constant/Constable"), (0, .class_ 309), (0, u "java/lang/constant/ConstantDesc"), (0, u "MIN_VALUE"), (1, u "MAX_VALUE"), (3, u "SIZE"), (1, u "BYTES"), (1, u "serialVersionUID"), (0, u "J")] 131

def k15c0 : Code := { maxStack := 3, maxLocals := 1, code := jdk_33_method_22_code, exceptionTable := #[], attributes := #[] }
def k15m0 : Method := { name := "valueOf", desc := "(I)Ljava/lang/Integer;", sig := { parameters := [.int], returnType := some (.object "java/lang/Integer") }, accessFlags := 9, code := some k15c0 }
def k15c1 : Code := { maxStack := 2, maxLocals := 2, code := jdk_33_method_23_code, exceptionTable := #[], attributes := #[] }
def k15m1 : Method := { name := "<init>", desc := "(I)V", sig := { parameters := [.int], returnType := none }, accessFlags := 1, code := some k15c1 }
/-- java/lang/Integer -/
def k15 : Class := { plain "java/lang/Integer" (some 14) with
  accessFlags := 49
  interfaces := #[5, 4, 11]
  cf := some (fileOf pool15 1 #[.nestMembers #[189]] #[{ accessFlags := 9, nameIndex := 187, descriptorIndex := 188, attributes := #[] }, { accessFlags := 1, nameIndex := 67, descriptorIndex := 201, attributes := #[] }] 49 203 #[304, 306, 308] #[{ accessFlags := 25, nameIndex := 310, descriptorIndex := 194, attributes := #[] }, { accessFlags := 25, nameIndex := 312, descriptorIndex := 194, attributes := #[] }, { accessFlags := 25, nameIndex := 302, descriptorIndex := 303, attributes := #[] }, { accessFlags := 24, nameIndex := 19, descriptorIndex := 20, attributes := #[] }, { accessFlags := 24, nameIndex := 89, descriptorIndex := 86, attributes := #[] }, { accessFlags := 24, nameIndex := 85, descriptorIndex := 86, attributes := #[] }, { accessFlags := 18, nameIndex := 207, descriptorIndex := 194, attributes := #[] }, { accessFlags := 25, nameIndex := 316, descriptorIndex := 194, attributes := #[] }, { accessFlags := 25, nameIndex := 318, descriptorIndex := 194, attributes := #[] }, { accessFlags := 26, nameIndex := 320, descriptorIndex := 321, attributes := #[] }])
  fields := #[{ name := "MIN_VALUE", type := .int, accessFlags := 25, slot := 0, constantValue := 0 }, { name := "MAX_VALUE", type := .int, accessFlags := 25, slot := 1, constantValue := 0 }, { name := "TYPE", type := (.object "java/lang/Class"), accessFlags := 25, slot := 2, constantValue := 0 }, { name := "digits", type := (.array .char), accessFlags := 24, slot := 3, constantValue := 0 }, { name := "DigitTens", type := (.array .byte), accessFlags := 24, slot := 4, constantValue := 0 }, { name := "DigitOnes", type := (.array .byte), accessFlags := 24, slot := 5, constantValue := 0 }, { name := "value", type := .int, accessFlags := 18, slot := 0, constantValue := 0 }, { name := "SIZE", type := .int, accessFlags := 25, slot := 6, constantValue := 0 }, { name := "BYTES", type := .int, accessFlags := 25, slot := 7, constantValue := 0 }, { name := "serialVersionUID", type := .long, accessFlags := 26, slot := 8, constantValue := 0 }]
  methods := #[k15m0, k15m1]
  instanceTypes := #[.int]
  staticTypes := #[.int, .int, (.object "java/lang/Class"), (.array .char), (.array .byte), (.array .byte), .int, .int, .long]
  resolved := Array.replicate 453 none
  statics := none }

def pool16 : Array CpInfo := pool [(2, .class_ 4), (1, u "java/lang/Object"), (0, u "<init>"), (0, u "()V"), (0, .class_ 8), (0, u "java/lang/Integer"), (7, .class_ 18), (1, u "java/lang/Integer$IntegerCache"), (0, u "$assertionsDisabled"), (0, u "Z"), (26, u "high"), (0, u "I"), (8, u "archivedCache"), (0, u "[Ljava/lang/Integer;"), (12, u "cache"), (0, u "low")] 27

def k16m0 : Method := { name := "<init>", desc := "()V", sig := { parameters := [], returnType := none }, accessFlags := 2, code := none }
/-- java/lang/Integer$IntegerCache -/
def k16 : Class := { plain "java/lang/Integer$IntegerCache" (some 0) with
  accessFlags := 48
  interfaces := #[]
  cf := some (fileOf pool16 16 #[.nestHost 7] #[{ accessFlags := 2, nameIndex := 5, descriptorIndex := 6, attributes := #[] }] 48 2 #[] #[{ accessFlags := 24, nameIndex := 72, descriptorIndex := 48, attributes := #[] }, { accessFlags := 24, nameIndex := 47, descriptorIndex := 48, attributes := #[] }, { accessFlags := 24, nameIndex := 71, descriptorIndex := 58, attributes := #[] }, { accessFlags := 8, nameIndex := 57, descriptorIndex := 58, attributes := #[] }, { accessFlags := 4120, nameIndex := 19, descriptorIndex := 20, attributes := #[] }])
  fields := #[{ name := "low", type := .int, accessFlags := 24, slot := 0, constantValue := 0 }, { name := "high", type := .int, accessFlags := 24, slot := 1, constantValue := 0 }, { name := "cache", type := (.array (.object "java/lang/Integer")), accessFlags := 24, slot := 2, constantValue := 0 }, { name := "archivedCache", type := (.array (.object "java/lang/Integer")), accessFlags := 8, slot := 3, constantValue := 0 }, { name := "$assertionsDisabled", type := .boolean, accessFlags := 4120, slot := 4, constantValue := 0 }]
  methods := #[k16m0]
  instanceTypes := #[]
  staticTypes := #[.int, .int, (.array (.object "java/lang/Integer")), (.array (.object "java/lang/Integer")), .boolean]
  resolved := Array.replicate 100 none
  statics := some 1 }

def pool17 : Array CpInfo := pool [(1, u "java/lang/Cloneable"), (0, .class_ 1), (0, u "java/lang/Object"), (0, .class_ 3)] 3

/-- java/lang/Cloneable -/
def k17 : Class := { plain "java/lang/Cloneable" (some 0) with
  accessFlags := 1537
  interfaces := #[]
  cf := some (fileOf pool17 2 #[] #[] 1537 4 #[] #[])
  fields := #[]
  methods := #[]
  instanceTypes := #[]
  staticTypes := #[]
  resolved := Array.replicate 8 none
  statics := none }

/-- the primitive byte -/
def k18 : Class := { plain "byte" none with kind := .primitive 'B', accessFlags := 0x411 }
/-- [B -/
def k19 : Class := { plain "[B" (some 0) with kind := .array 18 .byte, interfaces := #[17, 6], accessFlags := 1041 }

/-- the primitive int -/
def k20 : Class := { plain "int" none with kind := .primitive 'I', accessFlags := 0x411 }
/-- [I -/
def k21 : Class := { plain "[I" (some 0) with kind := .array 20 .int, interfaces := #[17, 6], accessFlags := 1041 }

/-- [Ljava/lang/Integer; -/
def k22 : Class := { plain "[Ljava/lang/Integer;" (some 0) with kind := .array 15 (.object "java/lang/Integer"), interfaces := #[17, 6], accessFlags := 1041 }

def heap : Heap := #[{ cls := 9, slots := #[.ref 259, .ref 260, .ref 261, .ref 262, .ref 263, .ref 264, .ref 265, .ref 266, .ref 267, .ref 268, .ref 269, .ref 270, .ref 271, .null], vm := .statics 9 },
  { cls := 16, slots := #[.int 0, .int 127, .ref 2, .null, .int 0], vm := .statics 16 },
  { cls := 22, slots := #[.ref 3, .ref 4, .ref 5, .ref 6, .ref 7, .ref 8, .ref 9, .ref 10, .ref 11, .ref 12, .ref 13, .ref 14, .ref 15, .ref 16, .ref 17, .ref 18, .ref 19, .ref 20, .ref 21, .ref 22, .ref 23, .ref 24, .ref 25, .ref 26, .ref 27, .ref 28, .ref 29, .ref 30, .ref 31, .ref 32, .ref 33, .ref 34, .ref 35, .ref 36, .ref 37, .ref 38, .ref 39, .ref 40, .ref 41, .ref 42, .ref 43, .ref 44, .ref 45, .ref 46, .ref 47, .ref 48, .ref 49, .ref 50, .ref 51, .ref 52, .ref 53, .ref 54, .ref 55, .ref 56, .ref 57, .ref 58, .ref 59, .ref 60, .ref 61, .ref 62, .ref 63, .ref 64, .ref 65, .ref 66, .ref 67, .ref 68, .ref 69, .ref 70, .ref 71, .ref 72, .ref 73, .ref 74, .ref 75, .ref 76, .ref 77, .ref 78, .ref 79, .ref 80, .ref 81, .ref 82, .ref 83, .ref 84, .ref 85, .ref 86, .ref 87, .ref 88, .ref 89, .ref 90, .ref 91, .ref 92, .ref 93, .ref 94, .ref 95, .ref 96, .ref 97, .ref 98, .ref 99, .ref 100, .ref 101, .ref 102, .ref 103, .ref 104, .ref 105, .ref 106, .ref 107, .ref 108, .ref 109, .ref 110, .ref 111, .ref 112, .ref 113, .ref 114, .ref 115, .ref 116, .ref 117, .ref 118, .ref 119, .ref 120, .ref 121, .ref 122, .ref 123, .ref 124, .ref 125, .ref 126, .ref 127, .ref 128, .ref 129, .ref 130, .ref 131, .ref 132, .ref 133, .ref 134, .ref 135, .ref 136, .ref 137, .ref 138, .ref 139, .ref 140, .ref 141, .ref 142, .ref 143, .ref 144, .ref 145, .ref 146, .ref 147, .ref 148, .ref 149, .ref 150, .ref 151, .ref 152, .ref 153, .ref 154, .ref 155, .ref 156, .ref 157, .ref 158, .ref 159, .ref 160, .ref 161, .ref 162, .ref 163, .ref 164, .ref 165, .ref 166, .ref 167, .ref 168, .ref 169, .ref 170, .ref 171, .ref 172, .ref 173, .ref 174, .ref 175, .ref 176, .ref 177, .ref 178, .ref 179, .ref 180, .ref 181, .ref 182, .ref 183, .ref 184, .ref 185, .ref 186, .ref 187, .ref 188, .ref 189, .ref 190, .ref 191, .ref 192, .ref 193, .ref 194, .ref 195, .ref 196, .ref 197, .ref 198, .ref 199, .ref 200, .ref 201, .ref 202, .ref 203, .ref 204, .ref 205, .ref 206, .ref 207, .ref 208, .ref 209, .ref 210, .ref 211, .ref 212, .ref 213, .ref 214, .ref 215, .ref 216, .ref 217, .ref 218, .ref 219, .ref 220, .ref 221, .ref 222, .ref 223, .ref 224, .ref 225, .ref 226, .ref 227, .ref 228, .ref 229, .ref 230, .ref 231, .ref 232, .ref 233, .ref 234, .ref 235, .ref 236, .ref 237, .ref 238, .ref 239, .ref 240, .ref 241, .ref 242, .ref 243, .ref 244, .ref 245, .ref 246, .ref 247, .ref 248, .ref 249, .ref 250, .ref 251, .ref 252, .ref 253, .ref 254, .ref 255, .ref 256, .ref 257, .ref 258], vm := .none },
  { cls := 15, slots := #[.int (-128)], vm := .none },
  { cls := 15, slots := #[.int (-127)], vm := .none },
  { cls := 15, slots := #[.int (-126)], vm := .none },
  { cls := 15, slots := #[.int (-125)], vm := .none },
  { cls := 15, slots := #[.int (-124)], vm := .none },
  { cls := 15, slots := #[.int (-123)], vm := .none },
  { cls := 15, slots := #[.int (-122)], vm := .none },
  { cls := 15, slots := #[.int (-121)], vm := .none },
  { cls := 15, slots := #[.int (-120)], vm := .none },
  { cls := 15, slots := #[.int (-119)], vm := .none },
  { cls := 15, slots := #[.int (-118)], vm := .none },
  { cls := 15, slots := #[.int (-117)], vm := .none },
  { cls := 15, slots := #[.int (-116)], vm := .none },
  { cls := 15, slots := #[.int (-115)], vm := .none },
  { cls := 15, slots := #[.int (-114)], vm := .none },
  { cls := 15, slots := #[.int (-113)], vm := .none },
  { cls := 15, slots := #[.int (-112)], vm := .none },
  { cls := 15, slots := #[.int (-111)], vm := .none },
  { cls := 15, slots := #[.int (-110)], vm := .none },
  { cls := 15, slots := #[.int (-109)], vm := .none },
  { cls := 15, slots := #[.int (-108)], vm := .none },
  { cls := 15, slots := #[.int (-107)], vm := .none },
  { cls := 15, slots := #[.int (-106)], vm := .none },
  { cls := 15, slots := #[.int (-105)], vm := .none },
  { cls := 15, slots := #[.int (-104)], vm := .none },
  { cls := 15, slots := #[.int (-103)], vm := .none },
  { cls := 15, slots := #[.int (-102)], vm := .none },
  { cls := 15, slots := #[.int (-101)], vm := .none },
  { cls := 15, slots := #[.int (-100)], vm := .none },
  { cls := 15, slots := #[.int (-99)], vm := .none },
  { cls := 15, slots := #[.int (-98)], vm := .none },
  { cls := 15, slots := #[.int (-97)], vm := .none },
  { cls := 15, slots := #[.int (-96)], vm := .none },
  { cls := 15, slots := #[.int (-95)], vm := .none },
  { cls := 15, slots := #[.int (-94)], vm := .none },
  { cls := 15, slots := #[.int (-93)], vm := .none },
  { cls := 15, slots := #[.int (-92)], vm := .none },
  { cls := 15, slots := #[.int (-91)], vm := .none },
  { cls := 15, slots := #[.int (-90)], vm := .none },
  { cls := 15, slots := #[.int (-89)], vm := .none },
  { cls := 15, slots := #[.int (-88)], vm := .none },
  { cls := 15, slots := #[.int (-87)], vm := .none },
  { cls := 15, slots := #[.int (-86)], vm := .none },
  { cls := 15, slots := #[.int (-85)], vm := .none },
  { cls := 15, slots := #[.int (-84)], vm := .none },
  { cls := 15, slots := #[.int (-83)], vm := .none },
  { cls := 15, slots := #[.int (-82)], vm := .none },
  { cls := 15, slots := #[.int (-81)], vm := .none },
  { cls := 15, slots := #[.int (-80)], vm := .none },
  { cls := 15, slots := #[.int (-79)], vm := .none },
  { cls := 15, slots := #[.int (-78)], vm := .none },
  { cls := 15, slots := #[.int (-77)], vm := .none },
  { cls := 15, slots := #[.int (-76)], vm := .none },
  { cls := 15, slots := #[.int (-75)], vm := .none },
  { cls := 15, slots := #[.int (-74)], vm := .none },
  { cls := 15, slots := #[.int (-73)], vm := .none },
  { cls := 15, slots := #[.int (-72)], vm := .none },
  { cls := 15, slots := #[.int (-71)], vm := .none },
  { cls := 15, slots := #[.int (-70)], vm := .none },
  { cls := 15, slots := #[.int (-69)], vm := .none },
  { cls := 15, slots := #[.int (-68)], vm := .none },
  { cls := 15, slots := #[.int (-67)], vm := .none },
  { cls := 15, slots := #[.int (-66)], vm := .none },
  { cls := 15, slots := #[.int (-65)], vm := .none },
  { cls := 15, slots := #[.int (-64)], vm := .none },
  { cls := 15, slots := #[.int (-63)], vm := .none },
  { cls := 15, slots := #[.int (-62)], vm := .none },
  { cls := 15, slots := #[.int (-61)], vm := .none },
  { cls := 15, slots := #[.int (-60)], vm := .none },
  { cls := 15, slots := #[.int (-59)], vm := .none },
  { cls := 15, slots := #[.int (-58)], vm := .none },
  { cls := 15, slots := #[.int (-57)], vm := .none },
  { cls := 15, slots := #[.int (-56)], vm := .none },
  { cls := 15, slots := #[.int (-55)], vm := .none },
  { cls := 15, slots := #[.int (-54)], vm := .none },
  { cls := 15, slots := #[.int (-53)], vm := .none },
  { cls := 15, slots := #[.int (-52)], vm := .none },
  { cls := 15, slots := #[.int (-51)], vm := .none },
  { cls := 15, slots := #[.int (-50)], vm := .none },
  { cls := 15, slots := #[.int (-49)], vm := .none },
  { cls := 15, slots := #[.int (-48)], vm := .none },
  { cls := 15, slots := #[.int (-47)], vm := .none },
  { cls := 15, slots := #[.int (-46)], vm := .none },
  { cls := 15, slots := #[.int (-45)], vm := .none },
  { cls := 15, slots := #[.int (-44)], vm := .none },
  { cls := 15, slots := #[.int (-43)], vm := .none },
  { cls := 15, slots := #[.int (-42)], vm := .none },
  { cls := 15, slots := #[.int (-41)], vm := .none },
  { cls := 15, slots := #[.int (-40)], vm := .none },
  { cls := 15, slots := #[.int (-39)], vm := .none },
  { cls := 15, slots := #[.int (-38)], vm := .none },
  { cls := 15, slots := #[.int (-37)], vm := .none },
  { cls := 15, slots := #[.int (-36)], vm := .none },
  { cls := 15, slots := #[.int (-35)], vm := .none },
  { cls := 15, slots := #[.int (-34)], vm := .none },
  { cls := 15, slots := #[.int (-33)], vm := .none },
  { cls := 15, slots := #[.int (-32)], vm := .none },
  { cls := 15, slots := #[.int (-31)], vm := .none },
  { cls := 15, slots := #[.int (-30)], vm := .none },
  { cls := 15, slots := #[.int (-29)], vm := .none },
  { cls := 15, slots := #[.int (-28)], vm := .none },
  { cls := 15, slots := #[.int (-27)], vm := .none },
  { cls := 15, slots := #[.int (-26)], vm := .none },
  { cls := 15, slots := #[.int (-25)], vm := .none },
  { cls := 15, slots := #[.int (-24)], vm := .none },
  { cls := 15, slots := #[.int (-23)], vm := .none },
  { cls := 15, slots := #[.int (-22)], vm := .none },
  { cls := 15, slots := #[.int (-21)], vm := .none },
  { cls := 15, slots := #[.int (-20)], vm := .none },
  { cls := 15, slots := #[.int (-19)], vm := .none },
  { cls := 15, slots := #[.int (-18)], vm := .none },
  { cls := 15, slots := #[.int (-17)], vm := .none },
  { cls := 15, slots := #[.int (-16)], vm := .none },
  { cls := 15, slots := #[.int (-15)], vm := .none },
  { cls := 15, slots := #[.int (-14)], vm := .none },
  { cls := 15, slots := #[.int (-13)], vm := .none },
  { cls := 15, slots := #[.int (-12)], vm := .none },
  { cls := 15, slots := #[.int (-11)], vm := .none },
  { cls := 15, slots := #[.int (-10)], vm := .none },
  { cls := 15, slots := #[.int (-9)], vm := .none },
  { cls := 15, slots := #[.int (-8)], vm := .none },
  { cls := 15, slots := #[.int (-7)], vm := .none },
  { cls := 15, slots := #[.int (-6)], vm := .none },
  { cls := 15, slots := #[.int (-5)], vm := .none },
  { cls := 15, slots := #[.int (-4)], vm := .none },
  { cls := 15, slots := #[.int (-3)], vm := .none },
  { cls := 15, slots := #[.int (-2)], vm := .none },
  { cls := 15, slots := #[.int (-1)], vm := .none },
  { cls := 15, slots := #[.int 0], vm := .none },
  { cls := 15, slots := #[.int 1], vm := .none },
  { cls := 15, slots := #[.int 2], vm := .none },
  { cls := 15, slots := #[.int 3], vm := .none },
  { cls := 15, slots := #[.int 4], vm := .none },
  { cls := 15, slots := #[.int 5], vm := .none },
  { cls := 15, slots := #[.int 6], vm := .none },
  { cls := 15, slots := #[.int 7], vm := .none },
  { cls := 15, slots := #[.int 8], vm := .none },
  { cls := 15, slots := #[.int 9], vm := .none },
  { cls := 15, slots := #[.int 10], vm := .none },
  { cls := 15, slots := #[.int 11], vm := .none },
  { cls := 15, slots := #[.int 12], vm := .none },
  { cls := 15, slots := #[.int 13], vm := .none },
  { cls := 15, slots := #[.int 14], vm := .none },
  { cls := 15, slots := #[.int 15], vm := .none },
  { cls := 15, slots := #[.int 16], vm := .none },
  { cls := 15, slots := #[.int 17], vm := .none },
  { cls := 15, slots := #[.int 18], vm := .none },
  { cls := 15, slots := #[.int 19], vm := .none },
  { cls := 15, slots := #[.int 20], vm := .none },
  { cls := 15, slots := #[.int 21], vm := .none },
  { cls := 15, slots := #[.int 22], vm := .none },
  { cls := 15, slots := #[.int 23], vm := .none },
  { cls := 15, slots := #[.int 24], vm := .none },
  { cls := 15, slots := #[.int 25], vm := .none },
  { cls := 15, slots := #[.int 26], vm := .none },
  { cls := 15, slots := #[.int 27], vm := .none },
  { cls := 15, slots := #[.int 28], vm := .none },
  { cls := 15, slots := #[.int 29], vm := .none },
  { cls := 15, slots := #[.int 30], vm := .none },
  { cls := 15, slots := #[.int 31], vm := .none },
  { cls := 15, slots := #[.int 32], vm := .none },
  { cls := 15, slots := #[.int 33], vm := .none },
  { cls := 15, slots := #[.int 34], vm := .none },
  { cls := 15, slots := #[.int 35], vm := .none },
  { cls := 15, slots := #[.int 36], vm := .none },
  { cls := 15, slots := #[.int 37], vm := .none },
  { cls := 15, slots := #[.int 38], vm := .none },
  { cls := 15, slots := #[.int 39], vm := .none },
  { cls := 15, slots := #[.int 40], vm := .none },
  { cls := 15, slots := #[.int 41], vm := .none },
  { cls := 15, slots := #[.int 42], vm := .none },
  { cls := 15, slots := #[.int 43], vm := .none },
  { cls := 15, slots := #[.int 44], vm := .none },
  { cls := 15, slots := #[.int 45], vm := .none },
  { cls := 15, slots := #[.int 46], vm := .none },
  { cls := 15, slots := #[.int 47], vm := .none },
  { cls := 15, slots := #[.int 48], vm := .none },
  { cls := 15, slots := #[.int 49], vm := .none },
  { cls := 15, slots := #[.int 50], vm := .none },
  { cls := 15, slots := #[.int 51], vm := .none },
  { cls := 15, slots := #[.int 52], vm := .none },
  { cls := 15, slots := #[.int 53], vm := .none },
  { cls := 15, slots := #[.int 54], vm := .none },
  { cls := 15, slots := #[.int 55], vm := .none },
  { cls := 15, slots := #[.int 56], vm := .none },
  { cls := 15, slots := #[.int 57], vm := .none },
  { cls := 15, slots := #[.int 58], vm := .none },
  { cls := 15, slots := #[.int 59], vm := .none },
  { cls := 15, slots := #[.int 60], vm := .none },
  { cls := 15, slots := #[.int 61], vm := .none },
  { cls := 15, slots := #[.int 62], vm := .none },
  { cls := 15, slots := #[.int 63], vm := .none },
  { cls := 15, slots := #[.int 64], vm := .none },
  { cls := 15, slots := #[.int 65], vm := .none },
  { cls := 15, slots := #[.int 66], vm := .none },
  { cls := 15, slots := #[.int 67], vm := .none },
  { cls := 15, slots := #[.int 68], vm := .none },
  { cls := 15, slots := #[.int 69], vm := .none },
  { cls := 15, slots := #[.int 70], vm := .none },
  { cls := 15, slots := #[.int 71], vm := .none },
  { cls := 15, slots := #[.int 72], vm := .none },
  { cls := 15, slots := #[.int 73], vm := .none },
  { cls := 15, slots := #[.int 74], vm := .none },
  { cls := 15, slots := #[.int 75], vm := .none },
  { cls := 15, slots := #[.int 76], vm := .none },
  { cls := 15, slots := #[.int 77], vm := .none },
  { cls := 15, slots := #[.int 78], vm := .none },
  { cls := 15, slots := #[.int 79], vm := .none },
  { cls := 15, slots := #[.int 80], vm := .none },
  { cls := 15, slots := #[.int 81], vm := .none },
  { cls := 15, slots := #[.int 82], vm := .none },
  { cls := 15, slots := #[.int 83], vm := .none },
  { cls := 15, slots := #[.int 84], vm := .none },
  { cls := 15, slots := #[.int 85], vm := .none },
  { cls := 15, slots := #[.int 86], vm := .none },
  { cls := 15, slots := #[.int 87], vm := .none },
  { cls := 15, slots := #[.int 88], vm := .none },
  { cls := 15, slots := #[.int 89], vm := .none },
  { cls := 15, slots := #[.int 90], vm := .none },
  { cls := 15, slots := #[.int 91], vm := .none },
  { cls := 15, slots := #[.int 92], vm := .none },
  { cls := 15, slots := #[.int 93], vm := .none },
  { cls := 15, slots := #[.int 94], vm := .none },
  { cls := 15, slots := #[.int 95], vm := .none },
  { cls := 15, slots := #[.int 96], vm := .none },
  { cls := 15, slots := #[.int 97], vm := .none },
  { cls := 15, slots := #[.int 98], vm := .none },
  { cls := 15, slots := #[.int 99], vm := .none },
  { cls := 15, slots := #[.int 100], vm := .none },
  { cls := 15, slots := #[.int 101], vm := .none },
  { cls := 15, slots := #[.int 102], vm := .none },
  { cls := 15, slots := #[.int 103], vm := .none },
  { cls := 15, slots := #[.int 104], vm := .none },
  { cls := 15, slots := #[.int 105], vm := .none },
  { cls := 15, slots := #[.int 106], vm := .none },
  { cls := 15, slots := #[.int 107], vm := .none },
  { cls := 15, slots := #[.int 108], vm := .none },
  { cls := 15, slots := #[.int 109], vm := .none },
  { cls := 15, slots := #[.int 110], vm := .none },
  { cls := 15, slots := #[.int 111], vm := .none },
  { cls := 15, slots := #[.int 112], vm := .none },
  { cls := 15, slots := #[.int 113], vm := .none },
  { cls := 15, slots := #[.int 114], vm := .none },
  { cls := 15, slots := #[.int 115], vm := .none },
  { cls := 15, slots := #[.int 116], vm := .none },
  { cls := 15, slots := #[.int 117], vm := .none },
  { cls := 15, slots := #[.int 118], vm := .none },
  { cls := 15, slots := #[.int 119], vm := .none },
  { cls := 15, slots := #[.int 120], vm := .none },
  { cls := 15, slots := #[.int 121], vm := .none },
  { cls := 15, slots := #[.int 122], vm := .none },
  { cls := 15, slots := #[.int 123], vm := .none },
  { cls := 15, slots := #[.int 124], vm := .none },
  { cls := 15, slots := #[.int 125], vm := .none },
  { cls := 15, slots := #[.int 126], vm := .none },
  { cls := 15, slots := #[.int 127], vm := .none },
  { cls := 9, slots := #[.null, .int 0, .int 0, .null], vm := .none },
  { cls := 9, slots := #[.null, .int 1, .int 0, .null], vm := .none },
  { cls := 9, slots := #[.null, .int 2, .int 0, .null], vm := .none },
  { cls := 9, slots := #[.null, .int 3, .int 0, .null], vm := .none },
  { cls := 9, slots := #[.null, .int 4, .int 0, .null], vm := .none },
  { cls := 9, slots := #[.null, .int 5, .int 0, .null], vm := .none },
  { cls := 9, slots := #[.null, .int 6, .int 0, .null], vm := .none },
  { cls := 9, slots := #[.null, .int 7, .int 0, .null], vm := .none },
  { cls := 9, slots := #[.null, .int 8, .int 0, .null], vm := .none },
  { cls := 9, slots := #[.null, .int 9, .int 0, .null], vm := .none },
  { cls := 9, slots := #[.null, .int 10, .int 0, .null], vm := .none },
  { cls := 9, slots := #[.null, .int 11, .int 0, .null], vm := .none },
  { cls := 9, slots := #[.null, .int 12, .int 0, .null], vm := .none }]
def classes : Array Class := #[k0, k1, k2, k3, k4, k5, k6, k7, k8, k9, k10, k11, k12, k13, k14, k15, k16, k17, k18, k19, k20, k21, k22]
def interned : List (Array UInt16 × Addr) := []
def slotsUsed : Nat := 583
def theMethod : MethodId := ⟨1, 2⟩
def args0 : Array Value := #[.int 5, .int 1, .int 3, .long 5, .long 2, .long 7]
def aboutOver (below : List Frame) : State where
  vm := { classes := classes, interned := interned.toArray }
  heap := heap
  slotsUsed := slotsUsed
  threads := #[{ frames := .invoking theMethod args0 :: below }]
def below0 : List Frame := [.native { method := ⟨0, 0⟩, args := #[] }]
def about1 : State := aboutOver below0
def p0 : Program := .bare "" "" ""
def e0 : Env := launch0.env 0 0 0
theorem w_frames : about1.frames = Frame.invoking theMethod args0 :: below0 := rfl
set_option maxRecDepth 65536 in
theorem w_args : argsFit about1.vm theMethod args0 = true := by decide +kernel
set_option maxRecDepth 65536 in
theorem w_heap : heapFits about1 = true := by decide +kernel
set_option maxRecDepth 65536 in
theorem w_runnable : about1.curStatus? = some .runnable := by decide +kernel
set_option maxRecDepth 65536 in
theorem w_alone : about1.alone = true := by decide +kernel
set_option maxRecDepth 65536 in
theorem w_named : about1.methodNamed? x = some theMethod := by decide +kernel
set_option maxRecDepth 65536 in
theorem w_hears : about1.hears theMethod below0 = true := by decide +kernel
set_option maxRecDepth 65536 in
theorem w_ripe : about1.ripe theMethod args0 below0 = true := by decide +kernel
theorem w_running : about1.status = .running := rfl
set_option maxRecDepth 65536 in
theorem w_room : about1.hasRoom e0.platform room_1 = true :=
  launch0.hasRoom_least _ room_1 (by decide +kernel) (by decide +kernel) (by decide +kernel) (by decide +kernel) (by decide +kernel) (by decide +kernel)
theorem allAtoms_all (ts : List Jvm.Cond) (a : Array Jvm.Value) (st : Jvm.State) : (allAtoms ts).before a st = ts.all (fun c => c.before a st) := by
  induction ts with
  | nil => rfl
  | cons c t ih =>
    show (Jvm.Cond.and c (allAtoms t)).before a st = _
    rw [Jvm.Cond.before_and, ih, List.all_cons]
def words1 : List Jvm.Cond := Jvm.Cond.code x code maxLocals ret :: tables_1
/-- a 'code' word, met by the world's own term for the bytes: nothing is compared byte by byte -/
theorem code_word {y : MethodName} {bytes : ByteArray} {mx : Nat} {rt : Option FieldType} {a : Array Value} {s : State} {m : MethodId} {meth : Method} {c : Code} (h1 : s.methodNamed? y = some m) (h2 : s.vm.method? m = some meth) (h3 : meth.code = some c) (h4 : c.code = bytes)
    (h5 : (c.maxLocals == mx && c.exceptionTable.isEmpty && decide (c.maxStack ≤ mostOperands) && decide (meth.sig.returnType = rt) && !meth.locks && decide (parseMethodDescriptor y.desc = some meth.sig)) = true) : (Jvm.Cond.code y bytes mx rt).before a s = true := by
  simp only [Bool.and_eq_true, beq_iff_eq, Bool.not_eq_true', decide_eq_true_eq] at h5
  obtain ⟨⟨⟨⟨⟨g1, g2⟩, g3⟩, g4⟩, g5⟩, g6⟩ := h5
  simp [Cond.before, Cond.holds, Cond.value, h1, h2, h3, h4, g1, g2, g3, g4, g5, g6]
def isCode : Jvm.Cond → Bool
  | .code _ _ _ _ => true
  | _ => false
theorem all_split {L : List Jvm.Cond} {P : Jvm.Cond → Bool} (h1 : L.all (fun c => isCode c || P c) = true) (h2 : ∀ c ∈ L.filter isCode, P c = true) : L.all P = true := by
  refine List.all_eq_true.mpr fun c hc => ?_
  have h := List.all_eq_true.mp h1 c hc
  rcases Bool.eq_false_or_eq_true (isCode c) with hi | hi
  · exact h2 c (List.mem_filter.mpr ⟨hc, hi⟩)
  · simpa [hi] using h
set_option maxRecDepth 65536 in
theorem w_c0 : (Jvm.Cond.code x code maxLocals ret).before args0 about1 = true := code_word (m := ⟨1, 2⟩) (meth := k1m2) (c := k1c2) (by decide +kernel) rfl rfl rfl (by decide +kernel)
set_option maxRecDepth 65536 in
theorem w_c1 : (Jvm.Cond.code ({ cls := "com/example/procord/procord/lock/LockMessageEqualsPinLaw", name := "kindOf", desc := "(I)Lcom/example/procord/procord/lock/LockMessage$Kind;" } : Jvm.MethodName) method_2_code (1 : Nat) (Option.some (Jvm.ClassFile.FieldType.object "com/example/procord/procord/lock/LockMessage$Kind"))).before args0 about1 = true := code_word (m := ⟨1, 1⟩) (meth := k1m1) (c := k1c1) (by decide +kernel) rfl rfl rfl (by decide +kernel)
set_option maxRecDepth 65536 in
theorem w_c2 : (Jvm.Cond.code ({ cls := "com/example/procord/procord/lock/LockMessage", name := "<init>", desc := "(IILcom/example/procord/procord/lock/LockMessage$Kind;JJJJJ)V" } : Jvm.MethodName) prog_36_method_4_code (14 : Nat) (Option.none : Option Jvm.ClassFile.FieldType)).before args0 about1 = true := code_word (m := ⟨3, 0⟩) (meth := k3m0) (c := k3c0) (by decide +kernel) rfl rfl rfl (by decide +kernel)
set_option maxRecDepth 65536 in
theorem w_c3 : (Jvm.Cond.code ({ cls := "java/lang/Object", name := "<init>", desc := "()V" } : Jvm.MethodName) object_method_1_code (1 : Nat) (Option.none : Option Jvm.ClassFile.FieldType)).before args0 about1 = true := code_word (m := ⟨0, 0⟩) (meth := k0m0) (c := k0c0) (by decide +kernel) rfl rfl rfl (by decide +kernel)
set_option maxRecDepth 65536 in
theorem w_c4 : (Jvm.Cond.code ({ cls := "com/example/procord/procord/message/Message", name := "checkEnds", desc := "(II)V" } : Jvm.MethodName) prog_47_method_5_code (2 : Nat) (Option.none : Option Jvm.ClassFile.FieldType)).before args0 about1 = true := code_word (m := ⟨2, 0⟩) (meth := k2m0) (c := k2c0) (by decide +kernel) rfl rfl rfl (by decide +kernel)
set_option maxRecDepth 65536 in
theorem w_c5 : (Jvm.Cond.code ({ cls := "java/util/Objects", name := "requireNonNull", desc := "(Ljava/lang/Object;Ljava/lang/String;)Ljava/lang/Object;" } : Jvm.MethodName) jdk_31_method_11_code (2 : Nat) (Option.some (Jvm.ClassFile.FieldType.object "java/lang/Object"))).before args0 about1 = true := code_word (m := ⟨13, 1⟩) (meth := k13m1) (c := k13c1) (by decide +kernel) rfl rfl rfl (by decide +kernel)
set_option maxRecDepth 65536 in
theorem w_c6 : (Jvm.Cond.code ({ cls := "com/example/procord/procord/lock/LockMessage", name := "equals", desc := "(Ljava/lang/Object;)Z" } : Jvm.MethodName) prog_36_method_14_code (3 : Nat) (Option.some Jvm.ClassFile.FieldType.boolean)).before args0 about1 = true := code_word (m := ⟨3, 1⟩) (meth := k3m1) (c := k3c1) (by decide +kernel) rfl rfl rfl (by decide +kernel)
set_option maxRecDepth 65536 in
theorem w_c7 : (Jvm.Cond.code ({ cls := "java/lang/Integer", name := "valueOf", desc := "(I)Ljava/lang/Integer;" } : Jvm.MethodName) jdk_33_method_22_code (1 : Nat) (Option.some (Jvm.ClassFile.FieldType.object "java/lang/Integer"))).before args0 about1 = true := code_word (m := ⟨15, 0⟩) (meth := k15m0) (c := k15c0) (by decide +kernel) rfl rfl rfl (by decide +kernel)
set_option maxRecDepth 65536 in
theorem w_c8 : (Jvm.Cond.code ({ cls := "java/lang/Integer", name := "<init>", desc := "(I)V" } : Jvm.MethodName) jdk_33_method_23_code (2 : Nat) (Option.none : Option Jvm.ClassFile.FieldType)).before args0 about1 = true := code_word (m := ⟨15, 1⟩) (meth := k15m1) (c := k15c1) (by decide +kernel) rfl rfl rfl (by decide +kernel)
set_option maxRecDepth 65536 in
theorem w_c9 : (Jvm.Cond.code ({ cls := "java/lang/Number", name := "<init>", desc := "()V" } : Jvm.MethodName) jdk_18_method_1_code (1 : Nat) (Option.none : Option Jvm.ClassFile.FieldType)).before args0 about1 = true := code_word (m := ⟨14, 0⟩) (meth := k14m0) (c := k14c0) (by decide +kernel) rfl rfl rfl (by decide +kernel)
def codes1 : List Jvm.Cond := [Jvm.Cond.code x code maxLocals ret, Jvm.Cond.code ({ cls := "com/example/procord/procord/lock/LockMessageEqualsPinLaw", name := "kindOf", desc := "(I)Lcom/example/procord/procord/lock/LockMessage$Kind;" } : Jvm.MethodName) method_2_code (1 : Nat) (Option.some (Jvm.ClassFile.FieldType.object "com/example/procord/procord/lock/LockMessage$Kind")), Jvm.Cond.code ({ cls := "com/example/procord/procord/lock/LockMessage", name := "<init>", desc := "(IILcom/example/procord/procord/lock/LockMessage$Kind;JJJJJ)V" } : Jvm.MethodName) prog_36_method_4_code (14 : Nat) (Option.none : Option Jvm.ClassFile.FieldType), Jvm.Cond.code ({ cls := "java/lang/Object", name := "<init>", desc := "()V" } : Jvm.MethodName) object_method_1_code (1 : Nat) (Option.none : Option Jvm.ClassFile.FieldType), Jvm.Cond.code ({ cls := "com/example/procord/procord/message/Message", name := "checkEnds", desc := "(II)V" } : Jvm.MethodName) prog_47_method_5_code (2 : Nat) (Option.none : Option Jvm.ClassFile.FieldType), Jvm.Cond.code ({ cls := "java/util/Objects", name := "requireNonNull", desc := "(Ljava/lang/Object;Ljava/lang/String;)Ljava/lang/Object;" } : Jvm.MethodName) jdk_31_method_11_code (2 : Nat) (Option.some (Jvm.ClassFile.FieldType.object "java/lang/Object")), Jvm.Cond.code ({ cls := "com/example/procord/procord/lock/LockMessage", name := "equals", desc := "(Ljava/lang/Object;)Z" } : Jvm.MethodName) prog_36_method_14_code (3 : Nat) (Option.some Jvm.ClassFile.FieldType.boolean), Jvm.Cond.code ({ cls := "java/lang/Integer", name := "valueOf", desc := "(I)Ljava/lang/Integer;" } : Jvm.MethodName) jdk_33_method_22_code (1 : Nat) (Option.some (Jvm.ClassFile.FieldType.object "java/lang/Integer")), Jvm.Cond.code ({ cls := "java/lang/Integer", name := "<init>", desc := "(I)V" } : Jvm.MethodName) jdk_33_method_23_code (2 : Nat) (Option.none : Option Jvm.ClassFile.FieldType), Jvm.Cond.code ({ cls := "java/lang/Number", name := "<init>", desc := "()V" } : Jvm.MethodName) jdk_18_method_1_code (1 : Nat) (Option.none : Option Jvm.ClassFile.FieldType)]
set_option maxRecDepth 65536 in
theorem codes_eq : words1.filter isCode = codes1 := rfl
theorem w_codes : ∀ c ∈ words1.filter isCode, c.before args0 about1 = true := by
  rw [codes_eq]
  intro c hc
  simp only [codes1, List.mem_cons, List.not_mem_nil, or_false] at hc
  rcases hc with rfl | rfl | rfl | rfl | rfl | rfl | rfl | rfl | rfl | rfl
  · exact w_c0
  · exact w_c1
  · exact w_c2
  · exact w_c3
  · exact w_c4
  · exact w_c5
  · exact w_c6
  · exact w_c7
  · exact w_c8
  · exact w_c9
set_option maxRecDepth 65536 in
theorem w_t1 : (words1.take 24).all (fun c => isCode c || c.before args0 about1) = true := by decide +kernel
set_option maxRecDepth 65536 in
theorem w_t2 : ((words1.drop 24).take 24).all (fun c => isCode c || c.before args0 about1) = true := by decide +kernel
set_option maxRecDepth 65536 in
theorem w_t3 : (((words1.drop 24).drop 24).take 24).all (fun c => isCode c || c.before args0 about1) = true := by decide +kernel
set_option maxRecDepth 65536 in
theorem w_t4 : ((((words1.drop 24).drop 24).drop 24).take 24).all (fun c => isCode c || c.before args0 about1) = true := by decide +kernel
set_option maxRecDepth 65536 in
theorem w_t5 : ((((words1.drop 24).drop 24).drop 24).drop 24).all (fun c => isCode c || c.before args0 about1) = true := by decide +kernel
theorem w_tables : (allAtoms (Jvm.Cond.code x code maxLocals ret :: tables_1)).before args0 about1 = true := by
  rw [allAtoms_all]
  show words1.all (fun c => c.before args0 about1) = true
  refine all_split ?_ w_codes
  rw [← List.take_append_drop 24 words1, List.all_append, w_t1, ← List.take_append_drop 24 (words1.drop 24), List.all_append, w_t2, ← List.take_append_drop 24 ((words1.drop 24).drop 24), List.all_append, w_t3, ← List.take_append_drop 24 (((words1.drop 24).drop 24).drop 24), List.all_append, w_t4, w_t5]
  rfl
set_option maxRecDepth 65536 in
theorem w_rest : rest_1_c.before args0 about1 = true := by decide +kernel
set_option maxRecDepth 65536 in
theorem w_case : (Jvm.Cond.and given_1 narrow_1).before args0 about1 = true := by decide +kernel
theorem w_applies : (headSpec (Jvm.Cond.code x code maxLocals ret :: tables_1) room_1).applies x e0.platform about1 = true :=
  (Spec.applies_iff w_frames).mpr ⟨w_running, w_runnable, w_alone, w_named, w_hears, w_ripe, w_room, w_tables⟩
theorem atStart : AtStart classFile x code maxLocals ret World_1 tables_1 room_1 Calls_1 rest_1 Pre_1 launch0 p0 e0 about1 theMethod args0 below0 :=
  ⟨lists_1, trivial, launch0.admits_env _ _ _, launch0.least_env, fairChoices_fair.cas, fairChoices_fair.clock, w_frames, w_args, w_heap, w_applies, trivial, w_rest, w_case⟩
end start1
theorem witness_1 : WitnessClaimed_1 := ⟨start1.p0, start1.e0, start1.about1, start1.theMethod, start1.args0, start1.below0, start1.atStart⟩
end Jvm.Pilot.@@N@@
