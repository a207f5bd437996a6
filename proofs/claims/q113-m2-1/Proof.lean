import JvmDerived
import JvmDerived.Pilot.@@N@@Statement
import JvmDerived.Pilot.@@N@@Code
set_option linter.unusedVariables false
set_option linter.unusedSimpArgs false
namespace Jvm.Pilot.@@N@@
open Jvm Jvm.ClassFile Sem Op Lib Jvm.Free Jvm.Stand Jvm.LawKit Jvm.RoadKit Bundle Jvm.Pilot.@@N@@.Jvm.D
/-- the run stands at T' as it stood at T: the heap is the same -/
def Nx {p : Program} {l : Launch} {e : Env} {R : Room} {s : State} {m : MethodId} {args : Array Value} {below : List Frame} {meth : Method} {c : Code} {T : State} {locs : List Loc} {cells slots : Nat} (X : Stand p l e R s m args below meth c T locs cells slots) (T' : State) : Prop := Stand p l e R s m args below meth c T' locs cells slots ∧ T'.heap = T.heap
theorem lq_eq {x y : Int64} (h : x = y) : lcmpW x y = 0 := (lcW x y).trans ((lc_eq x y).mpr h)
theorem lq_ne {x y : Int64} (h : ¬ x = y) : ¬ lcmpW x y = 0 := fun q => h ((lc_eq x y).mp ((lcW x y).symm.trans q))
theorem lq_lt {x y : Int64} (h : x < y) : lcmpW x y < 0 := by rw [lcW]; exact (lc_lt x y).mpr h
theorem lq_nlt {x y : Int64} (h : ¬ x < y) : ¬ lcmpW x y < 0 := by rw [lcW]; exact fun q => h ((lc_lt x y).mp q)
theorem lq_gt {x y : Int64} (h : y < x) : 0 < lcmpW x y := by rw [lcW]; exact (lc_gt x y).mpr h
theorem lq_ngt {x y : Int64} (h : ¬ y < x) : ¬ 0 < lcmpW x y := by rw [lcW]; exact fun q => h ((lc_gt x y).mp q)
theorem own_eqI {args : Array Value} {first s : State} {o : Option Outcome} {idx : List Nat} {t : Term} {k : Int32} (h : (Jvm.Cond.eq t (.int k)).value args first o s idx = some true) : t.eval args first o idx s = some (.int k) := by
  simp only [Cond.value, Term.eval] at h
  cases ht : t.eval args first o idx s with
  | none => simp [ht] at h
  | some x => cases x <;> simp [ht] at h ⊢; exact h
theorem own_eqL {args : Array Value} {first s : State} {o : Option Outcome} {idx : List Nat} {t : Term} {k : Int64} (h : (Jvm.Cond.eq t (.long k)).value args first o s idx = some true) : t.eval args first o idx s = some (.long k) := by
  simp only [Cond.value, Term.eval] at h
  cases ht : t.eval args first o idx s with
  | none => simp [ht] at h
  | some x => cases x <;> simp [ht] at h ⊢; exact h
abbrev jv (x : Int64) : Slot := .val (.long x)
theorem y_iloadN {tb : Tables} [Ours tb] {e : Env} {below : List Frame} {T target : State} {m : MethodId} {c : Code} (h : At T m c below) (hx : tb.exec = Jvm.exec) {pc pc' : Nat} {L : Array Slot} {S : List Value} {k : Fin 4} {v : Int32} (hd : decode c.code pc = .ok (.iload_n k, 1)) (hl : L[k.val]? = some (.val (.int v))) (hp : pc + 1 = pc') (hr : Steps tb e below (T.setTop (mkF m pc' L (.int v :: S))) target) : Steps tb e below (T.setTop (mkF m pc L S)) target := by subst hp; exact XS.iloadN h hx rfl hd hl hr
theorem y_lloadN {tb : Tables} [Ours tb] {e : Env} {below : List Frame} {T target : State} {m : MethodId} {c : Code} (h : At T m c below) (hx : tb.exec = Jvm.exec) {pc pc' : Nat} {L : Array Slot} {S : List Value} {k : Fin 4} {v : Int64} (hd : decode c.code pc = .ok (.lload_n k, 1)) (hl : L[k.val]? = some (.val (.long v))) (hp : pc + 1 = pc') (hr : Steps tb e below (T.setTop (mkF m pc' L (.long v :: S))) target) : Steps tb e below (T.setTop (mkF m pc L S)) target := by subst hp; exact XS.lloadN h hx rfl hd hl hr
theorem y_aloadN {tb : Tables} [Ours tb] {e : Env} {below : List Frame} {T target : State} {m : MethodId} {c : Code} (h : At T m c below) (hx : tb.exec = Jvm.exec) {pc pc' : Nat} {L : Array Slot} {S : List Value} {k : Fin 4} {v : Value} (hd : decode c.code pc = .ok (.aload_n k, 1)) (hl : L[k.val]? = some (.val v)) (hv : v.isRef = true) (hp : pc + 1 = pc') (hr : Steps tb e below (T.setTop (mkF m pc' L (v :: S))) target) : Steps tb e below (T.setTop (mkF m pc L S)) target := by subst hp; exact XS.aloadN h hx rfl hd hl hv hr
theorem y_istoreN {tb : Tables} [Ours tb] {e : Env} {below : List Frame} {T target : State} {m : MethodId} {c : Code} (h : At T m c below) (hx : tb.exec = Jvm.exec) {pc pc' : Nat} {L : Array Slot} {S : List Value} {k : Fin 4} {v : Int32} {l' : Array Slot} (hd : decode c.code pc = .ok (.istore_n k, 1)) (hl : storeLocals L k.val (.int v) = some l') (hp : pc + 1 = pc') (hr : Steps tb e below (T.setTop (mkF m pc' l' S)) target) : Steps tb e below (T.setTop (mkF m pc L (.int v :: S))) target := by subst hp; exact XS.istoreN h hx rfl hd rfl hl hr
theorem y_lstoreN {tb : Tables} [Ours tb] {e : Env} {below : List Frame} {T target : State} {m : MethodId} {c : Code} (h : At T m c below) (hx : tb.exec = Jvm.exec) {pc pc' : Nat} {L : Array Slot} {S : List Value} {k : Fin 4} {v : Int64} {l' : Array Slot} (hd : decode c.code pc = .ok (.lstore_n k, 1)) (hl : storeLocals L k.val (.long v) = some l') (hp : pc + 1 = pc') (hr : Steps tb e below (T.setTop (mkF m pc' l' S)) target) : Steps tb e below (T.setTop (mkF m pc L (.long v :: S))) target := by subst hp; exact XS.lstoreN h hx rfl hd rfl hl hr
theorem y_astoreN {tb : Tables} [Ours tb] {e : Env} {below : List Frame} {T target : State} {m : MethodId} {c : Code} (h : At T m c below) (hx : tb.exec = Jvm.exec) {pc pc' : Nat} {L : Array Slot} {S : List Value} {k : Fin 4} {v : Value} {l' : Array Slot} (hd : decode c.code pc = .ok (.astore_n k, 1)) (hv : v.isRef = true) (hl : storeLocals L k.val v = some l') (hp : pc + 1 = pc') (hr : Steps tb e below (T.setTop (mkF m pc' l' S)) target) : Steps tb e below (T.setTop (mkF m pc L (v :: S))) target := by subst hp; exact XS.astoreN h hx rfl hd rfl hv hl hr
theorem y_iload {tb : Tables} [Ours tb] {e : Env} {below : List Frame} {T target : State} {m : MethodId} {c : Code} (h : At T m c below) (hx : tb.exec = Jvm.exec) {pc pc' : Nat} {L : Array Slot} {S : List Value} {k : Nat} {v : Int32} (hd : decode c.code pc = .ok (.iload k, 2)) (hl : L[k]? = some (.val (.int v))) (hp : pc + 2 = pc') (hr : Steps tb e below (T.setTop (mkF m pc' L (.int v :: S))) target) : Steps tb e below (T.setTop (mkF m pc L S)) target := by subst hp; exact XS.iload h hx rfl hd hl hr
theorem y_lload {tb : Tables} [Ours tb] {e : Env} {below : List Frame} {T target : State} {m : MethodId} {c : Code} (h : At T m c below) (hx : tb.exec = Jvm.exec) {pc pc' : Nat} {L : Array Slot} {S : List Value} {k : Nat} {v : Int64} (hd : decode c.code pc = .ok (.lload k, 2)) (hl : L[k]? = some (.val (.long v))) (hp : pc + 2 = pc') (hr : Steps tb e below (T.setTop (mkF m pc' L (.long v :: S))) target) : Steps tb e below (T.setTop (mkF m pc L S)) target := by subst hp; exact XS.lload h hx rfl hd hl hr
theorem y_aload {tb : Tables} [Ours tb] {e : Env} {below : List Frame} {T target : State} {m : MethodId} {c : Code} (h : At T m c below) (hx : tb.exec = Jvm.exec) {pc pc' : Nat} {L : Array Slot} {S : List Value} {k : Nat} {v : Value} (hd : decode c.code pc = .ok (.aload k, 2)) (hl : L[k]? = some (.val v)) (hv : v.isRef = true) (hp : pc + 2 = pc') (hr : Steps tb e below (T.setTop (mkF m pc' L (v :: S))) target) : Steps tb e below (T.setTop (mkF m pc L S)) target := by subst hp; exact XS.aload h hx rfl hd hl hv hr
theorem y_istore {tb : Tables} [Ours tb] {e : Env} {below : List Frame} {T target : State} {m : MethodId} {c : Code} (h : At T m c below) (hx : tb.exec = Jvm.exec) {pc pc' : Nat} {L : Array Slot} {S : List Value} {k : Nat} {v : Int32} {l' : Array Slot} (hd : decode c.code pc = .ok (.istore k, 2)) (hl : storeLocals L k (.int v) = some l') (hp : pc + 2 = pc') (hr : Steps tb e below (T.setTop (mkF m pc' l' S)) target) : Steps tb e below (T.setTop (mkF m pc L (.int v :: S))) target := by subst hp; exact XS.istore h hx rfl hd rfl hl hr
theorem y_lstore {tb : Tables} [Ours tb] {e : Env} {below : List Frame} {T target : State} {m : MethodId} {c : Code} (h : At T m c below) (hx : tb.exec = Jvm.exec) {pc pc' : Nat} {L : Array Slot} {S : List Value} {k : Nat} {v : Int64} {l' : Array Slot} (hd : decode c.code pc = .ok (.lstore k, 2)) (hl : storeLocals L k (.long v) = some l') (hp : pc + 2 = pc') (hr : Steps tb e below (T.setTop (mkF m pc' l' S)) target) : Steps tb e below (T.setTop (mkF m pc L (.long v :: S))) target := by subst hp; exact XS.lstore h hx rfl hd rfl hl hr
theorem y_astore {tb : Tables} [Ours tb] {e : Env} {below : List Frame} {T target : State} {m : MethodId} {c : Code} (h : At T m c below) (hx : tb.exec = Jvm.exec) {pc pc' : Nat} {L : Array Slot} {S : List Value} {k : Nat} {v : Value} {l' : Array Slot} (hd : decode c.code pc = .ok (.astore k, 2)) (hv : v.isRef = true) (hl : storeLocals L k v = some l') (hp : pc + 2 = pc') (hr : Steps tb e below (T.setTop (mkF m pc' l' S)) target) : Steps tb e below (T.setTop (mkF m pc L (v :: S))) target := by subst hp; exact XS.astore h hx rfl hd rfl hv hl hr
theorem y_iconst {tb : Tables} [Ours tb] {e : Env} {below : List Frame} {T target : State} {m : MethodId} {c : Code} (h : At T m c below) (hx : tb.exec = Jvm.exec) {pc pc' : Nat} {L : Array Slot} {S : List Value} {i : Int} {v : Int32} (hd : decode c.code pc = .ok (.iconst i, 1)) (hv : Int32.ofInt i = v) (hp : pc + 1 = pc') (hr : Steps tb e below (T.setTop (mkF m pc' L (.int v :: S))) target) : Steps tb e below (T.setTop (mkF m pc L S)) target := by subst hp; exact XS.iconst h hx rfl hd (by rw [hv]; exact hr)
theorem y_bipush {tb : Tables} [Ours tb] {e : Env} {below : List Frame} {T target : State} {m : MethodId} {c : Code} (h : At T m c below) (hx : tb.exec = Jvm.exec) {pc pc' : Nat} {L : Array Slot} {S : List Value} {i : Int} {v : Int32} (hd : decode c.code pc = .ok (.bipush i, 2)) (hv : (Int8.ofInt i).toInt32 = v) (hp : pc + 2 = pc') (hr : Steps tb e below (T.setTop (mkF m pc' L (.int v :: S))) target) : Steps tb e below (T.setTop (mkF m pc L S)) target := by subst hp; exact XS.bipush h hx rfl hd (by rw [hv]; exact hr)
theorem y_sipush {tb : Tables} [Ours tb] {e : Env} {below : List Frame} {T target : State} {m : MethodId} {c : Code} (h : At T m c below) (hx : tb.exec = Jvm.exec) {pc pc' : Nat} {L : Array Slot} {S : List Value} {i : Int} {v : Int32} (hd : decode c.code pc = .ok (.sipush i, 3)) (hv : (Int16.ofInt i).toInt32 = v) (hp : pc + 3 = pc') (hr : Steps tb e below (T.setTop (mkF m pc' L (.int v :: S))) target) : Steps tb e below (T.setTop (mkF m pc L S)) target := by subst hp; exact XS.sipush h hx rfl hd (by rw [hv]; exact hr)
theorem y_lconst {tb : Tables} [Ours tb] {e : Env} {below : List Frame} {T target : State} {m : MethodId} {c : Code} (h : At T m c below) (hx : tb.exec = Jvm.exec) {pc pc' : Nat} {L : Array Slot} {S : List Value} {k : Fin 2} {v : Int64} (hd : decode c.code pc = .ok (.lconst k, 1)) (hv : Int64.ofNat k.val = v) (hp : pc + 1 = pc') (hr : Steps tb e below (T.setTop (mkF m pc' L (.long v :: S))) target) : Steps tb e below (T.setTop (mkF m pc L S)) target := by subst hp; exact XS.lconst h hx rfl hd (by first | exact hv ▸ hr | (rw [hv]; exact hr) | (subst hv; exact hr))
theorem y_aconstNull {tb : Tables} [Ours tb] {e : Env} {below : List Frame} {T target : State} {m : MethodId} {c : Code} (h : At T m c below) (hx : tb.exec = Jvm.exec) {pc pc' : Nat} {L : Array Slot} {S : List Value} (hd : decode c.code pc = .ok (.aconst_null, 1)) (hp : pc + 1 = pc') (hr : Steps tb e below (T.setTop (mkF m pc' L (.null :: S))) target) : Steps tb e below (T.setTop (mkF m pc L S)) target := by subst hp; exact XS.aconstNull h hx rfl hd hr
theorem y_iadd {tb : Tables} [Ours tb] {e : Env} {below : List Frame} {T target : State} {m : MethodId} {c : Code} (h : At T m c below) (hx : tb.exec = Jvm.exec) {pc pc' : Nat} {L : Array Slot} {S : List Value} {x y z : Int32} (hd : decode c.code pc = .ok (.iadd, 1)) (hz : x + y = z) (hp : pc + 1 = pc') (hr : Steps tb e below (T.setTop (mkF m pc' L (.int z :: S))) target) : Steps tb e below (T.setTop (mkF m pc L (.int y :: .int x :: S))) target := by subst hp; exact XS.iadd h hx rfl hd rfl (by rw [hz]; exact hr)
theorem y_isub {tb : Tables} [Ours tb] {e : Env} {below : List Frame} {T target : State} {m : MethodId} {c : Code} (h : At T m c below) (hx : tb.exec = Jvm.exec) {pc pc' : Nat} {L : Array Slot} {S : List Value} {x y z : Int32} (hd : decode c.code pc = .ok (.isub, 1)) (hz : x - y = z) (hp : pc + 1 = pc') (hr : Steps tb e below (T.setTop (mkF m pc' L (.int z :: S))) target) : Steps tb e below (T.setTop (mkF m pc L (.int y :: .int x :: S))) target := by subst hp; exact XS.isub h hx rfl hd rfl (by rw [hz]; exact hr)
theorem y_imul {tb : Tables} [Ours tb] {e : Env} {below : List Frame} {T target : State} {m : MethodId} {c : Code} (h : At T m c below) (hx : tb.exec = Jvm.exec) {pc pc' : Nat} {L : Array Slot} {S : List Value} {x y z : Int32} (hd : decode c.code pc = .ok (.imul, 1)) (hz : x * y = z) (hp : pc + 1 = pc') (hr : Steps tb e below (T.setTop (mkF m pc' L (.int z :: S))) target) : Steps tb e below (T.setTop (mkF m pc L (.int y :: .int x :: S))) target := by subst hp; exact XS.imul h hx rfl hd rfl (by rw [hz]; exact hr)
theorem y_iand {tb : Tables} [Ours tb] {e : Env} {below : List Frame} {T target : State} {m : MethodId} {c : Code} (h : At T m c below) (hx : tb.exec = Jvm.exec) {pc pc' : Nat} {L : Array Slot} {S : List Value} {x y z : Int32} (hd : decode c.code pc = .ok (.iand, 1)) (hz : x &&& y = z) (hp : pc + 1 = pc') (hr : Steps tb e below (T.setTop (mkF m pc' L (.int z :: S))) target) : Steps tb e below (T.setTop (mkF m pc L (.int y :: .int x :: S))) target := by subst hp; exact XS.iand h hx rfl hd rfl (by rw [hz]; exact hr)
theorem y_ior {tb : Tables} [Ours tb] {e : Env} {below : List Frame} {T target : State} {m : MethodId} {c : Code} (h : At T m c below) (hx : tb.exec = Jvm.exec) {pc pc' : Nat} {L : Array Slot} {S : List Value} {x y z : Int32} (hd : decode c.code pc = .ok (.ior, 1)) (hz : x ||| y = z) (hp : pc + 1 = pc') (hr : Steps tb e below (T.setTop (mkF m pc' L (.int z :: S))) target) : Steps tb e below (T.setTop (mkF m pc L (.int y :: .int x :: S))) target := by subst hp; exact XS.ior h hx rfl hd rfl (by rw [hz]; exact hr)
theorem y_ixor {tb : Tables} [Ours tb] {e : Env} {below : List Frame} {T target : State} {m : MethodId} {c : Code} (h : At T m c below) (hx : tb.exec = Jvm.exec) {pc pc' : Nat} {L : Array Slot} {S : List Value} {x y z : Int32} (hd : decode c.code pc = .ok (.ixor, 1)) (hz : x ^^^ y = z) (hp : pc + 1 = pc') (hr : Steps tb e below (T.setTop (mkF m pc' L (.int z :: S))) target) : Steps tb e below (T.setTop (mkF m pc L (.int y :: .int x :: S))) target := by subst hp; exact XS.ixor h hx rfl hd rfl (by rw [hz]; exact hr)
theorem y_ladd {tb : Tables} [Ours tb] {e : Env} {below : List Frame} {T target : State} {m : MethodId} {c : Code} (h : At T m c below) (hx : tb.exec = Jvm.exec) {pc pc' : Nat} {L : Array Slot} {S : List Value} {x y z : Int64} (hd : decode c.code pc = .ok (.ladd, 1)) (hz : x + y = z) (hp : pc + 1 = pc') (hr : Steps tb e below (T.setTop (mkF m pc' L (.long z :: S))) target) : Steps tb e below (T.setTop (mkF m pc L (.long y :: .long x :: S))) target := by subst hp; exact XS.ladd h hx rfl hd rfl (by rw [hz]; exact hr)
theorem y_lsub {tb : Tables} [Ours tb] {e : Env} {below : List Frame} {T target : State} {m : MethodId} {c : Code} (h : At T m c below) (hx : tb.exec = Jvm.exec) {pc pc' : Nat} {L : Array Slot} {S : List Value} {x y z : Int64} (hd : decode c.code pc = .ok (.lsub, 1)) (hz : x - y = z) (hp : pc + 1 = pc') (hr : Steps tb e below (T.setTop (mkF m pc' L (.long z :: S))) target) : Steps tb e below (T.setTop (mkF m pc L (.long y :: .long x :: S))) target := by subst hp; exact XS.lsub h hx rfl hd rfl (by rw [hz]; exact hr)
theorem y_lmul {tb : Tables} [Ours tb] {e : Env} {below : List Frame} {T target : State} {m : MethodId} {c : Code} (h : At T m c below) (hx : tb.exec = Jvm.exec) {pc pc' : Nat} {L : Array Slot} {S : List Value} {x y z : Int64} (hd : decode c.code pc = .ok (.lmul, 1)) (hz : x * y = z) (hp : pc + 1 = pc') (hr : Steps tb e below (T.setTop (mkF m pc' L (.long z :: S))) target) : Steps tb e below (T.setTop (mkF m pc L (.long y :: .long x :: S))) target := by subst hp; exact XS.lmul h hx rfl hd rfl (by rw [hz]; exact hr)
theorem y_land {tb : Tables} [Ours tb] {e : Env} {below : List Frame} {T target : State} {m : MethodId} {c : Code} (h : At T m c below) (hx : tb.exec = Jvm.exec) {pc pc' : Nat} {L : Array Slot} {S : List Value} {x y z : Int64} (hd : decode c.code pc = .ok (.land, 1)) (hz : x &&& y = z) (hp : pc + 1 = pc') (hr : Steps tb e below (T.setTop (mkF m pc' L (.long z :: S))) target) : Steps tb e below (T.setTop (mkF m pc L (.long y :: .long x :: S))) target := by subst hp; exact XS.land h hx rfl hd rfl (by rw [hz]; exact hr)
theorem y_lor {tb : Tables} [Ours tb] {e : Env} {below : List Frame} {T target : State} {m : MethodId} {c : Code} (h : At T m c below) (hx : tb.exec = Jvm.exec) {pc pc' : Nat} {L : Array Slot} {S : List Value} {x y z : Int64} (hd : decode c.code pc = .ok (.lor, 1)) (hz : x ||| y = z) (hp : pc + 1 = pc') (hr : Steps tb e below (T.setTop (mkF m pc' L (.long z :: S))) target) : Steps tb e below (T.setTop (mkF m pc L (.long y :: .long x :: S))) target := by subst hp; exact XS.lor h hx rfl hd rfl (by rw [hz]; exact hr)
theorem y_lxor {tb : Tables} [Ours tb] {e : Env} {below : List Frame} {T target : State} {m : MethodId} {c : Code} (h : At T m c below) (hx : tb.exec = Jvm.exec) {pc pc' : Nat} {L : Array Slot} {S : List Value} {x y z : Int64} (hd : decode c.code pc = .ok (.lxor, 1)) (hz : x ^^^ y = z) (hp : pc + 1 = pc') (hr : Steps tb e below (T.setTop (mkF m pc' L (.long z :: S))) target) : Steps tb e below (T.setTop (mkF m pc L (.long y :: .long x :: S))) target := by subst hp; exact XS.lxor h hx rfl hd rfl (by rw [hz]; exact hr)
theorem y_ineg {tb : Tables} [Ours tb] {e : Env} {below : List Frame} {T target : State} {m : MethodId} {c : Code} (h : At T m c below) (hx : tb.exec = Jvm.exec) {pc pc' : Nat} {L : Array Slot} {S : List Value} {x : Int32} {z : Int32} (hd : decode c.code pc = .ok (.ineg, 1)) (hz : -x = z) (hp : pc + 1 = pc') (hr : Steps tb e below (T.setTop (mkF m pc' L (.int z :: S))) target) : Steps tb e below (T.setTop (mkF m pc L (.int x :: S))) target := by subst hp; exact XS.ineg h hx rfl hd rfl (by subst hz; exact hr)
theorem y_lneg {tb : Tables} [Ours tb] {e : Env} {below : List Frame} {T target : State} {m : MethodId} {c : Code} (h : At T m c below) (hx : tb.exec = Jvm.exec) {pc pc' : Nat} {L : Array Slot} {S : List Value} {x : Int64} {z : Int64} (hd : decode c.code pc = .ok (.lneg, 1)) (hz : -x = z) (hp : pc + 1 = pc') (hr : Steps tb e below (T.setTop (mkF m pc' L (.long z :: S))) target) : Steps tb e below (T.setTop (mkF m pc L (.long x :: S))) target := by subst hp; exact XS.lneg h hx rfl hd rfl (by subst hz; exact hr)
theorem y_i2l {tb : Tables} [Ours tb] {e : Env} {below : List Frame} {T target : State} {m : MethodId} {c : Code} (h : At T m c below) (hx : tb.exec = Jvm.exec) {pc pc' : Nat} {L : Array Slot} {S : List Value} {x : Int32} {z : Int64} (hd : decode c.code pc = .ok (.i2l, 1)) (hz : x.toInt64 = z) (hp : pc + 1 = pc') (hr : Steps tb e below (T.setTop (mkF m pc' L (.long z :: S))) target) : Steps tb e below (T.setTop (mkF m pc L (.int x :: S))) target := by subst hp; exact XS.i2l h hx rfl hd rfl (by subst hz; exact hr)
theorem y_l2i {tb : Tables} [Ours tb] {e : Env} {below : List Frame} {T target : State} {m : MethodId} {c : Code} (h : At T m c below) (hx : tb.exec = Jvm.exec) {pc pc' : Nat} {L : Array Slot} {S : List Value} {x : Int64} {z : Int32} (hd : decode c.code pc = .ok (.l2i, 1)) (hz : x.toInt32 = z) (hp : pc + 1 = pc') (hr : Steps tb e below (T.setTop (mkF m pc' L (.int z :: S))) target) : Steps tb e below (T.setTop (mkF m pc L (.long x :: S))) target := by subst hp; exact XS.l2i h hx rfl hd rfl (by subst hz; exact hr)
theorem y_i2b {tb : Tables} [Ours tb] {e : Env} {below : List Frame} {T target : State} {m : MethodId} {c : Code} (h : At T m c below) (hx : tb.exec = Jvm.exec) {pc pc' : Nat} {L : Array Slot} {S : List Value} {x : Int32} {z : Int32} (hd : decode c.code pc = .ok (.i2b, 1)) (hz : x.toInt8.toInt32 = z) (hp : pc + 1 = pc') (hr : Steps tb e below (T.setTop (mkF m pc' L (.int z :: S))) target) : Steps tb e below (T.setTop (mkF m pc L (.int x :: S))) target := by subst hp; exact XS.i2b h hx rfl hd rfl (by subst hz; exact hr)
theorem y_i2s {tb : Tables} [Ours tb] {e : Env} {below : List Frame} {T target : State} {m : MethodId} {c : Code} (h : At T m c below) (hx : tb.exec = Jvm.exec) {pc pc' : Nat} {L : Array Slot} {S : List Value} {x : Int32} {z : Int32} (hd : decode c.code pc = .ok (.i2s, 1)) (hz : x.toInt16.toInt32 = z) (hp : pc + 1 = pc') (hr : Steps tb e below (T.setTop (mkF m pc' L (.int z :: S))) target) : Steps tb e below (T.setTop (mkF m pc L (.int x :: S))) target := by subst hp; exact XS.i2s h hx rfl hd rfl (by subst hz; exact hr)
theorem y_i2c {tb : Tables} [Ours tb] {e : Env} {below : List Frame} {T target : State} {m : MethodId} {c : Code} (h : At T m c below) (hx : tb.exec = Jvm.exec) {pc pc' : Nat} {L : Array Slot} {S : List Value} {x : Int32} {z : Int32} (hd : decode c.code pc = .ok (.i2c, 1)) (hz : x.toUInt32.toUInt16.toUInt32.toInt32 = z) (hp : pc + 1 = pc') (hr : Steps tb e below (T.setTop (mkF m pc' L (.int z :: S))) target) : Steps tb e below (T.setTop (mkF m pc L (.int x :: S))) target := by subst hp; exact XS.i2c h hx rfl hd rfl (by subst hz; exact hr)
theorem y_ishl {tb : Tables} [Ours tb] {e : Env} {below : List Frame} {T target : State} {m : MethodId} {c : Code} (h : At T m c below) (hx : tb.exec = Jvm.exec) {pc pc' : Nat} {L : Array Slot} {S : List Value} {x z : Int32} {y : Int32} (hd : decode c.code pc = .ok (.ishl, 1)) (hz : (x <<< (y &&& 31)) = z) (hp : pc + 1 = pc') (hr : Steps tb e below (T.setTop (mkF m pc' L (.int z :: S))) target) : Steps tb e below (T.setTop (mkF m pc L (.int y :: .int x :: S))) target := by subst hp; exact XS.ishl h hx rfl hd rfl (by subst hz; exact hr)
theorem y_ishr {tb : Tables} [Ours tb] {e : Env} {below : List Frame} {T target : State} {m : MethodId} {c : Code} (h : At T m c below) (hx : tb.exec = Jvm.exec) {pc pc' : Nat} {L : Array Slot} {S : List Value} {x z : Int32} {y : Int32} (hd : decode c.code pc = .ok (.ishr, 1)) (hz : (x >>> (y &&& 31)) = z) (hp : pc + 1 = pc') (hr : Steps tb e below (T.setTop (mkF m pc' L (.int z :: S))) target) : Steps tb e below (T.setTop (mkF m pc L (.int y :: .int x :: S))) target := by subst hp; exact XS.ishr h hx rfl hd rfl (by subst hz; exact hr)
theorem y_iushr {tb : Tables} [Ours tb] {e : Env} {below : List Frame} {T target : State} {m : MethodId} {c : Code} (h : At T m c below) (hx : tb.exec = Jvm.exec) {pc pc' : Nat} {L : Array Slot} {S : List Value} {x z : Int32} {y : Int32} (hd : decode c.code pc = .ok (.iushr, 1)) (hz : ((x.toUInt32 >>> (y &&& 31).toUInt32).toInt32) = z) (hp : pc + 1 = pc') (hr : Steps tb e below (T.setTop (mkF m pc' L (.int z :: S))) target) : Steps tb e below (T.setTop (mkF m pc L (.int y :: .int x :: S))) target := by subst hp; exact XS.iushr h hx rfl hd rfl (by subst hz; exact hr)
theorem y_lshl {tb : Tables} [Ours tb] {e : Env} {below : List Frame} {T target : State} {m : MethodId} {c : Code} (h : At T m c below) (hx : tb.exec = Jvm.exec) {pc pc' : Nat} {L : Array Slot} {S : List Value} {x z : Int64} {y : Int32} (hd : decode c.code pc = .ok (.lshl, 1)) (hz : (x <<< (y &&& 0x3f).toInt64) = z) (hp : pc + 1 = pc') (hr : Steps tb e below (T.setTop (mkF m pc' L (.long z :: S))) target) : Steps tb e below (T.setTop (mkF m pc L (.int y :: .long x :: S))) target := by subst hp; exact XS.lshl h hx rfl hd rfl (by subst hz; exact hr)
theorem y_lshr {tb : Tables} [Ours tb] {e : Env} {below : List Frame} {T target : State} {m : MethodId} {c : Code} (h : At T m c below) (hx : tb.exec = Jvm.exec) {pc pc' : Nat} {L : Array Slot} {S : List Value} {x z : Int64} {y : Int32} (hd : decode c.code pc = .ok (.lshr, 1)) (hz : (x >>> (y &&& 0x3f).toInt64) = z) (hp : pc + 1 = pc') (hr : Steps tb e below (T.setTop (mkF m pc' L (.long z :: S))) target) : Steps tb e below (T.setTop (mkF m pc L (.int y :: .long x :: S))) target := by subst hp; exact XS.lshr h hx rfl hd rfl (by subst hz; exact hr)
theorem y_lushr {tb : Tables} [Ours tb] {e : Env} {below : List Frame} {T target : State} {m : MethodId} {c : Code} (h : At T m c below) (hx : tb.exec = Jvm.exec) {pc pc' : Nat} {L : Array Slot} {S : List Value} {x z : Int64} {y : Int32} (hd : decode c.code pc = .ok (.lushr, 1)) (hz : ((x.toUInt64 >>> (y &&& 0x3f).toInt64.toUInt64).toInt64) = z) (hp : pc + 1 = pc') (hr : Steps tb e below (T.setTop (mkF m pc' L (.long z :: S))) target) : Steps tb e below (T.setTop (mkF m pc L (.int y :: .long x :: S))) target := by subst hp; exact XS.lushr h hx rfl hd rfl (by subst hz; exact hr)
theorem y_lcmp {tb : Tables} [Ours tb] {e : Env} {below : List Frame} {T target : State} {m : MethodId} {c : Code} (h : At T m c below) (hx : tb.exec = Jvm.exec) {pc pc' : Nat} {L : Array Slot} {S : List Value} {x y : Int64} (hd : decode c.code pc = .ok (.lcmp, 1)) (hp : pc + 1 = pc') (hr : Steps tb e below (T.setTop (mkF m pc' L (.int (lcmpW x y) :: S))) target) : Steps tb e below (T.setTop (mkF m pc L (.long y :: .long x :: S))) target := by subst hp; exact XS.lcmp h hx rfl hd rfl hr
theorem y_iinc {tb : Tables} [Ours tb] {e : Env} {below : List Frame} {T target : State} {m : MethodId} {c : Code} (h : At T m c below) (hx : tb.exec = Jvm.exec) {pc pc' : Nat} {L : Array Slot} {S : List Value} {k : Nat} {cst : Int} {x : Int32} {l' : Array Slot} (hd : decode c.code pc = .ok (.iinc k cst, 3)) (hl : L[k]? = some (.val (.int x))) (hl' : storeLocals L k (.int (x + Int32.ofInt cst)) = some l') (hp : pc + 3 = pc') (hr : Steps tb e below (T.setTop (mkF m pc' l' S)) target) : Steps tb e below (T.setTop (mkF m pc L S)) target := by subst hp; exact XS.iinc h hx rfl hd hl hl' hr
theorem y_dup {tb : Tables} [Ours tb] {e : Env} {below : List Frame} {T target : State} {m : MethodId} {c : Code} (h : At T m c below) (hx : tb.exec = Jvm.exec) {pc pc' : Nat} {L : Array Slot} {S : List Value} {v : Value} (hd : decode c.code pc = .ok (.dup, 1)) (hc : v.category = 1) (hp : pc + 1 = pc') (hr : Steps tb e below (T.setTop (mkF m pc' L (v :: v :: S))) target) : Steps tb e below (T.setTop (mkF m pc L (v :: S))) target := by subst hp; exact XS.dup h hx rfl hd rfl hc hr
theorem y_goto {tb : Tables} [Ours tb] {e : Env} {below : List Frame} {T target : State} {m : MethodId} {c : Code} (h : At T m c below) (hx : tb.exec = Jvm.exec) {pc pc' : Nat} {L : Array Slot} {S : List Value} {o : Int} (hd : decode c.code pc = .ok (.goto o, 3)) (ho : 0 ≤ (pc : Int) + o) (hp : ((pc : Int) + o).toNat = pc') (hr : Steps tb e below (T.setTop (mkF m pc' L S)) target) : Steps tb e below (T.setTop (mkF m pc L S)) target := XS.goto h hx rfl rfl hd ho hp hr
theorem y_ifYes {tb : Tables} [Ours tb] {e : Env} {below : List Frame} {T target : State} {m : MethodId} {c : Code} (h : At T m c below) (hx : tb.exec = Jvm.exec) {pc pc' : Nat} {L : Array Slot} {S : List Value} {cd : ClassFile.Cond} {x : Int32} {o : Int} (hd : decode c.code pc = .ok (.ifCond cd o, 3)) (hc : ifCond.holds cd x = true) (ho : 0 ≤ (pc : Int) + o) (hp : ((pc : Int) + o).toNat = pc') (hr : Steps tb e below (T.setTop (mkF m pc' L S)) target) : Steps tb e below (T.setTop (mkF m pc L (.int x :: S))) target := XS.ifYes h hx rfl rfl hd rfl hc ho hp hr
theorem y_ifNo {tb : Tables} [Ours tb] {e : Env} {below : List Frame} {T target : State} {m : MethodId} {c : Code} (h : At T m c below) (hx : tb.exec = Jvm.exec) {pc pc' : Nat} {L : Array Slot} {S : List Value} {cd : ClassFile.Cond} {x : Int32} {o : Int} (hd : decode c.code pc = .ok (.ifCond cd o, 3)) (hc : ifCond.holds cd x = false) (hp : pc + 3 = pc') (hr : Steps tb e below (T.setTop (mkF m pc' L S)) target) : Steps tb e below (T.setTop (mkF m pc L (.int x :: S))) target := by subst hp; exact XS.ifNo h hx rfl hd rfl hc hr
theorem y_icmpYes {tb : Tables} [Ours tb] {e : Env} {below : List Frame} {T target : State} {m : MethodId} {c : Code} (h : At T m c below) (hx : tb.exec = Jvm.exec) {pc pc' : Nat} {L : Array Slot} {S : List Value} {cd : ClassFile.Cond} {x y : Int32} {o : Int} (hd : decode c.code pc = .ok (.if_icmp cd o, 3)) (hc : if_icmp.holds cd x y = true) (ho : 0 ≤ (pc : Int) + o) (hp : ((pc : Int) + o).toNat = pc') (hr : Steps tb e below (T.setTop (mkF m pc' L S)) target) : Steps tb e below (T.setTop (mkF m pc L (.int y :: .int x :: S))) target := XS.icmpYes h hx rfl rfl hd rfl hc ho hp hr
theorem y_icmpNo {tb : Tables} [Ours tb] {e : Env} {below : List Frame} {T target : State} {m : MethodId} {c : Code} (h : At T m c below) (hx : tb.exec = Jvm.exec) {pc pc' : Nat} {L : Array Slot} {S : List Value} {cd : ClassFile.Cond} {x y : Int32} {o : Int} (hd : decode c.code pc = .ok (.if_icmp cd o, 3)) (hc : if_icmp.holds cd x y = false) (hp : pc + 3 = pc') (hr : Steps tb e below (T.setTop (mkF m pc' L S)) target) : Steps tb e below (T.setTop (mkF m pc L (.int y :: .int x :: S))) target := by subst hp; exact XS.icmpNo h hx rfl hd rfl hc hr
theorem own_nar01 {x : Int32} (h : x = 0 ∨ x = 1) : nar .boolean x = x := by rcases h with rfl | rfl <;> rfl
theorem own_ite01 {c : Prop} [Decidable c] : (if c then (0 : Int32) else (1 : Int32)) = 0 ∨ (if c then (0 : Int32) else (1 : Int32)) = 1 := by split <;> simp
theorem own_narI {c : Prop} [Decidable c] : nar .boolean (if c then (1 : Int32) else (0 : Int32)) = (if c then (1 : Int32) else (0 : Int32)) := by split <;> rfl
theorem own_ne1 (a : Int32) : ¬ a = a + 1 := fun h => by
  have q := c_iadd a 1
  rw [← h] at q
  have e : (1 : Int32).toInt = 1 := rfl
  omega
theorem own_of {x k : Int32} (h : x.toInt = k.toInt) : x = k := Int32.toInt_inj.mp h
theorem own_and3 (k : Int32) : k &&& 3 = 0 ∨ k &&& 3 = 1 ∨ k &&& 3 = 2 ∨ k &&& 3 = 3 := by
  have q : (k &&& 3).toInt = k.toInt % 4 := c_mask k 3 2 (by decide) (by decide)
  generalize k &&& 3 = x at q ⊢
  have : x.toInt = 0 ∨ x.toInt = 1 ∨ x.toInt = 2 ∨ x.toInt = 3 := by omega
  rcases this with h | h | h | h
  · exact Or.inl (own_of h)
  · exact Or.inr (Or.inl (own_of h))
  · exact Or.inr (Or.inr (Or.inl (own_of h)))
  · exact Or.inr (Or.inr (Or.inr (own_of h)))
/-- the class C is not one of K's -/
def Nas (Z : State) (C K : String) : Prop := ∃ c t, Z.vm.findClass C = some c ∧ Z.vm.findClass K = some t ∧ Z.vm.assignable c t = false
theorem own_root {Z : State} {a0 : Array Value} {O K : String} {n : Nat} (w : (Cond.noSuperclass O).before a0 Z = true) (wi : (Cond.instantiable K n).before a0 Z = true) (hn : O ≠ K) : NS Z O K := by
  obtain ⟨c, k, h1, h2, h3, -, -⟩ := Cond.noSuperclass_spec w
  obtain ⟨t, kt, g1, -⟩ := Cond.instantiable_spec wi
  have ne := ids_ne h1 g1 hn
  refine ⟨c, t, h1, g1, fun fuel => ?_⟩
  cases fuel with
  | zero => rfl
  | succ f => simp [Vm.isSubclassAux, ne, h2, h3]
theorem own_nas {Z : State} {a0 : Array Value} {C S K : String} {n : Nat} (w : (Cond.superclass C S).before a0 Z = true) (wi : (Cond.instantiable K n).before a0 Z = true) (ns : NS Z C K) (hn : C ≠ K) : Nas Z C K := by
  obtain ⟨c, t, h0, g0, n3⟩ := ns
  obtain ⟨p, k, kp, h1, h2, h3, h4, h5, -, h7⟩ := Cond.superclass_spec h0 w
  obtain ⟨t', kt, g1, g2, g3, g4, -⟩ := Cond.instantiable_spec wi
  cases g0.symm.trans g1
  have ne := ids_ne h0 g0 hn
  simp only [Bool.or_eq_false_iff] at g4
  refine ⟨c, t, h0, g0, ?_⟩
  show Z.vm.assignableAux (255 + 1) c t = false
  simp [Vm.assignableAux, ne, h2, g2, h5, g3, g4.1, Vm.isSubclass, n3]
theorem own_len {args : Array Value} {first s : State} {o : Option Outcome} {idx : List Nat} {t : Term} {a : Addr} {c : Cell} {k : Int32} (ht : t.eval args first o idx s = some (.ref a)) (ha : s.arrayAt? a = some c) (h : (Term.length t).eval args first o idx s = some (.int k)) : c.slots.size < 2 ^ 31 ∧ c.slots.size.toInt32 = k := by
  simp [Term.eval, ht, ha] at h
  exact h
theorem d1_0 : decode method_2_code 0 = .ok (.iload_n 0, 1) := by decide +kernel
theorem d1_1 : decode method_2_code 1 = .ok (.iconst 3, 1) := by decide +kernel
theorem d1_2 : decode method_2_code 2 = .ok (.iand, 1) := by decide +kernel
theorem d1_3 : decode method_2_code 3 = .ok (.iconst 3, 1) := by decide +kernel
theorem d1_4 : decode method_2_code 4 = .ok (.irem, 1) := by decide +kernel
theorem d1_5 : decode method_2_code 5 = .ok (.istore_n 1, 1) := by decide +kernel
theorem d1_6 : decode method_2_code 6 = .ok (.iload_n 1, 1) := by decide +kernel
theorem d1_7 : decode method_2_code 7 = .ok (.ifCond .ne 7, 3) := by decide +kernel
theorem d1_10 : decode method_2_code 10 = .ok (.getstatic 7, 3) := by decide +kernel
theorem d1_13 : decode method_2_code 13 = .ok (.areturn, 1) := by decide +kernel
theorem d1_14 : decode method_2_code 14 = .ok (.iload_n 1, 1) := by decide +kernel
theorem d1_15 : decode method_2_code 15 = .ok (.iconst 1, 1) := by decide +kernel
theorem d1_16 : decode method_2_code 16 = .ok (.if_icmp .ne 7, 3) := by decide +kernel
theorem d1_19 : decode method_2_code 19 = .ok (.getstatic 13, 3) := by decide +kernel
theorem d1_22 : decode method_2_code 22 = .ok (.areturn, 1) := by decide +kernel
theorem d1_23 : decode method_2_code 23 = .ok (.getstatic 16, 3) := by decide +kernel
theorem d1_26 : decode method_2_code 26 = .ok (.areturn, 1) := by decide +kernel
theorem pn_com_example_procord_procord_election_ElectionMessageEqualsPinLaw : plainName "com/example/procord/procord/election/ElectionMessageEqualsPinLaw" = true := by first | (simp [plainName, overriddenIn]; done) | decide +kernel
theorem ef_1 (m : MethodId) (x0 : Int32) : entryFrame m #[(.int x0)] 2 = mkF m 0 #[iv x0, .unset] [] := by first | (simp [entryFrame, mkF, argsToLocals, Value.category]; done) | rfl
def Q1 (Z : State) (pi0 : Int32) (w_ELECTION : Addr) (w_ANSWER : Addr) (w_COORDINATOR : Addr) (h0 : Heap) (n0 : Nat) (v : Option Value) (h : Heap) (L : List Loc) : Prop := v = some (.ref (if ((pi0 &&& (3 : Int32)) % (3 : Int32)) = (0 : Int32) then w_ELECTION else (if ((pi0 &&& (3 : Int32)) % (3 : Int32)) = (1 : Int32) then w_ANSWER else w_COORDINATOR))) ∧ Fr n0 L ∧ h = h0
set_option maxRecDepth 65536 in
set_option maxHeartbeats 40000000 in
theorem rm1 (l : Launch) (Z : State) (a0 : Array Value) (hw : ∀ d ∈ tables_1, d.before a0 Z = true) (ws : List Jvm.Cond) (pi0 : Int32) (w_ELECTION : Addr) (w_ANSWER : Addr) (w_COORDINATOR : Addr) (h0 : Heap) (n0 : Nat) (O0 : Old Z n0 h0) (S_ELECTION : Sta Z Z.heap "com/example/procord/procord/election/ElectionMessage$Kind" "ELECTION" "Lcom/example/procord/procord/election/ElectionMessage$Kind;" (.ref w_ELECTION)) (S_ANSWER : Sta Z Z.heap "com/example/procord/procord/election/ElectionMessage$Kind" "ANSWER" "Lcom/example/procord/procord/election/ElectionMessage$Kind;" (.ref w_ANSWER)) (S_COORDINATOR : Sta Z Z.heap "com/example/procord/procord/election/ElectionMessage$Kind" "COORDINATOR" "Lcom/example/procord/procord/election/ElectionMessage$Kind;" (.ref w_COORDINATOR)) :
    MetFree l (⟨"com/example/procord/procord/election/ElectionMessageEqualsPinLaw", "kindOf", "(I)Lcom/example/procord/procord/election/ElectionMessage$Kind;"⟩ : MethodName) (head1 (Jvm.Cond.code (⟨"com/example/procord/procord/election/ElectionMessageEqualsPinLaw", "kindOf", "(I)Lcom/example/procord/procord/election/ElectionMessage$Kind;"⟩ : MethodName) method_2_code 2 (some (.object "com/example/procord/procord/election/ElectionMessage$Kind")) :: ws) ({ frames := 0, cells := 0, slots := 0, locals := 0 } : Room)) (fun a U => a = #[(.int pi0)] ∧ Z.Warmed39 U.vm ∧ U.heap = h0) (fun _ _ _ _ _ => True) (fun _ U o U' => ∃ v L, o = .returned v ∧ Q1 Z pi0 w_ELECTION w_ANSWER w_COORDINATOR h0 n0 v U'.heap L ∧ FrameEnd U o U' L ({ frames := 0, cells := 0, slots := 0, locals := 0 } : Room).cells ({ frames := 0, cells := 0, slots := 0, locals := 0 } : Room).slots) := by
  refine MetFree.of_bodySF (plainFor_of_name pn_com_example_procord_procord_election_ElectionMessageEqualsPinLaw) hisR ?_
  intro p e s m args below meth c s₁ Bd hml0 hP hK
  obtain ⟨rfl, hZ, hh⟩ := hP
  have hx := Bd.exec
  have hby := Bd.bytes
  have hml : c.maxLocals = 2 := hml0
  have hown : s.vm.findClass "com/example/procord/procord/election/ElectionMessageEqualsPinLaw" = some m.cls := findClass_of_methodNamed Bd.named
  have hnm := (name_of_methodNamed Bd.named Bd.method).1
  have X0 : Stand p l e ({ frames := 0, cells := 0, slots := 0, locals := 0 } : Room) s m #[(.int pi0)] below meth c s₁ [] 0 0 := Stand.of_body Bd
  have e0 : s₁.heap = h0 := by rw [← hh, Bd.state]; rfl
  have N0 := Fr.nil n0
  obtain ⟨Go, hGo⟩ : ∃ P : State → Prop, ∀ t, P t ↔ Steps p.tables e below (s₁.setTop (entryFrame m #[(.int pi0)] 2)) t := ⟨_, fun _ => Iff.rfl⟩
  have pre0 : ∀ t, Steps p.tables e below (s₁.setTop (mkF m 0 #[iv pi0, .unset] [])) t → Go t := fun t k => (hGo t).mpr (castTop (ef_1 m pi0) k)
  obtain ⟨x1, hx1⟩ : ∃ z : Int32, z = ((pi0 &&& (3 : Int32)) % (3 : Int32)) := ⟨_, rfl⟩
  have pre2 : ∀ t, Steps p.tables e below (s₁.setTop (mkF m 6 #[iv pi0, iv x1] [])) t → Go t := fun t kt => pre0 t (by
      subst hx1
      refine y_iloadN X0.here hx (hb hby d1_0) rfl (pc' := 1) rfl ?_
      refine y_iconst X0.here hx (hb hby d1_1) (v := (3 : Int32)) rfl (pc' := 2) rfl ?_
      refine y_iand X0.here hx (hb hby d1_2) rfl (pc' := 3) rfl ?_
      refine y_iconst X0.here hx (hb hby d1_3) (v := (3 : Int32)) rfl (pc' := 4) rfl ?_
      refine iremM (g := (mkF m 4 #[iv pi0, .unset] [(.int (3 : Int32)), (.int (pi0 &&& (3 : Int32)))])) X0 hx rfl (hb hby d1_4) rfl (by decide) ?_
      show Steps p.tables e below (s₁.setTop (mkF m 5 #[iv pi0, .unset] [(.int ((pi0 &&& (3 : Int32)) % (3 : Int32)))])) _
      refine y_istoreN X0.here hx (hb hby d1_5) (l' := #[iv pi0, iv ((pi0 &&& (3 : Int32)) % (3 : Int32))]) rfl (pc' := 6) rfl ?_
      exact kt)
  have pre3 : ∀ t, Steps p.tables e below (s₁.setTop (mkF m 7 #[iv pi0, iv x1] [(.int x1)])) t → Go t := fun t kt => pre2 t (by
      refine y_iloadN X0.here hx (hb hby d1_6) rfl (pc' := 7) rfl ?_
      exact kt)
  by_cases hc7_4 : x1 = (0 : Int32)
  · have pre5 : ∀ t, Steps p.tables e below (s₁.setTop (mkF m 10 #[iv pi0, iv x1] [])) t → Go t := fun t kt => pre3 t (by
        refine y_ifNo X0.here hx (hb hby d1_7) ((if0 _ _).trans (teq hc7_4).2) (pc' := 10) rfl ?_
        exact kt)
    obtain ⟨T6, X6, e6, st6⟩ := getS2 X0 hx hZ hown (host := "") (Or.inl (hw _ (List.mem_of_getElem? (i := 4) rfl))) Via.refl e0 (S_ELECTION.ext O0.2) (g := (mkF m 10 #[iv pi0, iv x1] [])) rfl (hb hby d1_10)
    have pre7 : ∀ t, Steps p.tables e below (T6.setTop (mkF m 13 #[iv pi0, iv x1] [(.ref w_ELECTION)])) t → Go t := fun t kt => pre5 t (st6 t kt)
    obtain ⟨fs, hr, hrun, hended, hW, hsame⟩ := X6.leave (v := some (.ref w_ELECTION)) (fun h => by rw [Bd.returns] at h; cases h)
    refine ⟨_, _, (hGo _).mp (pre7 _ ?_), hrun, hended, _, _, rfl, ?_, ⟨_, rfl⟩, hW, hsame.mono (by decide) (by decide)⟩
    · exact retOut X6 hx Bd.returns rfl (Or.inr (Or.inr (Or.inr (Or.inr ⟨rfl, rfl, rfl⟩)))) (hb hby d1_13) hr
    · show Q1 Z pi0 w_ELECTION w_ANSWER w_COORDINATOR h0 n0 _ T6.heap _
      rw [e6]
      subst hx1
      exact ⟨(by first | (simp only [if_pos hc7_4]; done) | (simp only [if_pos hc7_4]; exact rfl) | exact rfl), N0, rfl⟩
  · have pre8 : ∀ t, Steps p.tables e below (s₁.setTop (mkF m 16 #[iv pi0, iv x1] [(.int (1 : Int32)), (.int x1)])) t → Go t := fun t kt => pre3 t (by
        refine y_ifYes X0.here hx (hb hby d1_7) ((if0 _ _).trans (feq hc7_4).2) (pc' := 14) (by decide) rfl ?_
        refine y_iloadN X0.here hx (hb hby d1_14) rfl (pc' := 15) rfl ?_
        refine y_iconst X0.here hx (hb hby d1_15) (v := (1 : Int32)) rfl (pc' := 16) rfl ?_
        exact kt)
    by_cases hc16_9 : x1 = (1 : Int32)
    · have pre10 : ∀ t, Steps p.tables e below (s₁.setTop (mkF m 19 #[iv pi0, iv x1] [])) t → Go t := fun t kt => pre8 t (by
          refine y_icmpNo X0.here hx (hb hby d1_16) (teq hc16_9).2 (pc' := 19) rfl ?_
          exact kt)
      obtain ⟨T11, X11, e11, st11⟩ := getS2 X0 hx hZ hown (host := "") (Or.inl (hw _ (List.mem_of_getElem? (i := 61) rfl))) Via.refl e0 (S_ANSWER.ext O0.2) (g := (mkF m 19 #[iv pi0, iv x1] [])) rfl (hb hby d1_19)
      have pre12 : ∀ t, Steps p.tables e below (T11.setTop (mkF m 22 #[iv pi0, iv x1] [(.ref w_ANSWER)])) t → Go t := fun t kt => pre10 t (st11 t kt)
      obtain ⟨fs, hr, hrun, hended, hW, hsame⟩ := X11.leave (v := some (.ref w_ANSWER)) (fun h => by rw [Bd.returns] at h; cases h)
      refine ⟨_, _, (hGo _).mp (pre12 _ ?_), hrun, hended, _, _, rfl, ?_, ⟨_, rfl⟩, hW, hsame.mono (by decide) (by decide)⟩
      · exact retOut X11 hx Bd.returns rfl (Or.inr (Or.inr (Or.inr (Or.inr ⟨rfl, rfl, rfl⟩)))) (hb hby d1_22) hr
      · show Q1 Z pi0 w_ELECTION w_ANSWER w_COORDINATOR h0 n0 _ T11.heap _
        rw [e11]
        subst hx1
        exact ⟨(by first | (simp only [if_neg hc7_4, if_pos hc16_9]; done) | (simp only [if_neg hc7_4, if_pos hc16_9]; exact rfl) | exact rfl), N0, rfl⟩
    · have pre13 : ∀ t, Steps p.tables e below (s₁.setTop (mkF m 23 #[iv pi0, iv x1] [])) t → Go t := fun t kt => pre8 t (by
          refine y_icmpYes X0.here hx (hb hby d1_16) (feq hc16_9).2 (pc' := 23) (by decide) rfl ?_
          exact kt)
      obtain ⟨T14, X14, e14, st14⟩ := getS2 X0 hx hZ hown (host := "") (Or.inl (hw _ (List.mem_of_getElem? (i := 59) rfl))) Via.refl e0 (S_COORDINATOR.ext O0.2) (g := (mkF m 23 #[iv pi0, iv x1] [])) rfl (hb hby d1_23)
      have pre15 : ∀ t, Steps p.tables e below (T14.setTop (mkF m 26 #[iv pi0, iv x1] [(.ref w_COORDINATOR)])) t → Go t := fun t kt => pre13 t (st14 t kt)
      obtain ⟨fs, hr, hrun, hended, hW, hsame⟩ := X14.leave (v := some (.ref w_COORDINATOR)) (fun h => by rw [Bd.returns] at h; cases h)
      refine ⟨_, _, (hGo _).mp (pre15 _ ?_), hrun, hended, _, _, rfl, ?_, ⟨_, rfl⟩, hW, hsame.mono (by decide) (by decide)⟩
      · exact retOut X14 hx Bd.returns rfl (Or.inr (Or.inr (Or.inr (Or.inr ⟨rfl, rfl, rfl⟩)))) (hb hby d1_26) hr
      · show Q1 Z pi0 w_ELECTION w_ANSWER w_COORDINATOR h0 n0 _ T14.heap _
        rw [e14]
        subst hx1
        exact ⟨(by first | (simp only [if_neg hc7_4, if_neg hc16_9]; done) | (simp only [if_neg hc7_4, if_neg hc16_9]; exact rfl) | exact rfl), N0, rfl⟩
theorem d4_0 : decode prog_47_method_5_code 0 = .ok (.iload_n 0, 1) := by decide +kernel
theorem d4_1 : decode prog_47_method_5_code 1 = .ok (.iload_n 1, 1) := by decide +kernel
theorem d4_2 : decode prog_47_method_5_code 2 = .ok (.if_icmp .ne 17, 3) := by decide +kernel
theorem d4_19 : decode prog_47_method_5_code 19 = .ok (.return_, 1) := by decide +kernel
theorem pn_com_example_procord_procord_message_Message : plainName "com/example/procord/procord/message/Message" = true := by first | (simp [plainName, overriddenIn]; done) | decide +kernel
theorem ef_4 (m : MethodId) (x0 : Int32) (x1 : Int32) : entryFrame m #[(.int x0), (.int x1)] 2 = mkF m 0 #[iv x0, iv x1] [] := by first | (simp [entryFrame, mkF, argsToLocals, Value.category]; done) | rfl
def Q4 (Z : State) (pi0 : Int32) (pi1 : Int32) (h0 : Heap) (n0 : Nat) (v : Option Value) (h : Heap) (L : List Loc) : Prop := v = none ∧ Fr n0 L ∧ h = h0
set_option maxRecDepth 65536 in
set_option maxHeartbeats 40000000 in
theorem rm4 (l : Launch) (Z : State) (a0 : Array Value) (hw : ∀ d ∈ tables_1, d.before a0 Z = true) (ws : List Jvm.Cond) (pi0 : Int32) (pi1 : Int32) (h0 : Heap) (n0 : Nat) (O0 : Old Z n0 h0) (NQ : ¬ pi0 = pi1) :
    MetFree l (⟨"com/example/procord/procord/message/Message", "checkEnds", "(II)V"⟩ : MethodName) (head1 (Jvm.Cond.code (⟨"com/example/procord/procord/message/Message", "checkEnds", "(II)V"⟩ : MethodName) prog_47_method_5_code 2 none :: ws) ({ frames := 0, cells := 0, slots := 0, locals := 0 } : Room)) (fun a U => a = #[(.int pi0), (.int pi1)] ∧ Z.Warmed39 U.vm ∧ U.heap = h0) (fun _ _ _ _ _ => True) (fun _ U o U' => ∃ v L, o = .returned v ∧ Q4 Z pi0 pi1 h0 n0 v U'.heap L ∧ FrameEnd U o U' L ({ frames := 0, cells := 0, slots := 0, locals := 0 } : Room).cells ({ frames := 0, cells := 0, slots := 0, locals := 0 } : Room).slots) := by
  refine MetFree.of_bodySF (plainFor_of_name pn_com_example_procord_procord_message_Message) hisR ?_
  intro p e s m args below meth c s₁ Bd hml0 hP hK
  obtain ⟨rfl, hZ, hh⟩ := hP
  have hx := Bd.exec
  have hby := Bd.bytes
  have hml : c.maxLocals = 2 := hml0
  have hown : s.vm.findClass "com/example/procord/procord/message/Message" = some m.cls := findClass_of_methodNamed Bd.named
  have hnm := (name_of_methodNamed Bd.named Bd.method).1
  have X0 : Stand p l e ({ frames := 0, cells := 0, slots := 0, locals := 0 } : Room) s m #[(.int pi0), (.int pi1)] below meth c s₁ [] 0 0 := Stand.of_body Bd
  have e0 : s₁.heap = h0 := by rw [← hh, Bd.state]; rfl
  have N0 := Fr.nil n0
  obtain ⟨Go, hGo⟩ : ∃ P : State → Prop, ∀ t, P t ↔ Steps p.tables e below (s₁.setTop (entryFrame m #[(.int pi0), (.int pi1)] 2)) t := ⟨_, fun _ => Iff.rfl⟩
  have pre0 : ∀ t, Steps p.tables e below (s₁.setTop (mkF m 0 #[iv pi0, iv pi1] [])) t → Go t := fun t k => (hGo t).mpr (castTop (ef_4 m pi0 pi1) k)
  have pre1 : ∀ t, Steps p.tables e below (s₁.setTop (mkF m 19 #[iv pi0, iv pi1] [])) t → Go t := fun t kt => pre0 t (by
      refine y_iloadN X0.here hx (hb hby d4_0) rfl (pc' := 1) rfl ?_
      refine y_iloadN X0.here hx (hb hby d4_1) rfl (pc' := 2) rfl ?_
      refine y_icmpYes X0.here hx (hb hby d4_2) (feq NQ).2 (pc' := 19) (by decide) rfl ?_
      exact kt)
  obtain ⟨fs, hr, hrun, hended, hW, hsame⟩ := X0.leave (v := none) (fun _ => rfl)
  refine ⟨_, _, (hGo _).mp (pre1 _ ?_), hrun, hended, _, _, rfl, ?_, ⟨_, rfl⟩, hW, hsame.mono (by decide) (by decide)⟩
  · exact X0.returnOut hx Bd.returns (hb hby d4_19) hr
  · show Q4 Z pi0 pi1 h0 n0 _ s₁.heap _
    rw [e0]
    exact ⟨rfl, N0, rfl⟩
theorem d5_0 : decode jdk_31_method_11_code 0 = .ok (.aload_n 0, 1) := by decide +kernel
theorem d5_1 : decode jdk_31_method_11_code 1 = .ok (.ifnonnull 12, 3) := by decide +kernel
theorem d5_13 : decode jdk_31_method_11_code 13 = .ok (.aload_n 0, 1) := by decide +kernel
theorem d5_14 : decode jdk_31_method_11_code 14 = .ok (.areturn, 1) := by decide +kernel
theorem pn_java_util_Objects : plainName "java/util/Objects" = true := by first | (simp [plainName, overriddenIn]; done) | decide +kernel
theorem ef_5 (m : MethodId) (x0 : Addr) (x1 : Addr) : entryFrame m #[(.ref x0), (.ref x1)] 2 = mkF m 0 #[rv x0, rv x1] [] := by first | (simp [entryFrame, mkF, argsToLocals, Value.category]; done) | rfl
def Q5 (Z : State) (pr0 : Addr) (pr1 : Addr) (h0 : Heap) (n0 : Nat) (v : Option Value) (h : Heap) (L : List Loc) : Prop := v = some (.ref pr0) ∧ Fr n0 L ∧ h = h0
set_option maxRecDepth 65536 in
set_option maxHeartbeats 40000000 in
theorem rm5 (l : Launch) (Z : State) (a0 : Array Value) (hw : ∀ d ∈ tables_1, d.before a0 Z = true) (ws : List Jvm.Cond) (pr0 : Addr) (pr1 : Addr) (h0 : Heap) (n0 : Nat) (O0 : Old Z n0 h0) :
    MetFree l (⟨"java/util/Objects", "requireNonNull", "(Ljava/lang/Object;Ljava/lang/String;)Ljava/lang/Object;"⟩ : MethodName) (head1 (Jvm.Cond.code (⟨"java/util/Objects", "requireNonNull", "(Ljava/lang/Object;Ljava/lang/String;)Ljava/lang/Object;"⟩ : MethodName) jdk_31_method_11_code 2 (some (.object "java/lang/Object")) :: ws) ({ frames := 0, cells := 0, slots := 0, locals := 0 } : Room)) (fun a U => a = #[(.ref pr0), (.ref pr1)] ∧ Z.Warmed39 U.vm ∧ U.heap = h0) (fun _ _ _ _ _ => True) (fun _ U o U' => ∃ v L, o = .returned v ∧ Q5 Z pr0 pr1 h0 n0 v U'.heap L ∧ FrameEnd U o U' L ({ frames := 0, cells := 0, slots := 0, locals := 0 } : Room).cells ({ frames := 0, cells := 0, slots := 0, locals := 0 } : Room).slots) := by
  refine MetFree.of_bodySF (plainFor_of_name pn_java_util_Objects) hisR ?_
  intro p e s m args below meth c s₁ Bd hml0 hP hK
  obtain ⟨rfl, hZ, hh⟩ := hP
  have hx := Bd.exec
  have hby := Bd.bytes
  have hml : c.maxLocals = 2 := hml0
  have hown : s.vm.findClass "java/util/Objects" = some m.cls := findClass_of_methodNamed Bd.named
  have hnm := (name_of_methodNamed Bd.named Bd.method).1
  have X0 : Stand p l e ({ frames := 0, cells := 0, slots := 0, locals := 0 } : Room) s m #[(.ref pr0), (.ref pr1)] below meth c s₁ [] 0 0 := Stand.of_body Bd
  have e0 : s₁.heap = h0 := by rw [← hh, Bd.state]; rfl
  have N0 := Fr.nil n0
  obtain ⟨Go, hGo⟩ : ∃ P : State → Prop, ∀ t, P t ↔ Steps p.tables e below (s₁.setTop (entryFrame m #[(.ref pr0), (.ref pr1)] 2)) t := ⟨_, fun _ => Iff.rfl⟩
  have pre0 : ∀ t, Steps p.tables e below (s₁.setTop (mkF m 0 #[rv pr0, rv pr1] [])) t → Go t := fun t k => (hGo t).mpr (castTop (ef_5 m pr0 pr1) k)
  have pre1 : ∀ t, Steps p.tables e below (s₁.setTop (mkF m 14 #[rv pr0, rv pr1] [(.ref pr0)])) t → Go t := fun t kt => pre0 t (by
      refine y_aloadN X0.here hx (hb hby d5_0) rfl rfl (pc' := 1) rfl ?_
      refine XS.ifnonnullYes X0.here hx rfl (pc0 := 1) (pc' := 13) rfl (hb hby d5_1) rfl (by decide) (by decide) ?_
      show Steps p.tables e below (s₁.setTop (mkF m 13 #[rv pr0, rv pr1] [])) _
      refine y_aloadN X0.here hx (hb hby d5_13) rfl rfl (pc' := 14) rfl ?_
      exact kt)
  obtain ⟨fs, hr, hrun, hended, hW, hsame⟩ := X0.leave (v := some (.ref pr0)) (fun h => by rw [Bd.returns] at h; cases h)
  refine ⟨_, _, (hGo _).mp (pre1 _ ?_), hrun, hended, _, _, rfl, ?_, ⟨_, rfl⟩, hW, hsame.mono (by decide) (by decide)⟩
  · exact retOut X0 hx Bd.returns rfl (Or.inr (Or.inr (Or.inr (Or.inr ⟨rfl, rfl, rfl⟩)))) (hb hby d5_14) hr
  · show Q5 Z pr0 pr1 h0 n0 _ s₁.heap _
    rw [e0]
    exact ⟨rfl, N0, rfl⟩
theorem d9_0 : decode jdk_18_method_1_code 0 = .ok (.aload_n 0, 1) := by decide +kernel
theorem d9_1 : decode jdk_18_method_1_code 1 = .ok (.invokespecial 1, 3) := by decide +kernel
theorem d9_4 : decode jdk_18_method_1_code 4 = .ok (.return_, 1) := by decide +kernel
theorem pn_java_lang_Number : plainName "java/lang/Number" = true := by first | (simp [plainName, overriddenIn]; done) | decide +kernel
theorem ef_9 (m : MethodId) (x0 : Addr) : entryFrame m #[(.ref x0)] 1 = mkF m 0 #[rv x0] [] := by first | (simp [entryFrame, mkF, argsToLocals, Value.category]; done) | rfl
def Q9 (Z : State) (pr0 : Addr) (h0 : Heap) (n0 : Nat) (v : Option Value) (h : Heap) (L : List Loc) : Prop := v = none ∧ Fr n0 L ∧ h = h0
set_option maxRecDepth 65536 in
set_option maxHeartbeats 40000000 in
theorem rm9 (l : Launch) (Z : State) (a0 : Array Value) (hw : ∀ d ∈ tables_1, d.before a0 Z = true) (ws : List Jvm.Cond) (pr0 : Addr) (h0 : Heap) (n0 : Nat) (O0 : Old Z n0 h0) (E_pr0 : Exa Z h0 pr0 "java/lang/Integer") :
    MetFree l (⟨"java/lang/Number", "<init>", "()V"⟩ : MethodName) (head1 (Jvm.Cond.code (⟨"java/lang/Number", "<init>", "()V"⟩ : MethodName) jdk_18_method_1_code 1 none :: ws) ({ frames := 1, cells := 0, slots := 0, locals := 12 } : Room)) (fun a U => a = #[(.ref pr0)] ∧ Z.Warmed39 U.vm ∧ U.heap = h0) (fun _ _ _ _ _ => True) (fun _ U o U' => ∃ v L, o = .returned v ∧ Q9 Z pr0 h0 n0 v U'.heap L ∧ FrameEnd U o U' L ({ frames := 1, cells := 0, slots := 0, locals := 12 } : Room).cells ({ frames := 1, cells := 0, slots := 0, locals := 12 } : Room).slots) := by
  refine MetFree.of_bodySF (plainFor_of_name pn_java_lang_Number) hisR ?_
  intro p e s m args below meth c s₁ Bd hml0 hP hK
  obtain ⟨rfl, hZ, hh⟩ := hP
  have hx := Bd.exec
  have hby := Bd.bytes
  have hml : c.maxLocals = 1 := hml0
  have hown : s.vm.findClass "java/lang/Number" = some m.cls := findClass_of_methodNamed Bd.named
  have hnm := (name_of_methodNamed Bd.named Bd.method).1
  have X0 : Stand p l e ({ frames := 1, cells := 0, slots := 0, locals := 12 } : Room) s m #[(.ref pr0)] below meth c s₁ [] 0 0 := Stand.of_body Bd
  have e0 : s₁.heap = h0 := by rw [← hh, Bd.state]; rfl
  have N0 := Fr.nil n0
  obtain ⟨Go, hGo⟩ : ∃ P : State → Prop, ∀ t, P t ↔ Steps p.tables e below (s₁.setTop (entryFrame m #[(.ref pr0)] 1)) t := ⟨_, fun _ => Iff.rfl⟩
  have pre0 : ∀ t, Steps p.tables e below (s₁.setTop (mkF m 0 #[rv pr0] [])) t → Go t := fun t k => (hGo t).mpr (castTop (ef_9 m pr0) k)
  have pre1 : ∀ t, Steps p.tables e below (s₁.setTop (mkF m 1 #[rv pr0] [(.ref pr0)])) t → Go t := fun t kt => pre0 t (by
      refine y_aloadN X0.here hx (hb hby d9_0) rfl rfl (pc' := 1) rfl ?_
      exact kt)
  obtain ⟨T2, X2, e2, st2⟩ := initO X0 hx hZ hown (hw _ (List.mem_of_getElem? (i := 75) rfl)) (hw _ (List.mem_of_getElem? (i := 14) rfl)) (hw _ (List.mem_of_getElem? (i := 15) rfl)) e0 (g := (mkF m 1 #[rv pr0] [(.ref pr0)])) rfl (by rw [hml]; rfl) rfl (hb hby d9_1) (by decide) (W := 0) (by show 2 * 0 + _ ≤ _; exact Nat.le_of_eq rfl) (by decide)
  have pre3 : ∀ t, Steps p.tables e below (T2.setTop (mkF m 4 #[rv pr0] [])) t → Go t := fun t kt => pre1 t (st2 t kt)
  obtain ⟨fs, hr, hrun, hended, hW, hsame⟩ := X2.leave (v := none) (fun _ => rfl)
  refine ⟨_, _, (hGo _).mp (pre3 _ ?_), hrun, hended, _, _, rfl, ?_, ⟨_, rfl⟩, hW, hsame.mono (by decide) (by decide)⟩
  · exact X2.returnOut hx Bd.returns (hb hby d9_4) hr
  · show Q9 Z pr0 h0 n0 _ T2.heap _
    rw [e2]
    exact ⟨rfl, N0, rfl⟩
theorem d8_0 : decode jdk_33_method_23_code 0 = .ok (.aload_n 0, 1) := by decide +kernel
theorem d8_1 : decode jdk_33_method_23_code 1 = .ok (.invokespecial 202, 3) := by decide +kernel
theorem d8_4 : decode jdk_33_method_23_code 4 = .ok (.aload_n 0, 1) := by decide +kernel
theorem d8_5 : decode jdk_33_method_23_code 5 = .ok (.iload_n 1, 1) := by decide +kernel
theorem d8_6 : decode jdk_33_method_23_code 6 = .ok (.putfield 205, 3) := by decide +kernel
theorem d8_9 : decode jdk_33_method_23_code 9 = .ok (.return_, 1) := by decide +kernel
theorem pn_java_lang_Integer : plainName "java/lang/Integer" = true := by first | (simp [plainName, overriddenIn]; done) | decide +kernel
theorem pd___V : parseMethodDescriptor "()V" = some ⟨[], none⟩ := by decide +kernel
theorem ef_8 (m : MethodId) (x0 : Addr) (x1 : Int32) : entryFrame m #[(.ref x0), (.int x1)] 2 = mkF m 0 #[rv x0, iv x1] [] := by first | (simp [entryFrame, mkF, argsToLocals, Value.category]; done) | rfl
def Q8 (Z : State) (pr0 : Addr) (pi1 : Int32) (h0 : Heap) (n0 : Nat) (v : Option Value) (h : Heap) (L : List Loc) : Prop := v = none ∧ Fr n0 L ∧ Keep h0 h [pr0] ∧ Fld Z h pr0 "java/lang/Integer" "value" "I" (.int pi1)
set_option maxRecDepth 65536 in
set_option maxHeartbeats 40000000 in
theorem rm8 (l : Launch) (Z : State) (a0 : Array Value) (hw : ∀ d ∈ tables_1, d.before a0 Z = true) (ws : List Jvm.Cond) (pr0 : Addr) (pi1 : Int32) (h0 : Heap) (n0 : Nat) (O0 : Old Z n0 h0) (E_pr0 : Exa Z h0 pr0 "java/lang/Integer") (F_value_pr0 : Fld Z h0 pr0 "java/lang/Integer" "value" "I" (.int (0 : Int32))) (G_pr0 : n0 ≤ pr0) :
    MetFree l (⟨"java/lang/Integer", "<init>", "(I)V"⟩ : MethodName) (head1 (Jvm.Cond.code (⟨"java/lang/Integer", "<init>", "(I)V"⟩ : MethodName) jdk_33_method_23_code 2 none :: ws) ({ frames := 2, cells := 0, slots := 0, locals := 24 } : Room)) (fun a U => a = #[(.ref pr0), (.int pi1)] ∧ Z.Warmed39 U.vm ∧ U.heap = h0) (fun _ _ _ _ _ => True) (fun _ U o U' => ∃ v L, o = .returned v ∧ Q8 Z pr0 pi1 h0 n0 v U'.heap L ∧ FrameEnd U o U' L ({ frames := 2, cells := 0, slots := 0, locals := 24 } : Room).cells ({ frames := 2, cells := 0, slots := 0, locals := 24 } : Room).slots) := by
  refine MetFree.of_bodySF (plainFor_of_name pn_java_lang_Integer) hisR ?_
  intro p e s m args below meth c s₁ Bd hml0 hP hK
  obtain ⟨rfl, hZ, hh⟩ := hP
  have hx := Bd.exec
  have hby := Bd.bytes
  have hml : c.maxLocals = 2 := hml0
  have hown : s.vm.findClass "java/lang/Integer" = some m.cls := findClass_of_methodNamed Bd.named
  have hnm := (name_of_methodNamed Bd.named Bd.method).1
  have X0 : Stand p l e ({ frames := 2, cells := 0, slots := 0, locals := 24 } : Room) s m #[(.ref pr0), (.int pi1)] below meth c s₁ [] 0 0 := Stand.of_body Bd
  have e0 : s₁.heap = h0 := by rw [← hh, Bd.state]; rfl
  have N0 := Fr.nil n0
  obtain ⟨Go, hGo⟩ : ∃ P : State → Prop, ∀ t, P t ↔ Steps p.tables e below (s₁.setTop (entryFrame m #[(.ref pr0), (.int pi1)] 2)) t := ⟨_, fun _ => Iff.rfl⟩
  have pre0 : ∀ t, Steps p.tables e below (s₁.setTop (mkF m 0 #[rv pr0, iv pi1] [])) t → Go t := fun t k => (hGo t).mpr (castTop (ef_8 m pr0 pi1) k)
  have K0 : Keep h0 h0 [pr0] := Keep.refl _ _
  have pre1 : ∀ t, Steps p.tables e below (s₁.setTop (mkF m 1 #[rv pr0, iv pi1] [(.ref pr0)])) t → Go t := fun t kt => pre0 t (by
      refine y_aloadN X0.here hx (hb hby d8_0) rfl rfl (pc' := 1) rfl ?_
      exact kt)
  obtain ⟨v2, _, ⟨T2, L2, k2, n2⟩, -, X2, ⟨Lc2, hQ2, l2, y2, z2⟩, st2⟩ := X0.specialBack hx (y := (⟨"java/lang/Number", "<init>", "()V"⟩ : MethodName)) rfl hown (mvT hZ (hw _ (List.mem_of_getElem? (i := 69) rfl))) (mvT hZ (hw _ (List.mem_of_getElem? (i := 70) rfl))) (mvT hZ (hw _ (List.mem_of_getElem? (i := 74) rfl))) (by decide) (backOf (W := 0) (rm9 l Z a0 hw [] pr0 h0 n0 O0 E_pr0) hZ (hw _ (List.mem_of_getElem? (i := 74) rfl)) (hw _ (List.mem_of_getElem? (i := 73) rfl)) (by decide) (by decide)) (g := (mkF m 1 #[rv pr0, iv pi1] [(.ref pr0)])) rfl (by rw [hml]; rfl) (Steps.refl _) (a := pr0) (argsL := []) (rest := []) (lenOf pd___V rfl) rfl (by show 2 * 0 + _ ≤ _; exact Nat.le_of_eq rfl) (hb hby d8_1) (fun _ _ => ⟨rfl, e0, (by decide : 0 + 0 ≤ _), (by decide : 0 + 0 ≤ _)⟩)
  dsimp only [Pt.U, Pt.locs, Pt.cells, Pt.slots] at X2 l2 y2 z2 st2 hQ2
  subst l2 y2 z2
  obtain ⟨hv2, N2q, e2q⟩ := hQ2
  have N3 := Fr.app N0 N2q
  subst hv2
  have pre4 : ∀ t, Steps p.tables e below (T2.setTop (mkF m 4 #[rv pr0, iv pi1] [])) t → Go t := fun t kt => pre1 t (st2.trans kt)
  have pre5 : ∀ t, Steps p.tables e below (T2.setTop (mkF m 6 #[rv pr0, iv pi1] [(.int pi1), (.ref pr0)])) t → Go t := fun t kt => pre4 t (by
      refine y_aloadN X2.here hx (hb hby d8_4) rfl rfl (pc' := 5) rfl ?_
      refine y_iloadN X2.here hx (hb hby d8_5) rfl (pc' := 6) rfl ?_
      exact kt)
  obtain ⟨T6, h6, X6, e6, W6, st6⟩ := putF X2 hx hZ hown (host := "") (Or.inl (hw _ (List.mem_of_getElem? (i := 76) rfl))) Via.refl e2q F_value_pr0 E_pr0 (Or.inr ⟨(hw _ (List.mem_of_getElem? (i := 77) rfl)), rfl, hnm⟩) (hw _ (List.mem_of_getElem? (i := 64) rfl)) (ty := .int) (by decide) rfl rfl (g := (mkF m 6 #[rv pr0, iv pi1] [(.int pi1), (.ref pr0)])) rfl rfl (hb hby d8_6)
  have pre7 : ∀ t, Steps p.tables e below (T6.setTop (mkF m 9 #[rv pr0, iv pi1] [])) t → Go t := fun t kt => pre5 t (st6 t kt)
  have f8 : Exa Z h6 pr0 "java/lang/Integer" := (E_pr0.wr W6)
  have f10 : Fld Z h6 pr0 "java/lang/Integer" "value" "I" (.int pi1) := F_value_pr0.same W6
  have N11 := Fr.snoc X6 N3 G_pr0
  have O11 := O0.wr W6 G_pr0
  have K11 : Keep h0 h6 [pr0] := K0.wr W6 (Or.inl (List.mem_of_getElem? (i := 0) rfl))
  obtain ⟨fs, hr, hrun, hended, hW, hsame⟩ := X6.leave (v := none) (fun _ => rfl)
  refine ⟨_, _, (hGo _).mp (pre7 _ ?_), hrun, hended, _, _, rfl, ?_, ⟨_, rfl⟩, hW, hsame.mono (by decide) (by decide)⟩
  · exact X6.returnOut hx Bd.returns (hb hby d8_9) hr
  · show Q8 Z pr0 pi1 h0 n0 _ T6.heap _
    rw [e6]
    exact ⟨rfl, N11, K11, f10⟩
theorem own_in {c : Cell} {x : Int32} (S : c.slots.size = (256 : Int32).toNatClampNeg) (h1 : ¬ (x < (-128 : Int32))) (h2 : ¬ ((127 : Int32) < x)) : ¬ (x + (128 : Int32) < 0 ∨ c.slots.size ≤ (x + (128 : Int32)).toNatClampNeg) := by
  have q2 := c_iadd x 128
  have q5 := (x + 128).le_toInt
  have q6 := (x + 128).toInt_lt
  have e1 : (128 : Int32).toInt = 128 := rfl
  have e2 : (-128 : Int32).toInt = -128 := rfl
  have e3 : (127 : Int32).toInt = 127 := rfl
  have e4 : (0 : Int32).toInt = 0 := rfl
  have e5 : (256 : Int32).toInt = 256 := rfl
  refine inb_of S ⟨?_, ?_⟩
  · rw [Int32.lt_iff_toInt_lt] at h1 h2 ⊢; omega
  · rw [Int32.lt_iff_toInt_lt] at h1 h2 ⊢; omega
theorem d6_0 : decode jdk_33_method_22_code 0 = .ok (.iload_n 0, 1) := by decide +kernel
theorem d6_1 : decode jdk_33_method_22_code 1 = .ok (.bipush (-128), 2) := by decide +kernel
theorem d6_3 : decode jdk_33_method_22_code 3 = .ok (.if_icmp .lt 20, 3) := by decide +kernel
theorem d6_6 : decode jdk_33_method_22_code 6 = .ok (.iload_n 0, 1) := by decide +kernel
theorem d6_7 : decode jdk_33_method_22_code 7 = .ok (.getstatic 191, 3) := by decide +kernel
theorem d6_10 : decode jdk_33_method_22_code 10 = .ok (.if_icmp .gt 13, 3) := by decide +kernel
theorem d6_13 : decode jdk_33_method_22_code 13 = .ok (.getstatic 195, 3) := by decide +kernel
theorem d6_16 : decode jdk_33_method_22_code 16 = .ok (.iload_n 0, 1) := by decide +kernel
theorem d6_17 : decode jdk_33_method_22_code 17 = .ok (.sipush 128, 3) := by decide +kernel
theorem d6_20 : decode jdk_33_method_22_code 20 = .ok (.iadd, 1) := by decide +kernel
theorem d6_21 : decode jdk_33_method_22_code 21 = .ok (.aaload, 1) := by decide +kernel
theorem d6_22 : decode jdk_33_method_22_code 22 = .ok (.areturn, 1) := by decide +kernel
theorem d6_23 : decode jdk_33_method_22_code 23 = .ok (.new 1, 3) := by decide +kernel
theorem d6_26 : decode jdk_33_method_22_code 26 = .ok (.dup, 1) := by decide +kernel
theorem d6_27 : decode jdk_33_method_22_code 27 = .ok (.iload_n 0, 1) := by decide +kernel
theorem d6_28 : decode jdk_33_method_22_code 28 = .ok (.invokespecial 199, 3) := by decide +kernel
theorem d6_31 : decode jdk_33_method_22_code 31 = .ok (.areturn, 1) := by decide +kernel
theorem pd__I_V : parseMethodDescriptor "(I)V" = some ⟨[.int], none⟩ := by decide +kernel
theorem ef_6 (m : MethodId) (x0 : Int32) : entryFrame m #[(.int x0)] 1 = mkF m 0 #[iv x0] [] := by first | (simp [entryFrame, mkF, argsToLocals, Value.category]; done) | rfl
def Q6 (Z : State) (pi0 : Int32) (w_cache : Addr) (cc : Cell) (h0 : Heap) (n0 : Nat) (v : Option Value) (h : Heap) (L : List Loc) : Prop := (∃ b : Addr, v = some (.ref b) ∧ Exa Z h b "java/lang/Integer") ∧ Fr n0 L ∧ Keep h0 h []
set_option maxRecDepth 65536 in
set_option maxHeartbeats 40000000 in
theorem rm6 (l : Launch) (Z : State) (a0 : Array Value) (hw : ∀ d ∈ tables_1, d.before a0 Z = true) (ws : List Jvm.Cond) (pi0 : Int32) (w_cache : Addr) (cc : Cell) (h0 : Heap) (n0 : Nat) (O0 : Old Z n0 h0) (S_cache : Sta Z Z.heap "java/lang/Integer$IntegerCache" "cache" "[Ljava/lang/Integer;" (.ref w_cache)) (S_high : Sta Z Z.heap "java/lang/Integer$IntegerCache" "high" "I" (.int (127 : Int32))) (CA : Bxs Z w_cache cc "java/lang/Integer" "I" (256 : Int32) (fun j => .int (j - 128))) :
    MetFree l (⟨"java/lang/Integer", "valueOf", "(I)Ljava/lang/Integer;"⟩ : MethodName) (head1 (Jvm.Cond.code (⟨"java/lang/Integer", "valueOf", "(I)Ljava/lang/Integer;"⟩ : MethodName) jdk_33_method_22_code 1 (some (.object "java/lang/Integer")) :: ws) ({ frames := 3, cells := 1, slots := 1, locals := 38 } : Room)) (fun a U => a = #[(.int pi0)] ∧ Z.Warmed39 U.vm ∧ U.heap = h0) (fun _ _ _ _ _ => True) (fun _ U o U' => ∃ v L, o = .returned v ∧ Q6 Z pi0 w_cache cc h0 n0 v U'.heap L ∧ FrameEnd U o U' L ({ frames := 3, cells := 1, slots := 1, locals := 38 } : Room).cells ({ frames := 3, cells := 1, slots := 1, locals := 38 } : Room).slots) := by
  refine MetFree.of_bodySF (plainFor_of_name pn_java_lang_Integer) hisR ?_
  intro p e s m args below meth c s₁ Bd hml0 hP hK
  obtain ⟨rfl, hZ, hh⟩ := hP
  have hx := Bd.exec
  have hby := Bd.bytes
  have hml : c.maxLocals = 1 := hml0
  have hown : s.vm.findClass "java/lang/Integer" = some m.cls := findClass_of_methodNamed Bd.named
  have hnm := (name_of_methodNamed Bd.named Bd.method).1
  have X0 : Stand p l e ({ frames := 3, cells := 1, slots := 1, locals := 38 } : Room) s m #[(.int pi0)] below meth c s₁ [] 0 0 := Stand.of_body Bd
  have e0 : s₁.heap = h0 := by rw [← hh, Bd.state]; rfl
  have N0 := Fr.nil n0
  obtain ⟨Go, hGo⟩ : ∃ P : State → Prop, ∀ t, P t ↔ Steps p.tables e below (s₁.setTop (entryFrame m #[(.int pi0)] 1)) t := ⟨_, fun _ => Iff.rfl⟩
  have pre0 : ∀ t, Steps p.tables e below (s₁.setTop (mkF m 0 #[iv pi0] [])) t → Go t := fun t k => (hGo t).mpr (castTop (ef_6 m pi0) k)
  have K0 : Keep h0 h0 [] := Keep.refl _ _
  have pre1 : ∀ t, Steps p.tables e below (s₁.setTop (mkF m 3 #[iv pi0] [(.int (-128 : Int32)), (.int pi0)])) t → Go t := fun t kt => pre0 t (by
      refine y_iloadN X0.here hx (hb hby d6_0) rfl (pc' := 1) rfl ?_
      refine y_bipush X0.here hx (hb hby d6_1) (v := (-128 : Int32)) rfl (pc' := 3) rfl ?_
      exact kt)
  by_cases hc3_2 : pi0 < (-128 : Int32)
  · have pre3 : ∀ t, Steps p.tables e below (s₁.setTop (mkF m 23 #[iv pi0] [])) t → Go t := fun t kt => pre1 t (by
        refine y_icmpYes X0.here hx (hb hby d6_3) (tlt hc3_2).1 (pc' := 23) (by decide) rfl ?_
        exact kt)
    obtain ⟨T4, h4, X4, e4, E4, A4, D4, -, st4⟩ := newO X0 hx hZ hown (hw _ (List.mem_of_getElem? (i := 63) rfl)) (hw _ (List.mem_of_getElem? (i := 64) rfl)) (hw _ (List.mem_of_getElem? (i := 44) rfl)) e0 (g := (mkF m 23 #[iv pi0] [])) rfl (hb hby d6_23) (by decide) (by decide)
    obtain ⟨b4, g4⟩ : ∃ z, z = h0.size := ⟨_, rfl⟩
    rw [← g4] at A4 D4 st4
    have pre5 : ∀ t, Steps p.tables e below (T4.setTop (mkF m 26 #[iv pi0] [(.ref b4)])) t → Go t := fun t kt => pre3 t (st4 t kt)
    have G6 : n0 ≤ b4 := Nat.le_trans (O0.1 ▸ O0.2.1) (Nat.le_of_eq g4.symm)
    have Z6 : h0.size ≤ b4 := Nat.le_trans K0.1 (Nat.le_of_eq g4.symm)
    have O6 := O0.ext E4
    have K6 : Keep h0 h4 [] := K0.ext E4
    have f7 : Fld Z h4 b4 "java/lang/Integer" "value" "I" (.int (0 : Int32)) := D4 (Or.inr (hw _ (List.mem_of_getElem? (i := 77) rfl))) (ty := .int) (by decide)
    have pre8 : ∀ t, Steps p.tables e below (T4.setTop (mkF m 28 #[iv pi0] [(.int pi0), (.ref b4), (.ref b4)])) t → Go t := fun t kt => pre5 t (by
        refine y_dup X4.here hx (hb hby d6_26) rfl (pc' := 27) rfl ?_
        refine y_iloadN X4.here hx (hb hby d6_27) rfl (pc' := 28) rfl ?_
        exact kt)
    obtain ⟨v9, _, ⟨T9, L9, k9, n9⟩, -, X9, ⟨Lc9, hQ9, l9, y9, z9⟩, st9⟩ := X4.specialBack hx (y := (⟨"java/lang/Integer", "<init>", "(I)V"⟩ : MethodName)) rfl hown (mvT hZ (hw _ (List.mem_of_getElem? (i := 65) rfl))) (mvT hZ (hw _ (List.mem_of_getElem? (i := 66) rfl))) (mvT hZ (hw _ (List.mem_of_getElem? (i := 68) rfl))) (by decide) (backOf (W := 1) (rm8 l Z a0 hw [] b4 pi0 h4 n0 O6 A4 f7 G6) hZ (hw _ (List.mem_of_getElem? (i := 68) rfl)) (hw _ (List.mem_of_getElem? (i := 44) rfl)) (by decide) (by decide)) (g := (mkF m 28 #[iv pi0] [(.int pi0), (.ref b4), (.ref b4)])) rfl (by rw [hml]; rfl) (Steps.refl _) (a := b4) (argsL := [(.int pi0)]) (rest := [(.ref b4)]) (lenOf pd__I_V rfl) rfl (by show 2 * 0 + _ ≤ _; exact Nat.le_of_eq rfl) (hb hby d6_28) (fun _ _ => ⟨rfl, e4, (by decide : 1 + 0 ≤ _), (by decide : 1 + 0 ≤ _)⟩)
    dsimp only [Pt.U, Pt.locs, Pt.cells, Pt.slots] at X9 l9 y9 z9 st9 hQ9
    subst l9 y9 z9
    obtain ⟨hv9, N9q, K9q, p9_0⟩ := hQ9
    have N10 := Fr.app N0 N9q
    subst hv9
    have pre11 : ∀ t, Steps p.tables e below (T9.setTop (mkF m 31 #[iv pi0] [(.ref b4)])) t → Go t := fun t kt => pre8 t (st9.trans kt)
    obtain ⟨h9, eh9⟩ : ∃ z, T9.heap = z := ⟨_, rfl⟩
    rw [eh9] at K9q p9_0
    have f12 : Exa Z h9 b4 "java/lang/Integer" := (A4.keep K9q)
    have O14 := O6.keep K9q (allS G6 all0)
    have K14 : Keep h0 h9 [] := K6.trans K9q (allS (P := fun x => x ∈ [] ∨ h0.size ≤ x) (Or.inr Z6) all0)
    obtain ⟨fs, hr, hrun, hended, hW, hsame⟩ := X9.leave (v := some (.ref b4)) (fun h => by rw [Bd.returns] at h; cases h)
    refine ⟨_, _, (hGo _).mp (pre11 _ ?_), hrun, hended, _, _, rfl, ?_, ⟨_, rfl⟩, hW, hsame.mono (by decide) (by decide)⟩
    · exact retOut X9 hx Bd.returns rfl (Or.inr (Or.inr (Or.inr (Or.inr ⟨rfl, rfl, rfl⟩)))) (hb hby d6_31) hr
    · show Q6 Z pi0 w_cache cc h0 n0 _ T9.heap _
      rw [eh9]
      exact ⟨⟨_, rfl, f12⟩, N10, K14⟩
  · have pre15 : ∀ t, Steps p.tables e below (s₁.setTop (mkF m 7 #[iv pi0] [(.int pi0)])) t → Go t := fun t kt => pre1 t (by
        refine y_icmpNo X0.here hx (hb hby d6_3) (flt hc3_2).1 (pc' := 6) rfl ?_
        refine y_iloadN X0.here hx (hb hby d6_6) rfl (pc' := 7) rfl ?_
        exact kt)
    obtain ⟨T16, X16, e16, st16⟩ := getS2 X0 hx hZ hown (host := "") (Or.inl (hw _ (List.mem_of_getElem? (i := 46) rfl))) Via.refl e0 (S_high.ext O0.2) (g := (mkF m 7 #[iv pi0] [(.int pi0)])) rfl (hb hby d6_7)
    have pre17 : ∀ t, Steps p.tables e below (T16.setTop (mkF m 10 #[iv pi0] [(.int (127 : Int32)), (.int pi0)])) t → Go t := fun t kt => pre15 t (st16 t kt)
    by_cases hc10_18 : (127 : Int32) < pi0
    · have pre19 : ∀ t, Steps p.tables e below (T16.setTop (mkF m 23 #[iv pi0] [])) t → Go t := fun t kt => pre17 t (by
          refine y_icmpYes X16.here hx (hb hby d6_10) (tlt hc10_18).2.2.1 (pc' := 23) (by decide) rfl ?_
          exact kt)
      obtain ⟨T20, h20, X20, e20, E20, A20, D20, -, st20⟩ := newO X16 hx hZ hown (hw _ (List.mem_of_getElem? (i := 63) rfl)) (hw _ (List.mem_of_getElem? (i := 64) rfl)) (hw _ (List.mem_of_getElem? (i := 44) rfl)) e16 (g := (mkF m 23 #[iv pi0] [])) rfl (hb hby d6_23) (by decide) (by decide)
      obtain ⟨b20, g20⟩ : ∃ z, z = h0.size := ⟨_, rfl⟩
      rw [← g20] at A20 D20 st20
      have pre21 : ∀ t, Steps p.tables e below (T20.setTop (mkF m 26 #[iv pi0] [(.ref b20)])) t → Go t := fun t kt => pre19 t (st20 t kt)
      have G22 : n0 ≤ b20 := Nat.le_trans (O0.1 ▸ O0.2.1) (Nat.le_of_eq g20.symm)
      have Z22 : h0.size ≤ b20 := Nat.le_trans K0.1 (Nat.le_of_eq g20.symm)
      have O22 := O0.ext E20
      have K22 : Keep h0 h20 [] := K0.ext E20
      have f23 : Fld Z h20 b20 "java/lang/Integer" "value" "I" (.int (0 : Int32)) := D20 (Or.inr (hw _ (List.mem_of_getElem? (i := 77) rfl))) (ty := .int) (by decide)
      have pre24 : ∀ t, Steps p.tables e below (T20.setTop (mkF m 28 #[iv pi0] [(.int pi0), (.ref b20), (.ref b20)])) t → Go t := fun t kt => pre21 t (by
          refine y_dup X20.here hx (hb hby d6_26) rfl (pc' := 27) rfl ?_
          refine y_iloadN X20.here hx (hb hby d6_27) rfl (pc' := 28) rfl ?_
          exact kt)
      obtain ⟨v25, _, ⟨T25, L25, k25, n25⟩, -, X25, ⟨Lc25, hQ25, l25, y25, z25⟩, st25⟩ := X20.specialBack hx (y := (⟨"java/lang/Integer", "<init>", "(I)V"⟩ : MethodName)) rfl hown (mvT hZ (hw _ (List.mem_of_getElem? (i := 65) rfl))) (mvT hZ (hw _ (List.mem_of_getElem? (i := 66) rfl))) (mvT hZ (hw _ (List.mem_of_getElem? (i := 68) rfl))) (by decide) (backOf (W := 1) (rm8 l Z a0 hw [] b20 pi0 h20 n0 O22 A20 f23 G22) hZ (hw _ (List.mem_of_getElem? (i := 68) rfl)) (hw _ (List.mem_of_getElem? (i := 44) rfl)) (by decide) (by decide)) (g := (mkF m 28 #[iv pi0] [(.int pi0), (.ref b20), (.ref b20)])) rfl (by rw [hml]; rfl) (Steps.refl _) (a := b20) (argsL := [(.int pi0)]) (rest := [(.ref b20)]) (lenOf pd__I_V rfl) rfl (by show 2 * 0 + _ ≤ _; exact Nat.le_of_eq rfl) (hb hby d6_28) (fun _ _ => ⟨rfl, e20, (by decide : 1 + 0 ≤ _), (by decide : 1 + 0 ≤ _)⟩)
      dsimp only [Pt.U, Pt.locs, Pt.cells, Pt.slots] at X25 l25 y25 z25 st25 hQ25
      subst l25 y25 z25
      obtain ⟨hv25, N25q, K25q, p25_0⟩ := hQ25
      have N26 := Fr.app N0 N25q
      subst hv25
      have pre27 : ∀ t, Steps p.tables e below (T25.setTop (mkF m 31 #[iv pi0] [(.ref b20)])) t → Go t := fun t kt => pre24 t (st25.trans kt)
      obtain ⟨h25, eh25⟩ : ∃ z, T25.heap = z := ⟨_, rfl⟩
      rw [eh25] at K25q p25_0
      have f28 : Exa Z h25 b20 "java/lang/Integer" := (A20.keep K25q)
      have O30 := O22.keep K25q (allS G22 all0)
      have K30 : Keep h0 h25 [] := K22.trans K25q (allS (P := fun x => x ∈ [] ∨ h0.size ≤ x) (Or.inr Z22) all0)
      obtain ⟨fs, hr, hrun, hended, hW, hsame⟩ := X25.leave (v := some (.ref b20)) (fun h => by rw [Bd.returns] at h; cases h)
      refine ⟨_, _, (hGo _).mp (pre27 _ ?_), hrun, hended, _, _, rfl, ?_, ⟨_, rfl⟩, hW, hsame.mono (by decide) (by decide)⟩
      · exact retOut X25 hx Bd.returns rfl (Or.inr (Or.inr (Or.inr (Or.inr ⟨rfl, rfl, rfl⟩)))) (hb hby d6_31) hr
      · show Q6 Z pi0 w_cache cc h0 n0 _ T25.heap _
        rw [eh25]
        exact ⟨⟨_, rfl, f28⟩, N26, K30⟩
    · have pre31 : ∀ t, Steps p.tables e below (T16.setTop (mkF m 13 #[iv pi0] [])) t → Go t := fun t kt => pre17 t (by
          refine y_icmpNo X16.here hx (hb hby d6_10) (flt hc10_18).2.2.1 (pc' := 13) rfl ?_
          exact kt)
      obtain ⟨T32, X32, e32, st32⟩ := getS2 X16 hx hZ hown (host := "") (Or.inl (hw _ (List.mem_of_getElem? (i := 48) rfl))) Via.refl e16 (S_cache.ext O0.2) (g := (mkF m 13 #[iv pi0] [])) rfl (hb hby d6_13)
      have pre33 : ∀ t, Steps p.tables e below (T32.setTop (mkF m 16 #[iv pi0] [(.ref w_cache)])) t → Go t := fun t kt => pre31 t (st32 t kt)
      have pre34 : ∀ t, Steps p.tables e below (T32.setTop (mkF m 21 #[iv pi0] [(.int (pi0 + (128 : Int32))), (.ref w_cache)])) t → Go t := fun t kt => pre33 t (by
          refine y_iloadN X32.here hx (hb hby d6_16) rfl (pc' := 17) rfl ?_
          refine y_sipush X32.here hx (hb hby d6_17) (v := (128 : Int32)) rfl (pc' := 20) rfl ?_
          refine y_iadd X32.here hx (hb hby d6_20) rfl (pc' := 21) rfl ?_
          exact kt)
      have hin35 : ¬ ((pi0 + (128 : Int32)) < 0 ∨ cc.slots.size ≤ ((pi0 + (128 : Int32))).toNatClampNeg) := own_in CA.2.1 hc3_2 hc10_18
      obtain ⟨b35, u35, B35, -⟩ := CA.2.2.2 _ hin35
      have A35 := CA.1.ext O0.2
      have pre36 : ∀ t, Steps p.tables e below (T32.setTop (mkF m 22 #[iv pi0] [(.ref b35)])) t → Go t := fun t kt => pre34 t (by
          refine X32.aaload hx (j := (pi0 + (128 : Int32))) (v := (.ref b35)) (by rw [e32]; exact A35.1) (State.isArrayOf_alike hZ.alike A35.2.1) rfl A35.2.2 hin35 u35 (g := (mkF m 21 #[iv pi0] [(.int (pi0 + (128 : Int32))), (.ref w_cache)])) rfl rfl (hb hby d6_21) _ ?_
          show Steps p.tables e below (T32.setTop (mkF m 22 #[iv pi0] [(.ref b35)])) _
          exact kt)
      obtain ⟨fs, hr, hrun, hended, hW, hsame⟩ := X32.leave (v := some (.ref b35)) (fun h => by rw [Bd.returns] at h; cases h)
      refine ⟨_, _, (hGo _).mp (pre36 _ ?_), hrun, hended, _, _, rfl, ?_, ⟨_, rfl⟩, hW, hsame.mono (by decide) (by decide)⟩
      · exact retOut X32 hx Bd.returns rfl (Or.inr (Or.inr (Or.inr (Or.inr ⟨rfl, rfl, rfl⟩)))) (hb hby d6_22) hr
      · show Q6 Z pi0 w_cache cc h0 n0 _ T32.heap _
        rw [e32]
        exact ⟨⟨_, rfl, (B35.ext O0.2)⟩, N0, K0⟩
theorem d2_0 : decode prog_8_method_1_code 0 = .ok (.aload_n 0, 1) := by decide +kernel
theorem d2_1 : decode prog_8_method_1_code 1 = .ok (.invokespecial 1, 3) := by decide +kernel
theorem d2_4 : decode prog_8_method_1_code 4 = .ok (.iload_n 1, 1) := by decide +kernel
theorem d2_5 : decode prog_8_method_1_code 5 = .ok (.iload_n 2, 1) := by decide +kernel
theorem d2_6 : decode prog_8_method_1_code 6 = .ok (.invokestatic 7, 3) := by decide +kernel
theorem d2_9 : decode prog_8_method_1_code 9 = .ok (.aload_n 0, 1) := by decide +kernel
theorem d2_10 : decode prog_8_method_1_code 10 = .ok (.iload_n 1, 1) := by decide +kernel
theorem d2_11 : decode prog_8_method_1_code 11 = .ok (.putfield 13, 3) := by decide +kernel
theorem d2_14 : decode prog_8_method_1_code 14 = .ok (.aload_n 0, 1) := by decide +kernel
theorem d2_15 : decode prog_8_method_1_code 15 = .ok (.iload_n 2, 1) := by decide +kernel
theorem d2_16 : decode prog_8_method_1_code 16 = .ok (.putfield 19, 3) := by decide +kernel
theorem d2_19 : decode prog_8_method_1_code 19 = .ok (.aload_n 0, 1) := by decide +kernel
theorem d2_20 : decode prog_8_method_1_code 20 = .ok (.aload_n 3, 1) := by decide +kernel
theorem d2_21 : decode prog_8_method_1_code 21 = .ok (.ldc 22, 2) := by decide +kernel
theorem d2_23 : decode prog_8_method_1_code 23 = .ok (.invokestatic 24, 3) := by decide +kernel
theorem d2_26 : decode prog_8_method_1_code 26 = .ok (.checkcast 30, 3) := by decide +kernel
theorem d2_29 : decode prog_8_method_1_code 29 = .ok (.putfield 32, 3) := by decide +kernel
theorem d2_32 : decode prog_8_method_1_code 32 = .ok (.aload_n 0, 1) := by decide +kernel
theorem d2_33 : decode prog_8_method_1_code 33 = .ok (.lload 4, 2) := by decide +kernel
theorem d2_35 : decode prog_8_method_1_code 35 = .ok (.putfield 35, 3) := by decide +kernel
theorem d2_38 : decode prog_8_method_1_code 38 = .ok (.return_, 1) := by decide +kernel
theorem pn_com_example_procord_procord_election_ElectionMessage : plainName "com/example/procord/procord/election/ElectionMessage" = true := by first | (simp [plainName, overriddenIn]; done) | decide +kernel
theorem pd__II_V : parseMethodDescriptor "(II)V" = some ⟨[.int, .int], none⟩ := by decide +kernel
theorem pd__Ljava_lang_Object_Ljava_lang_String__Ljava_lang_Object_ : parseMethodDescriptor "(Ljava/lang/Object;Ljava/lang/String;)Ljava/lang/Object;" = some ⟨[(.object "java/lang/Object"), (.object "java/lang/String")], some (.object "java/lang/Object")⟩ := by decide +kernel
theorem ef_2 (m : MethodId) (x0 : Addr) (x1 : Int32) (x2 : Int32) (x3 : Addr) (x4 : Int64) : entryFrame m #[(.ref x0), (.int x1), (.int x2), (.ref x3), (.long x4)] 6 = mkF m 0 #[rv x0, iv x1, iv x2, rv x3, jv x4, .second] [] := by first | (simp [entryFrame, mkF, argsToLocals, Value.category]; done) | rfl
def Q2 (Z : State) (pr0 : Addr) (pi1 : Int32) (pi2 : Int32) (pr3 : Addr) (pj4 : Int64) (h0 : Heap) (n0 : Nat) (v : Option Value) (h : Heap) (L : List Loc) : Prop := v = none ∧ Fr n0 L ∧ Keep h0 h [pr0] ∧ Fld Z h pr0 "com/example/procord/procord/election/ElectionMessage" "from" "I" (.int pi1) ∧ Fld Z h pr0 "com/example/procord/procord/election/ElectionMessage" "to" "I" (.int pi2) ∧ Fld Z h pr0 "com/example/procord/procord/election/ElectionMessage" "kind" "Lcom/example/procord/procord/election/ElectionMessage$Kind;" (.ref pr3) ∧ Fld Z h pr0 "com/example/procord/procord/election/ElectionMessage" "stamp" "J" (.long pj4)
set_option maxRecDepth 65536 in
set_option maxHeartbeats 40000000 in
theorem rm2 (l : Launch) (Z : State) (a0 : Array Value) (hw : ∀ d ∈ tables_1, d.before a0 Z = true) (ws : List Jvm.Cond) (pr0 : Addr) (pi1 : Int32) (pi2 : Int32) (pr3 : Addr) (pj4 : Int64) (h0 : Heap) (n0 : Nat) (O0 : Old Z n0 h0) (E_pr0 : Exa Z h0 pr0 "com/example/procord/procord/election/ElectionMessage") (F_from_pr0 : Fld Z h0 pr0 "com/example/procord/procord/election/ElectionMessage" "from" "I" (.int (0 : Int32))) (F_to_pr0 : Fld Z h0 pr0 "com/example/procord/procord/election/ElectionMessage" "to" "I" (.int (0 : Int32))) (F_kind_pr0 : Fld Z h0 pr0 "com/example/procord/procord/election/ElectionMessage" "kind" "Lcom/example/procord/procord/election/ElectionMessage$Kind;" .null) (F_stamp_pr0 : Fld Z h0 pr0 "com/example/procord/procord/election/ElectionMessage" "stamp" "J" (.long (0 : Int64))) (E_pr3 : Exa Z h0 pr3 "com/example/procord/procord/election/ElectionMessage$Kind") (G_pr0 : n0 ≤ pr0) (NQ : ¬ pi1 = pi2) :
    MetFree l (⟨"com/example/procord/procord/election/ElectionMessage", "<init>", "(IILcom/example/procord/procord/election/ElectionMessage$Kind;J)V"⟩ : MethodName) (head1 (Jvm.Cond.code (⟨"com/example/procord/procord/election/ElectionMessage", "<init>", "(IILcom/example/procord/procord/election/ElectionMessage$Kind;J)V"⟩ : MethodName) prog_8_method_1_code 6 none :: ws) ({ frames := 1, cells := 2, slots := 20, locals := 14 } : Room)) (fun a U => a = #[(.ref pr0), (.int pi1), (.int pi2), (.ref pr3), (.long pj4)] ∧ Z.Warmed39 U.vm ∧ U.heap = h0) (fun _ _ _ _ _ => True) (fun _ U o U' => ∃ v L, o = .returned v ∧ Q2 Z pr0 pi1 pi2 pr3 pj4 h0 n0 v U'.heap L ∧ ReturnedEndW U o U' L ({ frames := 1, cells := 2, slots := 20, locals := 14 } : Room).cells ({ frames := 1, cells := 2, slots := 20, locals := 14 } : Room).slots) := by
  refine MetFree.of_bodySF (plainFor_of_name pn_com_example_procord_procord_election_ElectionMessage) hisR ?_
  intro p e s m args below meth c s₁ Bd hml0 hP hK
  obtain ⟨rfl, hZ, hh⟩ := hP
  have hx := Bd.exec
  have hby := Bd.bytes
  have hml : c.maxLocals = 6 := hml0
  have hown : s.vm.findClass "com/example/procord/procord/election/ElectionMessage" = some m.cls := findClass_of_methodNamed Bd.named
  have hnm := (name_of_methodNamed Bd.named Bd.method).1
  have X0 : Stand p l e ({ frames := 1, cells := 2, slots := 20, locals := 14 } : Room) s m #[(.ref pr0), (.int pi1), (.int pi2), (.ref pr3), (.long pj4)] below meth c s₁ [] 0 0 := Stand.of_body Bd
  have e0 : s₁.heap = h0 := by rw [← hh, Bd.state]; rfl
  have N0 := Fr.nil n0
  have hS0 : s.Since s.vm 0 := (State.WarmedH.refl s).since 0
  obtain ⟨Go, hGo⟩ : ∃ P : State → Prop, ∀ t, P t ↔ Steps p.tables e below (s₁.setTop (entryFrame m #[(.ref pr0), (.int pi1), (.int pi2), (.ref pr3), (.long pj4)] 6)) t := ⟨_, fun _ => Iff.rfl⟩
  have pre0 : ∀ t, Steps p.tables e below (s₁.setTop (mkF m 0 #[rv pr0, iv pi1, iv pi2, rv pr3, jv pj4, .second] [])) t → Go t := fun t k => (hGo t).mpr (castTop (ef_2 m pr0 pi1 pi2 pr3 pj4) k)
  have K0 : Keep h0 h0 [pr0] := Keep.refl _ _
  have pre1 : ∀ t, Steps p.tables e below (s₁.setTop (mkF m 1 #[rv pr0, iv pi1, iv pi2, rv pr3, jv pj4, .second] [(.ref pr0)])) t → Go t := fun t kt => pre0 t (by
      refine y_aloadN X0.here hx (hb hby d2_0) rfl rfl (pc' := 1) rfl ?_
      exact kt)
  obtain ⟨T2, X2, e2, st2⟩ := initO X0 hx hZ hown (hw _ (List.mem_of_getElem? (i := 13) rfl)) (hw _ (List.mem_of_getElem? (i := 14) rfl)) (hw _ (List.mem_of_getElem? (i := 15) rfl)) e0 (g := (mkF m 1 #[rv pr0, iv pi1, iv pi2, rv pr3, jv pj4, .second] [(.ref pr0)])) rfl (by rw [hml]; rfl) rfl (hb hby d2_1) (by decide) (W := 0) (by show 2 * 0 + _ ≤ _; exact Nat.le_of_eq rfl) (by decide)
  have pre3 : ∀ t, Steps p.tables e below (T2.setTop (mkF m 4 #[rv pr0, iv pi1, iv pi2, rv pr3, jv pj4, .second] [])) t → Go t := fun t kt => pre1 t (st2 t kt)
  have pre4 : ∀ t, Steps p.tables e below (T2.setTop (mkF m 6 #[rv pr0, iv pi1, iv pi2, rv pr3, jv pj4, .second] [(.int pi2), (.int pi1)])) t → Go t := fun t kt => pre3 t (by
      refine y_iloadN X2.here hx (hb hby d2_4) rfl (pc' := 5) rfl ?_
      refine y_iloadN X2.here hx (hb hby d2_5) rfl (pc' := 6) rfl ?_
      exact kt)
  obtain ⟨v5, _, ⟨T5, L5, k5, n5⟩, -, X5, ⟨Lc5, hQ5, l5, y5, z5⟩, st5⟩ := Jvm.LawKit.callS X2 hx (y := (⟨"com/example/procord/procord/message/Message", "checkEnds", "(II)V"⟩ : MethodName)) hown (mvT hZ (hw _ (List.mem_of_getElem? (i := 16) rfl))) (mvT hZ (hw _ (List.mem_of_getElem? (i := 17) rfl))) (mvT hZ (hw _ (List.mem_of_getElem? (i := 18) rfl))) (mvT hZ (hw _ (List.mem_of_getElem? (i := 19) rfl))) (by decide) (backOf (W := 0) (rm4 l Z a0 hw [] pi1 pi2 h0 n0 O0 NQ) hZ (hw _ (List.mem_of_getElem? (i := 19) rfl)) (hw _ (List.mem_of_getElem? (i := 18) rfl)) (by decide) (by decide)) (g := (mkF m 6 #[rv pr0, iv pi1, iv pi2, rv pr3, jv pj4, .second] [(.int pi2), (.int pi1)])) rfl (by rw [hml]; rfl) (argsL := [(.int pi1), (.int pi2)]) (rest := []) (lenOf pd__II_V rfl) rfl (by show 2 * 0 + _ ≤ _; exact Nat.le_of_eq rfl) (hb hby d2_6) (fun _ _ => ⟨rfl, e2, (by decide : 0 + 0 ≤ _), (by decide : 0 + 0 ≤ _)⟩)
  dsimp only [Pt.U, Pt.locs, Pt.cells, Pt.slots] at X5 l5 y5 z5 st5 hQ5
  subst l5 y5 z5
  obtain ⟨hv5, N5q, e5q⟩ := hQ5
  have N6 := Fr.app N0 N5q
  subst hv5
  have pre7 : ∀ t, Steps p.tables e below (T5.setTop (mkF m 9 #[rv pr0, iv pi1, iv pi2, rv pr3, jv pj4, .second] [])) t → Go t := fun t kt => pre4 t (st5 t kt)
  have pre8 : ∀ t, Steps p.tables e below (T5.setTop (mkF m 11 #[rv pr0, iv pi1, iv pi2, rv pr3, jv pj4, .second] [(.int pi1), (.ref pr0)])) t → Go t := fun t kt => pre7 t (by
      refine y_aloadN X5.here hx (hb hby d2_9) rfl rfl (pc' := 10) rfl ?_
      refine y_iloadN X5.here hx (hb hby d2_10) rfl (pc' := 11) rfl ?_
      exact kt)
  obtain ⟨T9, h9, X9, e9, W9, st9⟩ := putF X5 hx hZ hown (host := "") (Or.inl (hw _ (List.mem_of_getElem? (i := 20) rfl))) Via.refl e5q F_from_pr0 E_pr0 (Or.inr ⟨(hw _ (List.mem_of_getElem? (i := 21) rfl)), rfl, hnm⟩) (hw _ (List.mem_of_getElem? (i := 8) rfl)) (ty := .int) (by decide) rfl rfl (g := (mkF m 11 #[rv pr0, iv pi1, iv pi2, rv pr3, jv pj4, .second] [(.int pi1), (.ref pr0)])) rfl rfl (hb hby d2_11)
  have pre10 : ∀ t, Steps p.tables e below (T9.setTop (mkF m 14 #[rv pr0, iv pi1, iv pi2, rv pr3, jv pj4, .second] [])) t → Go t := fun t kt => pre8 t (st9 t kt)
  have f11 : Exa Z h9 pr0 "com/example/procord/procord/election/ElectionMessage" := (E_pr0.wr W9)
  have f13 : Fld Z h9 pr0 "com/example/procord/procord/election/ElectionMessage" "to" "I" (.int (0 : Int32)) := (F_to_pr0.other W9 (Or.inr (slot_ne (Or.inr (hw _ (List.mem_of_getElem? (i := 23) rfl))) (Or.inr (hw _ (List.mem_of_getElem? (i := 21) rfl))) (by decide) (t := .int) (t' := .int) (by decide) (by decide))))
  have f14 : Fld Z h9 pr0 "com/example/procord/procord/election/ElectionMessage" "kind" "Lcom/example/procord/procord/election/ElectionMessage$Kind;" .null := (F_kind_pr0.other W9 (Or.inr (slot_ne (Or.inr (hw _ (List.mem_of_getElem? (i := 39) rfl))) (Or.inr (hw _ (List.mem_of_getElem? (i := 21) rfl))) (by decide) (t := (.object "com/example/procord/procord/election/ElectionMessage$Kind")) (t' := .int) (by decide) (by decide))))
  have f15 : Fld Z h9 pr0 "com/example/procord/procord/election/ElectionMessage" "stamp" "J" (.long (0 : Int64)) := (F_stamp_pr0.other W9 (Or.inr (slot_ne (Or.inr (hw _ (List.mem_of_getElem? (i := 41) rfl))) (Or.inr (hw _ (List.mem_of_getElem? (i := 21) rfl))) (by decide) (t := .long) (t' := .int) (by decide) (by decide))))
  have f16 : Exa Z h9 pr3 "com/example/procord/procord/election/ElectionMessage$Kind" := (E_pr3.wr W9)
  have f17 : Fld Z h9 pr0 "com/example/procord/procord/election/ElectionMessage" "from" "I" (.int pi1) := F_from_pr0.same W9
  have N18 := Fr.snoc X9 N6 G_pr0
  have O18 := O0.wr W9 G_pr0
  have K18 : Keep h0 h9 [pr0] := K0.wr W9 (Or.inl (List.mem_of_getElem? (i := 0) rfl))
  have hk19 : _ ≤ h9.size := Nat.le_trans (Nat.zero_le _) (Nat.le_of_eq W9.size.symm)
  have pre20 : ∀ t, Steps p.tables e below (T9.setTop (mkF m 16 #[rv pr0, iv pi1, iv pi2, rv pr3, jv pj4, .second] [(.int pi2), (.ref pr0)])) t → Go t := fun t kt => pre10 t (by
      refine y_aloadN X9.here hx (hb hby d2_14) rfl rfl (pc' := 15) rfl ?_
      refine y_iloadN X9.here hx (hb hby d2_15) rfl (pc' := 16) rfl ?_
      exact kt)
  obtain ⟨T21, h21, X21, e21, W21, st21⟩ := putF X9 hx hZ hown (host := "") (Or.inl (hw _ (List.mem_of_getElem? (i := 22) rfl))) Via.refl e9 f13 f11 (Or.inr ⟨(hw _ (List.mem_of_getElem? (i := 23) rfl)), rfl, hnm⟩) (hw _ (List.mem_of_getElem? (i := 8) rfl)) (ty := .int) (by decide) rfl rfl (g := (mkF m 16 #[rv pr0, iv pi1, iv pi2, rv pr3, jv pj4, .second] [(.int pi2), (.ref pr0)])) rfl rfl (hb hby d2_16)
  have pre22 : ∀ t, Steps p.tables e below (T21.setTop (mkF m 19 #[rv pr0, iv pi1, iv pi2, rv pr3, jv pj4, .second] [])) t → Go t := fun t kt => pre20 t (st21 t kt)
  have f23 : Exa Z h21 pr0 "com/example/procord/procord/election/ElectionMessage" := (f11.wr W21)
  have f25 : Fld Z h21 pr0 "com/example/procord/procord/election/ElectionMessage" "kind" "Lcom/example/procord/procord/election/ElectionMessage$Kind;" .null := (f14.other W21 (Or.inr (slot_ne (Or.inr (hw _ (List.mem_of_getElem? (i := 39) rfl))) (Or.inr (hw _ (List.mem_of_getElem? (i := 23) rfl))) (by decide) (t := (.object "com/example/procord/procord/election/ElectionMessage$Kind")) (t' := .int) (by decide) (by decide))))
  have f26 : Fld Z h21 pr0 "com/example/procord/procord/election/ElectionMessage" "stamp" "J" (.long (0 : Int64)) := (f15.other W21 (Or.inr (slot_ne (Or.inr (hw _ (List.mem_of_getElem? (i := 41) rfl))) (Or.inr (hw _ (List.mem_of_getElem? (i := 23) rfl))) (by decide) (t := .long) (t' := .int) (by decide) (by decide))))
  have f27 : Exa Z h21 pr3 "com/example/procord/procord/election/ElectionMessage$Kind" := (f16.wr W21)
  have f28 : Fld Z h21 pr0 "com/example/procord/procord/election/ElectionMessage" "from" "I" (.int pi1) := (f17.other W21 (Or.inr (slot_ne (Or.inr (hw _ (List.mem_of_getElem? (i := 21) rfl))) (Or.inr (hw _ (List.mem_of_getElem? (i := 23) rfl))) (by decide) (t := .int) (t' := .int) (by decide) (by decide))))
  have f29 : Fld Z h21 pr0 "com/example/procord/procord/election/ElectionMessage" "to" "I" (.int pi2) := f13.same W21
  have N30 := Fr.snoc X21 N18 G_pr0
  have O30 := O18.wr W21 G_pr0
  have K30 : Keep h0 h21 [pr0] := K18.wr W21 (Or.inl (List.mem_of_getElem? (i := 0) rfl))
  have hk31 : _ ≤ h21.size := Nat.le_trans hk19 (Nat.le_of_eq W21.size.symm)
  have pre32 : ∀ t, Steps p.tables e below (T21.setTop (mkF m 21 #[rv pr0, iv pi1, iv pi2, rv pr3, jv pj4, .second] [(.ref pr3), (.ref pr0)])) t → Go t := fun t kt => pre22 t (by
      refine y_aloadN X21.here hx (hb hby d2_19) rfl rfl (pc' := 20) rfl ?_
      refine y_aloadN X21.here hx (hb hby d2_20) rfl rfl (pc' := 21) rfl ?_
      exact kt)
  have wS33 : ∀ a ∈ Bundle.stringAtoms, a.before a0 Z = true := fun a ha => by
      simp only [Bundle.stringAtoms, List.mem_cons, List.not_mem_nil, or_false] at ha
      rcases ha with rfl | rfl | rfl | rfl | rfl | rfl | rfl
      · exact (hw _ (List.mem_of_getElem? (i := 25) rfl))
      · exact (hw _ (List.mem_of_getElem? (i := 26) rfl))
      · exact (hw _ (List.mem_of_getElem? (i := 27) rfl))
      · exact (hw _ (List.mem_of_getElem? (i := 28) rfl))
      · exact (hw _ (List.mem_of_getElem? (i := 29) rfl))
      · exact (hw _ (List.mem_of_getElem? (i := 30) rfl))
      · exact (hw _ (List.mem_of_getElem? (i := 31) rfl))
  obtain ⟨b33, T33, h33, k33, X33, e33, E33, hS33, hk33, hZ, hown, st33⟩ := ldcS (s := s) (vm0 := s.vm) X21 hx hZ hown (hw _ (List.mem_of_getElem? (i := 24) rfl)) wS33 e21 hS0 hk31 (g := (mkF m 21 #[rv pr0, iv pi1, iv pi2, rv pr3, jv pj4, .second] [(.ref pr3), (.ref pr0)])) rfl (hb hby d2_21) (n := 16) (by decide) (by decide) (by decide) (by decide)
  have pre34 : ∀ t, Steps p.tables e below (T33.setTop (mkF m 23 #[rv pr0, iv pi1, iv pi2, rv pr3, jv pj4, .second] [(.ref b33), (.ref pr3), (.ref pr0)])) t → Go t := fun t kt => pre32 t (st33 t kt)
  have f35 : Exa Z h33 pr0 "com/example/procord/procord/election/ElectionMessage" := (f23.ext E33)
  have f36 : Fld Z h33 pr0 "com/example/procord/procord/election/ElectionMessage" "kind" "Lcom/example/procord/procord/election/ElectionMessage$Kind;" .null := (f25.ext E33)
  have f37 : Fld Z h33 pr0 "com/example/procord/procord/election/ElectionMessage" "stamp" "J" (.long (0 : Int64)) := (f26.ext E33)
  have f38 : Exa Z h33 pr3 "com/example/procord/procord/election/ElectionMessage$Kind" := (f27.ext E33)
  have f39 : Fld Z h33 pr0 "com/example/procord/procord/election/ElectionMessage" "from" "I" (.int pi1) := (f28.ext E33)
  have f40 : Fld Z h33 pr0 "com/example/procord/procord/election/ElectionMessage" "to" "I" (.int pi2) := (f29.ext E33)
  have O33 := O30.ext E33
  have K33 : Keep h0 h33 [pr0] := K30.ext E33
  obtain ⟨v41, _, ⟨T41, L41, k41, n41⟩, -, X41, ⟨Lc41, hQ41, l41, y41, z41⟩, st41⟩ := Jvm.LawKit.callS X33 hx (y := (⟨"java/util/Objects", "requireNonNull", "(Ljava/lang/Object;Ljava/lang/String;)Ljava/lang/Object;"⟩ : MethodName)) hown (mvT hZ (hw _ (List.mem_of_getElem? (i := 32) rfl))) (mvT hZ (hw _ (List.mem_of_getElem? (i := 33) rfl))) (mvT hZ (hw _ (List.mem_of_getElem? (i := 34) rfl))) (mvT hZ (hw _ (List.mem_of_getElem? (i := 35) rfl))) (by decide) (backOf (W := 1) (rm5 l Z a0 hw [] pr3 b33 h33 n0 O33 ) hZ (hw _ (List.mem_of_getElem? (i := 35) rfl)) (hw _ (List.mem_of_getElem? (i := 34) rfl)) (by decide) (by decide)) (g := (mkF m 23 #[rv pr0, iv pi1, iv pi2, rv pr3, jv pj4, .second] [(.ref b33), (.ref pr3), (.ref pr0)])) rfl (by rw [hml]; rfl) (argsL := [(.ref pr3), (.ref b33)]) (rest := [(.ref pr0)]) (lenOf pd__Ljava_lang_Object_Ljava_lang_String__Ljava_lang_Object_ rfl) rfl (by show 2 * 0 + _ ≤ _; exact Nat.le_of_eq rfl) (hb hby d2_23) (fun _ _ => ⟨rfl, e33, (by decide : 2 + 0 ≤ _), (by decide : 20 + 0 ≤ _)⟩)
  dsimp only [Pt.U, Pt.locs, Pt.cells, Pt.slots] at X41 l41 y41 z41 st41 hQ41
  subst l41 y41 z41
  obtain ⟨hv41, N41q, e41q⟩ := hQ41
  have N42 := Fr.app N30 N41q
  have hw41 := hv41
  subst hw41
  have pre43 : ∀ t, Steps p.tables e below (T41.setTop (mkF m 26 #[rv pr0, iv pi1, iv pi2, rv pr3, jv pj4, .second] [(.ref pr3), (.ref pr0)])) t → Go t := fun t kt => pre34 t (st41 t kt)
  obtain ⟨T44, X44, e44, st44⟩ := castY X41 hx hZ hown (hw _ (List.mem_of_getElem? (i := 36) rfl)) e41q (Ins.self f38) (g := (mkF m 26 #[rv pr0, iv pi1, iv pi2, rv pr3, jv pj4, .second] [(.ref pr3), (.ref pr0)])) rfl rfl (hb hby d2_26)
  have pre45 : ∀ t, Steps p.tables e below (T44.setTop (mkF m 29 #[rv pr0, iv pi1, iv pi2, rv pr3, jv pj4, .second] [(.ref pr3), (.ref pr0)])) t → Go t := fun t kt => pre43 t (st44 t kt)
  obtain ⟨T46, h46, X46, e46, W46, st46⟩ := putF X44 hx hZ hown (host := "") (Or.inl (hw _ (List.mem_of_getElem? (i := 38) rfl))) Via.refl e44 f36 f35 (Or.inr ⟨(hw _ (List.mem_of_getElem? (i := 39) rfl)), rfl, hnm⟩) (hw _ (List.mem_of_getElem? (i := 8) rfl)) (ty := (.object "com/example/procord/procord/election/ElectionMessage$Kind")) (by decide) rfl rfl (g := (mkF m 29 #[rv pr0, iv pi1, iv pi2, rv pr3, jv pj4, .second] [(.ref pr3), (.ref pr0)])) rfl rfl (hb hby d2_29)
  have pre47 : ∀ t, Steps p.tables e below (T46.setTop (mkF m 32 #[rv pr0, iv pi1, iv pi2, rv pr3, jv pj4, .second] [])) t → Go t := fun t kt => pre45 t (st46 t kt)
  have f48 : Exa Z h46 pr0 "com/example/procord/procord/election/ElectionMessage" := (f35.wr W46)
  have f50 : Fld Z h46 pr0 "com/example/procord/procord/election/ElectionMessage" "stamp" "J" (.long (0 : Int64)) := (f37.other W46 (Or.inr (slot_ne (Or.inr (hw _ (List.mem_of_getElem? (i := 41) rfl))) (Or.inr (hw _ (List.mem_of_getElem? (i := 39) rfl))) (by decide) (t := .long) (t' := (.object "com/example/procord/procord/election/ElectionMessage$Kind")) (by decide) (by decide))))
  have f51 : Exa Z h46 pr3 "com/example/procord/procord/election/ElectionMessage$Kind" := (f38.wr W46)
  have f52 : Fld Z h46 pr0 "com/example/procord/procord/election/ElectionMessage" "from" "I" (.int pi1) := (f39.other W46 (Or.inr (slot_ne (Or.inr (hw _ (List.mem_of_getElem? (i := 21) rfl))) (Or.inr (hw _ (List.mem_of_getElem? (i := 39) rfl))) (by decide) (t := .int) (t' := (.object "com/example/procord/procord/election/ElectionMessage$Kind")) (by decide) (by decide))))
  have f53 : Fld Z h46 pr0 "com/example/procord/procord/election/ElectionMessage" "to" "I" (.int pi2) := (f40.other W46 (Or.inr (slot_ne (Or.inr (hw _ (List.mem_of_getElem? (i := 23) rfl))) (Or.inr (hw _ (List.mem_of_getElem? (i := 39) rfl))) (by decide) (t := .int) (t' := (.object "com/example/procord/procord/election/ElectionMessage$Kind")) (by decide) (by decide))))
  have f54 : Fld Z h46 pr0 "com/example/procord/procord/election/ElectionMessage" "kind" "Lcom/example/procord/procord/election/ElectionMessage$Kind;" (.ref pr3) := f36.same W46
  have N55 := Fr.snoc X46 N42 G_pr0
  have O55 := O33.wr W46 G_pr0
  have K55 : Keep h0 h46 [pr0] := K33.wr W46 (Or.inl (List.mem_of_getElem? (i := 0) rfl))
  have hk56 : _ ≤ h46.size := Nat.le_trans hk33 (Nat.le_of_eq W46.size.symm)
  have pre57 : ∀ t, Steps p.tables e below (T46.setTop (mkF m 35 #[rv pr0, iv pi1, iv pi2, rv pr3, jv pj4, .second] [(.long pj4), (.ref pr0)])) t → Go t := fun t kt => pre47 t (by
      refine y_aloadN X46.here hx (hb hby d2_32) rfl rfl (pc' := 33) rfl ?_
      refine y_lload X46.here hx (hb hby d2_33) rfl (pc' := 35) rfl ?_
      exact kt)
  obtain ⟨T58, h58, X58, e58, W58, st58⟩ := putF X46 hx hZ hown (host := "") (Or.inl (hw _ (List.mem_of_getElem? (i := 40) rfl))) Via.refl e46 f50 f48 (Or.inr ⟨(hw _ (List.mem_of_getElem? (i := 41) rfl)), rfl, hnm⟩) (hw _ (List.mem_of_getElem? (i := 8) rfl)) (ty := .long) (by decide) rfl rfl (g := (mkF m 35 #[rv pr0, iv pi1, iv pi2, rv pr3, jv pj4, .second] [(.long pj4), (.ref pr0)])) rfl rfl (hb hby d2_35)
  have pre59 : ∀ t, Steps p.tables e below (T58.setTop (mkF m 38 #[rv pr0, iv pi1, iv pi2, rv pr3, jv pj4, .second] [])) t → Go t := fun t kt => pre57 t (st58 t kt)
  have f60 : Exa Z h58 pr0 "com/example/procord/procord/election/ElectionMessage" := (f48.wr W58)
  have f62 : Exa Z h58 pr3 "com/example/procord/procord/election/ElectionMessage$Kind" := (f51.wr W58)
  have f63 : Fld Z h58 pr0 "com/example/procord/procord/election/ElectionMessage" "from" "I" (.int pi1) := (f52.other W58 (Or.inr (slot_ne (Or.inr (hw _ (List.mem_of_getElem? (i := 21) rfl))) (Or.inr (hw _ (List.mem_of_getElem? (i := 41) rfl))) (by decide) (t := .int) (t' := .long) (by decide) (by decide))))
  have f64 : Fld Z h58 pr0 "com/example/procord/procord/election/ElectionMessage" "to" "I" (.int pi2) := (f53.other W58 (Or.inr (slot_ne (Or.inr (hw _ (List.mem_of_getElem? (i := 23) rfl))) (Or.inr (hw _ (List.mem_of_getElem? (i := 41) rfl))) (by decide) (t := .int) (t' := .long) (by decide) (by decide))))
  have f65 : Fld Z h58 pr0 "com/example/procord/procord/election/ElectionMessage" "kind" "Lcom/example/procord/procord/election/ElectionMessage$Kind;" (.ref pr3) := (f54.other W58 (Or.inr (slot_ne (Or.inr (hw _ (List.mem_of_getElem? (i := 39) rfl))) (Or.inr (hw _ (List.mem_of_getElem? (i := 41) rfl))) (by decide) (t := (.object "com/example/procord/procord/election/ElectionMessage$Kind")) (t' := .long) (by decide) (by decide))))
  have f66 : Fld Z h58 pr0 "com/example/procord/procord/election/ElectionMessage" "stamp" "J" (.long pj4) := f50.same W58
  have N67 := Fr.snoc X58 N55 G_pr0
  have O67 := O55.wr W58 G_pr0
  have K67 : Keep h0 h58 [pr0] := K55.wr W58 (Or.inl (List.mem_of_getElem? (i := 0) rfl))
  have hk68 : _ ≤ h58.size := Nat.le_trans hk56 (Nat.le_of_eq W58.size.symm)
  obtain ⟨fs, hr, hrun, hended, hRW⟩ := Stand.leaveW (s := s) (vm₁ := T33.vm) X58 hS33 (by rw [e58]; exact hk68) (v := none) (fun _ => rfl)
  refine ⟨_, _, (hGo _).mp (pre59 _ ?_), hrun, hended, _, _, rfl, ?_, hRW.1, hRW.2.1, hRW.2.2.1, hRW.2.2.2.mono (by decide) (by decide)⟩
  · exact X58.returnOut hx Bd.returns (hb hby d2_38) hr
  · show Q2 Z pr0 pi1 pi2 pr3 pj4 h0 n0 _ T58.heap _
    rw [e58]
    exact ⟨rfl, N67, K67, f63, f64, f65, f66⟩
theorem d7_0 : decode prog_8_method_7_code 0 = .ok (.aload_n 1, 1) := by decide +kernel
theorem d7_1 : decode prog_8_method_7_code 1 = .ok (.instanceof 14, 3) := by decide +kernel
theorem d7_4 : decode prog_8_method_7_code 4 = .ok (.ifCond .ne 5, 3) := by decide +kernel
theorem d7_9 : decode prog_8_method_7_code 9 = .ok (.aload_n 1, 1) := by decide +kernel
theorem d7_10 : decode prog_8_method_7_code 10 = .ok (.checkcast 14, 3) := by decide +kernel
theorem d7_13 : decode prog_8_method_7_code 13 = .ok (.astore_n 2, 1) := by decide +kernel
theorem d7_14 : decode prog_8_method_7_code 14 = .ok (.aload_n 0, 1) := by decide +kernel
theorem d7_15 : decode prog_8_method_7_code 15 = .ok (.getfield 13, 3) := by decide +kernel
theorem d7_18 : decode prog_8_method_7_code 18 = .ok (.aload_n 2, 1) := by decide +kernel
theorem d7_19 : decode prog_8_method_7_code 19 = .ok (.getfield 13, 3) := by decide +kernel
theorem d7_22 : decode prog_8_method_7_code 22 = .ok (.if_icmp .ne 41, 3) := by decide +kernel
theorem d7_25 : decode prog_8_method_7_code 25 = .ok (.aload_n 0, 1) := by decide +kernel
theorem d7_26 : decode prog_8_method_7_code 26 = .ok (.getfield 19, 3) := by decide +kernel
theorem d7_29 : decode prog_8_method_7_code 29 = .ok (.aload_n 2, 1) := by decide +kernel
theorem d7_30 : decode prog_8_method_7_code 30 = .ok (.getfield 19, 3) := by decide +kernel
theorem d7_33 : decode prog_8_method_7_code 33 = .ok (.if_icmp .ne 30, 3) := by decide +kernel
theorem d7_36 : decode prog_8_method_7_code 36 = .ok (.aload_n 0, 1) := by decide +kernel
theorem d7_37 : decode prog_8_method_7_code 37 = .ok (.getfield 32, 3) := by decide +kernel
theorem d7_40 : decode prog_8_method_7_code 40 = .ok (.aload_n 2, 1) := by decide +kernel
theorem d7_41 : decode prog_8_method_7_code 41 = .ok (.getfield 32, 3) := by decide +kernel
theorem d7_44 : decode prog_8_method_7_code 44 = .ok (.if_acmp .ne 19, 3) := by decide +kernel
theorem d7_47 : decode prog_8_method_7_code 47 = .ok (.aload_n 0, 1) := by decide +kernel
theorem d7_48 : decode prog_8_method_7_code 48 = .ok (.getfield 35, 3) := by decide +kernel
theorem d7_51 : decode prog_8_method_7_code 51 = .ok (.aload_n 2, 1) := by decide +kernel
theorem d7_52 : decode prog_8_method_7_code 52 = .ok (.getfield 35, 3) := by decide +kernel
theorem d7_55 : decode prog_8_method_7_code 55 = .ok (.lcmp, 1) := by decide +kernel
theorem d7_56 : decode prog_8_method_7_code 56 = .ok (.ifCond .ne 7, 3) := by decide +kernel
theorem d7_59 : decode prog_8_method_7_code 59 = .ok (.iconst 1, 1) := by decide +kernel
theorem d7_60 : decode prog_8_method_7_code 60 = .ok (.goto 4, 3) := by decide +kernel
theorem d7_63 : decode prog_8_method_7_code 63 = .ok (.iconst 0, 1) := by decide +kernel
theorem d7_64 : decode prog_8_method_7_code 64 = .ok (.ireturn, 1) := by decide +kernel
theorem ef_7 (m : MethodId) (x0 : Addr) (x1 : Addr) : entryFrame m #[(.ref x0), (.ref x1)] 3 = mkF m 0 #[rv x0, rv x1, .unset] [] := by first | (simp [entryFrame, mkF, argsToLocals, Value.category]; done) | rfl
def Q7 (Z : State) (pr0 : Addr) (pr1 : Addr) (u_from_pr0 : Int32) (u_to_pr0 : Int32) (u_kind_pr0 : Addr) (u_stamp_pr0 : Int64) (u_from_pr1 : Int32) (u_to_pr1 : Int32) (u_kind_pr1 : Addr) (u_stamp_pr1 : Int64) (h0 : Heap) (n0 : Nat) (v : Option Value) (h : Heap) (L : List Loc) : Prop := v = some (.int (if u_from_pr0 = u_from_pr1 then (if u_to_pr0 = u_to_pr1 then (if u_kind_pr0 = u_kind_pr1 then (if u_stamp_pr0 = u_stamp_pr1 then (1 : Int32) else (0 : Int32)) else (0 : Int32)) else (0 : Int32)) else (0 : Int32))) ∧ Fr n0 L ∧ h = h0
set_option maxRecDepth 65536 in
set_option maxHeartbeats 40000000 in
theorem rm7 (l : Launch) (Z : State) (a0 : Array Value) (hw : ∀ d ∈ tables_1, d.before a0 Z = true) (ws : List Jvm.Cond) (pr0 : Addr) (pr1 : Addr) (u_from_pr0 : Int32) (u_to_pr0 : Int32) (u_kind_pr0 : Addr) (u_stamp_pr0 : Int64) (u_from_pr1 : Int32) (u_to_pr1 : Int32) (u_kind_pr1 : Addr) (u_stamp_pr1 : Int64) (h0 : Heap) (n0 : Nat) (O0 : Old Z n0 h0) (E_pr0 : Exa Z h0 pr0 "com/example/procord/procord/election/ElectionMessage") (F_from_pr0 : Fld Z h0 pr0 "com/example/procord/procord/election/ElectionMessage" "from" "I" (.int u_from_pr0)) (F_to_pr0 : Fld Z h0 pr0 "com/example/procord/procord/election/ElectionMessage" "to" "I" (.int u_to_pr0)) (F_kind_pr0 : Fld Z h0 pr0 "com/example/procord/procord/election/ElectionMessage" "kind" "Lcom/example/procord/procord/election/ElectionMessage$Kind;" (.ref u_kind_pr0)) (F_stamp_pr0 : Fld Z h0 pr0 "com/example/procord/procord/election/ElectionMessage" "stamp" "J" (.long u_stamp_pr0)) (E_pr1 : Exa Z h0 pr1 "com/example/procord/procord/election/ElectionMessage") (F_from_pr1 : Fld Z h0 pr1 "com/example/procord/procord/election/ElectionMessage" "from" "I" (.int u_from_pr1)) (F_to_pr1 : Fld Z h0 pr1 "com/example/procord/procord/election/ElectionMessage" "to" "I" (.int u_to_pr1)) (F_kind_pr1 : Fld Z h0 pr1 "com/example/procord/procord/election/ElectionMessage" "kind" "Lcom/example/procord/procord/election/ElectionMessage$Kind;" (.ref u_kind_pr1)) (F_stamp_pr1 : Fld Z h0 pr1 "com/example/procord/procord/election/ElectionMessage" "stamp" "J" (.long u_stamp_pr1)) :
    MetFree l (⟨"com/example/procord/procord/election/ElectionMessage", "equals", "(Ljava/lang/Object;)Z"⟩ : MethodName) (head1 (Jvm.Cond.code (⟨"com/example/procord/procord/election/ElectionMessage", "equals", "(Ljava/lang/Object;)Z"⟩ : MethodName) prog_8_method_7_code 3 (some .boolean) :: ws) ({ frames := 0, cells := 0, slots := 0, locals := 0 } : Room)) (fun a U => a = #[(.ref pr0), (.ref pr1)] ∧ Z.Warmed39 U.vm ∧ U.heap = h0) (fun _ _ _ _ _ => True) (fun _ U o U' => ∃ v L, o = .returned v ∧ Q7 Z pr0 pr1 u_from_pr0 u_to_pr0 u_kind_pr0 u_stamp_pr0 u_from_pr1 u_to_pr1 u_kind_pr1 u_stamp_pr1 h0 n0 v U'.heap L ∧ FrameEnd U o U' L ({ frames := 0, cells := 0, slots := 0, locals := 0 } : Room).cells ({ frames := 0, cells := 0, slots := 0, locals := 0 } : Room).slots) := by
  refine MetFree.of_bodySF (plainFor_of_name pn_com_example_procord_procord_election_ElectionMessage) hisR ?_
  intro p e s m args below meth c s₁ Bd hml0 hP hK
  obtain ⟨rfl, hZ, hh⟩ := hP
  have hx := Bd.exec
  have hby := Bd.bytes
  have hml : c.maxLocals = 3 := hml0
  have hown : s.vm.findClass "com/example/procord/procord/election/ElectionMessage" = some m.cls := findClass_of_methodNamed Bd.named
  have hnm := (name_of_methodNamed Bd.named Bd.method).1
  have X0 : Stand p l e ({ frames := 0, cells := 0, slots := 0, locals := 0 } : Room) s m #[(.ref pr0), (.ref pr1)] below meth c s₁ [] 0 0 := Stand.of_body Bd
  have e0 : s₁.heap = h0 := by rw [← hh, Bd.state]; rfl
  have N0 := Fr.nil n0
  obtain ⟨Go, hGo⟩ : ∃ P : State → Prop, ∀ t, P t ↔ Steps p.tables e below (s₁.setTop (entryFrame m #[(.ref pr0), (.ref pr1)] 3)) t := ⟨_, fun _ => Iff.rfl⟩
  have pre0 : ∀ t, Steps p.tables e below (s₁.setTop (mkF m 0 #[rv pr0, rv pr1, .unset] [])) t → Go t := fun t k => (hGo t).mpr (castTop (ef_7 m pr0 pr1) k)
  have pre1 : ∀ t, Steps p.tables e below (s₁.setTop (mkF m 1 #[rv pr0, rv pr1, .unset] [(.ref pr1)])) t → Go t := fun t kt => pre0 t (by
      refine y_aloadN X0.here hx (hb hby d7_0) rfl rfl (pc' := 1) rfl ?_
      exact kt)
  obtain ⟨T2, X2, e2, st2⟩ := instY X0 hx hZ hown (hw _ (List.mem_of_getElem? (i := 54) rfl)) e0 (Ins.self E_pr1) (g := (mkF m 1 #[rv pr0, rv pr1, .unset] [(.ref pr1)])) rfl rfl (hb hby d7_1)
  have pre3 : ∀ t, Steps p.tables e below (T2.setTop (mkF m 4 #[rv pr0, rv pr1, .unset] [(.int (1 : Int32))])) t → Go t := fun t kt => pre1 t (st2 t kt)
  have pre4 : ∀ t, Steps p.tables e below (T2.setTop (mkF m 10 #[rv pr0, rv pr1, .unset] [(.ref pr1)])) t → Go t := fun t kt => pre3 t (by
      refine y_ifYes X2.here hx (hb hby d7_4) ((if0 _ _).trans (feq (by decide : ¬ ((1 : Int32) = (0 : Int32)))).2) (pc' := 9) (by decide) rfl ?_
      refine y_aloadN X2.here hx (hb hby d7_9) rfl rfl (pc' := 10) rfl ?_
      exact kt)
  obtain ⟨T5, X5, e5, st5⟩ := castY X2 hx hZ hown (hw _ (List.mem_of_getElem? (i := 54) rfl)) e2 (Ins.self E_pr1) (g := (mkF m 10 #[rv pr0, rv pr1, .unset] [(.ref pr1)])) rfl rfl (hb hby d7_10)
  have pre6 : ∀ t, Steps p.tables e below (T5.setTop (mkF m 13 #[rv pr0, rv pr1, .unset] [(.ref pr1)])) t → Go t := fun t kt => pre4 t (st5 t kt)
  have pre7 : ∀ t, Steps p.tables e below (T5.setTop (mkF m 15 #[rv pr0, rv pr1, rv pr1] [(.ref pr0)])) t → Go t := fun t kt => pre6 t (by
      refine y_astoreN X5.here hx (hb hby d7_13) rfl (l' := #[rv pr0, rv pr1, rv pr1]) rfl (pc' := 14) rfl ?_
      refine y_aloadN X5.here hx (hb hby d7_14) rfl rfl (pc' := 15) rfl ?_
      exact kt)
  obtain ⟨T8, X8, e8, st8⟩ := getF X5 hx hZ hown (host := "") (Or.inl (hw _ (List.mem_of_getElem? (i := 20) rfl))) Via.refl e5 F_from_pr0 (g := (mkF m 15 #[rv pr0, rv pr1, rv pr1] [(.ref pr0)])) rfl rfl (hb hby d7_15)
  have pre9 : ∀ t, Steps p.tables e below (T8.setTop (mkF m 18 #[rv pr0, rv pr1, rv pr1] [(.int u_from_pr0)])) t → Go t := fun t kt => pre7 t (st8 t kt)
  have pre10 : ∀ t, Steps p.tables e below (T8.setTop (mkF m 19 #[rv pr0, rv pr1, rv pr1] [(.ref pr1), (.int u_from_pr0)])) t → Go t := fun t kt => pre9 t (by
      refine y_aloadN X8.here hx (hb hby d7_18) rfl rfl (pc' := 19) rfl ?_
      exact kt)
  obtain ⟨T11, X11, e11, st11⟩ := getF X8 hx hZ hown (host := "") (Or.inl (hw _ (List.mem_of_getElem? (i := 20) rfl))) Via.refl e8 F_from_pr1 (g := (mkF m 19 #[rv pr0, rv pr1, rv pr1] [(.ref pr1), (.int u_from_pr0)])) rfl rfl (hb hby d7_19)
  have pre12 : ∀ t, Steps p.tables e below (T11.setTop (mkF m 22 #[rv pr0, rv pr1, rv pr1] [(.int u_from_pr1), (.int u_from_pr0)])) t → Go t := fun t kt => pre10 t (st11 t kt)
  by_cases hc22_13 : u_from_pr0 = u_from_pr1
  · have pre14 : ∀ t, Steps p.tables e below (T11.setTop (mkF m 26 #[rv pr0, rv pr1, rv pr1] [(.ref pr0)])) t → Go t := fun t kt => pre12 t (by
        refine y_icmpNo X11.here hx (hb hby d7_22) (teq hc22_13).2 (pc' := 25) rfl ?_
        refine y_aloadN X11.here hx (hb hby d7_25) rfl rfl (pc' := 26) rfl ?_
        exact kt)
    obtain ⟨T15, X15, e15, st15⟩ := getF X11 hx hZ hown (host := "") (Or.inl (hw _ (List.mem_of_getElem? (i := 22) rfl))) Via.refl e11 F_to_pr0 (g := (mkF m 26 #[rv pr0, rv pr1, rv pr1] [(.ref pr0)])) rfl rfl (hb hby d7_26)
    have pre16 : ∀ t, Steps p.tables e below (T15.setTop (mkF m 29 #[rv pr0, rv pr1, rv pr1] [(.int u_to_pr0)])) t → Go t := fun t kt => pre14 t (st15 t kt)
    have pre17 : ∀ t, Steps p.tables e below (T15.setTop (mkF m 30 #[rv pr0, rv pr1, rv pr1] [(.ref pr1), (.int u_to_pr0)])) t → Go t := fun t kt => pre16 t (by
        refine y_aloadN X15.here hx (hb hby d7_29) rfl rfl (pc' := 30) rfl ?_
        exact kt)
    obtain ⟨T18, X18, e18, st18⟩ := getF X15 hx hZ hown (host := "") (Or.inl (hw _ (List.mem_of_getElem? (i := 22) rfl))) Via.refl e15 F_to_pr1 (g := (mkF m 30 #[rv pr0, rv pr1, rv pr1] [(.ref pr1), (.int u_to_pr0)])) rfl rfl (hb hby d7_30)
    have pre19 : ∀ t, Steps p.tables e below (T18.setTop (mkF m 33 #[rv pr0, rv pr1, rv pr1] [(.int u_to_pr1), (.int u_to_pr0)])) t → Go t := fun t kt => pre17 t (st18 t kt)
    by_cases hc33_20 : u_to_pr0 = u_to_pr1
    · have pre21 : ∀ t, Steps p.tables e below (T18.setTop (mkF m 37 #[rv pr0, rv pr1, rv pr1] [(.ref pr0)])) t → Go t := fun t kt => pre19 t (by
          refine y_icmpNo X18.here hx (hb hby d7_33) (teq hc33_20).2 (pc' := 36) rfl ?_
          refine y_aloadN X18.here hx (hb hby d7_36) rfl rfl (pc' := 37) rfl ?_
          exact kt)
      obtain ⟨T22, X22, e22, st22⟩ := getF X18 hx hZ hown (host := "") (Or.inl (hw _ (List.mem_of_getElem? (i := 38) rfl))) Via.refl e18 F_kind_pr0 (g := (mkF m 37 #[rv pr0, rv pr1, rv pr1] [(.ref pr0)])) rfl rfl (hb hby d7_37)
      have pre23 : ∀ t, Steps p.tables e below (T22.setTop (mkF m 40 #[rv pr0, rv pr1, rv pr1] [(.ref u_kind_pr0)])) t → Go t := fun t kt => pre21 t (st22 t kt)
      have pre24 : ∀ t, Steps p.tables e below (T22.setTop (mkF m 41 #[rv pr0, rv pr1, rv pr1] [(.ref pr1), (.ref u_kind_pr0)])) t → Go t := fun t kt => pre23 t (by
          refine y_aloadN X22.here hx (hb hby d7_40) rfl rfl (pc' := 41) rfl ?_
          exact kt)
      obtain ⟨T25, X25, e25, st25⟩ := getF X22 hx hZ hown (host := "") (Or.inl (hw _ (List.mem_of_getElem? (i := 38) rfl))) Via.refl e22 F_kind_pr1 (g := (mkF m 41 #[rv pr0, rv pr1, rv pr1] [(.ref pr1), (.ref u_kind_pr0)])) rfl rfl (hb hby d7_41)
      have pre26 : ∀ t, Steps p.tables e below (T25.setTop (mkF m 44 #[rv pr0, rv pr1, rv pr1] [(.ref u_kind_pr1), (.ref u_kind_pr0)])) t → Go t := fun t kt => pre24 t (st25 t kt)
      by_cases hc44_27 : u_kind_pr0 = u_kind_pr1
      · have pre28 : ∀ t, Steps p.tables e below (T25.setTop (mkF m 48 #[rv pr0, rv pr1, rv pr1] [(.ref pr0)])) t → Go t := fun t kt => pre26 t (by
            refine Jvm.RoadKit.acmp (g := (mkF m 44 #[rv pr0, rv pr1, rv pr1] [(.ref u_kind_pr1), (.ref u_kind_pr0)])) X25 hx rfl rfl rfl (pc0 := 44) (pc' := 47) (same := true) rfl (hb hby d7_44) rfl (decide_eq_true (congrArg Value.ref hc44_27)) (by decide) (by decide) ?_
            show Steps p.tables e below (T25.setTop (mkF m 47 #[rv pr0, rv pr1, rv pr1] [])) _
            refine y_aloadN X25.here hx (hb hby d7_47) rfl rfl (pc' := 48) rfl ?_
            exact kt)
        obtain ⟨T29, X29, e29, st29⟩ := getF X25 hx hZ hown (host := "") (Or.inl (hw _ (List.mem_of_getElem? (i := 40) rfl))) Via.refl e25 F_stamp_pr0 (g := (mkF m 48 #[rv pr0, rv pr1, rv pr1] [(.ref pr0)])) rfl rfl (hb hby d7_48)
        have pre30 : ∀ t, Steps p.tables e below (T29.setTop (mkF m 51 #[rv pr0, rv pr1, rv pr1] [(.long u_stamp_pr0)])) t → Go t := fun t kt => pre28 t (st29 t kt)
        have pre31 : ∀ t, Steps p.tables e below (T29.setTop (mkF m 52 #[rv pr0, rv pr1, rv pr1] [(.ref pr1), (.long u_stamp_pr0)])) t → Go t := fun t kt => pre30 t (by
            refine y_aloadN X29.here hx (hb hby d7_51) rfl rfl (pc' := 52) rfl ?_
            exact kt)
        obtain ⟨T32, X32, e32, st32⟩ := getF X29 hx hZ hown (host := "") (Or.inl (hw _ (List.mem_of_getElem? (i := 40) rfl))) Via.refl e29 F_stamp_pr1 (g := (mkF m 52 #[rv pr0, rv pr1, rv pr1] [(.ref pr1), (.long u_stamp_pr0)])) rfl rfl (hb hby d7_52)
        have pre33 : ∀ t, Steps p.tables e below (T32.setTop (mkF m 55 #[rv pr0, rv pr1, rv pr1] [(.long u_stamp_pr1), (.long u_stamp_pr0)])) t → Go t := fun t kt => pre31 t (st32 t kt)
        have pre34 : ∀ t, Steps p.tables e below (T32.setTop (mkF m 56 #[rv pr0, rv pr1, rv pr1] [(.int (lcmpW u_stamp_pr0 u_stamp_pr1))])) t → Go t := fun t kt => pre33 t (by
            refine y_lcmp X32.here hx (hb hby d7_55) (pc' := 56) rfl ?_
            exact kt)
        by_cases hc56_35 : u_stamp_pr0 = u_stamp_pr1
        · have pre36 : ∀ t, Steps p.tables e below (T32.setTop (mkF m 64 #[rv pr0, rv pr1, rv pr1] [(.int (1 : Int32))])) t → Go t := fun t kt => pre34 t (by
              refine y_ifNo X32.here hx (hb hby d7_56) ((if0 _ _).trans (teq (lq_eq hc56_35)).2) (pc' := 59) rfl ?_
              refine y_iconst X32.here hx (hb hby d7_59) (v := (1 : Int32)) rfl (pc' := 60) rfl ?_
              refine y_goto X32.here hx (hb hby d7_60) (pc' := 64) (by decide) rfl ?_
              exact kt)
          obtain ⟨fs, hr, hrun, hended, hW, hsame⟩ := X32.leave (v := some (.int (1 : Int32))) (fun h => by rw [Bd.returns] at h; cases h)
          refine ⟨_, _, (hGo _).mp (pre36 _ ?_), hrun, hended, _, _, rfl, ?_, ⟨_, rfl⟩, hW, hsame.mono (by decide) (by decide)⟩
          · exact retN X32 hx (t := .boolean) Bd.returns (by simp) (hb hby d7_64) hr
          · show Q7 Z pr0 pr1 u_from_pr0 u_to_pr0 u_kind_pr0 u_stamp_pr0 u_from_pr1 u_to_pr1 u_kind_pr1 u_stamp_pr1 h0 n0 _ T32.heap _
            rw [e32]
            exact ⟨(by first | (simp only [if_pos hc22_13, if_pos hc33_20, if_pos hc44_27, if_pos hc56_35]; done) | (simp only [if_pos hc22_13, if_pos hc33_20, if_pos hc44_27, if_pos hc56_35]; exact rfl) | exact rfl), N0, rfl⟩
        · have pre37 : ∀ t, Steps p.tables e below (T32.setTop (mkF m 64 #[rv pr0, rv pr1, rv pr1] [(.int (0 : Int32))])) t → Go t := fun t kt => pre34 t (by
              refine y_ifYes X32.here hx (hb hby d7_56) ((if0 _ _).trans (feq (lq_ne hc56_35)).2) (pc' := 63) (by decide) rfl ?_
              refine y_iconst X32.here hx (hb hby d7_63) (v := (0 : Int32)) rfl (pc' := 64) rfl ?_
              exact kt)
          obtain ⟨fs, hr, hrun, hended, hW, hsame⟩ := X32.leave (v := some (.int (0 : Int32))) (fun h => by rw [Bd.returns] at h; cases h)
          refine ⟨_, _, (hGo _).mp (pre37 _ ?_), hrun, hended, _, _, rfl, ?_, ⟨_, rfl⟩, hW, hsame.mono (by decide) (by decide)⟩
          · exact retN X32 hx (t := .boolean) Bd.returns (by simp) (hb hby d7_64) hr
          · show Q7 Z pr0 pr1 u_from_pr0 u_to_pr0 u_kind_pr0 u_stamp_pr0 u_from_pr1 u_to_pr1 u_kind_pr1 u_stamp_pr1 h0 n0 _ T32.heap _
            rw [e32]
            exact ⟨(by first | (simp only [if_pos hc22_13, if_pos hc33_20, if_pos hc44_27, if_neg hc56_35]; done) | (simp only [if_pos hc22_13, if_pos hc33_20, if_pos hc44_27, if_neg hc56_35]; exact rfl) | exact rfl), N0, rfl⟩
      · have pre38 : ∀ t, Steps p.tables e below (T25.setTop (mkF m 64 #[rv pr0, rv pr1, rv pr1] [(.int (0 : Int32))])) t → Go t := fun t kt => pre26 t (by
            refine Jvm.RoadKit.acmp (g := (mkF m 44 #[rv pr0, rv pr1, rv pr1] [(.ref u_kind_pr1), (.ref u_kind_pr0)])) X25 hx rfl rfl rfl (pc0 := 44) (pc' := 63) (same := false) rfl (hb hby d7_44) rfl (decide_eq_false fun q => hc44_27 (Value.ref.inj q)) (by decide) (by decide) ?_
            show Steps p.tables e below (T25.setTop (mkF m 63 #[rv pr0, rv pr1, rv pr1] [])) _
            refine y_iconst X25.here hx (hb hby d7_63) (v := (0 : Int32)) rfl (pc' := 64) rfl ?_
            exact kt)
        obtain ⟨fs, hr, hrun, hended, hW, hsame⟩ := X25.leave (v := some (.int (0 : Int32))) (fun h => by rw [Bd.returns] at h; cases h)
        refine ⟨_, _, (hGo _).mp (pre38 _ ?_), hrun, hended, _, _, rfl, ?_, ⟨_, rfl⟩, hW, hsame.mono (by decide) (by decide)⟩
        · exact retN X25 hx (t := .boolean) Bd.returns (by simp) (hb hby d7_64) hr
        · show Q7 Z pr0 pr1 u_from_pr0 u_to_pr0 u_kind_pr0 u_stamp_pr0 u_from_pr1 u_to_pr1 u_kind_pr1 u_stamp_pr1 h0 n0 _ T25.heap _
          rw [e25]
          exact ⟨(by first | (simp only [if_pos hc22_13, if_pos hc33_20, if_neg hc44_27]; done) | (simp only [if_pos hc22_13, if_pos hc33_20, if_neg hc44_27]; exact rfl) | exact rfl), N0, rfl⟩
    · have pre39 : ∀ t, Steps p.tables e below (T18.setTop (mkF m 64 #[rv pr0, rv pr1, rv pr1] [(.int (0 : Int32))])) t → Go t := fun t kt => pre19 t (by
          refine y_icmpYes X18.here hx (hb hby d7_33) (feq hc33_20).2 (pc' := 63) (by decide) rfl ?_
          refine y_iconst X18.here hx (hb hby d7_63) (v := (0 : Int32)) rfl (pc' := 64) rfl ?_
          exact kt)
      obtain ⟨fs, hr, hrun, hended, hW, hsame⟩ := X18.leave (v := some (.int (0 : Int32))) (fun h => by rw [Bd.returns] at h; cases h)
      refine ⟨_, _, (hGo _).mp (pre39 _ ?_), hrun, hended, _, _, rfl, ?_, ⟨_, rfl⟩, hW, hsame.mono (by decide) (by decide)⟩
      · exact retN X18 hx (t := .boolean) Bd.returns (by simp) (hb hby d7_64) hr
      · show Q7 Z pr0 pr1 u_from_pr0 u_to_pr0 u_kind_pr0 u_stamp_pr0 u_from_pr1 u_to_pr1 u_kind_pr1 u_stamp_pr1 h0 n0 _ T18.heap _
        rw [e18]
        exact ⟨(by first | (simp only [if_pos hc22_13, if_neg hc33_20]; done) | (simp only [if_pos hc22_13, if_neg hc33_20]; exact rfl) | exact rfl), N0, rfl⟩
  · have pre40 : ∀ t, Steps p.tables e below (T11.setTop (mkF m 64 #[rv pr0, rv pr1, rv pr1] [(.int (0 : Int32))])) t → Go t := fun t kt => pre12 t (by
        refine y_icmpYes X11.here hx (hb hby d7_22) (feq hc22_13).2 (pc' := 63) (by decide) rfl ?_
        refine y_iconst X11.here hx (hb hby d7_63) (v := (0 : Int32)) rfl (pc' := 64) rfl ?_
        exact kt)
    obtain ⟨fs, hr, hrun, hended, hW, hsame⟩ := X11.leave (v := some (.int (0 : Int32))) (fun h => by rw [Bd.returns] at h; cases h)
    refine ⟨_, _, (hGo _).mp (pre40 _ ?_), hrun, hended, _, _, rfl, ?_, ⟨_, rfl⟩, hW, hsame.mono (by decide) (by decide)⟩
    · exact retN X11 hx (t := .boolean) Bd.returns (by simp) (hb hby d7_64) hr
    · show Q7 Z pr0 pr1 u_from_pr0 u_to_pr0 u_kind_pr0 u_stamp_pr0 u_from_pr1 u_to_pr1 u_kind_pr1 u_stamp_pr1 h0 n0 _ T11.heap _
      rw [e11]
      exact ⟨(by first | (simp only [if_neg hc22_13]; done) | (simp only [if_neg hc22_13]; exact rfl) | exact rfl), N0, rfl⟩
theorem d7_7 : decode prog_8_method_7_code 7 = .ok (.iconst 0, 1) := by decide +kernel
theorem d7_8 : decode prog_8_method_7_code 8 = .ok (.ireturn, 1) := by decide +kernel
theorem ef_7n (m : MethodId) (x0 : Addr) : entryFrame m #[(.ref x0), .null] 3 = mkF m 0 #[rv x0, .val .null, .unset] [] := by first | (simp [entryFrame, mkF, argsToLocals, Value.category]; done) | rfl
def Q7n (Z : State) (pr0 : Addr) (h0 : Heap) (n0 : Nat) (v : Option Value) (h : Heap) (L : List Loc) : Prop := v = some (.int (0 : Int32)) ∧ Fr n0 L ∧ h = h0
set_option maxRecDepth 65536 in
set_option maxHeartbeats 40000000 in
theorem rm7n (l : Launch) (Z : State) (a0 : Array Value) (hw : ∀ d ∈ tables_1, d.before a0 Z = true) (ws : List Jvm.Cond) (pr0 : Addr) (h0 : Heap) (n0 : Nat) (O0 : Old Z n0 h0) :
    MetFree l (⟨"com/example/procord/procord/election/ElectionMessage", "equals", "(Ljava/lang/Object;)Z"⟩ : MethodName) (head1 (Jvm.Cond.code (⟨"com/example/procord/procord/election/ElectionMessage", "equals", "(Ljava/lang/Object;)Z"⟩ : MethodName) prog_8_method_7_code 3 (some .boolean) :: ws) ({ frames := 0, cells := 0, slots := 0, locals := 0 } : Room)) (fun a U => a = #[(.ref pr0), .null] ∧ Z.Warmed39 U.vm ∧ U.heap = h0) (fun _ _ _ _ _ => True) (fun _ U o U' => ∃ v L, o = .returned v ∧ Q7n Z pr0 h0 n0 v U'.heap L ∧ FrameEnd U o U' L ({ frames := 0, cells := 0, slots := 0, locals := 0 } : Room).cells ({ frames := 0, cells := 0, slots := 0, locals := 0 } : Room).slots) := by
  refine MetFree.of_bodySF (plainFor_of_name pn_com_example_procord_procord_election_ElectionMessage) hisR ?_
  intro p e s m args below meth c s₁ Bd hml0 hP hK
  obtain ⟨rfl, hZ, hh⟩ := hP
  have hx := Bd.exec
  have hby := Bd.bytes
  have hml : c.maxLocals = 3 := hml0
  have hown : s.vm.findClass "com/example/procord/procord/election/ElectionMessage" = some m.cls := findClass_of_methodNamed Bd.named
  have hnm := (name_of_methodNamed Bd.named Bd.method).1
  have X0 : Stand p l e ({ frames := 0, cells := 0, slots := 0, locals := 0 } : Room) s m #[(.ref pr0), .null] below meth c s₁ [] 0 0 := Stand.of_body Bd
  have e0 : s₁.heap = h0 := by rw [← hh, Bd.state]; rfl
  have N0 := Fr.nil n0
  obtain ⟨Go, hGo⟩ : ∃ P : State → Prop, ∀ t, P t ↔ Steps p.tables e below (s₁.setTop (entryFrame m #[(.ref pr0), .null] 3)) t := ⟨_, fun _ => Iff.rfl⟩
  have pre0 : ∀ t, Steps p.tables e below (s₁.setTop (mkF m 0 #[rv pr0, .val .null, .unset] [])) t → Go t := fun t k => (hGo t).mpr (castTop (ef_7n m pr0) k)
  have pre1 : ∀ t, Steps p.tables e below (s₁.setTop (mkF m 1 #[rv pr0, .val .null, .unset] [.null])) t → Go t := fun t kt => pre0 t (by
      refine y_aloadN X0.here hx (hb hby d7_0) rfl rfl (pc' := 1) rfl ?_
      exact kt)
  have pre2 : ∀ t, Steps p.tables e below (s₁.setTop (mkF m 8 #[rv pr0, .val .null, .unset] [(.int (0 : Int32))])) t → Go t := fun t kt => pre1 t (by
      refine X0.instanceofNull hx (g := (mkF m 1 #[rv pr0, .val .null, .unset] [.null])) rfl rfl (hb hby d7_1) _ ?_
      show Steps p.tables e below (s₁.setTop (mkF m 4 #[rv pr0, .val .null, .unset] [(.int (0 : Int32))])) _
      refine y_ifNo X0.here hx (hb hby d7_4) ((if0 _ _).trans (teq (rfl : (0 : Int32) = (0 : Int32))).2) (pc' := 7) rfl ?_
      refine y_iconst X0.here hx (hb hby d7_7) (v := (0 : Int32)) rfl (pc' := 8) rfl ?_
      exact kt)
  obtain ⟨fs, hr, hrun, hended, hW, hsame⟩ := X0.leave (v := some (.int (0 : Int32))) (fun h => by rw [Bd.returns] at h; cases h)
  refine ⟨_, _, (hGo _).mp (pre2 _ ?_), hrun, hended, _, _, rfl, ?_, ⟨_, rfl⟩, hW, hsame.mono (by decide) (by decide)⟩
  · exact retN X0 hx (t := .boolean) Bd.returns (by simp) (hb hby d7_8) hr
  · show Q7n Z pr0 h0 n0 _ s₁.heap _
    rw [e0]
    exact ⟨rfl, N0, rfl⟩
theorem ef_7x (m : MethodId) (x0 : Addr) (x1 : Addr) : entryFrame m #[(.ref x0), (.ref x1)] 3 = mkF m 0 #[rv x0, rv x1, .unset] [] := by first | (simp [entryFrame, mkF, argsToLocals, Value.category]; done) | rfl
def Q7x (Z : State) (pr0 : Addr) (pr1 : Addr) (h0 : Heap) (n0 : Nat) (v : Option Value) (h : Heap) (L : List Loc) : Prop := v = some (.int (0 : Int32)) ∧ Fr n0 L ∧ h = h0
set_option maxRecDepth 65536 in
set_option maxHeartbeats 40000000 in
theorem rm7x (l : Launch) (Z : State) (a0 : Array Value) (hw : ∀ d ∈ tables_1, d.before a0 Z = true) (ws : List Jvm.Cond) (pr0 : Addr) (pr1 : Addr) (h0 : Heap) (n0 : Nat) (O0 : Old Z n0 h0) (E_pr1 : Exa Z h0 pr1 "java/lang/Integer") (NI_pr1 : Nas Z "java/lang/Integer" "com/example/procord/procord/election/ElectionMessage") :
    MetFree l (⟨"com/example/procord/procord/election/ElectionMessage", "equals", "(Ljava/lang/Object;)Z"⟩ : MethodName) (head1 (Jvm.Cond.code (⟨"com/example/procord/procord/election/ElectionMessage", "equals", "(Ljava/lang/Object;)Z"⟩ : MethodName) prog_8_method_7_code 3 (some .boolean) :: ws) ({ frames := 0, cells := 0, slots := 0, locals := 0 } : Room)) (fun a U => a = #[(.ref pr0), (.ref pr1)] ∧ Z.Warmed39 U.vm ∧ U.heap = h0) (fun _ _ _ _ _ => True) (fun _ U o U' => ∃ v L, o = .returned v ∧ Q7x Z pr0 pr1 h0 n0 v U'.heap L ∧ FrameEnd U o U' L ({ frames := 0, cells := 0, slots := 0, locals := 0 } : Room).cells ({ frames := 0, cells := 0, slots := 0, locals := 0 } : Room).slots) := by
  refine MetFree.of_bodySF (plainFor_of_name pn_com_example_procord_procord_election_ElectionMessage) hisR ?_
  intro p e s m args below meth c s₁ Bd hml0 hP hK
  obtain ⟨rfl, hZ, hh⟩ := hP
  have hx := Bd.exec
  have hby := Bd.bytes
  have hml : c.maxLocals = 3 := hml0
  have hown : s.vm.findClass "com/example/procord/procord/election/ElectionMessage" = some m.cls := findClass_of_methodNamed Bd.named
  have hnm := (name_of_methodNamed Bd.named Bd.method).1
  have X0 : Stand p l e ({ frames := 0, cells := 0, slots := 0, locals := 0 } : Room) s m #[(.ref pr0), (.ref pr1)] below meth c s₁ [] 0 0 := Stand.of_body Bd
  have e0 : s₁.heap = h0 := by rw [← hh, Bd.state]; rfl
  have N0 := Fr.nil n0
  obtain ⟨Go, hGo⟩ : ∃ P : State → Prop, ∀ t, P t ↔ Steps p.tables e below (s₁.setTop (entryFrame m #[(.ref pr0), (.ref pr1)] 3)) t := ⟨_, fun _ => Iff.rfl⟩
  have pre0 : ∀ t, Steps p.tables e below (s₁.setTop (mkF m 0 #[rv pr0, rv pr1, .unset] [])) t → Go t := fun t k => (hGo t).mpr (castTop (ef_7x m pr0 pr1) k)
  have pre1 : ∀ t, Steps p.tables e below (s₁.setTop (mkF m 1 #[rv pr0, rv pr1, .unset] [(.ref pr1)])) t → Go t := fun t kt => pre0 t (by
      refine y_aloadN X0.here hx (hb hby d7_0) rfl rfl (pc' := 1) rfl ?_
      exact kt)
  obtain ⟨T2, X2, e2, st2⟩ := instNo X0 hx hZ hown (hw _ (List.mem_of_getElem? (i := 54) rfl)) e0 E_pr1 NI_pr1 (g := (mkF m 1 #[rv pr0, rv pr1, .unset] [(.ref pr1)])) rfl rfl (hb hby d7_1)
  have pre3 : ∀ t, Steps p.tables e below (T2.setTop (mkF m 4 #[rv pr0, rv pr1, .unset] [(.int (0 : Int32))])) t → Go t := fun t kt => pre1 t (st2 t kt)
  have pre4 : ∀ t, Steps p.tables e below (T2.setTop (mkF m 8 #[rv pr0, rv pr1, .unset] [(.int (0 : Int32))])) t → Go t := fun t kt => pre3 t (by
      refine y_ifNo X2.here hx (hb hby d7_4) ((if0 _ _).trans (teq (rfl : (0 : Int32) = (0 : Int32))).2) (pc' := 7) rfl ?_
      refine y_iconst X2.here hx (hb hby d7_7) (v := (0 : Int32)) rfl (pc' := 8) rfl ?_
      exact kt)
  obtain ⟨fs, hr, hrun, hended, hW, hsame⟩ := X2.leave (v := some (.int (0 : Int32))) (fun h => by rw [Bd.returns] at h; cases h)
  refine ⟨_, _, (hGo _).mp (pre4 _ ?_), hrun, hended, _, _, rfl, ?_, ⟨_, rfl⟩, hW, hsame.mono (by decide) (by decide)⟩
  · exact retN X2 hx (t := .boolean) Bd.returns (by simp) (hb hby d7_8) hr
  · show Q7x Z pr0 pr1 h0 n0 _ T2.heap _
    rw [e2]
    exact ⟨rfl, N0, rfl⟩
theorem law0_47 (pi0 : Int32) (pi1 : Int32) (x2 : Int32) (hx2 : x2 = (if pi0 = pi1 then (pi1 + (1 : Int32)) else pi1)) : ¬ pi0 = x2 := by
  intro h
  rw [hx2] at h
  split at h
  · rename_i q; first | exact own_ne1 _ h | (rw [q] at h; exact own_ne1 _ h)
  · exact absurd h (by assumption)
theorem law0_48 (x19 : Int32) (x26 : Int32) (x33 : Int32) (hx33 : x33 = (if x19 = x26 then (x19 + (1 : Int32)) else x26)) : ¬ x19 = x33 := by
  intro h
  rw [hx33] at h
  split at h
  · rename_i q; first | exact own_ne1 _ h | (rw [q] at h; exact own_ne1 _ h)
  · exact absurd h (by assumption)
theorem law0_136 (pi0 : Int32) (pj2 : Int64) (x2 : Int32) (x11 : Addr) (x16 : Addr) (x19 : Int32) (x33 : Int32) (x40 : Int64) (x98 : Int32) (x132 : Int32) (hx98 : x98 = (if pi0 = x19 then (if x2 = x33 then (if x11 = x16 then (if pj2 = x40 then (1 : Int32) else (0 : Int32)) else (0 : Int32)) else (0 : Int32)) else (0 : Int32))) (hx132 : x132 = (if pi0 = x19 then (if x2 = x33 then (if x11 = x16 then (if pj2 = x40 then (1 : Int32) else (0 : Int32)) else (0 : Int32)) else (0 : Int32)) else (0 : Int32))) : x132 = x98 := by
  grind
theorem law0_144 (pi0 : Int32) (pj2 : Int64) (x2 : Int32) (x11 : Addr) (x16 : Addr) (x19 : Int32) (x33 : Int32) (x40 : Int64) (x98 : Int32) (x132 : Int32) (x140 : Int32) (hx98 : x98 = (if pi0 = x19 then (if x2 = x33 then (if x11 = x16 then (if pj2 = x40 then (1 : Int32) else (0 : Int32)) else (0 : Int32)) else (0 : Int32)) else (0 : Int32))) (hx140 : x140 = (if x19 = pi0 then (if x33 = x2 then (if x16 = x11 then (if x40 = pj2 then (1 : Int32) else (0 : Int32)) else (0 : Int32)) else (0 : Int32)) else (0 : Int32))) (hf189_134 : x132 = x98) : x140 = x98 := by
  grind
theorem pd__I_Lcom_example_procord_procord_election_ElectionMessage_Kind_ : parseMethodDescriptor "(I)Lcom/example/procord/procord/election/ElectionMessage$Kind;" = some ⟨[.int], some (.object "com/example/procord/procord/election/ElectionMessage$Kind")⟩ := by decide +kernel
theorem pd__IILcom_example_procord_procord_election_ElectionMessage_Kind_J_V : parseMethodDescriptor "(IILcom/example/procord/procord/election/ElectionMessage$Kind;J)V" = some ⟨[.int, .int, (.object "com/example/procord/procord/election/ElectionMessage$Kind"), .long], none⟩ := by decide +kernel
theorem pd__I_Ljava_lang_Integer_ : parseMethodDescriptor "(I)Ljava/lang/Integer;" = some ⟨[.int], some (.object "java/lang/Integer")⟩ := by decide +kernel
theorem pd__Ljava_lang_Object__Z : parseMethodDescriptor "(Ljava/lang/Object;)Z" = some ⟨[(.object "java/lang/Object")], some .boolean⟩ := by decide +kernel
theorem ef_0 (m : MethodId) (x0 : Int32) (x1 : Int32) (x2 : Int64) (x3 : Int32) (x4 : Int32) (x5 : Int64) : entryFrame m #[(.int x0), (.int x1), (.long x2), (.int x3), (.int x4), (.long x5)] maxLocals = mkF m 0 #[iv x0, iv x1, jv x2, .second, iv x3, iv x4, jv x5, .second, .unset, .unset, .unset, .unset, .unset, .unset, .unset, .unset, .unset, .unset, .unset, .unset] [] := by first | (simp [entryFrame, mkF, argsToLocals, Value.category, maxLocals]; done) | rfl
def Q0 (Z : State) (pi0 : Int32) (pi1 : Int32) (pj2 : Int64) (pi3 : Int32) (pi4 : Int32) (pj5 : Int64) (w_cache : Addr) (w_ELECTION : Addr) (w_ANSWER : Addr) (w_COORDINATOR : Addr) (cc : Cell) (h0 : Heap) (n0 : Nat) (v : Option Value) (h : Heap) (L : List Loc) : Prop := v = some (.int (1 : Int32)) ∧ Fr n0 L
set_option maxRecDepth 65536 in
set_option maxHeartbeats 40000000 in
theorem rm0 (l : Launch) (Z : State) (a0 : Array Value) (hw : ∀ d ∈ tables_1, d.before a0 Z = true) (ws : List Jvm.Cond) (pi0 : Int32) (pi1 : Int32) (pj2 : Int64) (pi3 : Int32) (pi4 : Int32) (pj5 : Int64) (w_cache : Addr) (w_ELECTION : Addr) (w_ANSWER : Addr) (w_COORDINATOR : Addr) (cc : Cell) (h0 : Heap) (n0 : Nat) (O0 : Old Z n0 h0) (S_cache : Sta Z Z.heap "java/lang/Integer$IntegerCache" "cache" "[Ljava/lang/Integer;" (.ref w_cache)) (S_high : Sta Z Z.heap "java/lang/Integer$IntegerCache" "high" "I" (.int (127 : Int32))) (S_ELECTION : Sta Z Z.heap "com/example/procord/procord/election/ElectionMessage$Kind" "ELECTION" "Lcom/example/procord/procord/election/ElectionMessage$Kind;" (.ref w_ELECTION)) (S_ANSWER : Sta Z Z.heap "com/example/procord/procord/election/ElectionMessage$Kind" "ANSWER" "Lcom/example/procord/procord/election/ElectionMessage$Kind;" (.ref w_ANSWER)) (S_COORDINATOR : Sta Z Z.heap "com/example/procord/procord/election/ElectionMessage$Kind" "COORDINATOR" "Lcom/example/procord/procord/election/ElectionMessage$Kind;" (.ref w_COORDINATOR)) (CA : Bxs Z w_cache cc "java/lang/Integer" "I" (256 : Int32) (fun j => .int (j - 128))) (NI_pr1 : Nas Z "java/lang/Integer" "com/example/procord/procord/election/ElectionMessage") (E_w_ELECTION : Exa Z Z.heap w_ELECTION "com/example/procord/procord/election/ElectionMessage$Kind") (E_w_ANSWER : Exa Z Z.heap w_ANSWER "com/example/procord/procord/election/ElectionMessage$Kind") (E_w_COORDINATOR : Exa Z Z.heap w_COORDINATOR "com/example/procord/procord/election/ElectionMessage$Kind") :
    MetFree l x (head1 (Jvm.Cond.code x code maxLocals ret :: ws) room_1) (fun a U => a = #[(.int pi0), (.int pi1), (.long pj2), (.int pi3), (.int pi4), (.long pj5)] ∧ Z.Warmed39 U.vm ∧ U.heap = h0) (fun _ _ _ _ _ => True) (fun _ U o U' => ∃ v L, o = .returned v ∧ Q0 Z pi0 pi1 pj2 pi3 pi4 pj5 w_cache w_ELECTION w_ANSWER w_COORDINATOR cc h0 n0 v U'.heap L ∧ ReturnedEndW U o U' L room_1.cells room_1.slots) := by
  refine MetFree.of_bodySF (plainFor_of_name pn_com_example_procord_procord_election_ElectionMessageEqualsPinLaw) hisR ?_
  intro p e s m args below meth c s₁ Bd hml0 hP hK
  obtain ⟨rfl, hZ, hh⟩ := hP
  have hx := Bd.exec
  have hby := Bd.bytes
  have hml : c.maxLocals = 20 := hml0
  have hown : s.vm.findClass "com/example/procord/procord/election/ElectionMessageEqualsPinLaw" = some m.cls := findClass_of_methodNamed Bd.named
  have hnm := (name_of_methodNamed Bd.named Bd.method).1
  have X0 : Stand p l e room_1 s m #[(.int pi0), (.int pi1), (.long pj2), (.int pi3), (.int pi4), (.long pj5)] below meth c s₁ [] 0 0 := Stand.of_body Bd
  have e0 : s₁.heap = h0 := by rw [← hh, Bd.state]; rfl
  have N0 := Fr.nil n0
  have hS0 : s.Since s.vm 0 := (State.WarmedH.refl s).since 0
  obtain ⟨Go, hGo⟩ : ∃ P : State → Prop, ∀ t, P t ↔ Steps p.tables e below (s₁.setTop (entryFrame m #[(.int pi0), (.int pi1), (.long pj2), (.int pi3), (.int pi4), (.long pj5)] maxLocals)) t := ⟨_, fun _ => Iff.rfl⟩
  have pre0 : ∀ t, Steps p.tables e below (s₁.setTop (mkF m 0 #[iv pi0, iv pi1, jv pj2, .second, iv pi3, iv pi4, jv pj5, .second, .unset, .unset, .unset, .unset, .unset, .unset, .unset, .unset, .unset, .unset, .unset, .unset] [])) t → Go t := fun t k => (hGo t).mpr (castTop (ef_0 m pi0 pi1 pj2 pi3 pi4 pj5) k)
  have pre1 : ∀ t, Steps p.tables e below (s₁.setTop (mkF m 5 #[iv pi0, iv pi1, jv pj2, .second, iv pi3, iv pi4, jv pj5, .second, iv pi0, .unset, .unset, .unset, .unset, .unset, .unset, .unset, .unset, .unset, .unset, .unset] [(.int pi1), (.int pi0)])) t → Go t := fun t kt => pre0 t (by
      refine y_iloadN X0.here hx (hb hby at_0) rfl (pc' := 1) rfl ?_
      refine y_istore X0.here hx (hb hby at_1) (l' := #[iv pi0, iv pi1, jv pj2, .second, iv pi3, iv pi4, jv pj5, .second, iv pi0, .unset, .unset, .unset, .unset, .unset, .unset, .unset, .unset, .unset, .unset, .unset]) rfl (pc' := 3) rfl ?_
      refine y_iloadN X0.here hx (hb hby at_3) rfl (pc' := 4) rfl ?_
      refine y_iloadN X0.here hx (hb hby at_4) rfl (pc' := 5) rfl ?_
      exact kt)
  obtain ⟨x2, hx2⟩ : ∃ z : Int32, z = (if pi0 = pi1 then (pi1 + (1 : Int32)) else pi1) := ⟨_, rfl⟩
  obtain ⟨T3, ⟨X3, q3⟩, st3⟩ : ∃ T', Nx X0 T' ∧ ∀ t, Steps p.tables e below (T'.setTop (mkF m 15 #[iv pi0, iv pi1, jv pj2, .second, iv pi3, iv pi4, jv pj5, .second, iv pi0, .unset, .unset, .unset, .unset, .unset, .unset, .unset, .unset, .unset, .unset, .unset] [(.int x2)])) t → Steps p.tables e below (s₁.setTop (mkF m 5 #[iv pi0, iv pi1, jv pj2, .second, iv pi3, iv pi4, jv pj5, .second, iv pi0, .unset, .unset, .unset, .unset, .unset, .unset, .unset, .unset, .unset, .unset, .unset] [(.int pi1), (.int pi0)])) t := by
    have pre3_ : ∀ t, Steps p.tables e below (s₁.setTop (mkF m 5 #[iv pi0, iv pi1, jv pj2, .second, iv pi3, iv pi4, jv pj5, .second, iv pi0, .unset, .unset, .unset, .unset, .unset, .unset, .unset, .unset, .unset, .unset, .unset] [(.int pi1), (.int pi0)])) t → Steps p.tables e below (s₁.setTop (mkF m 5 #[iv pi0, iv pi1, jv pj2, .second, iv pi3, iv pi4, jv pj5, .second, iv pi0, .unset, .unset, .unset, .unset, .unset, .unset, .unset, .unset, .unset, .unset, .unset] [(.int pi1), (.int pi0)])) t := fun t kt => kt
    subst hx2
    by_cases hm5_4 : pi0 = pi1
    · have pre5 : ∀ t, Steps p.tables e below (s₁.setTop (mkF m 15 #[iv pi0, iv pi1, jv pj2, .second, iv pi3, iv pi4, jv pj5, .second, iv pi0, .unset, .unset, .unset, .unset, .unset, .unset, .unset, .unset, .unset, .unset, .unset] [(.int (pi1 + (1 : Int32)))])) t → Steps p.tables e below (s₁.setTop (mkF m 5 #[iv pi0, iv pi1, jv pj2, .second, iv pi3, iv pi4, jv pj5, .second, iv pi0, .unset, .unset, .unset, .unset, .unset, .unset, .unset, .unset, .unset, .unset, .unset] [(.int pi1), (.int pi0)])) t := fun t kt => pre3_ t (by
          refine y_icmpNo X0.here hx (hb hby at_5) (teq hm5_4).2 (pc' := 8) rfl ?_
          refine y_iloadN X0.here hx (hb hby at_8) rfl (pc' := 9) rfl ?_
          refine y_iconst X0.here hx (hb hby at_9) (v := (1 : Int32)) rfl (pc' := 10) rfl ?_
          refine y_iadd X0.here hx (hb hby at_10) rfl (pc' := 11) rfl ?_
          refine y_goto X0.here hx (hb hby at_11) (pc' := 15) (by decide) rfl ?_
          exact kt)
      refine ⟨s₁, ⟨X0, e0.trans e0.symm⟩, fun t kt => pre5 t ?_⟩
      (try simp only [if_pos hm5_4] at kt)
      exact kt
    · have pre6 : ∀ t, Steps p.tables e below (s₁.setTop (mkF m 15 #[iv pi0, iv pi1, jv pj2, .second, iv pi3, iv pi4, jv pj5, .second, iv pi0, .unset, .unset, .unset, .unset, .unset, .unset, .unset, .unset, .unset, .unset, .unset] [(.int pi1)])) t → Steps p.tables e below (s₁.setTop (mkF m 5 #[iv pi0, iv pi1, jv pj2, .second, iv pi3, iv pi4, jv pj5, .second, iv pi0, .unset, .unset, .unset, .unset, .unset, .unset, .unset, .unset, .unset, .unset, .unset] [(.int pi1), (.int pi0)])) t := fun t kt => pre3_ t (by
          refine y_icmpYes X0.here hx (hb hby at_5) (feq hm5_4).2 (pc' := 14) (by decide) rfl ?_
          refine y_iloadN X0.here hx (hb hby at_14) rfl (pc' := 15) rfl ?_
          exact kt)
      refine ⟨s₁, ⟨X0, e0.trans e0.symm⟩, fun t kt => pre6 t ?_⟩
      (try simp only [if_neg hm5_4] at kt)
      exact kt
  have e3 : T3.heap = h0 := q3.trans e0
  have pre7 : ∀ t, Steps p.tables e below (T3.setTop (mkF m 15 #[iv pi0, iv pi1, jv pj2, .second, iv pi3, iv pi4, jv pj5, .second, iv pi0, .unset, .unset, .unset, .unset, .unset, .unset, .unset, .unset, .unset, .unset, .unset] [(.int x2)])) t → Go t := fun t kt => pre1 t (st3 t kt)
  have pre8 : ∀ t, Steps p.tables e below (T3.setTop (mkF m 19 #[iv pi0, iv pi1, jv pj2, .second, iv pi3, iv pi4, jv pj5, .second, iv pi0, iv x2, .unset, .unset, .unset, .unset, .unset, .unset, .unset, .unset, .unset, .unset] [(.int pi3)])) t → Go t := fun t kt => pre7 t (by
      refine y_istore X3.here hx (hb hby at_15) (l' := #[iv pi0, iv pi1, jv pj2, .second, iv pi3, iv pi4, jv pj5, .second, iv pi0, iv x2, .unset, .unset, .unset, .unset, .unset, .unset, .unset, .unset, .unset, .unset]) rfl (pc' := 17) rfl ?_
      refine y_iload X3.here hx (hb hby at_17) rfl (pc' := 19) rfl ?_
      exact kt)
  obtain ⟨v9, _, ⟨T9, L9, k9, n9⟩, -, X9, ⟨Lc9, hQ9, l9, y9, z9⟩, st9⟩ := Jvm.LawKit.callS X3 hx (y := (⟨"com/example/procord/procord/election/ElectionMessageEqualsPinLaw", "kindOf", "(I)Lcom/example/procord/procord/election/ElectionMessage$Kind;"⟩ : MethodName)) hown (mvT hZ (hw _ (List.mem_of_getElem? (i := 0) rfl))) (mvT hZ (hw _ (List.mem_of_getElem? (i := 1) rfl))) (mvT hZ (hw _ (List.mem_of_getElem? (i := 2) rfl))) (mvT hZ (hw _ (List.mem_of_getElem? (i := 3) rfl))) (by decide) (backOf (W := 0) (rm1 l Z a0 hw [] pi3 w_ELECTION w_ANSWER w_COORDINATOR h0 n0 O0 S_ELECTION S_ANSWER S_COORDINATOR) hZ (hw _ (List.mem_of_getElem? (i := 3) rfl)) (hw _ (List.mem_of_getElem? (i := 2) rfl)) (by decide) (by decide)) (g := (mkF m 19 #[iv pi0, iv pi1, jv pj2, .second, iv pi3, iv pi4, jv pj5, .second, iv pi0, iv x2, .unset, .unset, .unset, .unset, .unset, .unset, .unset, .unset, .unset, .unset] [(.int pi3)])) rfl (by rw [hml]; rfl) (argsL := [(.int pi3)]) (rest := []) (lenOf pd__I_Lcom_example_procord_procord_election_ElectionMessage_Kind_ rfl) rfl (by show 2 * 0 + _ ≤ _; exact Nat.le_of_eq rfl) (hb hby at_19) (fun _ _ => ⟨rfl, e3, (by decide : 0 + 0 ≤ _), (by decide : 0 + 0 ≤ _)⟩)
  dsimp only [Pt.U, Pt.locs, Pt.cells, Pt.slots] at X9 l9 y9 z9 st9 hQ9
  subst l9 y9 z9
  obtain ⟨hv9, N9q, e9q⟩ := hQ9
  have N10 := Fr.app N0 N9q
  have hw9 := hv9
  obtain ⟨x11, hx11⟩ : ∃ z : Addr, z = (if ((pi3 &&& (3 : Int32)) % (3 : Int32)) = (0 : Int32) then w_ELECTION else (if ((pi3 &&& (3 : Int32)) % (3 : Int32)) = (1 : Int32) then w_ANSWER else w_COORDINATOR)) := ⟨_, rfl⟩
  rw [← hx11] at hw9
  have E_x11 : Exa Z Z.heap x11 "com/example/procord/procord/election/ElectionMessage$Kind" := by
      rw [hx11]
      repeat' split
      all_goals assumption
  subst hw9
  have pre12 : ∀ t, Steps p.tables e below (T9.setTop (mkF m 22 #[iv pi0, iv pi1, jv pj2, .second, iv pi3, iv pi4, jv pj5, .second, iv pi0, iv x2, .unset, .unset, .unset, .unset, .unset, .unset, .unset, .unset, .unset, .unset] [(.ref x11)])) t → Go t := fun t kt => pre8 t (st9 t kt)
  have pre13 : ∀ t, Steps p.tables e below (T9.setTop (mkF m 28 #[iv pi0, iv pi1, jv pj2, .second, iv pi3, iv pi4, jv pj5, .second, iv pi0, iv x2, rv x11, .unset, .unset, .unset, .unset, .unset, .unset, .unset, .unset, .unset] [(.int ((pi3.toUInt32 >>> ((2 : Int32) &&& 31).toUInt32).toInt32))])) t → Go t := fun t kt => pre12 t (by
      refine y_astore X9.here hx (hb hby at_22) rfl (l' := #[iv pi0, iv pi1, jv pj2, .second, iv pi3, iv pi4, jv pj5, .second, iv pi0, iv x2, rv x11, .unset, .unset, .unset, .unset, .unset, .unset, .unset, .unset, .unset]) rfl (pc' := 24) rfl ?_
      refine y_iload X9.here hx (hb hby at_24) rfl (pc' := 26) rfl ?_
      refine y_iconst X9.here hx (hb hby at_26) (v := (2 : Int32)) rfl (pc' := 27) rfl ?_
      refine y_iushr X9.here hx (hb hby at_27) (z := ((pi3.toUInt32 >>> ((2 : Int32) &&& 31).toUInt32).toInt32)) rfl (pc' := 28) rfl ?_
      exact kt)
  obtain ⟨v14, _, ⟨T14, L14, k14, n14⟩, -, X14, ⟨Lc14, hQ14, l14, y14, z14⟩, st14⟩ := Jvm.LawKit.callS X9 hx (y := (⟨"com/example/procord/procord/election/ElectionMessageEqualsPinLaw", "kindOf", "(I)Lcom/example/procord/procord/election/ElectionMessage$Kind;"⟩ : MethodName)) hown (mvT hZ (hw _ (List.mem_of_getElem? (i := 0) rfl))) (mvT hZ (hw _ (List.mem_of_getElem? (i := 1) rfl))) (mvT hZ (hw _ (List.mem_of_getElem? (i := 2) rfl))) (mvT hZ (hw _ (List.mem_of_getElem? (i := 3) rfl))) (by decide) (backOf (W := 0) (rm1 l Z a0 hw [] ((pi3.toUInt32 >>> ((2 : Int32) &&& 31).toUInt32).toInt32) w_ELECTION w_ANSWER w_COORDINATOR h0 n0 O0 S_ELECTION S_ANSWER S_COORDINATOR) hZ (hw _ (List.mem_of_getElem? (i := 3) rfl)) (hw _ (List.mem_of_getElem? (i := 2) rfl)) (by decide) (by decide)) (g := (mkF m 28 #[iv pi0, iv pi1, jv pj2, .second, iv pi3, iv pi4, jv pj5, .second, iv pi0, iv x2, rv x11, .unset, .unset, .unset, .unset, .unset, .unset, .unset, .unset, .unset] [(.int ((pi3.toUInt32 >>> ((2 : Int32) &&& 31).toUInt32).toInt32))])) rfl (by rw [hml]; rfl) (argsL := [(.int ((pi3.toUInt32 >>> ((2 : Int32) &&& 31).toUInt32).toInt32))]) (rest := []) (lenOf pd__I_Lcom_example_procord_procord_election_ElectionMessage_Kind_ rfl) rfl (by show 2 * 0 + _ ≤ _; exact Nat.le_of_eq rfl) (hb hby at_28) (fun _ _ => ⟨rfl, e9q, (by decide : 0 + 0 ≤ _), (by decide : 0 + 0 ≤ _)⟩)
  dsimp only [Pt.U, Pt.locs, Pt.cells, Pt.slots] at X14 l14 y14 z14 st14 hQ14
  subst l14 y14 z14
  obtain ⟨hv14, N14q, e14q⟩ := hQ14
  have N15 := Fr.app N10 N14q
  have hw14 := hv14
  obtain ⟨x16, hx16⟩ : ∃ z : Addr, z = (if ((((pi3.toUInt32 >>> ((2 : Int32) &&& 31).toUInt32).toInt32) &&& (3 : Int32)) % (3 : Int32)) = (0 : Int32) then w_ELECTION else (if ((((pi3.toUInt32 >>> ((2 : Int32) &&& 31).toUInt32).toInt32) &&& (3 : Int32)) % (3 : Int32)) = (1 : Int32) then w_ANSWER else w_COORDINATOR)) := ⟨_, rfl⟩
  rw [← hx16] at hw14
  have E_x16 : Exa Z Z.heap x16 "com/example/procord/procord/election/ElectionMessage$Kind" := by
      rw [hx16]
      repeat' split
      all_goals assumption
  subst hw14
  have pre17 : ∀ t, Steps p.tables e below (T14.setTop (mkF m 31 #[iv pi0, iv pi1, jv pj2, .second, iv pi3, iv pi4, jv pj5, .second, iv pi0, iv x2, rv x11, .unset, .unset, .unset, .unset, .unset, .unset, .unset, .unset, .unset] [(.ref x16)])) t → Go t := fun t kt => pre13 t (st14 t kt)
  have pre18 : ∀ t, Steps p.tables e below (T14.setTop (mkF m 39 #[iv pi0, iv pi1, jv pj2, .second, iv pi3, iv pi4, jv pj5, .second, iv pi0, iv x2, rv x11, rv x16, .unset, .unset, .unset, .unset, .unset, .unset, .unset, .unset] [(.int (((pi3.toUInt32 >>> ((4 : Int32) &&& 31).toUInt32).toInt32) &&& (1 : Int32)))])) t → Go t := fun t kt => pre17 t (by
      refine y_astore X14.here hx (hb hby at_31) rfl (l' := #[iv pi0, iv pi1, jv pj2, .second, iv pi3, iv pi4, jv pj5, .second, iv pi0, iv x2, rv x11, rv x16, .unset, .unset, .unset, .unset, .unset, .unset, .unset, .unset]) rfl (pc' := 33) rfl ?_
      refine y_iload X14.here hx (hb hby at_33) rfl (pc' := 35) rfl ?_
      refine y_iconst X14.here hx (hb hby at_35) (v := (4 : Int32)) rfl (pc' := 36) rfl ?_
      refine y_iushr X14.here hx (hb hby at_36) (z := ((pi3.toUInt32 >>> ((4 : Int32) &&& 31).toUInt32).toInt32)) rfl (pc' := 37) rfl ?_
      refine y_iconst X14.here hx (hb hby at_37) (v := (1 : Int32)) rfl (pc' := 38) rfl ?_
      refine y_iand X14.here hx (hb hby at_38) rfl (pc' := 39) rfl ?_
      exact kt)
  obtain ⟨x19, hx19⟩ : ∃ z : Int32, z = (if (((pi3.toUInt32 >>> ((4 : Int32) &&& 31).toUInt32).toInt32) &&& (1 : Int32)) = (0 : Int32) then pi0 else pi4) := ⟨_, rfl⟩
  obtain ⟨T20, ⟨X20, q20⟩, st20⟩ : ∃ T', Nx X14 T' ∧ ∀ t, Steps p.tables e below (T'.setTop (mkF m 49 #[iv pi0, iv pi1, jv pj2, .second, iv pi3, iv pi4, jv pj5, .second, iv pi0, iv x2, rv x11, rv x16, .unset, .unset, .unset, .unset, .unset, .unset, .unset, .unset] [(.int x19)])) t → Steps p.tables e below (T14.setTop (mkF m 39 #[iv pi0, iv pi1, jv pj2, .second, iv pi3, iv pi4, jv pj5, .second, iv pi0, iv x2, rv x11, rv x16, .unset, .unset, .unset, .unset, .unset, .unset, .unset, .unset] [(.int (((pi3.toUInt32 >>> ((4 : Int32) &&& 31).toUInt32).toInt32) &&& (1 : Int32)))])) t := by
    have pre20_ : ∀ t, Steps p.tables e below (T14.setTop (mkF m 39 #[iv pi0, iv pi1, jv pj2, .second, iv pi3, iv pi4, jv pj5, .second, iv pi0, iv x2, rv x11, rv x16, .unset, .unset, .unset, .unset, .unset, .unset, .unset, .unset] [(.int (((pi3.toUInt32 >>> ((4 : Int32) &&& 31).toUInt32).toInt32) &&& (1 : Int32)))])) t → Steps p.tables e below (T14.setTop (mkF m 39 #[iv pi0, iv pi1, jv pj2, .second, iv pi3, iv pi4, jv pj5, .second, iv pi0, iv x2, rv x11, rv x16, .unset, .unset, .unset, .unset, .unset, .unset, .unset, .unset] [(.int (((pi3.toUInt32 >>> ((4 : Int32) &&& 31).toUInt32).toInt32) &&& (1 : Int32)))])) t := fun t kt => kt
    subst hx19
    by_cases hm39_21 : (((pi3.toUInt32 >>> ((4 : Int32) &&& 31).toUInt32).toInt32) &&& (1 : Int32)) = (0 : Int32)
    · have pre22 : ∀ t, Steps p.tables e below (T14.setTop (mkF m 49 #[iv pi0, iv pi1, jv pj2, .second, iv pi3, iv pi4, jv pj5, .second, iv pi0, iv x2, rv x11, rv x16, .unset, .unset, .unset, .unset, .unset, .unset, .unset, .unset] [(.int pi0)])) t → Steps p.tables e below (T14.setTop (mkF m 39 #[iv pi0, iv pi1, jv pj2, .second, iv pi3, iv pi4, jv pj5, .second, iv pi0, iv x2, rv x11, rv x16, .unset, .unset, .unset, .unset, .unset, .unset, .unset, .unset] [(.int (((pi3.toUInt32 >>> ((4 : Int32) &&& 31).toUInt32).toInt32) &&& (1 : Int32)))])) t := fun t kt => pre20_ t (by
          refine y_ifYes X14.here hx (hb hby at_39) ((if0 _ _).trans (teq hm39_21).1) (pc' := 47) (by decide) rfl ?_
          refine y_iload X14.here hx (hb hby at_47) rfl (pc' := 49) rfl ?_
          exact kt)
      refine ⟨T14, ⟨X14, e14q.trans e14q.symm⟩, fun t kt => pre22 t ?_⟩
      (try simp only [if_pos hm39_21] at kt)
      exact kt
    · have pre23 : ∀ t, Steps p.tables e below (T14.setTop (mkF m 49 #[iv pi0, iv pi1, jv pj2, .second, iv pi3, iv pi4, jv pj5, .second, iv pi0, iv x2, rv x11, rv x16, .unset, .unset, .unset, .unset, .unset, .unset, .unset, .unset] [(.int pi4)])) t → Steps p.tables e below (T14.setTop (mkF m 39 #[iv pi0, iv pi1, jv pj2, .second, iv pi3, iv pi4, jv pj5, .second, iv pi0, iv x2, rv x11, rv x16, .unset, .unset, .unset, .unset, .unset, .unset, .unset, .unset] [(.int (((pi3.toUInt32 >>> ((4 : Int32) &&& 31).toUInt32).toInt32) &&& (1 : Int32)))])) t := fun t kt => pre20_ t (by
          refine y_ifNo X14.here hx (hb hby at_39) ((if0 _ _).trans (feq hm39_21).1) (pc' := 42) rfl ?_
          refine y_iload X14.here hx (hb hby at_42) rfl (pc' := 44) rfl ?_
          refine y_goto X14.here hx (hb hby at_44) (pc' := 49) (by decide) rfl ?_
          exact kt)
      refine ⟨T14, ⟨X14, e14q.trans e14q.symm⟩, fun t kt => pre23 t ?_⟩
      (try simp only [if_neg hm39_21] at kt)
      exact kt
  have e20 : T20.heap = h0 := q20.trans e14q
  have pre24 : ∀ t, Steps p.tables e below (T20.setTop (mkF m 49 #[iv pi0, iv pi1, jv pj2, .second, iv pi3, iv pi4, jv pj5, .second, iv pi0, iv x2, rv x11, rv x16, .unset, .unset, .unset, .unset, .unset, .unset, .unset, .unset] [(.int x19)])) t → Go t := fun t kt => pre18 t (st20 t kt)
  have pre25 : ∀ t, Steps p.tables e below (T20.setTop (mkF m 57 #[iv pi0, iv pi1, jv pj2, .second, iv pi3, iv pi4, jv pj5, .second, iv pi0, iv x2, rv x11, rv x16, iv x19, .unset, .unset, .unset, .unset, .unset, .unset, .unset] [(.int (((pi3.toUInt32 >>> ((5 : Int32) &&& 31).toUInt32).toInt32) &&& (1 : Int32)))])) t → Go t := fun t kt => pre24 t (by
      refine y_istore X20.here hx (hb hby at_49) (l' := #[iv pi0, iv pi1, jv pj2, .second, iv pi3, iv pi4, jv pj5, .second, iv pi0, iv x2, rv x11, rv x16, iv x19, .unset, .unset, .unset, .unset, .unset, .unset, .unset]) rfl (pc' := 51) rfl ?_
      refine y_iload X20.here hx (hb hby at_51) rfl (pc' := 53) rfl ?_
      refine y_iconst X20.here hx (hb hby at_53) (v := (5 : Int32)) rfl (pc' := 54) rfl ?_
      refine y_iushr X20.here hx (hb hby at_54) (z := ((pi3.toUInt32 >>> ((5 : Int32) &&& 31).toUInt32).toInt32)) rfl (pc' := 55) rfl ?_
      refine y_iconst X20.here hx (hb hby at_55) (v := (1 : Int32)) rfl (pc' := 56) rfl ?_
      refine y_iand X20.here hx (hb hby at_56) rfl (pc' := 57) rfl ?_
      exact kt)
  obtain ⟨x26, hx26⟩ : ∃ z : Int32, z = (if (((pi3.toUInt32 >>> ((5 : Int32) &&& 31).toUInt32).toInt32) &&& (1 : Int32)) = (0 : Int32) then x2 else (pi4 + (pi3 >>> ((8 : Int32) &&& 31)))) := ⟨_, rfl⟩
  obtain ⟨T27, ⟨X27, q27⟩, st27⟩ : ∃ T', Nx X20 T' ∧ ∀ t, Steps p.tables e below (T'.setTop (mkF m 73 #[iv pi0, iv pi1, jv pj2, .second, iv pi3, iv pi4, jv pj5, .second, iv pi0, iv x2, rv x11, rv x16, iv x19, .unset, .unset, .unset, .unset, .unset, .unset, .unset] [(.int x26)])) t → Steps p.tables e below (T20.setTop (mkF m 57 #[iv pi0, iv pi1, jv pj2, .second, iv pi3, iv pi4, jv pj5, .second, iv pi0, iv x2, rv x11, rv x16, iv x19, .unset, .unset, .unset, .unset, .unset, .unset, .unset] [(.int (((pi3.toUInt32 >>> ((5 : Int32) &&& 31).toUInt32).toInt32) &&& (1 : Int32)))])) t := by
    have pre27_ : ∀ t, Steps p.tables e below (T20.setTop (mkF m 57 #[iv pi0, iv pi1, jv pj2, .second, iv pi3, iv pi4, jv pj5, .second, iv pi0, iv x2, rv x11, rv x16, iv x19, .unset, .unset, .unset, .unset, .unset, .unset, .unset] [(.int (((pi3.toUInt32 >>> ((5 : Int32) &&& 31).toUInt32).toInt32) &&& (1 : Int32)))])) t → Steps p.tables e below (T20.setTop (mkF m 57 #[iv pi0, iv pi1, jv pj2, .second, iv pi3, iv pi4, jv pj5, .second, iv pi0, iv x2, rv x11, rv x16, iv x19, .unset, .unset, .unset, .unset, .unset, .unset, .unset] [(.int (((pi3.toUInt32 >>> ((5 : Int32) &&& 31).toUInt32).toInt32) &&& (1 : Int32)))])) t := fun t kt => kt
    subst hx26
    by_cases hm57_28 : (((pi3.toUInt32 >>> ((5 : Int32) &&& 31).toUInt32).toInt32) &&& (1 : Int32)) = (0 : Int32)
    · have pre29 : ∀ t, Steps p.tables e below (T20.setTop (mkF m 73 #[iv pi0, iv pi1, jv pj2, .second, iv pi3, iv pi4, jv pj5, .second, iv pi0, iv x2, rv x11, rv x16, iv x19, .unset, .unset, .unset, .unset, .unset, .unset, .unset] [(.int x2)])) t → Steps p.tables e below (T20.setTop (mkF m 57 #[iv pi0, iv pi1, jv pj2, .second, iv pi3, iv pi4, jv pj5, .second, iv pi0, iv x2, rv x11, rv x16, iv x19, .unset, .unset, .unset, .unset, .unset, .unset, .unset] [(.int (((pi3.toUInt32 >>> ((5 : Int32) &&& 31).toUInt32).toInt32) &&& (1 : Int32)))])) t := fun t kt => pre27_ t (by
          refine y_ifYes X20.here hx (hb hby at_57) ((if0 _ _).trans (teq hm57_28).1) (pc' := 71) (by decide) rfl ?_
          refine y_iload X20.here hx (hb hby at_71) rfl (pc' := 73) rfl ?_
          exact kt)
      refine ⟨T20, ⟨X20, e20.trans e20.symm⟩, fun t kt => pre29 t ?_⟩
      (try simp only [if_pos hm57_28] at kt)
      exact kt
    · have pre30 : ∀ t, Steps p.tables e below (T20.setTop (mkF m 73 #[iv pi0, iv pi1, jv pj2, .second, iv pi3, iv pi4, jv pj5, .second, iv pi0, iv x2, rv x11, rv x16, iv x19, .unset, .unset, .unset, .unset, .unset, .unset, .unset] [(.int (pi4 + (pi3 >>> ((8 : Int32) &&& 31))))])) t → Steps p.tables e below (T20.setTop (mkF m 57 #[iv pi0, iv pi1, jv pj2, .second, iv pi3, iv pi4, jv pj5, .second, iv pi0, iv x2, rv x11, rv x16, iv x19, .unset, .unset, .unset, .unset, .unset, .unset, .unset] [(.int (((pi3.toUInt32 >>> ((5 : Int32) &&& 31).toUInt32).toInt32) &&& (1 : Int32)))])) t := fun t kt => pre27_ t (by
          refine y_ifNo X20.here hx (hb hby at_57) ((if0 _ _).trans (feq hm57_28).1) (pc' := 60) rfl ?_
          refine y_iload X20.here hx (hb hby at_60) rfl (pc' := 62) rfl ?_
          refine y_iload X20.here hx (hb hby at_62) rfl (pc' := 64) rfl ?_
          refine y_bipush X20.here hx (hb hby at_64) (v := (8 : Int32)) rfl (pc' := 66) rfl ?_
          refine y_ishr X20.here hx (hb hby at_66) (z := (pi3 >>> ((8 : Int32) &&& 31))) rfl (pc' := 67) rfl ?_
          refine y_iadd X20.here hx (hb hby at_67) rfl (pc' := 68) rfl ?_
          refine y_goto X20.here hx (hb hby at_68) (pc' := 73) (by decide) rfl ?_
          exact kt)
      refine ⟨T20, ⟨X20, e20.trans e20.symm⟩, fun t kt => pre30 t ?_⟩
      (try simp only [if_neg hm57_28] at kt)
      exact kt
  have e27 : T27.heap = h0 := q27.trans e20
  have pre31 : ∀ t, Steps p.tables e below (T27.setTop (mkF m 73 #[iv pi0, iv pi1, jv pj2, .second, iv pi3, iv pi4, jv pj5, .second, iv pi0, iv x2, rv x11, rv x16, iv x19, .unset, .unset, .unset, .unset, .unset, .unset, .unset] [(.int x26)])) t → Go t := fun t kt => pre25 t (st27 t kt)
  have pre32 : ∀ t, Steps p.tables e below (T27.setTop (mkF m 79 #[iv pi0, iv pi1, jv pj2, .second, iv pi3, iv pi4, jv pj5, .second, iv pi0, iv x2, rv x11, rv x16, iv x19, iv x26, .unset, .unset, .unset, .unset, .unset, .unset] [(.int x26), (.int x19)])) t → Go t := fun t kt => pre31 t (by
      refine y_istore X27.here hx (hb hby at_73) (l' := #[iv pi0, iv pi1, jv pj2, .second, iv pi3, iv pi4, jv pj5, .second, iv pi0, iv x2, rv x11, rv x16, iv x19, iv x26, .unset, .unset, .unset, .unset, .unset, .unset]) rfl (pc' := 75) rfl ?_
      refine y_iload X27.here hx (hb hby at_75) rfl (pc' := 77) rfl ?_
      refine y_iload X27.here hx (hb hby at_77) rfl (pc' := 79) rfl ?_
      exact kt)
  obtain ⟨x33, hx33⟩ : ∃ z : Int32, z = (if x19 = x26 then (x19 + (1 : Int32)) else x26) := ⟨_, rfl⟩
  obtain ⟨T34, ⟨X34, q34⟩, st34⟩ : ∃ T', Nx X27 T' ∧ ∀ t, Steps p.tables e below (T'.setTop (mkF m 88 #[iv pi0, iv pi1, jv pj2, .second, iv pi3, iv pi4, jv pj5, .second, iv pi0, iv x2, rv x11, rv x16, iv x19, iv x33, .unset, .unset, .unset, .unset, .unset, .unset] [])) t → Steps p.tables e below (T27.setTop (mkF m 79 #[iv pi0, iv pi1, jv pj2, .second, iv pi3, iv pi4, jv pj5, .second, iv pi0, iv x2, rv x11, rv x16, iv x19, iv x26, .unset, .unset, .unset, .unset, .unset, .unset] [(.int x26), (.int x19)])) t := by
    have pre34_ : ∀ t, Steps p.tables e below (T27.setTop (mkF m 79 #[iv pi0, iv pi1, jv pj2, .second, iv pi3, iv pi4, jv pj5, .second, iv pi0, iv x2, rv x11, rv x16, iv x19, iv x26, .unset, .unset, .unset, .unset, .unset, .unset] [(.int x26), (.int x19)])) t → Steps p.tables e below (T27.setTop (mkF m 79 #[iv pi0, iv pi1, jv pj2, .second, iv pi3, iv pi4, jv pj5, .second, iv pi0, iv x2, rv x11, rv x16, iv x19, iv x26, .unset, .unset, .unset, .unset, .unset, .unset] [(.int x26), (.int x19)])) t := fun t kt => kt
    subst hx33
    by_cases hm79_35 : x19 = x26
    · have pre36 : ∀ t, Steps p.tables e below (T27.setTop (mkF m 88 #[iv pi0, iv pi1, jv pj2, .second, iv pi3, iv pi4, jv pj5, .second, iv pi0, iv x2, rv x11, rv x16, iv x19, iv (x19 + (1 : Int32)), .unset, .unset, .unset, .unset, .unset, .unset] [])) t → Steps p.tables e below (T27.setTop (mkF m 79 #[iv pi0, iv pi1, jv pj2, .second, iv pi3, iv pi4, jv pj5, .second, iv pi0, iv x2, rv x11, rv x16, iv x19, iv x26, .unset, .unset, .unset, .unset, .unset, .unset] [(.int x26), (.int x19)])) t := fun t kt => pre34_ t (by
          refine y_icmpNo X27.here hx (hb hby at_79) (teq hm79_35).2 (pc' := 82) rfl ?_
          refine y_iload X27.here hx (hb hby at_82) rfl (pc' := 84) rfl ?_
          refine y_iconst X27.here hx (hb hby at_84) (v := (1 : Int32)) rfl (pc' := 85) rfl ?_
          refine y_iadd X27.here hx (hb hby at_85) rfl (pc' := 86) rfl ?_
          refine y_istore X27.here hx (hb hby at_86) (l' := #[iv pi0, iv pi1, jv pj2, .second, iv pi3, iv pi4, jv pj5, .second, iv pi0, iv x2, rv x11, rv x16, iv x19, iv (x19 + (1 : Int32)), .unset, .unset, .unset, .unset, .unset, .unset]) rfl (pc' := 88) rfl ?_
          exact kt)
      refine ⟨T27, ⟨X27, e27.trans e27.symm⟩, fun t kt => pre36 t ?_⟩
      (try simp only [if_pos hm79_35] at kt)
      exact kt
    · have pre37 : ∀ t, Steps p.tables e below (T27.setTop (mkF m 88 #[iv pi0, iv pi1, jv pj2, .second, iv pi3, iv pi4, jv pj5, .second, iv pi0, iv x2, rv x11, rv x16, iv x19, iv x26, .unset, .unset, .unset, .unset, .unset, .unset] [])) t → Steps p.tables e below (T27.setTop (mkF m 79 #[iv pi0, iv pi1, jv pj2, .second, iv pi3, iv pi4, jv pj5, .second, iv pi0, iv x2, rv x11, rv x16, iv x19, iv x26, .unset, .unset, .unset, .unset, .unset, .unset] [(.int x26), (.int x19)])) t := fun t kt => pre34_ t (by
          refine y_icmpYes X27.here hx (hb hby at_79) (feq hm79_35).2 (pc' := 88) (by decide) rfl ?_
          exact kt)
      refine ⟨T27, ⟨X27, e27.trans e27.symm⟩, fun t kt => pre37 t ?_⟩
      (try simp only [if_neg hm79_35] at kt)
      exact kt
  have e34 : T34.heap = h0 := q34.trans e27
  have pre38 : ∀ t, Steps p.tables e below (T34.setTop (mkF m 88 #[iv pi0, iv pi1, jv pj2, .second, iv pi3, iv pi4, jv pj5, .second, iv pi0, iv x2, rv x11, rv x16, iv x19, iv x33, .unset, .unset, .unset, .unset, .unset, .unset] [])) t → Go t := fun t kt => pre32 t (st34 t kt)
  have pre39 : ∀ t, Steps p.tables e below (T34.setTop (mkF m 95 #[iv pi0, iv pi1, jv pj2, .second, iv pi3, iv pi4, jv pj5, .second, iv pi0, iv x2, rv x11, rv x16, iv x19, iv x33, .unset, .unset, .unset, .unset, .unset, .unset] [(.int (((pi3.toUInt32 >>> ((6 : Int32) &&& 31).toUInt32).toInt32) &&& (1 : Int32)))])) t → Go t := fun t kt => pre38 t (by
      refine y_iload X34.here hx (hb hby at_88) rfl (pc' := 90) rfl ?_
      refine y_bipush X34.here hx (hb hby at_90) (v := (6 : Int32)) rfl (pc' := 92) rfl ?_
      refine y_iushr X34.here hx (hb hby at_92) (z := ((pi3.toUInt32 >>> ((6 : Int32) &&& 31).toUInt32).toInt32)) rfl (pc' := 93) rfl ?_
      refine y_iconst X34.here hx (hb hby at_93) (v := (1 : Int32)) rfl (pc' := 94) rfl ?_
      refine y_iand X34.here hx (hb hby at_94) rfl (pc' := 95) rfl ?_
      exact kt)
  obtain ⟨x40, hx40⟩ : ∃ z : Int64, z = (if (((pi3.toUInt32 >>> ((6 : Int32) &&& 31).toUInt32).toInt32) &&& (1 : Int32)) = (0 : Int32) then pj2 else pj5) := ⟨_, rfl⟩
  obtain ⟨T41, ⟨X41, q41⟩, st41⟩ : ∃ T', Nx X34 T' ∧ ∀ t, Steps p.tables e below (T'.setTop (mkF m 104 #[iv pi0, iv pi1, jv pj2, .second, iv pi3, iv pi4, jv pj5, .second, iv pi0, iv x2, rv x11, rv x16, iv x19, iv x33, .unset, .unset, .unset, .unset, .unset, .unset] [(.long x40)])) t → Steps p.tables e below (T34.setTop (mkF m 95 #[iv pi0, iv pi1, jv pj2, .second, iv pi3, iv pi4, jv pj5, .second, iv pi0, iv x2, rv x11, rv x16, iv x19, iv x33, .unset, .unset, .unset, .unset, .unset, .unset] [(.int (((pi3.toUInt32 >>> ((6 : Int32) &&& 31).toUInt32).toInt32) &&& (1 : Int32)))])) t := by
    have pre41_ : ∀ t, Steps p.tables e below (T34.setTop (mkF m 95 #[iv pi0, iv pi1, jv pj2, .second, iv pi3, iv pi4, jv pj5, .second, iv pi0, iv x2, rv x11, rv x16, iv x19, iv x33, .unset, .unset, .unset, .unset, .unset, .unset] [(.int (((pi3.toUInt32 >>> ((6 : Int32) &&& 31).toUInt32).toInt32) &&& (1 : Int32)))])) t → Steps p.tables e below (T34.setTop (mkF m 95 #[iv pi0, iv pi1, jv pj2, .second, iv pi3, iv pi4, jv pj5, .second, iv pi0, iv x2, rv x11, rv x16, iv x19, iv x33, .unset, .unset, .unset, .unset, .unset, .unset] [(.int (((pi3.toUInt32 >>> ((6 : Int32) &&& 31).toUInt32).toInt32) &&& (1 : Int32)))])) t := fun t kt => kt
    subst hx40
    by_cases hm95_42 : (((pi3.toUInt32 >>> ((6 : Int32) &&& 31).toUInt32).toInt32) &&& (1 : Int32)) = (0 : Int32)
    · have pre43 : ∀ t, Steps p.tables e below (T34.setTop (mkF m 104 #[iv pi0, iv pi1, jv pj2, .second, iv pi3, iv pi4, jv pj5, .second, iv pi0, iv x2, rv x11, rv x16, iv x19, iv x33, .unset, .unset, .unset, .unset, .unset, .unset] [(.long pj2)])) t → Steps p.tables e below (T34.setTop (mkF m 95 #[iv pi0, iv pi1, jv pj2, .second, iv pi3, iv pi4, jv pj5, .second, iv pi0, iv x2, rv x11, rv x16, iv x19, iv x33, .unset, .unset, .unset, .unset, .unset, .unset] [(.int (((pi3.toUInt32 >>> ((6 : Int32) &&& 31).toUInt32).toInt32) &&& (1 : Int32)))])) t := fun t kt => pre41_ t (by
          refine y_ifYes X34.here hx (hb hby at_95) ((if0 _ _).trans (teq hm95_42).1) (pc' := 103) (by decide) rfl ?_
          refine y_lloadN X34.here hx (hb hby at_103) rfl (pc' := 104) rfl ?_
          exact kt)
      refine ⟨T34, ⟨X34, e34.trans e34.symm⟩, fun t kt => pre43 t ?_⟩
      (try simp only [if_pos hm95_42] at kt)
      exact kt
    · have pre44 : ∀ t, Steps p.tables e below (T34.setTop (mkF m 104 #[iv pi0, iv pi1, jv pj2, .second, iv pi3, iv pi4, jv pj5, .second, iv pi0, iv x2, rv x11, rv x16, iv x19, iv x33, .unset, .unset, .unset, .unset, .unset, .unset] [(.long pj5)])) t → Steps p.tables e below (T34.setTop (mkF m 95 #[iv pi0, iv pi1, jv pj2, .second, iv pi3, iv pi4, jv pj5, .second, iv pi0, iv x2, rv x11, rv x16, iv x19, iv x33, .unset, .unset, .unset, .unset, .unset, .unset] [(.int (((pi3.toUInt32 >>> ((6 : Int32) &&& 31).toUInt32).toInt32) &&& (1 : Int32)))])) t := fun t kt => pre41_ t (by
          refine y_ifNo X34.here hx (hb hby at_95) ((if0 _ _).trans (feq hm95_42).1) (pc' := 98) rfl ?_
          refine y_lload X34.here hx (hb hby at_98) rfl (pc' := 100) rfl ?_
          refine y_goto X34.here hx (hb hby at_100) (pc' := 104) (by decide) rfl ?_
          exact kt)
      refine ⟨T34, ⟨X34, e34.trans e34.symm⟩, fun t kt => pre44 t ?_⟩
      (try simp only [if_neg hm95_42] at kt)
      exact kt
  have e41 : T41.heap = h0 := q41.trans e34
  have pre45 : ∀ t, Steps p.tables e below (T41.setTop (mkF m 104 #[iv pi0, iv pi1, jv pj2, .second, iv pi3, iv pi4, jv pj5, .second, iv pi0, iv x2, rv x11, rv x16, iv x19, iv x33, .unset, .unset, .unset, .unset, .unset, .unset] [(.long x40)])) t → Go t := fun t kt => pre39 t (st41 t kt)
  have pre46 : ∀ t, Steps p.tables e below (T41.setTop (mkF m 106 #[iv pi0, iv pi1, jv pj2, .second, iv pi3, iv pi4, jv pj5, .second, iv pi0, iv x2, rv x11, rv x16, iv x19, iv x33, jv x40, .second, .unset, .unset, .unset, .unset] [])) t → Go t := fun t kt => pre45 t (by
      refine y_lstore X41.here hx (hb hby at_104) (l' := #[iv pi0, iv pi1, jv pj2, .second, iv pi3, iv pi4, jv pj5, .second, iv pi0, iv x2, rv x11, rv x16, iv x19, iv x33, jv x40, .second, .unset, .unset, .unset, .unset]) rfl (pc' := 106) rfl ?_
      exact kt)
  have NQ_pi0_x2 : ¬ pi0 = x2 := by exact law0_47 pi0 pi1 x2 hx2
  have NQ_x19_x33 : ¬ x19 = x33 := by exact law0_48 x19 x26 x33 hx33
  obtain ⟨T49, h49, X49, e49, E49, A49, D49, -, st49⟩ := newO X41 hx hZ hown (hw _ (List.mem_of_getElem? (i := 7) rfl)) (hw _ (List.mem_of_getElem? (i := 8) rfl)) (hw _ (List.mem_of_getElem? (i := 9) rfl)) e41 (g := (mkF m 106 #[iv pi0, iv pi1, jv pj2, .second, iv pi3, iv pi4, jv pj5, .second, iv pi0, iv x2, rv x11, rv x16, iv x19, iv x33, jv x40, .second, .unset, .unset, .unset, .unset] [])) rfl (hb hby at_106) (by decide) (by decide)
  obtain ⟨b49, g49⟩ : ∃ z, z = h0.size := ⟨_, rfl⟩
  rw [← g49] at A49 D49 st49
  have pre50 : ∀ t, Steps p.tables e below (T49.setTop (mkF m 109 #[iv pi0, iv pi1, jv pj2, .second, iv pi3, iv pi4, jv pj5, .second, iv pi0, iv x2, rv x11, rv x16, iv x19, iv x33, jv x40, .second, .unset, .unset, .unset, .unset] [(.ref b49)])) t → Go t := fun t kt => pre46 t (st49 t kt)
  have G51 : n0 ≤ b49 := Nat.le_trans (O0.1 ▸ O0.2.1) (Nat.le_of_eq g49.symm)
  have O51 := O0.ext E49
  have hk52 : _ ≤ h49.size := Nat.le_trans (Nat.zero_le _) E49.1
  have f53 : Fld Z h49 b49 "com/example/procord/procord/election/ElectionMessage" "from" "I" (.int (0 : Int32)) := D49 (Or.inr (hw _ (List.mem_of_getElem? (i := 21) rfl))) (ty := .int) (by decide)
  have f54 : Fld Z h49 b49 "com/example/procord/procord/election/ElectionMessage" "to" "I" (.int (0 : Int32)) := D49 (Or.inr (hw _ (List.mem_of_getElem? (i := 23) rfl))) (ty := .int) (by decide)
  have f55 : Fld Z h49 b49 "com/example/procord/procord/election/ElectionMessage" "kind" "Lcom/example/procord/procord/election/ElectionMessage$Kind;" .null := D49 (Or.inr (hw _ (List.mem_of_getElem? (i := 39) rfl))) (ty := (.object "com/example/procord/procord/election/ElectionMessage$Kind")) (by decide)
  have f56 : Fld Z h49 b49 "com/example/procord/procord/election/ElectionMessage" "stamp" "J" (.long (0 : Int64)) := D49 (Or.inr (hw _ (List.mem_of_getElem? (i := 41) rfl))) (ty := .long) (by decide)
  have pre57 : ∀ t, Steps p.tables e below (T49.setTop (mkF m 117 #[iv pi0, iv pi1, jv pj2, .second, iv pi3, iv pi4, jv pj5, .second, iv pi0, iv x2, rv x11, rv x16, iv x19, iv x33, jv x40, .second, .unset, .unset, .unset, .unset] [(.long pj2), (.ref x11), (.int x2), (.int pi0), (.ref b49), (.ref b49)])) t → Go t := fun t kt => pre50 t (by
      refine y_dup X49.here hx (hb hby at_109) rfl (pc' := 110) rfl ?_
      refine y_iload X49.here hx (hb hby at_110) rfl (pc' := 112) rfl ?_
      refine y_iload X49.here hx (hb hby at_112) rfl (pc' := 114) rfl ?_
      refine y_aload X49.here hx (hb hby at_114) rfl rfl (pc' := 116) rfl ?_
      refine y_lloadN X49.here hx (hb hby at_116) rfl (pc' := 117) rfl ?_
      exact kt)
  obtain ⟨v58, _, ⟨T58, L58, k58, n58⟩, -, X58, hS58q, hg58, ⟨Lc58, hQ58, l58, y58, z58⟩, st58⟩ := X49.specialBackS hx (y := (⟨"com/example/procord/procord/election/ElectionMessage", "<init>", "(IILcom/example/procord/procord/election/ElectionMessage$Kind;J)V"⟩ : MethodName)) rfl hown (mvT hZ (hw _ (List.mem_of_getElem? (i := 10) rfl))) (mvT hZ (hw _ (List.mem_of_getElem? (i := 11) rfl))) (mvT hZ (hw _ (List.mem_of_getElem? (i := 12) rfl))) (by decide) (backOfS (W := 1) (rm2 l Z a0 hw [] b49 pi0 x2 x11 pj2 h49 n0 O51 A49 f53 f54 f55 f56 (E_x11.ext O51.2) G51 NQ_pi0_x2) hZ (hw _ (List.mem_of_getElem? (i := 12) rfl)) (hw _ (List.mem_of_getElem? (i := 9) rfl)) (by decide) (by decide)) (g := (mkF m 117 #[iv pi0, iv pi1, jv pj2, .second, iv pi3, iv pi4, jv pj5, .second, iv pi0, iv x2, rv x11, rv x16, iv x19, iv x33, jv x40, .second, .unset, .unset, .unset, .unset] [(.long pj2), (.ref x11), (.int x2), (.int pi0), (.ref b49), (.ref b49)])) rfl (by rw [hml]; rfl) (Steps.refl _) (a := b49) (argsL := [(.int pi0), (.int x2), (.ref x11), (.long pj2)]) (rest := [(.ref b49)]) (lenOf pd__IILcom_example_procord_procord_election_ElectionMessage_Kind_J_V rfl) rfl (by show 2 * 0 + _ ≤ _; exact Nat.le_of_eq rfl) (hb hby at_117) (fun _ _ => ⟨rfl, e49, (by decide : 1 + 2 ≤ _), (by decide : 4 + 20 ≤ _)⟩)
  dsimp only [Pt.U, Pt.locs, Pt.cells, Pt.slots] at X58 l58 y58 z58 st58 hQ58
  subst l58 y58 z58
  have hS58 : s.Since T58.vm T58.heap.size := hS0.trans hS58q (Nat.le_trans hk52 (e49 ▸ hg58))
  have hZ : Z.Warmed39 (s.setVm T58.vm).vm := State.Warmed39.trans (t := s.setVm s.vm) hZ hS58q.1
  have hown : (s.setVm T58.vm).vm.findClass "com/example/procord/procord/election/ElectionMessageEqualsPinLaw" = some m.cls := by show T58.vm.findClass _ = _; rw [hS58q.1.alike.findClass]; exact hown
  obtain ⟨hv58, N58q, K58q, p58_0, p58_1, p58_2, p58_3⟩ := hQ58
  have N59 := Fr.app N15 N58q
  subst hv58
  have pre60 : ∀ t, Steps p.tables e below (T58.setTop (mkF m 120 #[iv pi0, iv pi1, jv pj2, .second, iv pi3, iv pi4, jv pj5, .second, iv pi0, iv x2, rv x11, rv x16, iv x19, iv x33, jv x40, .second, .unset, .unset, .unset, .unset] [(.ref b49)])) t → Go t := fun t kt => pre57 t (st58.trans kt)
  obtain ⟨h58, eh58⟩ : ∃ z, T58.heap = z := ⟨_, rfl⟩
  rw [eh58] at K58q p58_0 p58_1 p58_2 p58_3
  have f61 : Exa Z h58 b49 "com/example/procord/procord/election/ElectionMessage" := (A49.keep K58q)
  have O66 := O51.keep K58q (allS G51 all0)
  have pre67 : ∀ t, Steps p.tables e below (T58.setTop (mkF m 122 #[iv pi0, iv pi1, jv pj2, .second, iv pi3, iv pi4, jv pj5, .second, iv pi0, iv x2, rv x11, rv x16, iv x19, iv x33, jv x40, .second, rv b49, .unset, .unset, .unset] [])) t → Go t := fun t kt => pre60 t (by
      refine y_astore X58.here hx (hb hby at_120) rfl (l' := #[iv pi0, iv pi1, jv pj2, .second, iv pi3, iv pi4, jv pj5, .second, iv pi0, iv x2, rv x11, rv x16, iv x19, iv x33, jv x40, .second, rv b49, .unset, .unset, .unset]) rfl (pc' := 122) rfl ?_
      exact kt)
  obtain ⟨T68, h68, X68, e68, E68, A68, D68, -, st68⟩ := newO X58 hx hZ hown (hw _ (List.mem_of_getElem? (i := 7) rfl)) (hw _ (List.mem_of_getElem? (i := 8) rfl)) (hw _ (List.mem_of_getElem? (i := 9) rfl)) eh58 (g := (mkF m 122 #[iv pi0, iv pi1, jv pj2, .second, iv pi3, iv pi4, jv pj5, .second, iv pi0, iv x2, rv x11, rv x16, iv x19, iv x33, jv x40, .second, rv b49, .unset, .unset, .unset] [])) rfl (hb hby at_122) (by decide) (by decide)
  obtain ⟨b68, g68⟩ : ∃ z, z = h58.size := ⟨_, rfl⟩
  rw [← g68] at A68 D68 st68
  have pre69 : ∀ t, Steps p.tables e below (T68.setTop (mkF m 125 #[iv pi0, iv pi1, jv pj2, .second, iv pi3, iv pi4, jv pj5, .second, iv pi0, iv x2, rv x11, rv x16, iv x19, iv x33, jv x40, .second, rv b49, .unset, .unset, .unset] [(.ref b68)])) t → Go t := fun t kt => pre67 t (st68 t kt)
  have lt70 : b49 < b68 := Nat.lt_of_lt_of_le f61.lt (Nat.le_of_eq g68.symm)
  have ne70 : b49 ≠ b68 := Nat.ne_of_lt lt70
  have G71 : n0 ≤ b68 := Nat.le_trans (O66.1 ▸ O66.2.1) (Nat.le_of_eq g68.symm)
  have f72 : Exa Z h68 b49 "com/example/procord/procord/election/ElectionMessage" := (f61.ext E68)
  have f73 : Fld Z h68 b49 "com/example/procord/procord/election/ElectionMessage" "from" "I" (.int pi0) := (p58_0.ext E68)
  have f74 : Fld Z h68 b49 "com/example/procord/procord/election/ElectionMessage" "to" "I" (.int x2) := (p58_1.ext E68)
  have f75 : Fld Z h68 b49 "com/example/procord/procord/election/ElectionMessage" "kind" "Lcom/example/procord/procord/election/ElectionMessage$Kind;" (.ref x11) := (p58_2.ext E68)
  have f76 : Fld Z h68 b49 "com/example/procord/procord/election/ElectionMessage" "stamp" "J" (.long pj2) := (p58_3.ext E68)
  have O71 := O66.ext E68
  have hk77 : _ ≤ h68.size := Nat.le_trans (Nat.le_of_eq (congrArg Array.size eh58)) E68.1
  have f78 : Fld Z h68 b68 "com/example/procord/procord/election/ElectionMessage" "from" "I" (.int (0 : Int32)) := D68 (Or.inr (hw _ (List.mem_of_getElem? (i := 21) rfl))) (ty := .int) (by decide)
  have f79 : Fld Z h68 b68 "com/example/procord/procord/election/ElectionMessage" "to" "I" (.int (0 : Int32)) := D68 (Or.inr (hw _ (List.mem_of_getElem? (i := 23) rfl))) (ty := .int) (by decide)
  have f80 : Fld Z h68 b68 "com/example/procord/procord/election/ElectionMessage" "kind" "Lcom/example/procord/procord/election/ElectionMessage$Kind;" .null := D68 (Or.inr (hw _ (List.mem_of_getElem? (i := 39) rfl))) (ty := (.object "com/example/procord/procord/election/ElectionMessage$Kind")) (by decide)
  have f81 : Fld Z h68 b68 "com/example/procord/procord/election/ElectionMessage" "stamp" "J" (.long (0 : Int64)) := D68 (Or.inr (hw _ (List.mem_of_getElem? (i := 41) rfl))) (ty := .long) (by decide)
  have pre82 : ∀ t, Steps p.tables e below (T68.setTop (mkF m 134 #[iv pi0, iv pi1, jv pj2, .second, iv pi3, iv pi4, jv pj5, .second, iv pi0, iv x2, rv x11, rv x16, iv x19, iv x33, jv x40, .second, rv b49, .unset, .unset, .unset] [(.long x40), (.ref x16), (.int x33), (.int x19), (.ref b68), (.ref b68)])) t → Go t := fun t kt => pre69 t (by
      refine y_dup X68.here hx (hb hby at_125) rfl (pc' := 126) rfl ?_
      refine y_iload X68.here hx (hb hby at_126) rfl (pc' := 128) rfl ?_
      refine y_iload X68.here hx (hb hby at_128) rfl (pc' := 130) rfl ?_
      refine y_aload X68.here hx (hb hby at_130) rfl rfl (pc' := 132) rfl ?_
      refine y_lload X68.here hx (hb hby at_132) rfl (pc' := 134) rfl ?_
      exact kt)
  obtain ⟨v83, _, ⟨T83, L83, k83, n83⟩, -, X83, hS83q, hg83, ⟨Lc83, hQ83, l83, y83, z83⟩, st83⟩ := X68.specialBackS hx (y := (⟨"com/example/procord/procord/election/ElectionMessage", "<init>", "(IILcom/example/procord/procord/election/ElectionMessage$Kind;J)V"⟩ : MethodName)) rfl hown (mvT hZ (hw _ (List.mem_of_getElem? (i := 10) rfl))) (mvT hZ (hw _ (List.mem_of_getElem? (i := 11) rfl))) (mvT hZ (hw _ (List.mem_of_getElem? (i := 12) rfl))) (by decide) (backOfS (W := 1) (rm2 l Z a0 hw [] b68 x19 x33 x16 x40 h68 n0 O71 A68 f78 f79 f80 f81 (E_x16.ext O71.2) G71 NQ_x19_x33) hZ (hw _ (List.mem_of_getElem? (i := 12) rfl)) (hw _ (List.mem_of_getElem? (i := 9) rfl)) (by decide) (by decide)) (g := (mkF m 134 #[iv pi0, iv pi1, jv pj2, .second, iv pi3, iv pi4, jv pj5, .second, iv pi0, iv x2, rv x11, rv x16, iv x19, iv x33, jv x40, .second, rv b49, .unset, .unset, .unset] [(.long x40), (.ref x16), (.int x33), (.int x19), (.ref b68), (.ref b68)])) rfl (by rw [hml]; rfl) (Steps.refl _) (a := b68) (argsL := [(.int x19), (.int x33), (.ref x16), (.long x40)]) (rest := [(.ref b68)]) (lenOf pd__IILcom_example_procord_procord_election_ElectionMessage_Kind_J_V rfl) rfl (by show 2 * 0 + _ ≤ _; exact Nat.le_of_eq rfl) (hb hby at_134) (fun _ _ => ⟨rfl, e68, (by decide : 4 + 2 ≤ _), (by decide : 28 + 20 ≤ _)⟩)
  dsimp only [Pt.U, Pt.locs, Pt.cells, Pt.slots] at X83 l83 y83 z83 st83 hQ83
  subst l83 y83 z83
  have hS83 : s.Since T83.vm T83.heap.size := hS58.trans hS83q (Nat.le_trans hk77 (e68 ▸ hg83))
  have hZ : Z.Warmed39 (s.setVm T83.vm).vm := State.Warmed39.trans (t := s.setVm T58.vm) hZ hS83q.1
  have hown : (s.setVm T83.vm).vm.findClass "com/example/procord/procord/election/ElectionMessageEqualsPinLaw" = some m.cls := by show T83.vm.findClass _ = _; rw [hS83q.1.alike.findClass]; exact hown
  obtain ⟨hv83, N83q, K83q, p83_0, p83_1, p83_2, p83_3⟩ := hQ83
  have N84 := Fr.app N59 N83q
  subst hv83
  have pre85 : ∀ t, Steps p.tables e below (T83.setTop (mkF m 137 #[iv pi0, iv pi1, jv pj2, .second, iv pi3, iv pi4, jv pj5, .second, iv pi0, iv x2, rv x11, rv x16, iv x19, iv x33, jv x40, .second, rv b49, .unset, .unset, .unset] [(.ref b68)])) t → Go t := fun t kt => pre82 t (st83.trans kt)
  obtain ⟨h83, eh83⟩ : ∃ z, T83.heap = z := ⟨_, rfl⟩
  rw [eh83] at K83q p83_0 p83_1 p83_2 p83_3
  have f86 : Exa Z h83 b49 "com/example/procord/procord/election/ElectionMessage" := (f72.keep K83q)
  have f87 : Fld Z h83 b49 "com/example/procord/procord/election/ElectionMessage" "from" "I" (.int pi0) := (f73.keep K83q (ninS ne70 nin0))
  have f88 : Fld Z h83 b49 "com/example/procord/procord/election/ElectionMessage" "to" "I" (.int x2) := (f74.keep K83q (ninS ne70 nin0))
  have f89 : Fld Z h83 b49 "com/example/procord/procord/election/ElectionMessage" "kind" "Lcom/example/procord/procord/election/ElectionMessage$Kind;" (.ref x11) := (f75.keep K83q (ninS ne70 nin0))
  have f90 : Fld Z h83 b49 "com/example/procord/procord/election/ElectionMessage" "stamp" "J" (.long pj2) := (f76.keep K83q (ninS ne70 nin0))
  have f91 : Exa Z h83 b68 "com/example/procord/procord/election/ElectionMessage" := (A68.keep K83q)
  have O96 := O71.keep K83q (allS G71 all0)
  have pre97 : ∀ t, Steps p.tables e below (T83.setTop (mkF m 143 #[iv pi0, iv pi1, jv pj2, .second, iv pi3, iv pi4, jv pj5, .second, iv pi0, iv x2, rv x11, rv x16, iv x19, iv x33, jv x40, .second, rv b49, rv b68, .unset, .unset] [(.int x19), (.int pi0)])) t → Go t := fun t kt => pre85 t (by
      refine y_astore X83.here hx (hb hby at_137) rfl (l' := #[iv pi0, iv pi1, jv pj2, .second, iv pi3, iv pi4, jv pj5, .second, iv pi0, iv x2, rv x11, rv x16, iv x19, iv x33, jv x40, .second, rv b49, rv b68, .unset, .unset]) rfl (pc' := 139) rfl ?_
      refine y_iload X83.here hx (hb hby at_139) rfl (pc' := 141) rfl ?_
      refine y_iload X83.here hx (hb hby at_141) rfl (pc' := 143) rfl ?_
      exact kt)
  obtain ⟨x98, hx98⟩ : ∃ z : Int32, z = (if pi0 = x19 then (if x2 = x33 then (if x11 = x16 then (if pj2 = x40 then (1 : Int32) else (0 : Int32)) else (0 : Int32)) else (0 : Int32)) else (0 : Int32)) := ⟨_, rfl⟩
  obtain ⟨T99, ⟨X99, q99⟩, st99⟩ : ∃ T', Nx X83 T' ∧ ∀ t, Steps p.tables e below (T'.setTop (mkF m 172 #[iv pi0, iv pi1, jv pj2, .second, iv pi3, iv pi4, jv pj5, .second, iv pi0, iv x2, rv x11, rv x16, iv x19, iv x33, jv x40, .second, rv b49, rv b68, .unset, .unset] [(.int x98)])) t → Steps p.tables e below (T83.setTop (mkF m 143 #[iv pi0, iv pi1, jv pj2, .second, iv pi3, iv pi4, jv pj5, .second, iv pi0, iv x2, rv x11, rv x16, iv x19, iv x33, jv x40, .second, rv b49, rv b68, .unset, .unset] [(.int x19), (.int pi0)])) t := by
    have pre99_ : ∀ t, Steps p.tables e below (T83.setTop (mkF m 143 #[iv pi0, iv pi1, jv pj2, .second, iv pi3, iv pi4, jv pj5, .second, iv pi0, iv x2, rv x11, rv x16, iv x19, iv x33, jv x40, .second, rv b49, rv b68, .unset, .unset] [(.int x19), (.int pi0)])) t → Steps p.tables e below (T83.setTop (mkF m 143 #[iv pi0, iv pi1, jv pj2, .second, iv pi3, iv pi4, jv pj5, .second, iv pi0, iv x2, rv x11, rv x16, iv x19, iv x33, jv x40, .second, rv b49, rv b68, .unset, .unset] [(.int x19), (.int pi0)])) t := fun t kt => kt
    subst hx98
    by_cases hm143_100 : pi0 = x19
    · have pre101 : ∀ t, Steps p.tables e below (T83.setTop (mkF m 150 #[iv pi0, iv pi1, jv pj2, .second, iv pi3, iv pi4, jv pj5, .second, iv pi0, iv x2, rv x11, rv x16, iv x19, iv x33, jv x40, .second, rv b49, rv b68, .unset, .unset] [(.int x33), (.int x2)])) t → Steps p.tables e below (T83.setTop (mkF m 143 #[iv pi0, iv pi1, jv pj2, .second, iv pi3, iv pi4, jv pj5, .second, iv pi0, iv x2, rv x11, rv x16, iv x19, iv x33, jv x40, .second, rv b49, rv b68, .unset, .unset] [(.int x19), (.int pi0)])) t := fun t kt => pre99_ t (by
          refine y_icmpNo X83.here hx (hb hby at_143) (teq hm143_100).2 (pc' := 146) rfl ?_
          refine y_iload X83.here hx (hb hby at_146) rfl (pc' := 148) rfl ?_
          refine y_iload X83.here hx (hb hby at_148) rfl (pc' := 150) rfl ?_
          exact kt)
      by_cases hm150_102 : x2 = x33
      · have pre103 : ∀ t, Steps p.tables e below (T83.setTop (mkF m 157 #[iv pi0, iv pi1, jv pj2, .second, iv pi3, iv pi4, jv pj5, .second, iv pi0, iv x2, rv x11, rv x16, iv x19, iv x33, jv x40, .second, rv b49, rv b68, .unset, .unset] [(.ref x16), (.ref x11)])) t → Steps p.tables e below (T83.setTop (mkF m 143 #[iv pi0, iv pi1, jv pj2, .second, iv pi3, iv pi4, jv pj5, .second, iv pi0, iv x2, rv x11, rv x16, iv x19, iv x33, jv x40, .second, rv b49, rv b68, .unset, .unset] [(.int x19), (.int pi0)])) t := fun t kt => pre101 t (by
            refine y_icmpNo X83.here hx (hb hby at_150) (teq hm150_102).2 (pc' := 153) rfl ?_
            refine y_aload X83.here hx (hb hby at_153) rfl rfl (pc' := 155) rfl ?_
            refine y_aload X83.here hx (hb hby at_155) rfl rfl (pc' := 157) rfl ?_
            exact kt)
        by_cases hm157_104 : x11 = x16
        · have pre105 : ∀ t, Steps p.tables e below (T83.setTop (mkF m 164 #[iv pi0, iv pi1, jv pj2, .second, iv pi3, iv pi4, jv pj5, .second, iv pi0, iv x2, rv x11, rv x16, iv x19, iv x33, jv x40, .second, rv b49, rv b68, .unset, .unset] [(.int (lcmpW pj2 x40))])) t → Steps p.tables e below (T83.setTop (mkF m 143 #[iv pi0, iv pi1, jv pj2, .second, iv pi3, iv pi4, jv pj5, .second, iv pi0, iv x2, rv x11, rv x16, iv x19, iv x33, jv x40, .second, rv b49, rv b68, .unset, .unset] [(.int x19), (.int pi0)])) t := fun t kt => pre103 t (by
              refine Jvm.RoadKit.acmp (g := (mkF m 157 #[iv pi0, iv pi1, jv pj2, .second, iv pi3, iv pi4, jv pj5, .second, iv pi0, iv x2, rv x11, rv x16, iv x19, iv x33, jv x40, .second, rv b49, rv b68, .unset, .unset] [(.ref x16), (.ref x11)])) X83 hx rfl rfl rfl (pc0 := 157) (pc' := 160) (same := true) rfl (hb hby at_157) rfl (decide_eq_true (congrArg Value.ref hm157_104)) (by decide) (by decide) ?_
              show Steps p.tables e below (T83.setTop (mkF m 160 #[iv pi0, iv pi1, jv pj2, .second, iv pi3, iv pi4, jv pj5, .second, iv pi0, iv x2, rv x11, rv x16, iv x19, iv x33, jv x40, .second, rv b49, rv b68, .unset, .unset] [])) _
              refine y_lloadN X83.here hx (hb hby at_160) rfl (pc' := 161) rfl ?_
              refine y_lload X83.here hx (hb hby at_161) rfl (pc' := 163) rfl ?_
              refine y_lcmp X83.here hx (hb hby at_163) (pc' := 164) rfl ?_
              exact kt)
          by_cases hm164_106 : pj2 = x40
          · have pre107 : ∀ t, Steps p.tables e below (T83.setTop (mkF m 172 #[iv pi0, iv pi1, jv pj2, .second, iv pi3, iv pi4, jv pj5, .second, iv pi0, iv x2, rv x11, rv x16, iv x19, iv x33, jv x40, .second, rv b49, rv b68, .unset, .unset] [(.int (1 : Int32))])) t → Steps p.tables e below (T83.setTop (mkF m 143 #[iv pi0, iv pi1, jv pj2, .second, iv pi3, iv pi4, jv pj5, .second, iv pi0, iv x2, rv x11, rv x16, iv x19, iv x33, jv x40, .second, rv b49, rv b68, .unset, .unset] [(.int x19), (.int pi0)])) t := fun t kt => pre105 t (by
                refine y_ifNo X83.here hx (hb hby at_164) ((if0 _ _).trans (teq (lq_eq hm164_106)).2) (pc' := 167) rfl ?_
                refine y_iconst X83.here hx (hb hby at_167) (v := (1 : Int32)) rfl (pc' := 168) rfl ?_
                refine y_goto X83.here hx (hb hby at_168) (pc' := 172) (by decide) rfl ?_
                exact kt)
            refine ⟨T83, ⟨X83, eh83.trans eh83.symm⟩, fun t kt => pre107 t ?_⟩
            (try simp only [if_pos hm143_100, if_pos hm150_102, if_pos hm157_104, if_pos hm164_106] at kt)
            exact kt
          · have pre108 : ∀ t, Steps p.tables e below (T83.setTop (mkF m 172 #[iv pi0, iv pi1, jv pj2, .second, iv pi3, iv pi4, jv pj5, .second, iv pi0, iv x2, rv x11, rv x16, iv x19, iv x33, jv x40, .second, rv b49, rv b68, .unset, .unset] [(.int (0 : Int32))])) t → Steps p.tables e below (T83.setTop (mkF m 143 #[iv pi0, iv pi1, jv pj2, .second, iv pi3, iv pi4, jv pj5, .second, iv pi0, iv x2, rv x11, rv x16, iv x19, iv x33, jv x40, .second, rv b49, rv b68, .unset, .unset] [(.int x19), (.int pi0)])) t := fun t kt => pre105 t (by
                refine y_ifYes X83.here hx (hb hby at_164) ((if0 _ _).trans (feq (lq_ne hm164_106)).2) (pc' := 171) (by decide) rfl ?_
                refine y_iconst X83.here hx (hb hby at_171) (v := (0 : Int32)) rfl (pc' := 172) rfl ?_
                exact kt)
            refine ⟨T83, ⟨X83, eh83.trans eh83.symm⟩, fun t kt => pre108 t ?_⟩
            (try simp only [if_pos hm143_100, if_pos hm150_102, if_pos hm157_104, if_neg hm164_106] at kt)
            exact kt
        · have pre109 : ∀ t, Steps p.tables e below (T83.setTop (mkF m 172 #[iv pi0, iv pi1, jv pj2, .second, iv pi3, iv pi4, jv pj5, .second, iv pi0, iv x2, rv x11, rv x16, iv x19, iv x33, jv x40, .second, rv b49, rv b68, .unset, .unset] [(.int (0 : Int32))])) t → Steps p.tables e below (T83.setTop (mkF m 143 #[iv pi0, iv pi1, jv pj2, .second, iv pi3, iv pi4, jv pj5, .second, iv pi0, iv x2, rv x11, rv x16, iv x19, iv x33, jv x40, .second, rv b49, rv b68, .unset, .unset] [(.int x19), (.int pi0)])) t := fun t kt => pre103 t (by
              refine Jvm.RoadKit.acmp (g := (mkF m 157 #[iv pi0, iv pi1, jv pj2, .second, iv pi3, iv pi4, jv pj5, .second, iv pi0, iv x2, rv x11, rv x16, iv x19, iv x33, jv x40, .second, rv b49, rv b68, .unset, .unset] [(.ref x16), (.ref x11)])) X83 hx rfl rfl rfl (pc0 := 157) (pc' := 171) (same := false) rfl (hb hby at_157) rfl (decide_eq_false fun q => hm157_104 (Value.ref.inj q)) (by decide) (by decide) ?_
              show Steps p.tables e below (T83.setTop (mkF m 171 #[iv pi0, iv pi1, jv pj2, .second, iv pi3, iv pi4, jv pj5, .second, iv pi0, iv x2, rv x11, rv x16, iv x19, iv x33, jv x40, .second, rv b49, rv b68, .unset, .unset] [])) _
              refine y_iconst X83.here hx (hb hby at_171) (v := (0 : Int32)) rfl (pc' := 172) rfl ?_
              exact kt)
          refine ⟨T83, ⟨X83, eh83.trans eh83.symm⟩, fun t kt => pre109 t ?_⟩
          (try simp only [if_pos hm143_100, if_pos hm150_102, if_neg hm157_104] at kt)
          exact kt
      · have pre110 : ∀ t, Steps p.tables e below (T83.setTop (mkF m 172 #[iv pi0, iv pi1, jv pj2, .second, iv pi3, iv pi4, jv pj5, .second, iv pi0, iv x2, rv x11, rv x16, iv x19, iv x33, jv x40, .second, rv b49, rv b68, .unset, .unset] [(.int (0 : Int32))])) t → Steps p.tables e below (T83.setTop (mkF m 143 #[iv pi0, iv pi1, jv pj2, .second, iv pi3, iv pi4, jv pj5, .second, iv pi0, iv x2, rv x11, rv x16, iv x19, iv x33, jv x40, .second, rv b49, rv b68, .unset, .unset] [(.int x19), (.int pi0)])) t := fun t kt => pre101 t (by
            refine y_icmpYes X83.here hx (hb hby at_150) (feq hm150_102).2 (pc' := 171) (by decide) rfl ?_
            refine y_iconst X83.here hx (hb hby at_171) (v := (0 : Int32)) rfl (pc' := 172) rfl ?_
            exact kt)
        refine ⟨T83, ⟨X83, eh83.trans eh83.symm⟩, fun t kt => pre110 t ?_⟩
        (try simp only [if_pos hm143_100, if_neg hm150_102] at kt)
        exact kt
    · have pre111 : ∀ t, Steps p.tables e below (T83.setTop (mkF m 172 #[iv pi0, iv pi1, jv pj2, .second, iv pi3, iv pi4, jv pj5, .second, iv pi0, iv x2, rv x11, rv x16, iv x19, iv x33, jv x40, .second, rv b49, rv b68, .unset, .unset] [(.int (0 : Int32))])) t → Steps p.tables e below (T83.setTop (mkF m 143 #[iv pi0, iv pi1, jv pj2, .second, iv pi3, iv pi4, jv pj5, .second, iv pi0, iv x2, rv x11, rv x16, iv x19, iv x33, jv x40, .second, rv b49, rv b68, .unset, .unset] [(.int x19), (.int pi0)])) t := fun t kt => pre99_ t (by
          refine y_icmpYes X83.here hx (hb hby at_143) (feq hm143_100).2 (pc' := 171) (by decide) rfl ?_
          refine y_iconst X83.here hx (hb hby at_171) (v := (0 : Int32)) rfl (pc' := 172) rfl ?_
          exact kt)
      refine ⟨T83, ⟨X83, eh83.trans eh83.symm⟩, fun t kt => pre111 t ?_⟩
      (try simp only [if_neg hm143_100] at kt)
      exact kt
  have e99 : T99.heap = h83 := q99.trans eh83
  have pre112 : ∀ t, Steps p.tables e below (T99.setTop (mkF m 172 #[iv pi0, iv pi1, jv pj2, .second, iv pi3, iv pi4, jv pj5, .second, iv pi0, iv x2, rv x11, rv x16, iv x19, iv x33, jv x40, .second, rv b49, rv b68, .unset, .unset] [(.int x98)])) t → Go t := fun t kt => pre97 t (st99 t kt)
  have pre113 : ∀ t, Steps p.tables e below (T99.setTop (mkF m 175 #[iv pi0, iv pi1, jv pj2, .second, iv pi3, iv pi4, jv pj5, .second, iv pi0, iv x2, rv x11, rv x16, iv x19, iv x33, jv x40, .second, rv b49, rv b68, iv x98, .unset] [(.int pi0)])) t → Go t := fun t kt => pre112 t (by
      refine y_istore X99.here hx (hb hby at_172) (l' := #[iv pi0, iv pi1, jv pj2, .second, iv pi3, iv pi4, jv pj5, .second, iv pi0, iv x2, rv x11, rv x16, iv x19, iv x33, jv x40, .second, rv b49, rv b68, iv x98, .unset]) rfl (pc' := 174) rfl ?_
      refine y_iloadN X99.here hx (hb hby at_174) rfl (pc' := 175) rfl ?_
      exact kt)
  obtain ⟨v114, _, ⟨T114, L114, k114, n114⟩, -, X114, ⟨Lc114, hQ114, l114, y114, z114⟩, st114⟩ := Jvm.LawKit.callS X99 hx (y := (⟨"java/lang/Integer", "valueOf", "(I)Ljava/lang/Integer;"⟩ : MethodName)) hown (mvT hZ (hw _ (List.mem_of_getElem? (i := 42) rfl))) (mvT hZ (hw _ (List.mem_of_getElem? (i := 43) rfl))) (mvT hZ (hw _ (List.mem_of_getElem? (i := 44) rfl))) (mvT hZ (hw _ (List.mem_of_getElem? (i := 45) rfl))) (by decide) (backOf (W := 0) (rm6 l Z a0 hw [] pi0 w_cache cc h83 n0 O96 S_cache S_high CA) hZ (hw _ (List.mem_of_getElem? (i := 45) rfl)) (hw _ (List.mem_of_getElem? (i := 44) rfl)) (by decide) (by decide)) (g := (mkF m 175 #[iv pi0, iv pi1, jv pj2, .second, iv pi3, iv pi4, jv pj5, .second, iv pi0, iv x2, rv x11, rv x16, iv x19, iv x33, jv x40, .second, rv b49, rv b68, iv x98, .unset] [(.int pi0)])) rfl (by rw [hml]; rfl) (argsL := [(.int pi0)]) (rest := []) (lenOf pd__I_Ljava_lang_Integer_ rfl) rfl (by show 2 * 0 + _ ≤ _; exact Nat.le_of_eq rfl) (hb hby at_175) (fun _ _ => ⟨rfl, e99, (by decide : 6 + 1 ≤ _), (by decide : 48 + 1 ≤ _)⟩)
  dsimp only [Pt.U, Pt.locs, Pt.cells, Pt.slots] at X114 l114 y114 z114 st114 hQ114
  subst l114 y114 z114
  obtain ⟨⟨b114, hv114, B114⟩, N114q, K114q⟩ := hQ114
  have N115 := Fr.app N84 N114q
  subst hv114
  have pre116 : ∀ t, Steps p.tables e below (T114.setTop (mkF m 178 #[iv pi0, iv pi1, jv pj2, .second, iv pi3, iv pi4, jv pj5, .second, iv pi0, iv x2, rv x11, rv x16, iv x19, iv x33, jv x40, .second, rv b49, rv b68, iv x98, .unset] [(.ref b114)])) t → Go t := fun t kt => pre113 t (st114 t kt)
  obtain ⟨h114, eh114⟩ : ∃ z, T114.heap = z := ⟨_, rfl⟩
  rw [eh114] at K114q B114
  have f117 : Exa Z h114 b49 "com/example/procord/procord/election/ElectionMessage" := (f86.keep K114q)
  have f118 : Fld Z h114 b49 "com/example/procord/procord/election/ElectionMessage" "from" "I" (.int pi0) := (f87.keep K114q nin0)
  have f119 : Fld Z h114 b49 "com/example/procord/procord/election/ElectionMessage" "to" "I" (.int x2) := (f88.keep K114q nin0)
  have f120 : Fld Z h114 b49 "com/example/procord/procord/election/ElectionMessage" "kind" "Lcom/example/procord/procord/election/ElectionMessage$Kind;" (.ref x11) := (f89.keep K114q nin0)
  have f121 : Fld Z h114 b49 "com/example/procord/procord/election/ElectionMessage" "stamp" "J" (.long pj2) := (f90.keep K114q nin0)
  have f122 : Exa Z h114 b68 "com/example/procord/procord/election/ElectionMessage" := (f91.keep K114q)
  have f123 : Fld Z h114 b68 "com/example/procord/procord/election/ElectionMessage" "from" "I" (.int x19) := (p83_0.keep K114q nin0)
  have f124 : Fld Z h114 b68 "com/example/procord/procord/election/ElectionMessage" "to" "I" (.int x33) := (p83_1.keep K114q nin0)
  have f125 : Fld Z h114 b68 "com/example/procord/procord/election/ElectionMessage" "kind" "Lcom/example/procord/procord/election/ElectionMessage$Kind;" (.ref x16) := (p83_2.keep K114q nin0)
  have f126 : Fld Z h114 b68 "com/example/procord/procord/election/ElectionMessage" "stamp" "J" (.long x40) := (p83_3.keep K114q nin0)
  have hk127 : _ ≤ h114.size := Nat.le_trans (Nat.le_of_eq (congrArg Array.size eh83)) K114q.1
  have O128 := O96.keep K114q all0
  have pre129 : ∀ t, Steps p.tables e below (T114.setTop (mkF m 184 #[iv pi0, iv pi1, jv pj2, .second, iv pi3, iv pi4, jv pj5, .second, iv pi0, iv x2, rv x11, rv x16, iv x19, iv x33, jv x40, .second, rv b49, rv b68, iv x98, rv b114] [(.ref b68), (.ref b49)])) t → Go t := fun t kt => pre116 t (by
      refine y_astore X114.here hx (hb hby at_178) rfl (l' := #[iv pi0, iv pi1, jv pj2, .second, iv pi3, iv pi4, jv pj5, .second, iv pi0, iv x2, rv x11, rv x16, iv x19, iv x33, jv x40, .second, rv b49, rv b68, iv x98, rv b114]) rfl (pc' := 180) rfl ?_
      refine y_aload X114.here hx (hb hby at_180) rfl rfl (pc' := 182) rfl ?_
      refine y_aload X114.here hx (hb hby at_182) rfl rfl (pc' := 184) rfl ?_
      exact kt)
  obtain ⟨cq130, kq130, q130a, q130b, q130c⟩ := isOf hZ eh114 f117
  obtain ⟨v130, _, ⟨T130, L130, k130, n130⟩, -, X130, ⟨Lc130, hQ130, l130, y130, z130⟩, st130⟩ := X114.virtualBack hx (y := (⟨"com/example/procord/procord/election/ElectionMessage", "equals", "(Ljava/lang/Object;)Z"⟩ : MethodName)) (z := (⟨"com/example/procord/procord/election/ElectionMessage", "equals", "(Ljava/lang/Object;)Z"⟩ : MethodName)) hown (mvT hZ (hw _ (List.mem_of_getElem? (i := 49) rfl))) (mvT hZ (hw _ (List.mem_of_getElem? (i := 50) rfl))) (notFace_of_selects (args := #[]) (mvT hZ (hw _ (List.mem_of_getElem? (i := 52) rfl)))) (mvT hZ (hw _ (List.mem_of_getElem? (i := 52) rfl))) (mvT hZ (hw _ (List.mem_of_getElem? (i := 51) rfl))) (by decide) (backOf (W := 0) (rm7 l Z a0 hw [] b49 b68 pi0 x2 x11 pj2 x19 x33 x16 x40 h114 n0 O128 f117 f118 f119 f120 f121 f122 f123 f124 f125 f126) hZ (hw _ (List.mem_of_getElem? (i := 53) rfl)) (hw _ (List.mem_of_getElem? (i := 9) rfl)) (by decide) (by decide)) q130a q130c (g := (mkF m 184 #[iv pi0, iv pi1, jv pj2, .second, iv pi3, iv pi4, jv pj5, .second, iv pi0, iv x2, rv x11, rv x16, iv x19, iv x33, jv x40, .second, rv b49, rv b68, iv x98, rv b114] [(.ref b68), (.ref b49)])) rfl (by rw [hml]; rfl) (Steps.refl _) (argsL := [(.ref b68)]) (rest := []) (lenOf pd__Ljava_lang_Object__Z rfl) rfl (by show 2 * 0 + _ ≤ _; exact Nat.le_of_eq rfl) (hb hby at_184) (fun _ _ => ⟨rfl, eh114, (by decide : 7 + 0 ≤ _), (by decide : 49 + 0 ≤ _)⟩)
  dsimp only [Pt.U, Pt.locs, Pt.cells, Pt.slots] at X130 l130 y130 z130 st130 hQ130
  subst l130 y130 z130
  obtain ⟨hv130, N130q, e130q⟩ := hQ130
  have N131 := Fr.app N115 N130q
  have hw130 := hv130
  obtain ⟨x132, hx132⟩ : ∃ z : Int32, z = (if pi0 = x19 then (if x2 = x33 then (if x11 = x16 then (if pj2 = x40 then (1 : Int32) else (0 : Int32)) else (0 : Int32)) else (0 : Int32)) else (0 : Int32)) := ⟨_, rfl⟩
  rw [← hx132] at hw130
  subst hw130
  have pre133 : ∀ t, Steps p.tables e below (T130.setTop (mkF m 187 #[iv pi0, iv pi1, jv pj2, .second, iv pi3, iv pi4, jv pj5, .second, iv pi0, iv x2, rv x11, rv x16, iv x19, iv x33, jv x40, .second, rv b49, rv b68, iv x98, rv b114] [(.int x132)])) t → Go t := fun t kt => pre129 t (st130.trans kt)
  have pre135 : ∀ t, Steps p.tables e below (T130.setTop (mkF m 189 #[iv pi0, iv pi1, jv pj2, .second, iv pi3, iv pi4, jv pj5, .second, iv pi0, iv x2, rv x11, rv x16, iv x19, iv x33, jv x40, .second, rv b49, rv b68, iv x98, rv b114] [(.int x98), (.int x132)])) t → Go t := fun t kt => pre133 t (by
      refine y_iload X130.here hx (hb hby at_187) rfl (pc' := 189) rfl ?_
      exact kt)
  have hf189_134 : x132 = x98 := by
      exact law0_136 pi0 pj2 x2 x11 x16 x19 x33 x40 x98 x132 hx98 hx132
  have pre137 : ∀ t, Steps p.tables e below (T130.setTop (mkF m 196 #[iv pi0, iv pi1, jv pj2, .second, iv pi3, iv pi4, jv pj5, .second, iv pi0, iv x2, rv x11, rv x16, iv x19, iv x33, jv x40, .second, rv b49, rv b68, iv x98, rv b114] [(.ref b49), (.ref b68)])) t → Go t := fun t kt => pre135 t (by
      refine y_icmpNo X130.here hx (hb hby at_189) (teq hf189_134).2 (pc' := 192) rfl ?_
      refine y_aload X130.here hx (hb hby at_192) rfl rfl (pc' := 194) rfl ?_
      refine y_aload X130.here hx (hb hby at_194) rfl rfl (pc' := 196) rfl ?_
      exact kt)
  obtain ⟨cq138, kq138, q138a, q138b, q138c⟩ := isOf hZ e130q f122
  obtain ⟨v138, _, ⟨T138, L138, k138, n138⟩, -, X138, ⟨Lc138, hQ138, l138, y138, z138⟩, st138⟩ := X130.virtualBack hx (y := (⟨"com/example/procord/procord/election/ElectionMessage", "equals", "(Ljava/lang/Object;)Z"⟩ : MethodName)) (z := (⟨"com/example/procord/procord/election/ElectionMessage", "equals", "(Ljava/lang/Object;)Z"⟩ : MethodName)) hown (mvT hZ (hw _ (List.mem_of_getElem? (i := 49) rfl))) (mvT hZ (hw _ (List.mem_of_getElem? (i := 50) rfl))) (notFace_of_selects (args := #[]) (mvT hZ (hw _ (List.mem_of_getElem? (i := 52) rfl)))) (mvT hZ (hw _ (List.mem_of_getElem? (i := 52) rfl))) (mvT hZ (hw _ (List.mem_of_getElem? (i := 51) rfl))) (by decide) (backOf (W := 0) (rm7 l Z a0 hw [] b68 b49 x19 x33 x16 x40 pi0 x2 x11 pj2 h114 n0 O128 f122 f123 f124 f125 f126 f117 f118 f119 f120 f121) hZ (hw _ (List.mem_of_getElem? (i := 53) rfl)) (hw _ (List.mem_of_getElem? (i := 9) rfl)) (by decide) (by decide)) q138a q138c (g := (mkF m 196 #[iv pi0, iv pi1, jv pj2, .second, iv pi3, iv pi4, jv pj5, .second, iv pi0, iv x2, rv x11, rv x16, iv x19, iv x33, jv x40, .second, rv b49, rv b68, iv x98, rv b114] [(.ref b49), (.ref b68)])) rfl (by rw [hml]; rfl) (Steps.refl _) (argsL := [(.ref b49)]) (rest := []) (lenOf pd__Ljava_lang_Object__Z rfl) rfl (by show 2 * 0 + _ ≤ _; exact Nat.le_of_eq rfl) (hb hby at_196) (fun _ _ => ⟨rfl, e130q, (by decide : 7 + 0 ≤ _), (by decide : 49 + 0 ≤ _)⟩)
  dsimp only [Pt.U, Pt.locs, Pt.cells, Pt.slots] at X138 l138 y138 z138 st138 hQ138
  subst l138 y138 z138
  obtain ⟨hv138, N138q, e138q⟩ := hQ138
  have N139 := Fr.app N131 N138q
  have hw138 := hv138
  obtain ⟨x140, hx140⟩ : ∃ z : Int32, z = (if x19 = pi0 then (if x33 = x2 then (if x16 = x11 then (if x40 = pj2 then (1 : Int32) else (0 : Int32)) else (0 : Int32)) else (0 : Int32)) else (0 : Int32)) := ⟨_, rfl⟩
  rw [← hx140] at hw138
  subst hw138
  have pre141 : ∀ t, Steps p.tables e below (T138.setTop (mkF m 199 #[iv pi0, iv pi1, jv pj2, .second, iv pi3, iv pi4, jv pj5, .second, iv pi0, iv x2, rv x11, rv x16, iv x19, iv x33, jv x40, .second, rv b49, rv b68, iv x98, rv b114] [(.int x140)])) t → Go t := fun t kt => pre137 t (st138.trans kt)
  have pre143 : ∀ t, Steps p.tables e below (T138.setTop (mkF m 201 #[iv pi0, iv pi1, jv pj2, .second, iv pi3, iv pi4, jv pj5, .second, iv pi0, iv x2, rv x11, rv x16, iv x19, iv x33, jv x40, .second, rv b49, rv b68, iv x98, rv b114] [(.int x98), (.int x140)])) t → Go t := fun t kt => pre141 t (by
      refine y_iload X138.here hx (hb hby at_199) rfl (pc' := 201) rfl ?_
      exact kt)
  have hf201_142 : x140 = x98 := by
      exact law0_144 pi0 pj2 x2 x11 x16 x19 x33 x40 x98 x132 x140 hx98 hx140 hf189_134
  have pre145 : ∀ t, Steps p.tables e below (T138.setTop (mkF m 208 #[iv pi0, iv pi1, jv pj2, .second, iv pi3, iv pi4, jv pj5, .second, iv pi0, iv x2, rv x11, rv x16, iv x19, iv x33, jv x40, .second, rv b49, rv b68, iv x98, rv b114] [(.ref b49), (.ref b49)])) t → Go t := fun t kt => pre143 t (by
      refine y_icmpNo X138.here hx (hb hby at_201) (teq hf201_142).2 (pc' := 204) rfl ?_
      refine y_aload X138.here hx (hb hby at_204) rfl rfl (pc' := 206) rfl ?_
      refine y_aload X138.here hx (hb hby at_206) rfl rfl (pc' := 208) rfl ?_
      exact kt)
  obtain ⟨cq146, kq146, q146a, q146b, q146c⟩ := isOf hZ e138q f117
  obtain ⟨v146, _, ⟨T146, L146, k146, n146⟩, -, X146, ⟨Lc146, hQ146, l146, y146, z146⟩, st146⟩ := X138.virtualBack hx (y := (⟨"com/example/procord/procord/election/ElectionMessage", "equals", "(Ljava/lang/Object;)Z"⟩ : MethodName)) (z := (⟨"com/example/procord/procord/election/ElectionMessage", "equals", "(Ljava/lang/Object;)Z"⟩ : MethodName)) hown (mvT hZ (hw _ (List.mem_of_getElem? (i := 49) rfl))) (mvT hZ (hw _ (List.mem_of_getElem? (i := 50) rfl))) (notFace_of_selects (args := #[]) (mvT hZ (hw _ (List.mem_of_getElem? (i := 52) rfl)))) (mvT hZ (hw _ (List.mem_of_getElem? (i := 52) rfl))) (mvT hZ (hw _ (List.mem_of_getElem? (i := 51) rfl))) (by decide) (backOf (W := 0) (rm7 l Z a0 hw [] b49 b49 pi0 x2 x11 pj2 pi0 x2 x11 pj2 h114 n0 O128 f117 f118 f119 f120 f121 f117 f118 f119 f120 f121) hZ (hw _ (List.mem_of_getElem? (i := 53) rfl)) (hw _ (List.mem_of_getElem? (i := 9) rfl)) (by decide) (by decide)) q146a q146c (g := (mkF m 208 #[iv pi0, iv pi1, jv pj2, .second, iv pi3, iv pi4, jv pj5, .second, iv pi0, iv x2, rv x11, rv x16, iv x19, iv x33, jv x40, .second, rv b49, rv b68, iv x98, rv b114] [(.ref b49), (.ref b49)])) rfl (by rw [hml]; rfl) (Steps.refl _) (argsL := [(.ref b49)]) (rest := []) (lenOf pd__Ljava_lang_Object__Z rfl) rfl (by show 2 * 0 + _ ≤ _; exact Nat.le_of_eq rfl) (hb hby at_208) (fun _ _ => ⟨rfl, e138q, (by decide : 7 + 0 ≤ _), (by decide : 49 + 0 ≤ _)⟩)
  dsimp only [Pt.U, Pt.locs, Pt.cells, Pt.slots] at X146 l146 y146 z146 st146 hQ146
  subst l146 y146 z146
  obtain ⟨hv146, N146q, e146q⟩ := hQ146
  have N147 := Fr.app N139 N146q
  have hw146 : v146 = some (.int (1 : Int32)) := by rw [hv146, if_pos (rfl : pi0 = pi0), if_pos (rfl : x2 = x2), if_pos (rfl : x11 = x11), if_pos (rfl : pj2 = pj2)]
  subst hw146
  have pre148 : ∀ t, Steps p.tables e below (T146.setTop (mkF m 211 #[iv pi0, iv pi1, jv pj2, .second, iv pi3, iv pi4, jv pj5, .second, iv pi0, iv x2, rv x11, rv x16, iv x19, iv x33, jv x40, .second, rv b49, rv b68, iv x98, rv b114] [(.int (1 : Int32))])) t → Go t := fun t kt => pre145 t (st146.trans kt)
  have pre149 : ∀ t, Steps p.tables e below (T146.setTop (mkF m 217 #[iv pi0, iv pi1, jv pj2, .second, iv pi3, iv pi4, jv pj5, .second, iv pi0, iv x2, rv x11, rv x16, iv x19, iv x33, jv x40, .second, rv b49, rv b68, iv x98, rv b114] [.null, (.ref b49)])) t → Go t := fun t kt => pre148 t (by
      refine y_ifNo X146.here hx (hb hby at_211) ((if0 _ _).trans (feq (by decide : ¬ ((1 : Int32) = (0 : Int32)))).1) (pc' := 214) rfl ?_
      refine y_aload X146.here hx (hb hby at_214) rfl rfl (pc' := 216) rfl ?_
      refine y_aconstNull X146.here hx (hb hby at_216) (pc' := 217) rfl ?_
      exact kt)
  obtain ⟨cq150, kq150, q150a, q150b, q150c⟩ := isOf hZ e146q f117
  obtain ⟨v150, _, ⟨T150, L150, k150, n150⟩, -, X150, ⟨Lc150, hQ150, l150, y150, z150⟩, st150⟩ := X146.virtualBack hx (y := (⟨"com/example/procord/procord/election/ElectionMessage", "equals", "(Ljava/lang/Object;)Z"⟩ : MethodName)) (z := (⟨"com/example/procord/procord/election/ElectionMessage", "equals", "(Ljava/lang/Object;)Z"⟩ : MethodName)) hown (mvT hZ (hw _ (List.mem_of_getElem? (i := 49) rfl))) (mvT hZ (hw _ (List.mem_of_getElem? (i := 50) rfl))) (notFace_of_selects (args := #[]) (mvT hZ (hw _ (List.mem_of_getElem? (i := 52) rfl)))) (mvT hZ (hw _ (List.mem_of_getElem? (i := 52) rfl))) (mvT hZ (hw _ (List.mem_of_getElem? (i := 51) rfl))) (by decide) (backOf (W := 0) (rm7n l Z a0 hw [] b49 h114 n0 O128 ) hZ (hw _ (List.mem_of_getElem? (i := 53) rfl)) (hw _ (List.mem_of_getElem? (i := 9) rfl)) (by decide) (by decide)) q150a q150c (g := (mkF m 217 #[iv pi0, iv pi1, jv pj2, .second, iv pi3, iv pi4, jv pj5, .second, iv pi0, iv x2, rv x11, rv x16, iv x19, iv x33, jv x40, .second, rv b49, rv b68, iv x98, rv b114] [.null, (.ref b49)])) rfl (by rw [hml]; rfl) (Steps.refl _) (argsL := [.null]) (rest := []) (lenOf pd__Ljava_lang_Object__Z rfl) rfl (by show 2 * 0 + _ ≤ _; exact Nat.le_of_eq rfl) (hb hby at_217) (fun _ _ => ⟨rfl, e146q, (by decide : 7 + 0 ≤ _), (by decide : 49 + 0 ≤ _)⟩)
  dsimp only [Pt.U, Pt.locs, Pt.cells, Pt.slots] at X150 l150 y150 z150 st150 hQ150
  subst l150 y150 z150
  obtain ⟨hv150, N150q, e150q⟩ := hQ150
  have N151 := Fr.app N147 N150q
  have hw150 := hv150
  subst hw150
  have pre152 : ∀ t, Steps p.tables e below (T150.setTop (mkF m 220 #[iv pi0, iv pi1, jv pj2, .second, iv pi3, iv pi4, jv pj5, .second, iv pi0, iv x2, rv x11, rv x16, iv x19, iv x33, jv x40, .second, rv b49, rv b68, iv x98, rv b114] [(.int (0 : Int32))])) t → Go t := fun t kt => pre149 t (st150.trans kt)
  have pre153 : ∀ t, Steps p.tables e below (T150.setTop (mkF m 227 #[iv pi0, iv pi1, jv pj2, .second, iv pi3, iv pi4, jv pj5, .second, iv pi0, iv x2, rv x11, rv x16, iv x19, iv x33, jv x40, .second, rv b49, rv b68, iv x98, rv b114] [(.ref b114), (.ref b49)])) t → Go t := fun t kt => pre152 t (by
      refine y_ifNo X150.here hx (hb hby at_220) ((if0 _ _).trans (teq (rfl : (0 : Int32) = (0 : Int32))).2) (pc' := 223) rfl ?_
      refine y_aload X150.here hx (hb hby at_223) rfl rfl (pc' := 225) rfl ?_
      refine y_aload X150.here hx (hb hby at_225) rfl rfl (pc' := 227) rfl ?_
      exact kt)
  obtain ⟨cq154, kq154, q154a, q154b, q154c⟩ := isOf hZ e150q f117
  obtain ⟨v154, _, ⟨T154, L154, k154, n154⟩, -, X154, ⟨Lc154, hQ154, l154, y154, z154⟩, st154⟩ := X150.virtualBack hx (y := (⟨"com/example/procord/procord/election/ElectionMessage", "equals", "(Ljava/lang/Object;)Z"⟩ : MethodName)) (z := (⟨"com/example/procord/procord/election/ElectionMessage", "equals", "(Ljava/lang/Object;)Z"⟩ : MethodName)) hown (mvT hZ (hw _ (List.mem_of_getElem? (i := 49) rfl))) (mvT hZ (hw _ (List.mem_of_getElem? (i := 50) rfl))) (notFace_of_selects (args := #[]) (mvT hZ (hw _ (List.mem_of_getElem? (i := 52) rfl)))) (mvT hZ (hw _ (List.mem_of_getElem? (i := 52) rfl))) (mvT hZ (hw _ (List.mem_of_getElem? (i := 51) rfl))) (by decide) (backOf (W := 0) (rm7x l Z a0 hw [] b49 b114 h114 n0 O128 B114 NI_pr1) hZ (hw _ (List.mem_of_getElem? (i := 53) rfl)) (hw _ (List.mem_of_getElem? (i := 9) rfl)) (by decide) (by decide)) q154a q154c (g := (mkF m 227 #[iv pi0, iv pi1, jv pj2, .second, iv pi3, iv pi4, jv pj5, .second, iv pi0, iv x2, rv x11, rv x16, iv x19, iv x33, jv x40, .second, rv b49, rv b68, iv x98, rv b114] [(.ref b114), (.ref b49)])) rfl (by rw [hml]; rfl) (Steps.refl _) (argsL := [(.ref b114)]) (rest := []) (lenOf pd__Ljava_lang_Object__Z rfl) rfl (by show 2 * 0 + _ ≤ _; exact Nat.le_of_eq rfl) (hb hby at_227) (fun _ _ => ⟨rfl, e150q, (by decide : 7 + 0 ≤ _), (by decide : 49 + 0 ≤ _)⟩)
  dsimp only [Pt.U, Pt.locs, Pt.cells, Pt.slots] at X154 l154 y154 z154 st154 hQ154
  subst l154 y154 z154
  obtain ⟨hv154, N154q, e154q⟩ := hQ154
  have N155 := Fr.app N151 N154q
  have hw154 := hv154
  subst hw154
  have pre156 : ∀ t, Steps p.tables e below (T154.setTop (mkF m 230 #[iv pi0, iv pi1, jv pj2, .second, iv pi3, iv pi4, jv pj5, .second, iv pi0, iv x2, rv x11, rv x16, iv x19, iv x33, jv x40, .second, rv b49, rv b68, iv x98, rv b114] [(.int (0 : Int32))])) t → Go t := fun t kt => pre153 t (st154.trans kt)
  have pre157 : ∀ t, Steps p.tables e below (T154.setTop (mkF m 238 #[iv pi0, iv pi1, jv pj2, .second, iv pi3, iv pi4, jv pj5, .second, iv pi0, iv x2, rv x11, rv x16, iv x19, iv x33, jv x40, .second, rv b49, rv b68, iv x98, rv b114] [(.int (1 : Int32))])) t → Go t := fun t kt => pre156 t (by
      refine y_ifNo X154.here hx (hb hby at_230) ((if0 _ _).trans (teq (rfl : (0 : Int32) = (0 : Int32))).2) (pc' := 233) rfl ?_
      refine y_iconst X154.here hx (hb hby at_233) (v := (1 : Int32)) rfl (pc' := 234) rfl ?_
      refine y_goto X154.here hx (hb hby at_234) (pc' := 238) (by decide) rfl ?_
      exact kt)
  obtain ⟨fs, hr, hrun, hended, hRW⟩ := Stand.leaveW (s := s) (vm₁ := T83.vm) X154 hS83 (by rw [e154q]; exact hk127) (v := some (.int (1 : Int32))) (fun h => by rw [Bd.returns] at h; cases h)
  refine ⟨_, _, (hGo _).mp (pre157 _ ?_), hrun, hended, _, _, rfl, ?_, hRW.1, hRW.2.1, hRW.2.2.1, hRW.2.2.2.mono (by decide) (by decide)⟩
  · exact retN X154 hx (t := .boolean) Bd.returns (by simp) (hb hby at_238) hr
  · show Q0 Z pi0 pi1 pj2 pi3 pi4 pj5 w_cache w_ELECTION w_ANSWER w_COORDINATOR cc h0 n0 _ T154.heap _
    rw [e154q]
    exact ⟨rfl, N155⟩
set_option maxRecDepth 65536 in
set_option maxHeartbeats 40000000 in
theorem comes_1 {Post : Tables → Env → Array Value → State → Outcome → State → Prop} (hpost : ∀ tb e args s v u, (limb_1_1.after args s (.returned v) u = true ∧ limb_1_2.after args s (.returned v) u = true ∧ True) → ReturnedEndW s (.returned v) u (Jvm.fieldLocs frame_1_writes args s ++ Jvm.arrayLocs frame_1_arrays args s ++ Jvm.staticLocs frame_1_statics s) 16 1152 → Post tb e args s (.returned v) u) :
    ArmFor flags0 classFile x code maxLocals ret World_1 tables_1 room_1 Calls_1 rest_1 Pre_1 Post := by
  intro l hfl _ _ p e ha hc hk s m args below hf hA hF happ hP
  obtain ⟨hcalls, hrest, hpre⟩ := hP
  obtain ⟨-, -, -, hnamed, -, -, -, hat⟩ := (Spec.applies_iff hf).mp happ
  obtain ⟨hg, hn⟩ := and_e (Cond.before_iff.mp (show (Jvm.Cond.and given_1 narrow_1).before args s = true from hpre))
  obtain ⟨g0, gr0⟩ := and_e hg
  obtain ⟨g1, gr1⟩ := and_e gr0
  obtain ⟨g2, gr2⟩ := and_e gr1
  obtain ⟨g3, gr3⟩ := and_e gr2
  obtain ⟨g4, gr4⟩ := and_e gr3
  obtain ⟨g5, gr5⟩ := and_e gr4
  obtain ⟨w0, w1, w2, w3, w4, w5, rfl⟩ : ∃ w0 w1 w2 w3 w4 w5 : Value, args = #[w0, w1, w2, w3, w4, w5] := by
    have hs : args.size = 6 := by simpa [Cond.value, given_1] using g0
    obtain ⟨L⟩ := args
    match L, hs with
    | [w0, w1, w2, w3, w4, w5], _ => exact ⟨w0, w1, w2, w3, w4, w5, rfl⟩
  have hw := fun d (hd : d ∈ tables_1) => atoms_spec (ws := Jvm.Cond.code x code maxLocals ret :: tables_1) hat d (List.mem_cons_of_mem _ hd)
  have hfit : Fit s := fun {y c} hc i hi => by
    obtain ⟨ha, rfl⟩ := Array.getElem?_eq_some_iff.mp hc
    have q := List.all_eq_true.mp ((Array.all_eq_true_iff_forall_mem.mp hF) _ (Array.getElem_mem ha)) i (List.mem_range.mpr hi)
    simpa [Array.getElem?_eq_getElem hi] using q
  obtain ⟨hsets, hown0⟩ := atoms_of _ (rest_1_c_eq ▸ (show rest_1_c.before _ s = true from hrest))
  obtain ⟨i0, ei0⟩ := is_v g1
  obtain rfl : w0 = (.int i0) := Option.some.inj ei0
  obtain ⟨i1, ei1⟩ := is_v g2
  obtain rfl : w1 = (.int i1) := Option.some.inj ei1
  obtain ⟨i2, ei2⟩ := isL_v g3
  obtain rfl : w2 = (.long i2) := Option.some.inj ei2
  obtain ⟨i3, ei3⟩ := is_v g4
  obtain rfl : w3 = (.int i3) := Option.some.inj ei3
  obtain ⟨i4, ei4⟩ := is_v g5
  obtain rfl : w4 = (.int i4) := Option.some.inj ei4
  obtain ⟨i5, ei5⟩ := isL_v gr5
  obtain rfl : w5 = (.long i5) := Option.some.inj ei5
  obtain ⟨n0, nr0⟩ := and_e hn
  obtain ⟨n1, nr1⟩ := and_e nr0
  obtain ⟨n2, nr2⟩ := and_e nr1
  obtain ⟨n3, nr3⟩ := and_e nr2
  obtain ⟨n4, nr4⟩ := and_e nr3
  obtain ⟨w_ELECTION, ev_ELECTION⟩ := exa_v n0
  have S_ELECTION := Sta.start ev_ELECTION (Or.inr ⟨(hw _ (List.mem_of_getElem? (i := 5) rfl)), (hw _ (List.mem_of_getElem? (i := 6) rfl))⟩)
  have E_w_ELECTION := Exa.start ev_ELECTION n0
  obtain ⟨w_COORDINATOR, ev_COORDINATOR⟩ := exa_v n1
  have S_COORDINATOR := Sta.start ev_COORDINATOR (Or.inr ⟨(hw _ (List.mem_of_getElem? (i := 5) rfl)), (hw _ (List.mem_of_getElem? (i := 60) rfl))⟩)
  have E_w_COORDINATOR := Exa.start ev_COORDINATOR n1
  have F_ordinal_w_ELECTION := Fld.start ((fld_at ev_ELECTION).symm.trans (own_eqI n2))
  have F_ordinal_w_COORDINATOR := Fld.start ((fld_at ev_COORDINATOR).symm.trans (own_eqI n3))
  obtain ⟨w_ANSWER, ev_ANSWER⟩ := exa_v n4
  have S_ANSWER := Sta.start ev_ANSWER (Or.inr ⟨(hw _ (List.mem_of_getElem? (i := 5) rfl)), (hw _ (List.mem_of_getElem? (i := 62) rfl))⟩)
  have E_w_ANSWER := Exa.start ev_ANSWER n4
  have F_ordinal_w_ANSWER := Fld.start ((fld_at ev_ANSWER).symm.trans (own_eqI nr4))
  obtain ⟨w_cache, evc⟩ := arr_v (Cond.before_iff.mp (hsets _ (List.mem_of_getElem? (i := 4) rfl)))
  have S_cache := Sta.start evc (Or.inr ⟨(hw _ (List.mem_of_getElem? (i := 47) rfl)), (hsets _ (List.mem_of_getElem? (i := 2) rfl))⟩)
  obtain ⟨cc, Ac⟩ := Arr.start evc (Cond.before_iff.mp (hsets _ (List.mem_of_getElem? (i := 4) rfl)))
  obtain ⟨lc1, lc2⟩ := own_len evc (Ac.fin (Vm.Alike.refl _)) (own_eqI (Cond.before_iff.mp (hsets _ (List.mem_of_getElem? (i := 6) rfl))))
  have CA : Bxs s w_cache cc "java/lang/Integer" "I" (256 : Int32) (fun j => .int (j - 128)) := Bxs.start (fun _ => evc) Ac lc1 lc2 (by decide) (Cond.before_iff.mp (hsets _ (List.mem_of_getElem? (i := 7) rfl))) (fun X j nn h => eqv_i (Term.sub_int (idx_at nn) (Term.int_eval _)) h)
  have S_high := Sta.start (own_eqI (Cond.before_iff.mp (hsets _ (List.mem_of_getElem? (i := 3) rfl)))) (Or.inl (hsets _ (List.mem_of_getElem? (i := 1) rfl)))
  have NI_pr1 : Nas s "java/lang/Integer" "com/example/procord/procord/election/ElectionMessage" := own_nas (hw _ (List.mem_of_getElem? (i := 56) rfl)) (hw _ (List.mem_of_getElem? (i := 8) rfl)) (NS.step (hw _ (List.mem_of_getElem? (i := 56) rfl)) (NS.step (hw _ (List.mem_of_getElem? (i := 57) rfl)) (own_root (hw _ (List.mem_of_getElem? (i := 58) rfl)) (hw _ (List.mem_of_getElem? (i := 8) rfl)) (by decide)) (by decide)) (by decide)) (by decide)
  obtain ⟨n, o, h1, h2, h3, _, L, rfl, ⟨rfl, N⟩, hq⟩ := rm0 l s _ hw tables_1 i0 i1 i2 i3 i4 i5 w_cache w_ELECTION w_ANSWER w_COORDINATOR cc s.heap s.heap.size (Old.start s) S_cache S_high S_ELECTION S_ANSWER S_COORDINATOR CA NI_pr1 E_w_ELECTION E_w_ANSWER E_w_COORDINATOR p e ha hc hk s m _ below hf ((Spec.applies_iff_loose hf).mp happ).1 ⟨rfl, State.Warmed39.refl s, rfl⟩ trivial
  refine ⟨n, _, h1, h2, h3, hpost _ _ _ _ _ _ ⟨Cond.after_iff.mpr rfl, Cond.after_iff.mpr (eq_i res_at (Term.int_eval (1)) rfl), trivial⟩ ⟨hq.1, hq.2.1, hq.2.2.1, (hq.2.2.2.sift fun y hy => Or.inr (N y hy)).mono (by decide) (by decide)⟩⟩
theorem main_1_1 : Claimed_1_1 := comes_1 fun _ _ _ _ _ _ h hF => ⟨h.1, hF⟩
theorem main_1_2 : Claimed_1_2 := comes_1 fun _ _ _ _ _ _ h hF => ⟨h.2.1, hF⟩
end Jvm.Pilot.@@N@@
namespace Jvm.Pilot.@@N@@
open Jvm Jvm.ClassFile Sem Op Lib Jvm.Free Jvm.Stand Jvm.Pilot.@@N@@.Jvm.D
/-! MADE BY PROGRAM (witnessworld.py) out of the Statement's table words and the real class files: 23 classes; the members and pool entries that the words name. The judged class is class 1, her method 2. -/
namespace start1
open Jvm.ClassFile
def u (s : String) : CpInfo := .utf8 (stringToUtf16 s)
/-- a pool by its gaps: so many unusable entries, then the entry; so many at the end -/
def gap : Nat → List CpInfo → List CpInfo
  | 0, r => r
  | n + 1, r => .unusable :: gap n r
def poolList (es : List (Nat × CpInfo)) (last : Nat) : List CpInfo := es.foldr (fun e r => gap e.1 (e.2 :: r)) (gap last [])
def pool (es : List (Nat × CpInfo)) (last : Nat) : Array CpInfo := ⟨poolList es last⟩
def fileOf (pool : Array CpInfo) (this : Nat) (attrs : Array Attribute := #[]) (ms : Array MethodInfo := #[]) (fl : Nat := 33) (sup : Nat := 0) (ifs : Array Nat := #[]) (fds : Array FieldInfo := #[]) : ClassFile where
  minorVersion := 0
  majorVersion := 65
  constantPool := pool
  accessFlags := fl
  thisClass := this
  superClass := sup
  interfaces := ifs
  fields := fds
  methods := ms
  attributes := attrs
def plain (name : String) (sup : Option ClassId) : Class where
  name := name
  kind := .ordinary
  loader := none
  accessFlags := 33
  super := sup
  interfaces := #[]
  cf := none
  fields := #[]
  methods := #[]
  instanceTypes := #[]
  staticTypes := #[]
  resolved := #[]
  callSites := []
  init := .initialized
  statics := none
  mirror := none

def pool0 : Array CpInfo := pool [(5, u "<init>"), (0, u "()V"), (1, .class_ 10), (1, u "java/lang/Object")] 113

def k0c0 : Code := { maxStack := 0, maxLocals := 1, code := object_method_1_code, exceptionTable := #[], attributes := #[] }
def k0m0 : Method := { name := "<init>", desc := "()V", sig := { parameters := [], returnType := none }, accessFlags := 1, code := some k0c0 }
/-- java/lang/Object -/
def k0 : Class := { plain "java/lang/Object" none with
  accessFlags := 33
  interfaces := #[]
  cf := some (fileOf pool0 8 #[] #[{ accessFlags := 1, nameIndex := 5, descriptorIndex := 6, attributes := #[] }] 33 0 #[] #[])
  fields := #[]
  methods := #[k0m0]
  instanceTypes := #[]
  staticTypes := #[]
  resolved := Array.replicate 124 none
  statics := none }

def pool1 : Array CpInfo := pool [(2, .class_ 4), (1, u "java/lang/Object"), (0, u "<init>"), (0, u "()V"), (0, .fieldref 8 9), (0, .class_ 10), (0, .nameAndType 11 12), (0, u "com/example/procord/procord/election/ElectionMessage$Kind"), (0, u "ELECTION"), (0, u "Lcom/example/procord/procord/election/ElectionMessage$Kind;"), (0, .fieldref 8 14), (0, .nameAndType 15 12), (0, u "ANSWER"), (0, .fieldref 8 17), (0, .nameAndType 18 12), (0, u "COORDINATOR"), (0, .methodref 20 21), (0, .class_ 22), (0, .nameAndType 23 24), (0, u "com/example/procord/procord/election/ElectionMessageEqualsPinLaw"), (0, u "kindOf"), (0, u "(I)Lcom/example/procord/procord/election/ElectionMessage$Kind;"), (0, .class_ 26), (0, u "com/example/procord/procord/election/ElectionMessage"), (0, .methodref 25 28), (0, .nameAndType 5 29), (0, u "(IILcom/example/procord/procord/election/ElectionMessage$Kind;J)V"), (0, .methodref 31 32), (0, .class_ 33), (0, .nameAndType 34 35), (0, u "java/lang/Integer"), (0, u "valueOf"), (0, u "(I)Ljava/lang/Integer;"), (0, .methodref 25 37), (0, .nameAndType 38 39), (0, u "equals"), (0, u "(Ljava/lang/Object;)Z"), (3, u "law"), (0, u "(IIJIIJ)Z")] 4

def k1m0 : Method := { name := "<init>", desc := "()V", sig := { parameters := [], returnType := none }, accessFlags := 2, code := none }
def k1c1 : Code := { maxStack := 2, maxLocals := 2, code := method_2_code, exceptionTable := #[], attributes := #[] }
def k1m1 : Method := { name := "kindOf", desc := "(I)Lcom/example/procord/procord/election/ElectionMessage$Kind;", sig := { parameters := [.int], returnType := some (.object "com/example/procord/procord/election/ElectionMessage$Kind") }, accessFlags := 10, code := some k1c1 }
def k1c2 : Code := { maxStack := 7, maxLocals := 20, code := code, exceptionTable := #[], attributes := #[] }
def k1m2 : Method := { name := "law", desc := "(IIJIIJ)Z", sig := { parameters := [.int, .int, .long, .int, .int, .long], returnType := some .boolean }, accessFlags := 9, code := some k1c2 }
/-- com/example/procord/procord/election/ElectionMessageEqualsPinLaw -/
def k1 : Class := { plain "com/example/procord/procord/election/ElectionMessageEqualsPinLaw" (some 0) with
  accessFlags := 49
  interfaces := #[]
  cf := some (fileOf pool1 20 #[] #[{ accessFlags := 2, nameIndex := 5, descriptorIndex := 6, attributes := #[] }, { accessFlags := 10, nameIndex := 23, descriptorIndex := 24, attributes := #[] }, { accessFlags := 9, nameIndex := 43, descriptorIndex := 44, attributes := #[] }] 49 2 #[] #[])
  fields := #[]
  methods := #[k1m0, k1m1, k1m2]
  instanceTypes := #[]
  staticTypes := #[]
  resolved := Array.replicate 49 none
  statics := none }

def pool2 : Array CpInfo := pool [(1, .class_ 2), (0, u "java/lang/constant/Constable"), (0, .class_ 4), (0, u "java/lang/Object")] 6

/-- java/lang/constant/Constable -/
def k2 : Class := { plain "java/lang/constant/Constable" (some 0) with
  accessFlags := 1537
  interfaces := #[]
  cf := some (fileOf pool2 1 #[] #[] 1537 3 #[] #[])
  fields := #[]
  methods := #[]
  instanceTypes := #[]
  staticTypes := #[]
  resolved := Array.replicate 11 none
  statics := none }

def pool3 : Array CpInfo := pool [(1, .class_ 2), (0, u "java/lang/Comparable"), (0, .class_ 4), (0, u "java/lang/Object")] 7

/-- java/lang/Comparable -/
def k3 : Class := { plain "java/lang/Comparable" (some 0) with
  accessFlags := 1537
  interfaces := #[]
  cf := some (fileOf pool3 1 #[] #[] 1537 3 #[] #[])
  fields := #[]
  methods := #[]
  instanceTypes := #[]
  staticTypes := #[]
  resolved := Array.replicate 12 none
  statics := none }

def pool4 : Array CpInfo := pool [(1, .class_ 2), (0, u "java/io/Serializable"), (0, .class_ 4), (0, u "java/lang/Object")] 2

/-- java/io/Serializable -/
def k4 : Class := { plain "java/io/Serializable" (some 0) with
  accessFlags := 1537
  interfaces := #[]
  cf := some (fileOf pool4 1 #[] #[] 1537 3 #[] #[])
  fields := #[]
  methods := #[]
  instanceTypes := #[]
  staticTypes := #[]
  resolved := Array.replicate 7 none
  statics := none }

def pool5 : Array CpInfo := pool [(2, .class_ 4), (1, u "java/lang/Enum"), (0, u "name"), (0, u "Ljava/lang/String;"), (2, u "ordinal"), (0, u "I"), (1, .class_ 14), (1, u "java/lang/Object"), (4, u "hash"), (86, .class_ 108), (1, u "java/lang/Enum$EnumDesc"), (2, .class_ 112), (0, u "java/lang/constant/Constable"), (0, .class_ 114), (0, u "java/lang/Comparable"), (0, .class_ 116), (0, u "java/io/Serializable")] 87

/-- java/lang/Enum -/
def k5 : Class := { plain "java/lang/Enum" (some 0) with
  accessFlags := 1057
  interfaces := #[2, 3, 4]
  cf := some (fileOf pool5 2 #[.nestMembers #[106]] #[] 1057 12 #[111, 113, 115] #[{ accessFlags := 18, nameIndex := 5, descriptorIndex := 6, attributes := #[] }, { accessFlags := 18, nameIndex := 9, descriptorIndex := 10, attributes := #[] }, { accessFlags := 2, nameIndex := 19, descriptorIndex := 10, attributes := #[] }])
  fields := #[{ name := "name", type := (.object "java/lang/String"), accessFlags := 18, slot := 0, constantValue := 0 }, { name := "ordinal", type := .int, accessFlags := 18, slot := 1, constantValue := 0 }, { name := "hash", type := .int, accessFlags := 2, slot := 2, constantValue := 0 }]
  methods := #[]
  instanceTypes := #[(.object "java/lang/String"), .int, .int]
  staticTypes := #[]
  resolved := Array.replicate 204 none
  statics := none }

def pool6 : Array CpInfo := pool [(1, .class_ 2), (0, u "com/example/procord/procord/message/Messenger$Factory"), (0, .class_ 4), (0, u "java/lang/Object"), (10, .class_ 16), (0, u "com/example/procord/procord/message/Messenger")] 2

/-- com/example/procord/procord/message/Messenger$Factory -/
def k6 : Class := { plain "com/example/procord/procord/message/Messenger$Factory" (some 0) with
  accessFlags := 1537
  interfaces := #[]
  cf := some (fileOf pool6 1 #[.nestHost 15] #[] 1537 3 #[] #[])
  fields := #[]
  methods := #[]
  instanceTypes := #[]
  staticTypes := #[]
  resolved := Array.replicate 19 none
  statics := none }

def pool7 : Array CpInfo := pool [(1, .class_ 2), (0, u "com/example/procord/procord/election/ElectionMessage$Kind"), (2, u "ELECTION"), (0, u "Lcom/example/procord/procord/election/ElectionMessage$Kind;"), (2, u "ANSWER"), (2, u "COORDINATOR"), (2, u "$VALUES"), (0, u "[Lcom/example/procord/procord/election/ElectionMessage$Kind;"), (6, .class_ 25), (1, u "java/lang/Enum"), (8, u "label"), (0, u "Ljava/lang/String;"), (0, .class_ 37), (0, u "com/example/procord/procord/election/ElectionMessage"), (23, .class_ 62), (0, u "com/example/procord/procord/message/Messenger$Factory")] 20

/-- com/example/procord/procord/election/ElectionMessage$Kind -/
def k7 : Class := { plain "com/example/procord/procord/election/ElectionMessage$Kind" (some 5) with
  accessFlags := 16433
  interfaces := #[6]
  cf := some (fileOf pool7 1 #[.nestHost 36] #[] 16433 23 #[61] #[{ accessFlags := 16409, nameIndex := 5, descriptorIndex := 6, attributes := #[] }, { accessFlags := 16409, nameIndex := 9, descriptorIndex := 6, attributes := #[] }, { accessFlags := 16409, nameIndex := 12, descriptorIndex := 6, attributes := #[] }, { accessFlags := 18, nameIndex := 34, descriptorIndex := 35, attributes := #[] }, { accessFlags := 4122, nameIndex := 15, descriptorIndex := 16, attributes := #[] }])
  fields := #[{ name := "ELECTION", type := (.object "com/example/procord/procord/election/ElectionMessage$Kind"), accessFlags := 16409, slot := 0, constantValue := 0 }, { name := "ANSWER", type := (.object "com/example/procord/procord/election/ElectionMessage$Kind"), accessFlags := 16409, slot := 1, constantValue := 0 }, { name := "COORDINATOR", type := (.object "com/example/procord/procord/election/ElectionMessage$Kind"), accessFlags := 16409, slot := 2, constantValue := 0 }, { name := "label", type := (.object "java/lang/String"), accessFlags := 18, slot := 3, constantValue := 0 }, { name := "$VALUES", type := (.array (.object "com/example/procord/procord/election/ElectionMessage$Kind")), accessFlags := 4122, slot := 3, constantValue := 0 }]
  methods := #[]
  instanceTypes := #[(.object "java/lang/String"), .int, .int, (.object "java/lang/String")]
  staticTypes := #[(.object "com/example/procord/procord/election/ElectionMessage$Kind"), (.object "com/example/procord/procord/election/ElectionMessage$Kind"), (.object "com/example/procord/procord/election/ElectionMessage$Kind"), (.array (.object "com/example/procord/procord/election/ElectionMessage$Kind"))]
  resolved := Array.replicate 83 none
  statics := some 0 }

def pool8 : Array CpInfo := pool [(14, .class_ 16), (1, u "com/example/procord/procord/message/Message"), (9, .class_ 27), (0, u "java/lang/Object"), (3, u "checkEnds"), (0, u "(II)V")] 22

def k8c0 : Code := { maxStack := 3, maxLocals := 2, code := prog_47_method_5_code, exceptionTable := #[], attributes := #[] }
def k8m0 : Method := { name := "checkEnds", desc := "(II)V", sig := { parameters := [.int, .int], returnType := none }, accessFlags := 9, code := some k8c0 }
/-- com/example/procord/procord/message/Message -/
def k8 : Class := { plain "com/example/procord/procord/message/Message" (some 0) with
  accessFlags := 1537
  interfaces := #[]
  cf := some (fileOf pool8 14 #[] #[{ accessFlags := 9, nameIndex := 31, descriptorIndex := 32, attributes := #[] }] 1537 26 #[] #[])
  fields := #[]
  methods := #[k8m0]
  instanceTypes := #[]
  staticTypes := #[]
  resolved := Array.replicate 55 none
  statics := none }

def pool9 : Array CpInfo := pool [(1, .methodref 2 3), (0, .class_ 4), (0, .nameAndType 5 6), (0, u "java/lang/Object"), (0, u "<init>"), (0, u "()V"), (0, .interfaceMethodref 8 9), (0, .class_ 10), (0, .nameAndType 11 12), (0, u "com/example/procord/procord/message/Message"), (0, u "checkEnds"), (0, u "(II)V"), (0, .fieldref 14 15), (0, .class_ 16), (0, .nameAndType 17 18), (0, u "com/example/procord/procord/election/ElectionMessage"), (0, u "from"), (0, u "I"), (0, .fieldref 14 20), (0, .nameAndType 21 18), (0, u "to"), (0, .string 23), (0, u "kind"), (0, .methodref 25 26), (0, .class_ 27), (0, .nameAndType 28 29), (0, u "java/util/Objects"), (0, u "requireNonNull"), (0, u "(Ljava/lang/Object;Ljava/lang/String;)Ljava/lang/Object;"), (0, .class_ 31), (0, u "com/example/procord/procord/election/ElectionMessage$Kind"), (0, .fieldref 14 33), (0, .nameAndType 23 34), (0, u "Lcom/example/procord/procord/election/ElectionMessage$Kind;"), (0, .fieldref 14 36), (0, .nameAndType 37 38), (0, u "stamp"), (0, u "J"), (23, u "(IILcom/example/procord/procord/election/ElectionMessage$Kind;J)V"), (5, u "equals"), (0, u "(Ljava/lang/Object;)Z")] 22

def k9c0 : Code := { maxStack := 3, maxLocals := 6, code := prog_8_method_1_code, exceptionTable := #[], attributes := #[] }
def k9m0 : Method := { name := "<init>", desc := "(IILcom/example/procord/procord/election/ElectionMessage$Kind;J)V", sig := { parameters := [.int, .int, (.object "com/example/procord/procord/election/ElectionMessage$Kind"), .long], returnType := none }, accessFlags := 1, code := some k9c0 }
def k9c1 : Code := { maxStack := 4, maxLocals := 3, code := prog_8_method_7_code, exceptionTable := #[], attributes := #[] }
def k9m1 : Method := { name := "equals", desc := "(Ljava/lang/Object;)Z", sig := { parameters := [(.object "java/lang/Object")], returnType := some .boolean }, accessFlags := 1, code := some k9c1 }
/-- com/example/procord/procord/election/ElectionMessage -/
def k9 : Class := { plain "com/example/procord/procord/election/ElectionMessage" (some 0) with
  accessFlags := 49
  interfaces := #[8]
  cf := some (fileOf pool9 14 #[.nestMembers #[30]] #[{ accessFlags := 1, nameIndex := 5, descriptorIndex := 62, attributes := #[] }, { accessFlags := 1, nameIndex := 68, descriptorIndex := 69, attributes := #[] }] 49 2 #[8] #[{ accessFlags := 18, nameIndex := 17, descriptorIndex := 18, attributes := #[] }, { accessFlags := 18, nameIndex := 21, descriptorIndex := 18, attributes := #[] }, { accessFlags := 18, nameIndex := 23, descriptorIndex := 34, attributes := #[] }, { accessFlags := 18, nameIndex := 37, descriptorIndex := 38, attributes := #[] }])
  fields := #[{ name := "from", type := .int, accessFlags := 18, slot := 0, constantValue := 0 }, { name := "to", type := .int, accessFlags := 18, slot := 1, constantValue := 0 }, { name := "kind", type := (.object "com/example/procord/procord/election/ElectionMessage$Kind"), accessFlags := 18, slot := 2, constantValue := 0 }, { name := "stamp", type := .long, accessFlags := 18, slot := 3, constantValue := 0 }]
  methods := #[k9m0, k9m1]
  instanceTypes := #[.int, .int, (.object "com/example/procord/procord/election/ElectionMessage$Kind"), .long]
  staticTypes := #[]
  resolved := Array.replicate 92 none
  statics := none }

def pool10 : Array CpInfo := pool [(2, .class_ 4), (1, u "java/lang/CharSequence"), (42, .class_ 48), (0, u "java/lang/CharSequence$1CodePointIterator"), (10, .class_ 60), (0, u "java/lang/CharSequence$1CharIterator"), (5, .class_ 67), (0, u "java/lang/Object")] 63

/-- java/lang/CharSequence -/
def k10 : Class := { plain "java/lang/CharSequence" (some 0) with
  accessFlags := 1537
  interfaces := #[]
  cf := some (fileOf pool10 2 #[.nestMembers #[47, 59]] #[] 1537 66 #[] #[])
  fields := #[]
  methods := #[]
  instanceTypes := #[]
  staticTypes := #[]
  resolved := Array.replicate 131 none
  statics := none }

def pool11 : Array CpInfo := pool [(1, .class_ 2), (0, u "java/lang/constant/ConstantDesc"), (0, .class_ 4), (0, u "java/lang/Object")] 32

/-- java/lang/constant/ConstantDesc -/
def k11 : Class := { plain "java/lang/constant/ConstantDesc" (some 0) with
  accessFlags := 1537
  interfaces := #[]
  cf := some (fileOf pool11 1 #[] #[] 1537 3 #[] #[])
  fields := #[]
  methods := #[]
  instanceTypes := #[]
  staticTypes := #[]
  resolved := Array.replicate 37 none
  statics := none }

def pool12 : Array CpInfo := pool [(2, .class_ 4), (1, u "java/lang/Object"), (0, u "<init>"), (0, u "()V"), (3, .class_ 12), (1, u "java/lang/String"), (0, u "value"), (0, u "[B"), (2, u "coder"), (0, u "B"), (2, u "hash"), (0, u "I"), (2, u "hashIsZero"), (0, u "Z"), (13, u "COMPACT_STRINGS"), (534, .class_ 576), (0, u "java/lang/CharSequence"), (22, u "CASE_INSENSITIVE_ORDER"), (0, u "Ljava/util/Comparator;"), (500, u "serialPersistentFields"), (0, u "[Ljava/io/ObjectStreamField;"), (0, .class_ 1104), (0, u "java/lang/String$CaseInsensitiveComparator"), (1, .class_ 1107), (0, u "java/io/Serializable"), (0, .class_ 1109), (0, u "java/lang/Comparable"), (0, .class_ 1111), (0, u "java/lang/constant/Constable"), (0, .class_ 1113), (0, u "java/lang/constant/ConstantDesc"), (2, u "serialVersionUID"), (0, u "J"), (3, u "REPL"), (0, u "C"), (2, u "LATIN1"), (1, u "UTF16")] 323

def k12m0 : Method := { name := "<init>", desc := "()V", sig := { parameters := [], returnType := none }, accessFlags := 1, code := none }
/-- java/lang/String -/
def k12 : Class := { plain "java/lang/String" (some 0) with
  accessFlags := 49
  interfaces := #[4, 3, 10, 2, 11]
  cf := some (fileOf pool12 10 #[.nestMembers #[1103]] #[{ accessFlags := 1, nameIndex := 5, descriptorIndex := 6, attributes := #[] }] 49 2 #[1106, 1108, 575, 1110, 1112] #[{ accessFlags := 18, nameIndex := 13, descriptorIndex := 14, attributes := #[] }, { accessFlags := 18, nameIndex := 17, descriptorIndex := 18, attributes := #[] }, { accessFlags := 2, nameIndex := 21, descriptorIndex := 22, attributes := #[] }, { accessFlags := 2, nameIndex := 25, descriptorIndex := 26, attributes := #[] }, { accessFlags := 26, nameIndex := 1116, descriptorIndex := 1117, attributes := #[] }, { accessFlags := 24, nameIndex := 40, descriptorIndex := 26, attributes := #[] }, { accessFlags := 26, nameIndex := 1101, descriptorIndex := 1102, attributes := #[] }, { accessFlags := 26, nameIndex := 1121, descriptorIndex := 1122, attributes := #[] }, { accessFlags := 25, nameIndex := 599, descriptorIndex := 600, attributes := #[] }, { accessFlags := 24, nameIndex := 1125, descriptorIndex := 18, attributes := #[] }, { accessFlags := 24, nameIndex := 1127, descriptorIndex := 18, attributes := #[] }])
  fields := #[{ name := "value", type := (.array .byte), accessFlags := 18, slot := 0, constantValue := 0 }, { name := "coder", type := .byte, accessFlags := 18, slot := 1, constantValue := 0 }, { name := "hash", type := .int, accessFlags := 2, slot := 2, constantValue := 0 }, { name := "hashIsZero", type := .boolean, accessFlags := 2, slot := 3, constantValue := 0 }, { name := "serialVersionUID", type := .long, accessFlags := 26, slot := 0, constantValue := 0 }, { name := "COMPACT_STRINGS", type := .boolean, accessFlags := 24, slot := 1, constantValue := 0 }, { name := "serialPersistentFields", type := (.array (.object "java/io/ObjectStreamField")), accessFlags := 26, slot := 2, constantValue := 0 }, { name := "REPL", type := .char, accessFlags := 26, slot := 3, constantValue := 0 }, { name := "CASE_INSENSITIVE_ORDER", type := (.object "java/util/Comparator"), accessFlags := 25, slot := 4, constantValue := 0 }, { name := "LATIN1", type := .byte, accessFlags := 24, slot := 5, constantValue := 0 }, { name := "UTF16", type := .byte, accessFlags := 24, slot := 6, constantValue := 0 }]
  methods := #[k12m0]
  instanceTypes := #[(.array .byte), .byte, .int, .boolean]
  staticTypes := #[.long, .boolean, (.array (.object "java/io/ObjectStreamField")), .char, (.object "java/util/Comparator"), .byte, .byte]
  resolved := Array.replicate 1451 none
  statics := none }

def pool13 : Array CpInfo := pool [(2, .class_ 4), (1, u "java/lang/Object"), (0, u "<init>"), (0, u "()V"), (35, .class_ 44), (1, u "java/util/Objects"), (0, u "requireNonNull"), (48, u "(Ljava/lang/Object;Ljava/lang/String;)Ljava/lang/Object;")] 89

def k13m0 : Method := { name := "<init>", desc := "()V", sig := { parameters := [], returnType := none }, accessFlags := 2, code := none }
def k13c1 : Code := { maxStack := 3, maxLocals := 2, code := jdk_31_method_11_code, exceptionTable := #[], attributes := #[] }
def k13m1 : Method := { name := "requireNonNull", desc := "(Ljava/lang/Object;Ljava/lang/String;)Ljava/lang/Object;", sig := { parameters := [(.object "java/lang/Object"), (.object "java/lang/String")], returnType := some (.object "java/lang/Object") }, accessFlags := 9, code := some k13c1 }
/-- java/util/Objects -/
def k13 : Class := { plain "java/util/Objects" (some 0) with
  accessFlags := 49
  interfaces := #[]
  cf := some (fileOf pool13 42 #[] #[{ accessFlags := 2, nameIndex := 5, descriptorIndex := 6, attributes := #[] }, { accessFlags := 9, nameIndex := 45, descriptorIndex := 94, attributes := #[] }] 49 2 #[] #[])
  fields := #[]
  methods := #[k13m0, k13m1]
  instanceTypes := #[]
  staticTypes := #[]
  resolved := Array.replicate 184 none
  statics := none }

def pool14 : Array CpInfo := pool [(1, .methodref 2 3), (0, .class_ 4), (0, .nameAndType 5 6), (0, u "java/lang/Object"), (0, u "<init>"), (0, u "()V"), (1, .class_ 10), (1, u "java/lang/Number"), (2, .class_ 14), (0, u "java/io/Serializable"), (0, u "serialVersionUID"), (0, u "J")] 20

def k14c0 : Code := { maxStack := 1, maxLocals := 1, code := jdk_18_method_1_code, exceptionTable := #[], attributes := #[] }
def k14m0 : Method := { name := "<init>", desc := "()V", sig := { parameters := [], returnType := none }, accessFlags := 1, code := some k14c0 }
/-- java/lang/Number -/
def k14 : Class := { plain "java/lang/Number" (some 0) with
  accessFlags := 1057
  interfaces := #[4]
  cf := some (fileOf pool14 8 #[] #[{ accessFlags := 1, nameIndex := 5, descriptorIndex := 6, attributes := #[] }] 1057 2 #[13] #[{ accessFlags := 26, nameIndex := 15, descriptorIndex := 16, attributes := #[] }])
  fields := #[{ name := "serialVersionUID", type := .long, accessFlags := 26, slot := 0, constantValue := 0 }]
  methods := #[k14m0]
  instanceTypes := #[]
  staticTypes := #[.long]
  resolved := Array.replicate 37 none
  statics := none }

def pool15 : Array CpInfo := pool [(1, .class_ 2), (0, u "java/lang/Integer"), (16, u "digits"), (0, u "[C"), (46, u "<init>"), (17, u "DigitOnes"), (0, u "[B"), (2, u "DigitTens"), (10, .nameAndType 67 101), (0, u "()V"), (85, u "valueOf"), (0, u "(I)Ljava/lang/Integer;"), (0, .class_ 190), (0, u "java/lang/Integer$IntegerCache"), (0, .fieldref 189 192), (0, .nameAndType 193 194), (0, u "high"), (0, u "I"), (0, .fieldref 189 196), (0, .nameAndType 197 198), (0, u "cache"), (0, u "[Ljava/lang/Integer;"), (0, .methodref 1 200), (0, .nameAndType 67 201), (0, u "(I)V"), (0, .methodref 203 100), (0, .class_ 204), (0, u "java/lang/Number"), (0, .fieldref 1 206), (0, .nameAndType 207 194), (0, u "value"), (94, u "TYPE"), (0, u "Ljava/lang/Class;"), (0, .class_ 305), (0, u "java/lang/Comparable"), (0, .class_ 307), (0, u "java/lang/constant/Constable"), (0, .class_ 309), (0, u "java/lang/constant/ConstantDesc"), (0, u "MIN_VALUE"), (1, u "MAX_VALUE"), (3, u "SIZE"), (1, u "BYTES"), (1, u "serialVersionUID"), (0, u "J")] 131

def k15c0 : Code := { maxStack := 3, maxLocals := 1, code := jdk_33_method_22_code, exceptionTable := #[], attributes := #[] }
def k15m0 : Method := { name := "valueOf", desc := "(I)Ljava/lang/Integer;", sig := { parameters := [.int], returnType := some (.object "java/lang/Integer") }, accessFlags := 9, code := some k15c0 }
def k15c1 : Code := { maxStack := 2, maxLocals := 2, code := jdk_33_method_23_code, exceptionTable := #[], attributes := #[] }
def k15m1 : Method := { name := "<init>", desc := "(I)V", sig := { parameters := [.int], returnType := none }, accessFlags := 1, code := some k15c1 }
/-- java/lang/Integer -/
def k15 : Class := { plain "java/lang/Integer" (some 14) with
  accessFlags := 49
  interfaces := #[3, 2, 11]
  cf := some (fileOf pool15 1 #[.nestMembers #[189]] #[{ accessFlags := 9, nameIndex := 187, descriptorIndex := 188, attributes := #[] }, { accessFlags := 1, nameIndex := 67, descriptorIndex := 201, attributes := #[] }] 49 203 #[304, 306, 308] #[{ accessFlags := 25, nameIndex := 310, descriptorIndex := 194, attributes := #[] }, { accessFlags := 25, nameIndex := 312, descriptorIndex := 194, attributes := #[] }, { accessFlags := 25, nameIndex := 302, descriptorIndex := 303, attributes := #[] }, { accessFlags := 24, nameIndex := 19, descriptorIndex := 20, attributes := #[] }, { accessFlags := 24, nameIndex := 89, descriptorIndex := 86, attributes := #[] }, { accessFlags := 24, nameIndex := 85, descriptorIndex := 86, attributes := #[] }, { accessFlags := 18, nameIndex := 207, descriptorIndex := 194, attributes := #[] }, { accessFlags := 25, nameIndex := 316, descriptorIndex := 194, attributes := #[] }, { accessFlags := 25, nameIndex := 318, descriptorIndex := 194, attributes := #[] }, { accessFlags := 26, nameIndex := 320, descriptorIndex := 321, attributes := #[] }])
  fields := #[{ name := "MIN_VALUE", type := .int, accessFlags := 25, slot := 0, constantValue := 0 }, { name := "MAX_VALUE", type := .int, accessFlags := 25, slot := 1, constantValue := 0 }, { name := "TYPE", type := (.object "java/lang/Class"), accessFlags := 25, slot := 2, constantValue := 0 }, { name := "digits", type := (.array .char), accessFlags := 24, slot := 3, constantValue := 0 }, { name := "DigitTens", type := (.array .byte), accessFlags := 24, slot := 4, constantValue := 0 }, { name := "DigitOnes", type := (.array .byte), accessFlags := 24, slot := 5, constantValue := 0 }, { name := "value", type := .int, accessFlags := 18, slot := 0, constantValue := 0 }, { name := "SIZE", type := .int, accessFlags := 25, slot := 6, constantValue := 0 }, { name := "BYTES", type := .int, accessFlags := 25, slot := 7, constantValue := 0 }, { name := "serialVersionUID", type := .long, accessFlags := 26, slot := 8, constantValue := 0 }]
  methods := #[k15m0, k15m1]
  instanceTypes := #[.int]
  staticTypes := #[.int, .int, (.object "java/lang/Class"), (.array .char), (.array .byte), (.array .byte), .int, .int, .long]
  resolved := Array.replicate 453 none
  statics := none }

def pool16 : Array CpInfo := pool [(2, .class_ 4), (1, u "java/lang/Object"), (0, u "<init>"), (0, u "()V"), (0, .class_ 8), (0, u "java/lang/Integer"), (7, .class_ 18), (1, u "java/lang/Integer$IntegerCache"), (0, u "$assertionsDisabled"), (0, u "Z"), (26, u "high"), (0, u "I"), (8, u "archivedCache"), (0, u "[Ljava/lang/Integer;"), (12, u "cache"), (0, u "low")] 27

def k16m0 : Method := { name := "<init>", desc := "()V", sig := { parameters := [], returnType := none }, accessFlags := 2, code := none }
/-- java/lang/Integer$IntegerCache -/
def k16 : Class := { plain "java/lang/Integer$IntegerCache" (some 0) with
  accessFlags := 48
  interfaces := #[]
  cf := some (fileOf pool16 16 #[.nestHost 7] #[{ accessFlags := 2, nameIndex := 5, descriptorIndex := 6, attributes := #[] }] 48 2 #[] #[{ accessFlags := 24, nameIndex := 72, descriptorIndex := 48, attributes := #[] }, { accessFlags := 24, nameIndex := 47, descriptorIndex := 48, attributes := #[] }, { accessFlags := 24, nameIndex := 71, descriptorIndex := 58, attributes := #[] }, { accessFlags := 8, nameIndex := 57, descriptorIndex := 58, attributes := #[] }, { accessFlags := 4120, nameIndex := 19, descriptorIndex := 20, attributes := #[] }])
  fields := #[{ name := "low", type := .int, accessFlags := 24, slot := 0, constantValue := 0 }, { name := "high", type := .int, accessFlags := 24, slot := 1, constantValue := 0 }, { name := "cache", type := (.array (.object "java/lang/Integer")), accessFlags := 24, slot := 2, constantValue := 0 }, { name := "archivedCache", type := (.array (.object "java/lang/Integer")), accessFlags := 8, slot := 3, constantValue := 0 }, { name := "$assertionsDisabled", type := .boolean, accessFlags := 4120, slot := 4, constantValue := 0 }]
  methods := #[k16m0]
  instanceTypes := #[]
  staticTypes := #[.int, .int, (.array (.object "java/lang/Integer")), (.array (.object "java/lang/Integer")), .boolean]
  resolved := Array.replicate 100 none
  statics := some 1 }

def pool17 : Array CpInfo := pool [(1, u "java/lang/Cloneable"), (0, .class_ 1), (0, u "java/lang/Object"), (0, .class_ 3)] 3

/-- java/lang/Cloneable -/
def k17 : Class := { plain "java/lang/Cloneable" (some 0) with
  accessFlags := 1537
  interfaces := #[]
  cf := some (fileOf pool17 2 #[] #[] 1537 4 #[] #[])
  fields := #[]
  methods := #[]
  instanceTypes := #[]
  staticTypes := #[]
  resolved := Array.replicate 8 none
  statics := none }

/-- the primitive byte -/
def k18 : Class := { plain "byte" none with kind := .primitive 'B', accessFlags := 0x411 }
/-- [B -/
def k19 : Class := { plain "[B" (some 0) with kind := .array 18 .byte, interfaces := #[17, 4], accessFlags := 1041 }

/-- the primitive int -/
def k20 : Class := { plain "int" none with kind := .primitive 'I', accessFlags := 0x411 }
/-- [I -/
def k21 : Class := { plain "[I" (some 0) with kind := .array 20 .int, interfaces := #[17, 4], accessFlags := 1041 }

/-- [Ljava/lang/Integer; -/
def k22 : Class := { plain "[Ljava/lang/Integer;" (some 0) with kind := .array 15 (.object "java/lang/Integer"), interfaces := #[17, 4], accessFlags := 1041 }

def heap : Heap := #[{ cls := 7, slots := #[.ref 259, .ref 260, .ref 261, .null], vm := .statics 7 },
  { cls := 16, slots := #[.int 0, .int 127, .ref 2, .null, .int 0], vm := .statics 16 },
  { cls := 22, slots := #[.ref 3, .ref 4, .ref 5, .ref 6, .ref 7, .ref 8, .ref 9, .ref 10, .ref 11, .ref 12, .ref 13, .ref 14, .ref 15, .ref 16, .ref 17, .ref 18, .ref 19, .ref 20, .ref 21, .ref 22, .ref 23, .ref 24, .ref 25, .ref 26, .ref 27, .ref 28, .ref 29, .ref 30, .ref 31, .ref 32, .ref 33, .ref 34, .ref 35, .ref 36, .ref 37, .ref 38, .ref 39, .ref 40, .ref 41, .ref 42, .ref 43, .ref 44, .ref 45, .ref 46, .ref 47, .ref 48, .ref 49, .ref 50, .ref 51, .ref 52, .ref 53, .ref 54, .ref 55, .ref 56, .ref 57, .ref 58, .ref 59, .ref 60, .ref 61, .ref 62, .ref 63, .ref 64, .ref 65, .ref 66, .ref 67, .ref 68, .ref 69, .ref 70, .ref 71, .ref 72, .ref 73, .ref 74, .ref 75, .ref 76, .ref 77, .ref 78, .ref 79, .ref 80, .ref 81, .ref 82, .ref 83, .ref 84, .ref 85, .ref 86, .ref 87, .ref 88, .ref 89, .ref 90, .ref 91, .ref 92, .ref 93, .ref 94, .ref 95, .ref 96, .ref 97, .ref 98, .ref 99, .ref 100, .ref 101, .ref 102, .ref 103, .ref 104, .ref 105, .ref 106, .ref 107, .ref 108, .ref 109, .ref 110, .ref 111, .ref 112, .ref 113, .ref 114, .ref 115, .ref 116, .ref 117, .ref 118, .ref 119, .ref 120, .ref 121, .ref 122, .ref 123, .ref 124, .ref 125, .ref 126, .ref 127, .ref 128, .ref 129, .ref 130, .ref 131, .ref 132, .ref 133, .ref 134, .ref 135, .ref 136, .ref 137, .ref 138, .ref 139, .ref 140, .ref 141, .ref 142, .ref 143, .ref 144, .ref 145, .ref 146, .ref 147, .ref 148, .ref 149, .ref 150, .ref 151, .ref 152, .ref 153, .ref 154, .ref 155, .ref 156, .ref 157, .ref 158, .ref 159, .ref 160, .ref 161, .ref 162, .ref 163, .ref 164, .ref 165, .ref 166, .ref 167, .ref 168, .ref 169, .ref 170, .ref 171, .ref 172, .ref 173, .ref 174, .ref 175, .ref 176, .ref 177, .ref 178, .ref 179, .ref 180, .ref 181, .ref 182, .ref 183, .ref 184, .ref 185, .ref 186, .ref 187, .ref 188, .ref 189, .ref 190, .ref 191, .ref 192, .ref 193, .ref 194, .ref 195, .ref 196, .ref 197, .ref 198, .ref 199, .ref 200, .ref 201, .ref 202, .ref 203, .ref 204, .ref 205, .ref 206, .ref 207, .ref 208, .ref 209, .ref 210, .ref 211, .ref 212, .ref 213, .ref 214, .ref 215, .ref 216, .ref 217, .ref 218, .ref 219, .ref 220, .ref 221, .ref 222, .ref 223, .ref 224, .ref 225, .ref 226, .ref 227, .ref 228, .ref 229, .ref 230, .ref 231, .ref 232, .ref 233, .ref 234, .ref 235, .ref 236, .ref 237, .ref 238, .ref 239, .ref 240, .ref 241, .ref 242, .ref 243, .ref 244, .ref 245, .ref 246, .ref 247, .ref 248, .ref 249, .ref 250, .ref 251, .ref 252, .ref 253, .ref 254, .ref 255, .ref 256, .ref 257, .ref 258], vm := .none },
  { cls := 15, slots := #[.int (-128)], vm := .none },
  { cls := 15, slots := #[.int (-127)], vm := .none },
  { cls := 15, slots := #[.int (-126)], vm := .none },
  { cls := 15, slots := #[.int (-125)], vm := .none },
  { cls := 15, slots := #[.int (-124)], vm := .none },
  { cls := 15, slots := #[.int (-123)], vm := .none },
  { cls := 15, slots := #[.int (-122)], vm := .none },
  { cls := 15, slots := #[.int (-121)], vm := .none },
  { cls := 15, slots := #[.int (-120)], vm := .none },
  { cls := 15, slots := #[.int (-119)], vm := .none },
  { cls := 15, slots := #[.int (-118)], vm := .none },
  { cls := 15, slots := #[.int (-117)], vm := .none },
  { cls := 15, slots := #[.int (-116)], vm := .none },
  { cls := 15, slots := #[.int (-115)], vm := .none },
  { cls := 15, slots := #[.int (-114)], vm := .none },
  { cls := 15, slots := #[.int (-113)], vm := .none },
  { cls := 15, slots := #[.int (-112)], vm := .none },
  { cls := 15, slots := #[.int (-111)], vm := .none },
  { cls := 15, slots := #[.int (-110)], vm := .none },
  { cls := 15, slots := #[.int (-109)], vm := .none },
  { cls := 15, slots := #[.int (-108)], vm := .none },
  { cls := 15, slots := #[.int (-107)], vm := .none },
  { cls := 15, slots := #[.int (-106)], vm := .none },
  { cls := 15, slots := #[.int (-105)], vm := .none },
  { cls := 15, slots := #[.int (-104)], vm := .none },
  { cls := 15, slots := #[.int (-103)], vm := .none },
  { cls := 15, slots := #[.int (-102)], vm := .none },
  { cls := 15, slots := #[.int (-101)], vm := .none },
  { cls := 15, slots := #[.int (-100)], vm := .none },
  { cls := 15, slots := #[.int (-99)], vm := .none },
  { cls := 15, slots := #[.int (-98)], vm := .none },
  { cls := 15, slots := #[.int (-97)], vm := .none },
  { cls := 15, slots := #[.int (-96)], vm := .none },
  { cls := 15, slots := #[.int (-95)], vm := .none },
  { cls := 15, slots := #[.int (-94)], vm := .none },
  { cls := 15, slots := #[.int (-93)], vm := .none },
  { cls := 15, slots := #[.int (-92)], vm := .none },
  { cls := 15, slots := #[.int (-91)], vm := .none },
  { cls := 15, slots := #[.int (-90)], vm := .none },
  { cls := 15, slots := #[.int (-89)], vm := .none },
  { cls := 15, slots := #[.int (-88)], vm := .none },
  { cls := 15, slots := #[.int (-87)], vm := .none },
  { cls := 15, slots := #[.int (-86)], vm := .none },
  { cls := 15, slots := #[.int (-85)], vm := .none },
  { cls := 15, slots := #[.int (-84)], vm := .none },
  { cls := 15, slots := #[.int (-83)], vm := .none },
  { cls := 15, slots := #[.int (-82)], vm := .none },
  { cls := 15, slots := #[.int (-81)], vm := .none },
  { cls := 15, slots := #[.int (-80)], vm := .none },
  { cls := 15, slots := #[.int (-79)], vm := .none },
  { cls := 15, slots := #[.int (-78)], vm := .none },
  { cls := 15, slots := #[.int (-77)], vm := .none },
  { cls := 15, slots := #[.int (-76)], vm := .none },
  { cls := 15, slots := #[.int (-75)], vm := .none },
  { cls := 15, slots := #[.int (-74)], vm := .none },
  { cls := 15, slots := #[.int (-73)], vm := .none },
  { cls := 15, slots := #[.int (-72)], vm := .none },
  { cls := 15, slots := #[.int (-71)], vm := .none },
  { cls := 15, slots := #[.int (-70)], vm := .none },
  { cls := 15, slots := #[.int (-69)], vm := .none },
  { cls := 15, slots := #[.int (-68)], vm := .none },
  { cls := 15, slots := #[.int (-67)], vm := .none },
  { cls := 15, slots := #[.int (-66)], vm := .none },
  { cls := 15, slots := #[.int (-65)], vm := .none },
  { cls := 15, slots := #[.int (-64)], vm := .none },
  { cls := 15, slots := #[.int (-63)], vm := .none },
  { cls := 15, slots := #[.int (-62)], vm := .none },
  { cls := 15, slots := #[.int (-61)], vm := .none },
  { cls := 15, slots := #[.int (-60)], vm := .none },
  { cls := 15, slots := #[.int (-59)], vm := .none },
  { cls := 15, slots := #[.int (-58)], vm := .none },
  { cls := 15, slots := #[.int (-57)], vm := .none },
  { cls := 15, slots := #[.int (-56)], vm := .none },
  { cls := 15, slots := #[.int (-55)], vm := .none },
  { cls := 15, slots := #[.int (-54)], vm := .none },
  { cls := 15, slots := #[.int (-53)], vm := .none },
  { cls := 15, slots := #[.int (-52)], vm := .none },
  { cls := 15, slots := #[.int (-51)], vm := .none },
  { cls := 15, slots := #[.int (-50)], vm := .none },
  { cls := 15, slots := #[.int (-49)], vm := .none },
  { cls := 15, slots := #[.int (-48)], vm := .none },
  { cls := 15, slots := #[.int (-47)], vm := .none },
  { cls := 15, slots := #[.int (-46)], vm := .none },
  { cls := 15, slots := #[.int (-45)], vm := .none },
  { cls := 15, slots := #[.int (-44)], vm := .none },
  { cls := 15, slots := #[.int (-43)], vm := .none },
  { cls := 15, slots := #[.int (-42)], vm := .none },
  { cls := 15, slots := #[.int (-41)], vm := .none },
  { cls := 15, slots := #[.int (-40)], vm := .none },
  { cls := 15, slots := #[.int (-39)], vm := .none },
  { cls := 15, slots := #[.int (-38)], vm := .none },
  { cls := 15, slots := #[.int (-37)], vm := .none },
  { cls := 15, slots := #[.int (-36)], vm := .none },
  { cls := 15, slots := #[.int (-35)], vm := .none },
  { cls := 15, slots := #[.int (-34)], vm := .none },
  { cls := 15, slots := #[.int (-33)], vm := .none },
  { cls := 15, slots := #[.int (-32)], vm := .none },
  { cls := 15, slots := #[.int (-31)], vm := .none },
  { cls := 15, slots := #[.int (-30)], vm := .none },
  { cls := 15, slots := #[.int (-29)], vm := .none },
  { cls := 15, slots := #[.int (-28)], vm := .none },
  { cls := 15, slots := #[.int (-27)], vm := .none },
  { cls := 15, slots := #[.int (-26)], vm := .none },
  { cls := 15, slots := #[.int (-25)], vm := .none },
  { cls := 15, slots := #[.int (-24)], vm := .none },
  { cls := 15, slots := #[.int (-23)], vm := .none },
  { cls := 15, slots := #[.int (-22)], vm := .none },
  { cls := 15, slots := #[.int (-21)], vm := .none },
  { cls := 15, slots := #[.int (-20)], vm := .none },
  { cls := 15, slots := #[.int (-19)], vm := .none },
  { cls := 15, slots := #[.int (-18)], vm := .none },
  { cls := 15, slots := #[.int (-17)], vm := .none },
  { cls := 15, slots := #[.int (-16)], vm := .none },
  { cls := 15, slots := #[.int (-15)], vm := .none },
  { cls := 15, slots := #[.int (-14)], vm := .none },
  { cls := 15, slots := #[.int (-13)], vm := .none },
  { cls := 15, slots := #[.int (-12)], vm := .none },
  { cls := 15, slots := #[.int (-11)], vm := .none },
  { cls := 15, slots := #[.int (-10)], vm := .none },
  { cls := 15, slots := #[.int (-9)], vm := .none },
  { cls := 15, slots := #[.int (-8)], vm := .none },
  { cls := 15, slots := #[.int (-7)], vm := .none },
  { cls := 15, slots := #[.int (-6)], vm := .none },
  { cls := 15, slots := #[.int (-5)], vm := .none },
  { cls := 15, slots := #[.int (-4)], vm := .none },
  { cls := 15, slots := #[.int (-3)], vm := .none },
  { cls := 15, slots := #[.int (-2)], vm := .none },
  { cls := 15, slots := #[.int (-1)], vm := .none },
  { cls := 15, slots := #[.int 0], vm := .none },
  { cls := 15, slots := #[.int 1], vm := .none },
  { cls := 15, slots := #[.int 2], vm := .none },
  { cls := 15, slots := #[.int 3], vm := .none },
  { cls := 15, slots := #[.int 4], vm := .none },
  { cls := 15, slots := #[.int 5], vm := .none },
  { cls := 15, slots := #[.int 6], vm := .none },
  { cls := 15, slots := #[.int 7], vm := .none },
  { cls := 15, slots := #[.int 8], vm := .none },
  { cls := 15, slots := #[.int 9], vm := .none },
  { cls := 15, slots := #[.int 10], vm := .none },
  { cls := 15, slots := #[.int 11], vm := .none },
  { cls := 15, slots := #[.int 12], vm := .none },
  { cls := 15, slots := #[.int 13], vm := .none },
  { cls := 15, slots := #[.int 14], vm := .none },
  { cls := 15, slots := #[.int 15], vm := .none },
  { cls := 15, slots := #[.int 16], vm := .none },
  { cls := 15, slots := #[.int 17], vm := .none },
  { cls := 15, slots := #[.int 18], vm := .none },
  { cls := 15, slots := #[.int 19], vm := .none },
  { cls := 15, slots := #[.int 20], vm := .none },
  { cls := 15, slots := #[.int 21], vm := .none },
  { cls := 15, slots := #[.int 22], vm := .none },
  { cls := 15, slots := #[.int 23], vm := .none },
  { cls := 15, slots := #[.int 24], vm := .none },
  { cls := 15, slots := #[.int 25], vm := .none },
  { cls := 15, slots := #[.int 26], vm := .none },
  { cls := 15, slots := #[.int 27], vm := .none },
  { cls := 15, slots := #[.int 28], vm := .none },
  { cls := 15, slots := #[.int 29], vm := .none },
  { cls := 15, slots := #[.int 30], vm := .none },
  { cls := 15, slots := #[.int 31], vm := .none },
  { cls := 15, slots := #[.int 32], vm := .none },
  { cls := 15, slots := #[.int 33], vm := .none },
  { cls := 15, slots := #[.int 34], vm := .none },
  { cls := 15, slots := #[.int 35], vm := .none },
  { cls := 15, slots := #[.int 36], vm := .none },
  { cls := 15, slots := #[.int 37], vm := .none },
  { cls := 15, slots := #[.int 38], vm := .none },
  { cls := 15, slots := #[.int 39], vm := .none },
  { cls := 15, slots := #[.int 40], vm := .none },
  { cls := 15, slots := #[.int 41], vm := .none },
  { cls := 15, slots := #[.int 42], vm := .none },
  { cls := 15, slots := #[.int 43], vm := .none },
  { cls := 15, slots := #[.int 44], vm := .none },
  { cls := 15, slots := #[.int 45], vm := .none },
  { cls := 15, slots := #[.int 46], vm := .none },
  { cls := 15, slots := #[.int 47], vm := .none },
  { cls := 15, slots := #[.int 48], vm := .none },
  { cls := 15, slots := #[.int 49], vm := .none },
  { cls := 15, slots := #[.int 50], vm := .none },
  { cls := 15, slots := #[.int 51], vm := .none },
  { cls := 15, slots := #[.int 52], vm := .none },
  { cls := 15, slots := #[.int 53], vm := .none },
  { cls := 15, slots := #[.int 54], vm := .none },
  { cls := 15, slots := #[.int 55], vm := .none },
  { cls := 15, slots := #[.int 56], vm := .none },
  { cls := 15, slots := #[.int 57], vm := .none },
  { cls := 15, slots := #[.int 58], vm := .none },
  { cls := 15, slots := #[.int 59], vm := .none },
  { cls := 15, slots := #[.int 60], vm := .none },
  { cls := 15, slots := #[.int 61], vm := .none },
  { cls := 15, slots := #[.int 62], vm := .none },
  { cls := 15, slots := #[.int 63], vm := .none },
  { cls := 15, slots := #[.int 64], vm := .none },
  { cls := 15, slots := #[.int 65], vm := .none },
  { cls := 15, slots := #[.int 66], vm := .none },
  { cls := 15, slots := #[.int 67], vm := .none },
  { cls := 15, slots := #[.int 68], vm := .none },
  { cls := 15, slots := #[.int 69], vm := .none },
  { cls := 15, slots := #[.int 70], vm := .none },
  { cls := 15, slots := #[.int 71], vm := .none },
  { cls := 15, slots := #[.int 72], vm := .none },
  { cls := 15, slots := #[.int 73], vm := .none },
  { cls := 15, slots := #[.int 74], vm := .none },
  { cls := 15, slots := #[.int 75], vm := .none },
  { cls := 15, slots := #[.int 76], vm := .none },
  { cls := 15, slots := #[.int 77], vm := .none },
  { cls := 15, slots := #[.int 78], vm := .none },
  { cls := 15, slots := #[.int 79], vm := .none },
  { cls := 15, slots := #[.int 80], vm := .none },
  { cls := 15, slots := #[.int 81], vm := .none },
  { cls := 15, slots := #[.int 82], vm := .none },
  { cls := 15, slots := #[.int 83], vm := .none },
  { cls := 15, slots := #[.int 84], vm := .none },
  { cls := 15, slots := #[.int 85], vm := .none },
  { cls := 15, slots := #[.int 86], vm := .none },
  { cls := 15, slots := #[.int 87], vm := .none },
  { cls := 15, slots := #[.int 88], vm := .none },
  { cls := 15, slots := #[.int 89], vm := .none },
  { cls := 15, slots := #[.int 90], vm := .none },
  { cls := 15, slots := #[.int 91], vm := .none },
  { cls := 15, slots := #[.int 92], vm := .none },
  { cls := 15, slots := #[.int 93], vm := .none },
  { cls := 15, slots := #[.int 94], vm := .none },
  { cls := 15, slots := #[.int 95], vm := .none },
  { cls := 15, slots := #[.int 96], vm := .none },
  { cls := 15, slots := #[.int 97], vm := .none },
  { cls := 15, slots := #[.int 98], vm := .none },
  { cls := 15, slots := #[.int 99], vm := .none },
  { cls := 15, slots := #[.int 100], vm := .none },
  { cls := 15, slots := #[.int 101], vm := .none },
  { cls := 15, slots := #[.int 102], vm := .none },
  { cls := 15, slots := #[.int 103], vm := .none },
  { cls := 15, slots := #[.int 104], vm := .none },
  { cls := 15, slots := #[.int 105], vm := .none },
  { cls := 15, slots := #[.int 106], vm := .none },
  { cls := 15, slots := #[.int 107], vm := .none },
  { cls := 15, slots := #[.int 108], vm := .none },
  { cls := 15, slots := #[.int 109], vm := .none },
  { cls := 15, slots := #[.int 110], vm := .none },
  { cls := 15, slots := #[.int 111], vm := .none },
  { cls := 15, slots := #[.int 112], vm := .none },
  { cls := 15, slots := #[.int 113], vm := .none },
  { cls := 15, slots := #[.int 114], vm := .none },
  { cls := 15, slots := #[.int 115], vm := .none },
  { cls := 15, slots := #[.int 116], vm := .none },
  { cls := 15, slots := #[.int 117], vm := .none },
  { cls := 15, slots := #[.int 118], vm := .none },
  { cls := 15, slots := #[.int 119], vm := .none },
  { cls := 15, slots := #[.int 120], vm := .none },
  { cls := 15, slots := #[.int 121], vm := .none },
  { cls := 15, slots := #[.int 122], vm := .none },
  { cls := 15, slots := #[.int 123], vm := .none },
  { cls := 15, slots := #[.int 124], vm := .none },
  { cls := 15, slots := #[.int 125], vm := .none },
  { cls := 15, slots := #[.int 126], vm := .none },
  { cls := 15, slots := #[.int 127], vm := .none },
  { cls := 7, slots := #[.null, .int 0, .int 0, .null], vm := .none },
  { cls := 7, slots := #[.null, .int 1, .int 0, .null], vm := .none },
  { cls := 7, slots := #[.null, .int 2, .int 0, .null], vm := .none }]
def classes : Array Class := #[k0, k1, k2, k3, k4, k5, k6, k7, k8, k9, k10, k11, k12, k13, k14, k15, k16, k17, k18, k19, k20, k21, k22]
def interned : List (Array UInt16 × Addr) := []
def slotsUsed : Nat := 533
def theMethod : MethodId := ⟨1, 2⟩
def args0 : Array Value := #[.int 5, .int 1, .long 5, .int 3, .int 2, .long 7]
def aboutOver (below : List Frame) : State where
  vm := { classes := classes, interned := interned.toArray }
  heap := heap
  slotsUsed := slotsUsed
  threads := #[{ frames := .invoking theMethod args0 :: below }]
def below0 : List Frame := [.native { method := ⟨0, 0⟩, args := #[] }]
def about1 : State := aboutOver below0
def p0 : Program := .bare "" "" ""
def e0 : Env := launch0.env 0 0 0
theorem w_frames : about1.frames = Frame.invoking theMethod args0 :: below0 := rfl
set_option maxRecDepth 65536 in
theorem w_args : argsFit about1.vm theMethod args0 = true := by decide +kernel
set_option maxRecDepth 65536 in
theorem w_heap : heapFits about1 = true := by decide +kernel
set_option maxRecDepth 65536 in
theorem w_runnable : about1.curStatus? = some .runnable := by decide +kernel
set_option maxRecDepth 65536 in
theorem w_alone : about1.alone = true := by decide +kernel
set_option maxRecDepth 65536 in
theorem w_named : about1.methodNamed? x = some theMethod := by decide +kernel
set_option maxRecDepth 65536 in
theorem w_hears : about1.hears theMethod below0 = true := by decide +kernel
set_option maxRecDepth 65536 in
theorem w_ripe : about1.ripe theMethod args0 below0 = true := by decide +kernel
theorem w_running : about1.status = .running := rfl
set_option maxRecDepth 65536 in
theorem w_room : about1.hasRoom e0.platform room_1 = true :=
  launch0.hasRoom_least _ room_1 (by decide +kernel) (by decide +kernel) (by decide +kernel) (by decide +kernel) (by decide +kernel) (by decide +kernel)
theorem allAtoms_all (ts : List Jvm.Cond) (a : Array Jvm.Value) (st : Jvm.State) : (allAtoms ts).before a st = ts.all (fun c => c.before a st) := by
  induction ts with
  | nil => rfl
  | cons c t ih =>
    show (Jvm.Cond.and c (allAtoms t)).before a st = _
    rw [Jvm.Cond.before_and, ih, List.all_cons]
def words1 : List Jvm.Cond := Jvm.Cond.code x code maxLocals ret :: tables_1
/-- a 'code' word, met by the world's own term for the bytes: nothing is compared byte by byte -/
theorem code_word {y : MethodName} {bytes : ByteArray} {mx : Nat} {rt : Option FieldType} {a : Array Value} {s : State} {m : MethodId} {meth : Method} {c : Code} (h1 : s.methodNamed? y = some m) (h2 : s.vm.method? m = some meth) (h3 : meth.code = some c) (h4 : c.code = bytes)
    (h5 : (c.maxLocals == mx && c.exceptionTable.isEmpty && decide (c.maxStack ≤ mostOperands) && decide (meth.sig.returnType = rt) && !meth.locks && decide (parseMethodDescriptor y.desc = some meth.sig)) = true) : (Jvm.Cond.code y bytes mx rt).before a s = true := by
  simp only [Bool.and_eq_true, beq_iff_eq, Bool.not_eq_true', decide_eq_true_eq] at h5
  obtain ⟨⟨⟨⟨⟨g1, g2⟩, g3⟩, g4⟩, g5⟩, g6⟩ := h5
  simp [Cond.before, Cond.holds, Cond.value, h1, h2, h3, h4, g1, g2, g3, g4, g5, g6]
def isCode : Jvm.Cond → Bool
  | .code _ _ _ _ => true
  | _ => false
theorem all_split {L : List Jvm.Cond} {P : Jvm.Cond → Bool} (h1 : L.all (fun c => isCode c || P c) = true) (h2 : ∀ c ∈ L.filter isCode, P c = true) : L.all P = true := by
  refine List.all_eq_true.mpr fun c hc => ?_
  have h := List.all_eq_true.mp h1 c hc
  rcases Bool.eq_false_or_eq_true (isCode c) with hi | hi
  · exact h2 c (List.mem_filter.mpr ⟨hc, hi⟩)
  · simpa [hi] using h
set_option maxRecDepth 65536 in
theorem w_c0 : (Jvm.Cond.code x code maxLocals ret).before args0 about1 = true := code_word (m := ⟨1, 2⟩) (meth := k1m2) (c := k1c2) (by decide +kernel) rfl rfl rfl (by decide +kernel)
set_option maxRecDepth 65536 in
theorem w_c1 : (Jvm.Cond.code ({ cls := "com/example/procord/procord/election/ElectionMessageEqualsPinLaw", name := "kindOf", desc := "(I)Lcom/example/procord/procord/election/ElectionMessage$Kind;" } : Jvm.MethodName) method_2_code (2 : Nat) (Option.some (Jvm.ClassFile.FieldType.object "com/example/procord/procord/election/ElectionMessage$Kind"))).before args0 about1 = true := code_word (m := ⟨1, 1⟩) (meth := k1m1) (c := k1c1) (by decide +kernel) rfl rfl rfl (by decide +kernel)
set_option maxRecDepth 65536 in
theorem w_c2 : (Jvm.Cond.code ({ cls := "com/example/procord/procord/election/ElectionMessage", name := "<init>", desc := "(IILcom/example/procord/procord/election/ElectionMessage$Kind;J)V" } : Jvm.MethodName) prog_8_method_1_code (6 : Nat) (Option.none : Option Jvm.ClassFile.FieldType)).before args0 about1 = true := code_word (m := ⟨9, 0⟩) (meth := k9m0) (c := k9c0) (by decide +kernel) rfl rfl rfl (by decide +kernel)
set_option maxRecDepth 65536 in
theorem w_c3 : (Jvm.Cond.code ({ cls := "java/lang/Object", name := "<init>", desc := "()V" } : Jvm.MethodName) object_method_1_code (1 : Nat) (Option.none : Option Jvm.ClassFile.FieldType)).before args0 about1 = true := code_word (m := ⟨0, 0⟩) (meth := k0m0) (c := k0c0) (by decide +kernel) rfl rfl rfl (by decide +kernel)
set_option maxRecDepth 65536 in
theorem w_c4 : (Jvm.Cond.code ({ cls := "com/example/procord/procord/message/Message", name := "checkEnds", desc := "(II)V" } : Jvm.MethodName) prog_47_method_5_code (2 : Nat) (Option.none : Option Jvm.ClassFile.FieldType)).before args0 about1 = true := code_word (m := ⟨8, 0⟩) (meth := k8m0) (c := k8c0) (by decide +kernel) rfl rfl rfl (by decide +kernel)
set_option maxRecDepth 65536 in
theorem w_c5 : (Jvm.Cond.code ({ cls := "java/util/Objects", name := "requireNonNull", desc := "(Ljava/lang/Object;Ljava/lang/String;)Ljava/lang/Object;" } : Jvm.MethodName) jdk_31_method_11_code (2 : Nat) (Option.some (Jvm.ClassFile.FieldType.object "java/lang/Object"))).before args0 about1 = true := code_word (m := ⟨13, 1⟩) (meth := k13m1) (c := k13c1) (by decide +kernel) rfl rfl rfl (by decide +kernel)
set_option maxRecDepth 65536 in
theorem w_c6 : (Jvm.Cond.code ({ cls := "java/lang/Integer", name := "valueOf", desc := "(I)Ljava/lang/Integer;" } : Jvm.MethodName) jdk_33_method_22_code (1 : Nat) (Option.some (Jvm.ClassFile.FieldType.object "java/lang/Integer"))).before args0 about1 = true := code_word (m := ⟨15, 0⟩) (meth := k15m0) (c := k15c0) (by decide +kernel) rfl rfl rfl (by decide +kernel)
set_option maxRecDepth 65536 in
theorem w_c7 : (Jvm.Cond.code ({ cls := "com/example/procord/procord/election/ElectionMessage", name := "equals", desc := "(Ljava/lang/Object;)Z" } : Jvm.MethodName) prog_8_method_7_code (3 : Nat) (Option.some Jvm.ClassFile.FieldType.boolean)).before args0 about1 = true := code_word (m := ⟨9, 1⟩) (meth := k9m1) (c := k9c1) (by decide +kernel) rfl rfl rfl (by decide +kernel)
set_option maxRecDepth 65536 in
theorem w_c8 : (Jvm.Cond.code ({ cls := "java/lang/Integer", name := "<init>", desc := "(I)V" } : Jvm.MethodName) jdk_33_method_23_code (2 : Nat) (Option.none : Option Jvm.ClassFile.FieldType)).before args0 about1 = true := code_word (m := ⟨15, 1⟩) (meth := k15m1) (c := k15c1) (by decide +kernel) rfl rfl rfl (by decide +kernel)
set_option maxRecDepth 65536 in
theorem w_c9 : (Jvm.Cond.code ({ cls := "java/lang/Number", name := "<init>", desc := "()V" } : Jvm.MethodName) jdk_18_method_1_code (1 : Nat) (Option.none : Option Jvm.ClassFile.FieldType)).before args0 about1 = true := code_word (m := ⟨14, 0⟩) (meth := k14m0) (c := k14c0) (by decide +kernel) rfl rfl rfl (by decide +kernel)
def codes1 : List Jvm.Cond := [Jvm.Cond.code x code maxLocals ret, Jvm.Cond.code ({ cls := "com/example/procord/procord/election/ElectionMessageEqualsPinLaw", name := "kindOf", desc := "(I)Lcom/example/procord/procord/election/ElectionMessage$Kind;" } : Jvm.MethodName) method_2_code (2 : Nat) (Option.some (Jvm.ClassFile.FieldType.object "com/example/procord/procord/election/ElectionMessage$Kind")), Jvm.Cond.code ({ cls := "com/example/procord/procord/election/ElectionMessage", name := "<init>", desc := "(IILcom/example/procord/procord/election/ElectionMessage$Kind;J)V" } : Jvm.MethodName) prog_8_method_1_code (6 : Nat) (Option.none : Option Jvm.ClassFile.FieldType), Jvm.Cond.code ({ cls := "java/lang/Object", name := "<init>", desc := "()V" } : Jvm.MethodName) object_method_1_code (1 : Nat) (Option.none : Option Jvm.ClassFile.FieldType), Jvm.Cond.code ({ cls := "com/example/procord/procord/message/Message", name := "checkEnds", desc := "(II)V" } : Jvm.MethodName) prog_47_method_5_code (2 : Nat) (Option.none : Option Jvm.ClassFile.FieldType), Jvm.Cond.code ({ cls := "java/util/Objects", name := "requireNonNull", desc := "(Ljava/lang/Object;Ljava/lang/String;)Ljava/lang/Object;" } : Jvm.MethodName) jdk_31_method_11_code (2 : Nat) (Option.some (Jvm.ClassFile.FieldType.object "java/lang/Object")), Jvm.Cond.code ({ cls := "java/lang/Integer", name := "valueOf", desc := "(I)Ljava/lang/Integer;" } : Jvm.MethodName) jdk_33_method_22_code (1 : Nat) (Option.some (Jvm.ClassFile.FieldType.object "java/lang/Integer")), Jvm.Cond.code ({ cls := "com/example/procord/procord/election/ElectionMessage", name := "equals", desc := "(Ljava/lang/Object;)Z" } : Jvm.MethodName) prog_8_method_7_code (3 : Nat) (Option.some Jvm.ClassFile.FieldType.boolean), Jvm.Cond.code ({ cls := "java/lang/Integer", name := "<init>", desc := "(I)V" } : Jvm.MethodName) jdk_33_method_23_code (2 : Nat) (Option.none : Option Jvm.ClassFile.FieldType), Jvm.Cond.code ({ cls := "java/lang/Number", name := "<init>", desc := "()V" } : Jvm.MethodName) jdk_18_method_1_code (1 : Nat) (Option.none : Option Jvm.ClassFile.FieldType)]
set_option maxRecDepth 65536 in
theorem codes_eq : words1.filter isCode = codes1 := rfl
theorem w_codes : ∀ c ∈ words1.filter isCode, c.before args0 about1 = true := by
  rw [codes_eq]
  intro c hc
  simp only [codes1, List.mem_cons, List.not_mem_nil, or_false] at hc
  rcases hc with rfl | rfl | rfl | rfl | rfl | rfl | rfl | rfl | rfl | rfl
  · exact w_c0
  · exact w_c1
  · exact w_c2
  · exact w_c3
  · exact w_c4
  · exact w_c5
  · exact w_c6
  · exact w_c7
  · exact w_c8
  · exact w_c9
set_option maxRecDepth 65536 in
theorem w_t1 : (words1.take 24).all (fun c => isCode c || c.before args0 about1) = true := by decide +kernel
set_option maxRecDepth 65536 in
theorem w_t2 : ((words1.drop 24).take 24).all (fun c => isCode c || c.before args0 about1) = true := by decide +kernel
set_option maxRecDepth 65536 in
theorem w_t3 : (((words1.drop 24).drop 24).take 24).all (fun c => isCode c || c.before args0 about1) = true := by decide +kernel
set_option maxRecDepth 65536 in
theorem w_t4 : (((words1.drop 24).drop 24).drop 24).all (fun c => isCode c || c.before args0 about1) = true := by decide +kernel
theorem w_tables : (allAtoms (Jvm.Cond.code x code maxLocals ret :: tables_1)).before args0 about1 = true := by
  rw [allAtoms_all]
  show words1.all (fun c => c.before args0 about1) = true
  refine all_split ?_ w_codes
  rw [← List.take_append_drop 24 words1, List.all_append, w_t1, ← List.take_append_drop 24 (words1.drop 24), List.all_append, w_t2, ← List.take_append_drop 24 ((words1.drop 24).drop 24), List.all_append, w_t3, w_t4]
  rfl
set_option maxRecDepth 65536 in
theorem w_rest : rest_1_c.before args0 about1 = true := by decide +kernel
set_option maxRecDepth 65536 in
theorem w_case : (Jvm.Cond.and given_1 narrow_1).before args0 about1 = true := by decide +kernel
theorem w_applies : (headSpec (Jvm.Cond.code x code maxLocals ret :: tables_1) room_1).applies x e0.platform about1 = true :=
  (Spec.applies_iff w_frames).mpr ⟨w_running, w_runnable, w_alone, w_named, w_hears, w_ripe, w_room, w_tables⟩
theorem atStart : AtStart classFile x code maxLocals ret World_1 tables_1 room_1 Calls_1 rest_1 Pre_1 launch0 p0 e0 about1 theMethod args0 below0 :=
  ⟨lists_1, trivial, launch0.admits_env _ _ _, launch0.least_env, fairChoices_fair.cas, fairChoices_fair.clock, w_frames, w_args, w_heap, w_applies, trivial, w_rest, w_case⟩
end start1
theorem witness_1 : WitnessClaimed_1 := ⟨start1.p0, start1.e0, start1.about1, start1.theMethod, start1.args0, start1.below0, start1.atStart⟩
end Jvm.Pilot.@@N@@
