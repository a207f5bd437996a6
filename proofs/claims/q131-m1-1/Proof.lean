import JvmDerived
import JvmDerived.Pilot.@@N@@Statement
import JvmDerived.Pilot.@@N@@Code
set_option linter.unusedVariables false
set_option linter.unusedSimpArgs false
namespace Jvm.Pilot.@@N@@
open Jvm Jvm.ClassFile Sem Op Lib Jvm.Free Jvm.Stand Jvm.LawKit Jvm.RoadKit Bundle Jvm.Pilot.@@N@@.Jvm.D
/-- the run stands at T' as it stood at T: the heap is the same -/
def Nx {p : Program} {l : Launch} {e : Env} {R : Room} {s : State} {m : MethodId} {args : Array Value} {below : List Frame} {meth : Method} {c : Code} {T : State} {locs : List Loc} {cells slots : Nat} (X : Stand p l e R s m args below meth c T locs cells slots) (T' : State) : Prop := Stand p l e R s m args below meth c T' locs cells slots ∧ T'.heap = T.heap
theorem lq_eq {x y : Int64} (h : x = y) : lcmpW x y = 0 := (lcW x y).trans ((lc_eq x y).mpr h)
theorem lq_ne {x y : Int64} (h : ¬ x = y) : ¬ lcmpW x y = 0 := fun q => h ((lc_eq x y).mp ((lcW x y).symm.trans q))
theorem lq_lt {x y : Int64} (h : x < y) : lcmpW x y < 0 := by rw [lcW]; exact (lc_lt x y).mpr h
theorem lq_nlt {x y : Int64} (h : ¬ x < y) : ¬ lcmpW x y < 0 := by rw [lcW]; exact fun q => h ((lc_lt x y).mp q)
theorem lq_gt {x y : Int64} (h : y < x) : 0 < lcmpW x y := by rw [lcW]; exact (lc_gt x y).mpr h
theorem lq_ngt {x y : Int64} (h : ¬ y < x) : ¬ 0 < lcmpW x y := by rw [lcW]; exact fun q => h ((lc_gt x y).mp q)
theorem own_eqI {args : Array Value} {first s : State} {o : Option Outcome} {idx : List Nat} {t : Term} {k : Int32} (h : (Jvm.Cond.eq t (.int k)).value args first o s idx = some true) : t.eval args first o idx s = some (.int k) := by
  simp only [Cond.value, Term.eval] at h
  cases ht : t.eval args first o idx s with
  | none => simp [ht] at h
  | some x => cases x <;> simp [ht] at h ⊢; exact h
theorem own_eqL {args : Array Value} {first s : State} {o : Option Outcome} {idx : List Nat} {t : Term} {k : Int64} (h : (Jvm.Cond.eq t (.long k)).value args first o s idx = some true) : t.eval args first o idx s = some (.long k) := by
  simp only [Cond.value, Term.eval] at h
  cases ht : t.eval args first o idx s with
  | none => simp [ht] at h
  | some x => cases x <;> simp [ht] at h ⊢; exact h
abbrev jv (x : Int64) : Slot := .val (.long x)
theorem y_iloadN {tb : Tables} [Ours tb] {e : Env} {below : List Frame} {T target : State} {m : MethodId} {c : Code} (h : At T m c below) (hx : tb.exec = Jvm.exec) {pc pc' : Nat} {L : Array Slot} {S : List Value} {k : Fin 4} {v : Int32} (hd : decode c.code pc = .ok (.iload_n k, 1)) (hl : L[k.val]? = some (.val (.int v))) (hp : pc + 1 = pc') (hr : Steps tb e below (T.setTop (mkF m pc' L (.int v :: S))) target) : Steps tb e below (T.setTop (mkF m pc L S)) target := by subst hp; exact XS.iloadN h hx rfl hd hl hr
theorem y_lloadN {tb : Tables} [Ours tb] {e : Env} {below : List Frame} {T target : State} {m : MethodId} {c : Code} (h : At T m c below) (hx : tb.exec = Jvm.exec) {pc pc' : Nat} {L : Array Slot} {S : List Value} {k : Fin 4} {v : Int64} (hd : decode c.code pc = .ok (.lload_n k, 1)) (hl : L[k.val]? = some (.val (.long v))) (hp : pc + 1 = pc') (hr : Steps tb e below (T.setTop (mkF m pc' L (.long v :: S))) target) : Steps tb e below (T.setTop (mkF m pc L S)) target := by subst hp; exact XS.lloadN h hx rfl hd hl hr
theorem y_aloadN {tb : Tables} [Ours tb] {e : Env} {below : List Frame} {T target : State} {m : MethodId} {c : Code} (h : At T m c below) (hx : tb.exec = Jvm.exec) {pc pc' : Nat} {L : Array Slot} {S : List Value} {k : Fin 4} {v : Value} (hd : decode c.code pc = .ok (.aload_n k, 1)) (hl : L[k.val]? = some (.val v)) (hv : v.isRef = true) (hp : pc + 1 = pc') (hr : Steps tb e below (T.setTop (mkF m pc' L (v :: S))) target) : Steps tb e below (T.setTop (mkF m pc L S)) target := by subst hp; exact XS.aloadN h hx rfl hd hl hv hr
theorem y_istoreN {tb : Tables} [Ours tb] {e : Env} {below : List Frame} {T target : State} {m : MethodId} {c : Code} (h : At T m c below) (hx : tb.exec = Jvm.exec) {pc pc' : Nat} {L : Array Slot} {S : List Value} {k : Fin 4} {v : Int32} {l' : Array Slot} (hd : decode c.code pc = .ok (.istore_n k, 1)) (hl : storeLocals L k.val (.int v) = some l') (hp : pc + 1 = pc') (hr : Steps tb e below (T.setTop (mkF m pc' l' S)) target) : Steps tb e below (T.setTop (mkF m pc L (.int v :: S))) target := by subst hp; exact XS.istoreN h hx rfl hd rfl hl hr
theorem y_lstoreN {tb : Tables} [Ours tb] {e : Env} {below : List Frame} {T target : State} {m : MethodId} {c : Code} (h : At T m c below) (hx : tb.exec = Jvm.exec) {pc pc' : Nat} {L : Array Slot} {S : List Value} {k : Fin 4} {v : Int64} {l' : Array Slot} (hd : decode c.code pc = .ok (.lstore_n k, 1)) (hl : storeLocals L k.val (.long v) = some l') (hp : pc + 1 = pc') (hr : Steps tb e below (T.setTop (mkF m pc' l' S)) target) : Steps tb e below (T.setTop (mkF m pc L (.long v :: S))) target := by subst hp; exact XS.lstoreN h hx rfl hd rfl hl hr
theorem y_astoreN {tb : Tables} [Ours tb] {e : Env} {below : List Frame} {T target : State} {m : MethodId} {c : Code} (h : At T m c below) (hx : tb.exec = Jvm.exec) {pc pc' : Nat} {L : Array Slot} {S : List Value} {k : Fin 4} {v : Value} {l' : Array Slot} (hd : decode c.code pc = .ok (.astore_n k, 1)) (hv : v.isRef = true) (hl : storeLocals L k.val v = some l') (hp : pc + 1 = pc') (hr : Steps tb e below (T.setTop (mkF m pc' l' S)) target) : Steps tb e below (T.setTop (mkF m pc L (v :: S))) target := by subst hp; exact XS.astoreN h hx rfl hd rfl hv hl hr
theorem y_iload {tb : Tables} [Ours tb] {e : Env} {below : List Frame} {T target : State} {m : MethodId} {c : Code} (h : At T m c below) (hx : tb.exec = Jvm.exec) {pc pc' : Nat} {L : Array Slot} {S : List Value} {k : Nat} {v : Int32} (hd : decode c.code pc = .ok (.iload k, 2)) (hl : L[k]? = some (.val (.int v))) (hp : pc + 2 = pc') (hr : Steps tb e below (T.setTop (mkF m pc' L (.int v :: S))) target) : Steps tb e below (T.setTop (mkF m pc L S)) target := by subst hp; exact XS.iload h hx rfl hd hl hr
theorem y_lload {tb : Tables} [Ours tb] {e : Env} {below : List Frame} {T target : State} {m : MethodId} {c : Code} (h : At T m c below) (hx : tb.exec = Jvm.exec) {pc pc' : Nat} {L : Array Slot} {S : List Value} {k : Nat} {v : Int64} (hd : decode c.code pc = .ok (.lload k, 2)) (hl : L[k]? = some (.val (.long v))) (hp : pc + 2 = pc') (hr : Steps tb e below (T.setTop (mkF m pc' L (.long v :: S))) target) : Steps tb e below (T.setTop (mkF m pc L S)) target := by subst hp; exact XS.lload h hx rfl hd hl hr
theorem y_aload {tb : Tables} [Ours tb] {e : Env} {below : List Frame} {T target : State} {m : MethodId} {c : Code} (h : At T m c below) (hx : tb.exec = Jvm.exec) {pc pc' : Nat} {L : Array Slot} {S : List Value} {k : Nat} {v : Value} (hd : decode c.code pc = .ok (.aload k, 2)) (hl : L[k]? = some (.val v)) (hv : v.isRef = true) (hp : pc + 2 = pc') (hr : Steps tb e below (T.setTop (mkF m pc' L (v :: S))) target) : Steps tb e below (T.setTop (mkF m pc L S)) target := by subst hp; exact XS.aload h hx rfl hd hl hv hr
theorem y_istore {tb : Tables} [Ours tb] {e : Env} {below : List Frame} {T target : State} {m : MethodId} {c : Code} (h : At T m c below) (hx : tb.exec = Jvm.exec) {pc pc' : Nat} {L : Array Slot} {S : List Value} {k : Nat} {v : Int32} {l' : Array Slot} (hd : decode c.code pc = .ok (.istore k, 2)) (hl : storeLocals L k (.int v) = some l') (hp : pc + 2 = pc') (hr : Steps tb e below (T.setTop (mkF m pc' l' S)) target) : Steps tb e below (T.setTop (mkF m pc L (.int v :: S))) target := by subst hp; exact XS.istore h hx rfl hd rfl hl hr
theorem y_lstore {tb : Tables} [Ours tb] {e : Env} {below : List Frame} {T target : State} {m : MethodId} {c : Code} (h : At T m c below) (hx : tb.exec = Jvm.exec) {pc pc' : Nat} {L : Array Slot} {S : List Value} {k : Nat} {v : Int64} {l' : Array Slot} (hd : decode c.code pc = .ok (.lstore k, 2)) (hl : storeLocals L k (.long v) = some l') (hp : pc + 2 = pc') (hr : Steps tb e below (T.setTop (mkF m pc' l' S)) target) : Steps tb e below (T.setTop (mkF m pc L (.long v :: S))) target := by subst hp; exact XS.lstore h hx rfl hd rfl hl hr
theorem y_astore {tb : Tables} [Ours tb] {e : Env} {below : List Frame} {T target : State} {m : MethodId} {c : Code} (h : At T m c below) (hx : tb.exec = Jvm.exec) {pc pc' : Nat} {L : Array Slot} {S : List Value} {k : Nat} {v : Value} {l' : Array Slot} (hd : decode c.code pc = .ok (.astore k, 2)) (hv : v.isRef = true) (hl : storeLocals L k v = some l') (hp : pc + 2 = pc') (hr : Steps tb e below (T.setTop (mkF m pc' l' S)) target) : Steps tb e below (T.setTop (mkF m pc L (v :: S))) target := by subst hp; exact XS.astore h hx rfl hd rfl hv hl hr
theorem y_iconst {tb : Tables} [Ours tb] {e : Env} {below : List Frame} {T target : State} {m : MethodId} {c : Code} (h : At T m c below) (hx : tb.exec = Jvm.exec) {pc pc' : Nat} {L : Array Slot} {S : List Value} {i : Int} {v : Int32} (hd : decode c.code pc = .ok (.iconst i, 1)) (hv : Int32.ofInt i = v) (hp : pc + 1 = pc') (hr : Steps tb e below (T.setTop (mkF m pc' L (.int v :: S))) target) : Steps tb e below (T.setTop (mkF m pc L S)) target := by subst hp; exact XS.iconst h hx rfl hd (by rw [hv]; exact hr)
theorem y_bipush {tb : Tables} [Ours tb] {e : Env} {below : List Frame} {T target : State} {m : MethodId} {c : Code} (h : At T m c below) (hx : tb.exec = Jvm.exec) {pc pc' : Nat} {L : Array Slot} {S : List Value} {i : Int} {v : Int32} (hd : decode c.code pc = .ok (.bipush i, 2)) (hv : (Int8.ofInt i).toInt32 = v) (hp : pc + 2 = pc') (hr : Steps tb e below (T.setTop (mkF m pc' L (.int v :: S))) target) : Steps tb e below (T.setTop (mkF m pc L S)) target := by subst hp; exact XS.bipush h hx rfl hd (by rw [hv]; exact hr)
theorem y_sipush {tb : Tables} [Ours tb] {e : Env} {below : List Frame} {T target : State} {m : MethodId} {c : Code} (h : At T m c below) (hx : tb.exec = Jvm.exec) {pc pc' : Nat} {L : Array Slot} {S : List Value} {i : Int} {v : Int32} (hd : decode c.code pc = .ok (.sipush i, 3)) (hv : (Int16.ofInt i).toInt32 = v) (hp : pc + 3 = pc') (hr : Steps tb e below (T.setTop (mkF m pc' L (.int v :: S))) target) : Steps tb e below (T.setTop (mkF m pc L S)) target := by subst hp; exact XS.sipush h hx rfl hd (by rw [hv]; exact hr)
theorem y_lconst {tb : Tables} [Ours tb] {e : Env} {below : List Frame} {T target : State} {m : MethodId} {c : Code} (h : At T m c below) (hx : tb.exec = Jvm.exec) {pc pc' : Nat} {L : Array Slot} {S : List Value} {k : Fin 2} {v : Int64} (hd : decode c.code pc = .ok (.lconst k, 1)) (hv : Int64.ofNat k.val = v) (hp : pc + 1 = pc') (hr : Steps tb e below (T.setTop (mkF m pc' L (.long v :: S))) target) : Steps tb e below (T.setTop (mkF m pc L S)) target := by subst hp; exact XS.lconst h hx rfl hd (by first | exact hv ▸ hr | (rw [hv]; exact hr) | (subst hv; exact hr))
theorem y_aconstNull {tb : Tables} [Ours tb] {e : Env} {below : List Frame} {T target : State} {m : MethodId} {c : Code} (h : At T m c below) (hx : tb.exec = Jvm.exec) {pc pc' : Nat} {L : Array Slot} {S : List Value} (hd : decode c.code pc = .ok (.aconst_null, 1)) (hp : pc + 1 = pc') (hr : Steps tb e below (T.setTop (mkF m pc' L (.null :: S))) target) : Steps tb e below (T.setTop (mkF m pc L S)) target := by subst hp; exact XS.aconstNull h hx rfl hd hr
theorem y_iadd {tb : Tables} [Ours tb] {e : Env} {below : List Frame} {T target : State} {m : MethodId} {c : Code} (h : At T m c below) (hx : tb.exec = Jvm.exec) {pc pc' : Nat} {L : Array Slot} {S : List Value} {x y z : Int32} (hd : decode c.code pc = .ok (.iadd, 1)) (hz : x + y = z) (hp : pc + 1 = pc') (hr : Steps tb e below (T.setTop (mkF m pc' L (.int z :: S))) target) : Steps tb e below (T.setTop (mkF m pc L (.int y :: .int x :: S))) target := by subst hp; exact XS.iadd h hx rfl hd rfl (by rw [hz]; exact hr)
theorem y_isub {tb : Tables} [Ours tb] {e : Env} {below : List Frame} {T target : State} {m : MethodId} {c : Code} (h : At T m c below) (hx : tb.exec = Jvm.exec) {pc pc' : Nat} {L : Array Slot} {S : List Value} {x y z : Int32} (hd : decode c.code pc = .ok (.isub, 1)) (hz : x - y = z) (hp : pc + 1 = pc') (hr : Steps tb e below (T.setTop (mkF m pc' L (.int z :: S))) target) : Steps tb e below (T.setTop (mkF m pc L (.int y :: .int x :: S))) target := by subst hp; exact XS.isub h hx rfl hd rfl (by rw [hz]; exact hr)
theorem y_imul {tb : Tables} [Ours tb] {e : Env} {below : List Frame} {T target : State} {m : MethodId} {c : Code} (h : At T m c below) (hx : tb.exec = Jvm.exec) {pc pc' : Nat} {L : Array Slot} {S : List Value} {x y z : Int32} (hd : decode c.code pc = .ok (.imul, 1)) (hz : x * y = z) (hp : pc + 1 = pc') (hr : Steps tb e below (T.setTop (mkF m pc' L (.int z :: S))) target) : Steps tb e below (T.setTop (mkF m pc L (.int y :: .int x :: S))) target := by subst hp; exact XS.imul h hx rfl hd rfl (by rw [hz]; exact hr)
theorem y_iand {tb : Tables} [Ours tb] {e : Env} {below : List Frame} {T target : State} {m : MethodId} {c : Code} (h : At T m c below) (hx : tb.exec = Jvm.exec) {pc pc' : Nat} {L : Array Slot} {S : List Value} {x y z : Int32} (hd : decode c.code pc = .ok (.iand, 1)) (hz : x &&& y = z) (hp : pc + 1 = pc') (hr : Steps tb e below (T.setTop (mkF m pc' L (.int z :: S))) target) : Steps tb e below (T.setTop (mkF m pc L (.int y :: .int x :: S))) target := by subst hp; exact XS.iand h hx rfl hd rfl (by rw [hz]; exact hr)
theorem y_ior {tb : Tables} [Ours tb] {e : Env} {below : List Frame} {T target : State} {m : MethodId} {c : Code} (h : At T m c below) (hx : tb.exec = Jvm.exec) {pc pc' : Nat} {L : Array Slot} {S : List Value} {x y z : Int32} (hd : decode c.code pc = .ok (.ior, 1)) (hz : x ||| y = z) (hp : pc + 1 = pc') (hr : Steps tb e below (T.setTop (mkF m pc' L (.int z :: S))) target) : Steps tb e below (T.setTop (mkF m pc L (.int y :: .int x :: S))) target := by subst hp; exact XS.ior h hx rfl hd rfl (by rw [hz]; exact hr)
theorem y_ixor {tb : Tables} [Ours tb] {e : Env} {below : List Frame} {T target : State} {m : MethodId} {c : Code} (h : At T m c below) (hx : tb.exec = Jvm.exec) {pc pc' : Nat} {L : Array Slot} {S : List Value} {x y z : Int32} (hd : decode c.code pc = .ok (.ixor, 1)) (hz : x ^^^ y = z) (hp : pc + 1 = pc') (hr : Steps tb e below (T.setTop (mkF m pc' L (.int z :: S))) target) : Steps tb e below (T.setTop (mkF m pc L (.int y :: .int x :: S))) target := by subst hp; exact XS.ixor h hx rfl hd rfl (by rw [hz]; exact hr)
theorem y_ladd {tb : Tables} [Ours tb] {e : Env} {below : List Frame} {T target : State} {m : MethodId} {c : Code} (h : At T m c below) (hx : tb.exec = Jvm.exec) {pc pc' : Nat} {L : Array Slot} {S : List Value} {x y z : Int64} (hd : decode c.code pc = .ok (.ladd, 1)) (hz : x + y = z) (hp : pc + 1 = pc') (hr : Steps tb e below (T.setTop (mkF m pc' L (.long z :: S))) target) : Steps tb e below (T.setTop (mkF m pc L (.long y :: .long x :: S))) target := by subst hp; exact XS.ladd h hx rfl hd rfl (by rw [hz]; exact hr)
theorem y_lsub {tb : Tables} [Ours tb] {e : Env} {below : List Frame} {T target : State} {m : MethodId} {c : Code} (h : At T m c below) (hx : tb.exec = Jvm.exec) {pc pc' : Nat} {L : Array Slot} {S : List Value} {x y z : Int64} (hd : decode c.code pc = .ok (.lsub, 1)) (hz : x - y = z) (hp : pc + 1 = pc') (hr : Steps tb e below (T.setTop (mkF m pc' L (.long z :: S))) target) : Steps tb e below (T.setTop (mkF m pc L (.long y :: .long x :: S))) target := by subst hp; exact XS.lsub h hx rfl hd rfl (by rw [hz]; exact hr)
theorem y_lmul {tb : Tables} [Ours tb] {e : Env} {below : List Frame} {T target : State} {m : MethodId} {c : Code} (h : At T m c below) (hx : tb.exec = Jvm.exec) {pc pc' : Nat} {L : Array Slot} {S : List Value} {x y z : Int64} (hd : decode c.code pc = .ok (.lmul, 1)) (hz : x * y = z) (hp : pc + 1 = pc') (hr : Steps tb e below (T.setTop (mkF m pc' L (.long z :: S))) target) : Steps tb e below (T.setTop (mkF m pc L (.long y :: .long x :: S))) target := by subst hp; exact XS.lmul h hx rfl hd rfl (by rw [hz]; exact hr)
theorem y_land {tb : Tables} [Ours tb] {e : Env} {below : List Frame} {T target : State} {m : MethodId} {c : Code} (h : At T m c below) (hx : tb.exec = Jvm.exec) {pc pc' : Nat} {L : Array Slot} {S : List Value} {x y z : Int64} (hd : decode c.code pc = .ok (.land, 1)) (hz : x &&& y = z) (hp : pc + 1 = pc') (hr : Steps tb e below (T.setTop (mkF m pc' L (.long z :: S))) target) : Steps tb e below (T.setTop (mkF m pc L (.long y :: .long x :: S))) target := by subst hp; exact XS.land h hx rfl hd rfl (by rw [hz]; exact hr)
theorem y_lor {tb : Tables} [Ours tb] {e : Env} {below : List Frame} {T target : State} {m : MethodId} {c : Code} (h : At T m c below) (hx : tb.exec = Jvm.exec) {pc pc' : Nat} {L : Array Slot} {S : List Value} {x y z : Int64} (hd : decode c.code pc = .ok (.lor, 1)) (hz : x ||| y = z) (hp : pc + 1 = pc') (hr : Steps tb e below (T.setTop (mkF m pc' L (.long z :: S))) target) : Steps tb e below (T.setTop (mkF m pc L (.long y :: .long x :: S))) target := by subst hp; exact XS.lor h hx rfl hd rfl (by rw [hz]; exact hr)
theorem y_lxor {tb : Tables} [Ours tb] {e : Env} {below : List Frame} {T target : State} {m : MethodId} {c : Code} (h : At T m c below) (hx : tb.exec = Jvm.exec) {pc pc' : Nat} {L : Array Slot} {S : List Value} {x y z : Int64} (hd : decode c.code pc = .ok (.lxor, 1)) (hz : x ^^^ y = z) (hp : pc + 1 = pc') (hr : Steps tb e below (T.setTop (mkF m pc' L (.long z :: S))) target) : Steps tb e below (T.setTop (mkF m pc L (.long y :: .long x :: S))) target := by subst hp; exact XS.lxor h hx rfl hd rfl (by rw [hz]; exact hr)
theorem y_ineg {tb : Tables} [Ours tb] {e : Env} {below : List Frame} {T target : State} {m : MethodId} {c : Code} (h : At T m c below) (hx : tb.exec = Jvm.exec) {pc pc' : Nat} {L : Array Slot} {S : List Value} {x : Int32} {z : Int32} (hd : decode c.code pc = .ok (.ineg, 1)) (hz : -x = z) (hp : pc + 1 = pc') (hr : Steps tb e below (T.setTop (mkF m pc' L (.int z :: S))) target) : Steps tb e below (T.setTop (mkF m pc L (.int x :: S))) target := by subst hp; exact XS.ineg h hx rfl hd rfl (by subst hz; exact hr)
theorem y_lneg {tb : Tables} [Ours tb] {e : Env} {below : List Frame} {T target : State} {m : MethodId} {c : Code} (h : At T m c below) (hx : tb.exec = Jvm.exec) {pc pc' : Nat} {L : Array Slot} {S : List Value} {x : Int64} {z : Int64} (hd : decode c.code pc = .ok (.lneg, 1)) (hz : -x = z) (hp : pc + 1 = pc') (hr : Steps tb e below (T.setTop (mkF m pc' L (.long z :: S))) target) : Steps tb e below (T.setTop (mkF m pc L (.long x :: S))) target := by subst hp; exact XS.lneg h hx rfl hd rfl (by subst hz; exact hr)
theorem y_i2l {tb : Tables} [Ours tb] {e : Env} {below : List Frame} {T target : State} {m : MethodId} {c : Code} (h : At T m c below) (hx : tb.exec = Jvm.exec) {pc pc' : Nat} {L : Array Slot} {S : List Value} {x : Int32} {z : Int64} (hd : decode c.code pc = .ok (.i2l, 1)) (hz : x.toInt64 = z) (hp : pc + 1 = pc') (hr : Steps tb e below (T.setTop (mkF m pc' L (.long z :: S))) target) : Steps tb e below (T.setTop (mkF m pc L (.int x :: S))) target := by subst hp; exact XS.i2l h hx rfl hd rfl (by subst hz; exact hr)
theorem y_l2i {tb : Tables} [Ours tb] {e : Env} {below : List Frame} {T target : State} {m : MethodId} {c : Code} (h : At T m c below) (hx : tb.exec = Jvm.exec) {pc pc' : Nat} {L : Array Slot} {S : List Value} {x : Int64} {z : Int32} (hd : decode c.code pc = .ok (.l2i, 1)) (hz : x.toInt32 = z) (hp : pc + 1 = pc') (hr : Steps tb e below (T.setTop (mkF m pc' L (.int z :: S))) target) : Steps tb e below (T.setTop (mkF m pc L (.long x :: S))) target := by subst hp; exact XS.l2i h hx rfl hd rfl (by subst hz; exact hr)
theorem y_i2b {tb : Tables} [Ours tb] {e : Env} {below : List Frame} {T target : State} {m : MethodId} {c : Code} (h : At T m c below) (hx : tb.exec = Jvm.exec) {pc pc' : Nat} {L : Array Slot} {S : List Value} {x : Int32} {z : Int32} (hd : decode c.code pc = .ok (.i2b, 1)) (hz : x.toInt8.toInt32 = z) (hp : pc + 1 = pc') (hr : Steps tb e below (T.setTop (mkF m pc' L (.int z :: S))) target) : Steps tb e below (T.setTop (mkF m pc L (.int x :: S))) target := by subst hp; exact XS.i2b h hx rfl hd rfl (by subst hz; exact hr)
theorem y_i2s {tb : Tables} [Ours tb] {e : Env} {below : List Frame} {T target : State} {m : MethodId} {c : Code} (h : At T m c below) (hx : tb.exec = Jvm.exec) {pc pc' : Nat} {L : Array Slot} {S : List Value} {x : Int32} {z : Int32} (hd : decode c.code pc = .ok (.i2s, 1)) (hz : x.toInt16.toInt32 = z) (hp : pc + 1 = pc') (hr : Steps tb e below (T.setTop (mkF m pc' L (.int z :: S))) target) : Steps tb e below (T.setTop (mkF m pc L (.int x :: S))) target := by subst hp; exact XS.i2s h hx rfl hd rfl (by subst hz; exact hr)
theorem y_i2c {tb : Tables} [Ours tb] {e : Env} {below : List Frame} {T target : State} {m : MethodId} {c : Code} (h : At T m c below) (hx : tb.exec = Jvm.exec) {pc pc' : Nat} {L : Array Slot} {S : List Value} {x : Int32} {z : Int32} (hd : decode c.code pc = .ok (.i2c, 1)) (hz : x.toUInt32.toUInt16.toUInt32.toInt32 = z) (hp : pc + 1 = pc') (hr : Steps tb e below (T.setTop (mkF m pc' L (.int z :: S))) target) : Steps tb e below (T.setTop (mkF m pc L (.int x :: S))) target := by subst hp; exact XS.i2c h hx rfl hd rfl (by subst hz; exact hr)
theorem y_ishl {tb : Tables} [Ours tb] {e : Env} {below : List Frame} {T target : State} {m : MethodId} {c : Code} (h : At T m c below) (hx : tb.exec = Jvm.exec) {pc pc' : Nat} {L : Array Slot} {S : List Value} {x z : Int32} {y : Int32} (hd : decode c.code pc = .ok (.ishl, 1)) (hz : (x <<< (y &&& 31)) = z) (hp : pc + 1 = pc') (hr : Steps tb e below (T.setTop (mkF m pc' L (.int z :: S))) target) : Steps tb e below (T.setTop (mkF m pc L (.int y :: .int x :: S))) target := by subst hp; exact XS.ishl h hx rfl hd rfl (by subst hz; exact hr)
theorem y_ishr {tb : Tables} [Ours tb] {e : Env} {below : List Frame} {T target : State} {m : MethodId} {c : Code} (h : At T m c below) (hx : tb.exec = Jvm.exec) {pc pc' : Nat} {L : Array Slot} {S : List Value} {x z : Int32} {y : Int32} (hd : decode c.code pc = .ok (.ishr, 1)) (hz : (x >>> (y &&& 31)) = z) (hp : pc + 1 = pc') (hr : Steps tb e below (T.setTop (mkF m pc' L (.int z :: S))) target) : Steps tb e below (T.setTop (mkF m pc L (.int y :: .int x :: S))) target := by subst hp; exact XS.ishr h hx rfl hd rfl (by subst hz; exact hr)
theorem y_iushr {tb : Tables} [Ours tb] {e : Env} {below : List Frame} {T target : State} {m : MethodId} {c : Code} (h : At T m c below) (hx : tb.exec = Jvm.exec) {pc pc' : Nat} {L : Array Slot} {S : List Value} {x z : Int32} {y : Int32} (hd : decode c.code pc = .ok (.iushr, 1)) (hz : ((x.toUInt32 >>> (y &&& 31).toUInt32).toInt32) = z) (hp : pc + 1 = pc') (hr : Steps tb e below (T.setTop (mkF m pc' L (.int z :: S))) target) : Steps tb e below (T.setTop (mkF m pc L (.int y :: .int x :: S))) target := by subst hp; exact XS.iushr h hx rfl hd rfl (by subst hz; exact hr)
theorem y_lshl {tb : Tables} [Ours tb] {e : Env} {below : List Frame} {T target : State} {m : MethodId} {c : Code} (h : At T m c below) (hx : tb.exec = Jvm.exec) {pc pc' : Nat} {L : Array Slot} {S : List Value} {x z : Int64} {y : Int32} (hd : decode c.code pc = .ok (.lshl, 1)) (hz : (x <<< (y &&& 0x3f).toInt64) = z) (hp : pc + 1 = pc') (hr : Steps tb e below (T.setTop (mkF m pc' L (.long z :: S))) target) : Steps tb e below (T.setTop (mkF m pc L (.int y :: .long x :: S))) target := by subst hp; exact XS.lshl h hx rfl hd rfl (by subst hz; exact hr)
theorem y_lshr {tb : Tables} [Ours tb] {e : Env} {below : List Frame} {T target : State} {m : MethodId} {c : Code} (h : At T m c below) (hx : tb.exec = Jvm.exec) {pc pc' : Nat} {L : Array Slot} {S : List Value} {x z : Int64} {y : Int32} (hd : decode c.code pc = .ok (.lshr, 1)) (hz : (x >>> (y &&& 0x3f).toInt64) = z) (hp : pc + 1 = pc') (hr : Steps tb e below (T.setTop (mkF m pc' L (.long z :: S))) target) : Steps tb e below (T.setTop (mkF m pc L (.int y :: .long x :: S))) target := by subst hp; exact XS.lshr h hx rfl hd rfl (by subst hz; exact hr)
theorem y_lushr {tb : Tables} [Ours tb] {e : Env} {below : List Frame} {T target : State} {m : MethodId} {c : Code} (h : At T m c below) (hx : tb.exec = Jvm.exec) {pc pc' : Nat} {L : Array Slot} {S : List Value} {x z : Int64} {y : Int32} (hd : decode c.code pc = .ok (.lushr, 1)) (hz : ((x.toUInt64 >>> (y &&& 0x3f).toInt64.toUInt64).toInt64) = z) (hp : pc + 1 = pc') (hr : Steps tb e below (T.setTop (mkF m pc' L (.long z :: S))) target) : Steps tb e below (T.setTop (mkF m pc L (.int y :: .long x :: S))) target := by subst hp; exact XS.lushr h hx rfl hd rfl (by subst hz; exact hr)
theorem y_lcmp {tb : Tables} [Ours tb] {e : Env} {below : List Frame} {T target : State} {m : MethodId} {c : Code} (h : At T m c below) (hx : tb.exec = Jvm.exec) {pc pc' : Nat} {L : Array Slot} {S : List Value} {x y : Int64} (hd : decode c.code pc = .ok (.lcmp, 1)) (hp : pc + 1 = pc') (hr : Steps tb e below (T.setTop (mkF m pc' L (.int (lcmpW x y) :: S))) target) : Steps tb e below (T.setTop (mkF m pc L (.long y :: .long x :: S))) target := by subst hp; exact XS.lcmp h hx rfl hd rfl hr
theorem y_iinc {tb : Tables} [Ours tb] {e : Env} {below : List Frame} {T target : State} {m : MethodId} {c : Code} (h : At T m c below) (hx : tb.exec = Jvm.exec) {pc pc' : Nat} {L : Array Slot} {S : List Value} {k : Nat} {cst : Int} {x : Int32} {l' : Array Slot} (hd : decode c.code pc = .ok (.iinc k cst, 3)) (hl : L[k]? = some (.val (.int x))) (hl' : storeLocals L k (.int (x + Int32.ofInt cst)) = some l') (hp : pc + 3 = pc') (hr : Steps tb e below (T.setTop (mkF m pc' l' S)) target) : Steps tb e below (T.setTop (mkF m pc L S)) target := by subst hp; exact XS.iinc h hx rfl hd hl hl' hr
theorem y_dup {tb : Tables} [Ours tb] {e : Env} {below : List Frame} {T target : State} {m : MethodId} {c : Code} (h : At T m c below) (hx : tb.exec = Jvm.exec) {pc pc' : Nat} {L : Array Slot} {S : List Value} {v : Value} (hd : decode c.code pc = .ok (.dup, 1)) (hc : v.category = 1) (hp : pc + 1 = pc') (hr : Steps tb e below (T.setTop (mkF m pc' L (v :: v :: S))) target) : Steps tb e below (T.setTop (mkF m pc L (v :: S))) target := by subst hp; exact XS.dup h hx rfl hd rfl hc hr
theorem y_goto {tb : Tables} [Ours tb] {e : Env} {below : List Frame} {T target : State} {m : MethodId} {c : Code} (h : At T m c below) (hx : tb.exec = Jvm.exec) {pc pc' : Nat} {L : Array Slot} {S : List Value} {o : Int} (hd : decode c.code pc = .ok (.goto o, 3)) (ho : 0 ≤ (pc : Int) + o) (hp : ((pc : Int) + o).toNat = pc') (hr : Steps tb e below (T.setTop (mkF m pc' L S)) target) : Steps tb e below (T.setTop (mkF m pc L S)) target := XS.goto h hx rfl rfl hd ho hp hr
theorem y_ifYes {tb : Tables} [Ours tb] {e : Env} {below : List Frame} {T target : State} {m : MethodId} {c : Code} (h : At T m c below) (hx : tb.exec = Jvm.exec) {pc pc' : Nat} {L : Array Slot} {S : List Value} {cd : ClassFile.Cond} {x : Int32} {o : Int} (hd : decode c.code pc = .ok (.ifCond cd o, 3)) (hc : ifCond.holds cd x = true) (ho : 0 ≤ (pc : Int) + o) (hp : ((pc : Int) + o).toNat = pc') (hr : Steps tb e below (T.setTop (mkF m pc' L S)) target) : Steps tb e below (T.setTop (mkF m pc L (.int x :: S))) target := XS.ifYes h hx rfl rfl hd rfl hc ho hp hr
theorem y_ifNo {tb : Tables} [Ours tb] {e : Env} {below : List Frame} {T target : State} {m : MethodId} {c : Code} (h : At T m c below) (hx : tb.exec = Jvm.exec) {pc pc' : Nat} {L : Array Slot} {S : List Value} {cd : ClassFile.Cond} {x : Int32} {o : Int} (hd : decode c.code pc = .ok (.ifCond cd o, 3)) (hc : ifCond.holds cd x = false) (hp : pc + 3 = pc') (hr : Steps tb e below (T.setTop (mkF m pc' L S)) target) : Steps tb e below (T.setTop (mkF m pc L (.int x :: S))) target := by subst hp; exact XS.ifNo h hx rfl hd rfl hc hr
theorem y_icmpYes {tb : Tables} [Ours tb] {e : Env} {below : List Frame} {T target : State} {m : MethodId} {c : Code} (h : At T m c below) (hx : tb.exec = Jvm.exec) {pc pc' : Nat} {L : Array Slot} {S : List Value} {cd : ClassFile.Cond} {x y : Int32} {o : Int} (hd : decode c.code pc = .ok (.if_icmp cd o, 3)) (hc : if_icmp.holds cd x y = true) (ho : 0 ≤ (pc : Int) + o) (hp : ((pc : Int) + o).toNat = pc') (hr : Steps tb e below (T.setTop (mkF m pc' L S)) target) : Steps tb e below (T.setTop (mkF m pc L (.int y :: .int x :: S))) target := XS.icmpYes h hx rfl rfl hd rfl hc ho hp hr
theorem y_icmpNo {tb : Tables} [Ours tb] {e : Env} {below : List Frame} {T target : State} {m : MethodId} {c : Code} (h : At T m c below) (hx : tb.exec = Jvm.exec) {pc pc' : Nat} {L : Array Slot} {S : List Value} {cd : ClassFile.Cond} {x y : Int32} {o : Int} (hd : decode c.code pc = .ok (.if_icmp cd o, 3)) (hc : if_icmp.holds cd x y = false) (hp : pc + 3 = pc') (hr : Steps tb e below (T.setTop (mkF m pc' L S)) target) : Steps tb e below (T.setTop (mkF m pc L (.int y :: .int x :: S))) target := by subst hp; exact XS.icmpNo h hx rfl hd rfl hc hr
theorem own_nar01 {x : Int32} (h : x = 0 ∨ x = 1) : nar .boolean x = x := by rcases h with rfl | rfl <;> rfl
theorem own_ite01 {c : Prop} [Decidable c] : (if c then (0 : Int32) else (1 : Int32)) = 0 ∨ (if c then (0 : Int32) else (1 : Int32)) = 1 := by split <;> simp
theorem own_narI {c : Prop} [Decidable c] : nar .boolean (if c then (1 : Int32) else (0 : Int32)) = (if c then (1 : Int32) else (0 : Int32)) := by split <;> rfl
theorem own_ne1 (a : Int32) : ¬ a = a + 1 := fun h => by
  have q := c_iadd a 1
  rw [← h] at q
  have e : (1 : Int32).toInt = 1 := rfl
  omega
theorem own_of {x k : Int32} (h : x.toInt = k.toInt) : x = k := Int32.toInt_inj.mp h
theorem own_and3 (k : Int32) : k &&& 3 = 0 ∨ k &&& 3 = 1 ∨ k &&& 3 = 2 ∨ k &&& 3 = 3 := by
  have q : (k &&& 3).toInt = k.toInt % 4 := c_mask k 3 2 (by decide) (by decide)
  generalize k &&& 3 = x at q ⊢
  have : x.toInt = 0 ∨ x.toInt = 1 ∨ x.toInt = 2 ∨ x.toInt = 3 := by omega
  rcases this with h | h | h | h
  · exact Or.inl (own_of h)
  · exact Or.inr (Or.inl (own_of h))
  · exact Or.inr (Or.inr (Or.inl (own_of h)))
  · exact Or.inr (Or.inr (Or.inr (own_of h)))
theorem own_n0 : nar .boolean (0 : Int32) = 0 := rfl
theorem own_n1 : nar .boolean (1 : Int32) = 1 := rfl
theorem own_c (k : Int32) : 1 ≤ ((1 : Int32) + (k &&& (15 : Int32))).toInt ∧ ((1 : Int32) + (k &&& (15 : Int32))).toInt ≤ 16 := by
  have q : (k &&& (15 : Int32)).toInt = k.toInt % 16 := c_mask k 15 4 (by decide) (by decide)
  have q1 := c_iadd 1 (k &&& (15 : Int32))
  have q2 := ((1 : Int32) + (k &&& (15 : Int32))).le_toInt
  have q3 := ((1 : Int32) + (k &&& (15 : Int32))).toInt_lt
  have e : (1 : Int32).toInt = 1 := rfl
  omega
theorem own_pos {x : Int32} (h : 1 ≤ x.toInt ∧ x.toInt ≤ 16) : (0 : Int32) < x ∧ ¬ x = 0 := by
  have e : (0 : Int32).toInt = 0 := rfl
  refine ⟨by rw [Int32.lt_iff_toInt_lt]; omega, fun q => ?_⟩
  subst q; omega
theorem own_pos2 {x y : Int32} (h : 1 ≤ x.toInt ∧ x.toInt ≤ 16) (g : 1 ≤ y.toInt ∧ y.toInt ≤ 16) : (0 : Int32) < x + y ∧ ¬ x + y = 0 := by
  have e : (0 : Int32).toInt = 0 := rfl
  have q1 := c_iadd x y
  have q2 := (x + y).le_toInt
  have q3 := (x + y).toInt_lt
  refine ⟨by rw [Int32.lt_iff_toInt_lt]; omega, fun q => ?_⟩
  rw [q] at q1 q2 q3; omega
theorem own_tri {x y : Int32} (h : 1 ≤ x.toInt ∧ x.toInt ≤ 16) (g : 1 ≤ y.toInt ∧ y.toInt ≤ 16) : (x < (16 : Int32) ∧ x + y < (16 : Int32)) ∨ (x < (16 : Int32) ∧ ¬ x + y < (16 : Int32)) ∨ (¬ x < (16 : Int32) ∧ ¬ x + y < (16 : Int32)) := by
  have e : (16 : Int32).toInt = 16 := rfl
  have q1 := c_iadd x y
  have q2 := (x + y).le_toInt
  have q3 := (x + y).toInt_lt
  simp only [Int32.lt_iff_toInt_lt]; omega
theorem own_d (k : Int32) : 1 ≤ ((k &&& (15 : Int32)) + (1 : Int32)).toInt ∧ ((k &&& (15 : Int32)) + (1 : Int32)).toInt ≤ 16 := by
  have q : (k &&& (15 : Int32)).toInt = k.toInt % 16 := c_mask k 15 4 (by decide) (by decide)
  have q1 := c_iadd (k &&& (15 : Int32)) 1
  have q2 := ((k &&& (15 : Int32)) + (1 : Int32)).le_toInt
  have q3 := ((k &&& (15 : Int32)) + (1 : Int32)).toInt_lt
  have e : (1 : Int32).toInt = 1 := rfl
  omega
theorem own_as (a b : Int64) : (a + b) - a = b := by
  have q1 := c_lsub (a + b) a
  have q2 := c_ladd a b
  have l1 := ((a + b) - a).le_toInt
  have l2 := ((a + b) - a).toInt_lt
  have l3 := b.le_toInt
  have l4 := b.toInt_lt
  exact Int64.toInt_inj.mp (by omega)
theorem own_ss (a b c : Int64) : (a + b) - (a + c) = b - c := by
  have q1 := c_lsub (a + b) (a + c)
  have q2 := c_ladd a b
  have q3 := c_ladd a c
  have q4 := c_lsub b c
  have l1 := ((a + b) - (a + c)).le_toInt
  have l2 := ((a + b) - (a + c)).toInt_lt
  have l3 := (b - c).le_toInt
  have l4 := (b - c).toInt_lt
  exact Int64.toInt_inj.mp (by omega)
theorem own_s0 (a : Int64) : a - a = 0 := by
  have q1 := c_lsub a a
  have l1 := (a - a).le_toInt
  have l2 := (a - a).toInt_lt
  have e : (0 : Int64).toInt = 0 := rfl
  exact Int64.toInt_inj.mp (by omega)

theorem d1_0 : decode prog_16_method_1_code 0 = .ok (.aload_n 0, 1) := by decide +kernel
theorem d1_1 : decode prog_16_method_1_code 1 = .ok (.invokespecial 1, 3) := by decide +kernel
theorem d1_4 : decode prog_16_method_1_code 4 = .ok (.return_, 1) := by decide +kernel
theorem pn_com_example_roamd_roamd_net_DelayedAck : plainName "com/example/roamd/roamd/net/DelayedAck" = true := by first | (simp [plainName, overriddenIn]; done) | decide +kernel
theorem ef_1 (m : MethodId) (x0 : Addr) : entryFrame m #[(.ref x0)] 1 = mkF m 0 #[rv x0] [] := by first | (simp [entryFrame, mkF, argsToLocals, Value.category]; done) | rfl
def Q1 (Z : State) (pr0 : Addr) (h0 : Heap) (n0 : Nat) (v : Option Value) (h : Heap) (L : List Loc) : Prop := v = none ∧ Fr n0 L ∧ h = h0
set_option maxRecDepth 65536 in
set_option maxHeartbeats 40000000 in
theorem rm1 (l : Launch) (Z : State) (a0 : Array Value) (hw : ∀ d ∈ tables_1, d.before a0 Z = true) (ws : List Jvm.Cond) (pr0 : Addr) (h0 : Heap) (n0 : Nat) (O0 : Old Z n0 h0) (E_pr0 : Exa Z h0 pr0 "com/example/roamd/roamd/net/DelayedAck") :
    MetFree l (⟨"com/example/roamd/roamd/net/DelayedAck", "<init>", "()V"⟩ : MethodName) (head1 (Jvm.Cond.code (⟨"com/example/roamd/roamd/net/DelayedAck", "<init>", "()V"⟩ : MethodName) prog_16_method_1_code 1 none :: ws) ({ frames := 1, cells := 0, slots := 0, locals := 12 } : Room)) (fun a U => a = #[(.ref pr0)] ∧ Z.Warmed39 U.vm ∧ U.heap = h0) (fun _ _ _ _ _ => True) (fun _ U o U' => ∃ v L, o = .returned v ∧ Q1 Z pr0 h0 n0 v U'.heap L ∧ FrameEnd U o U' L ({ frames := 1, cells := 0, slots := 0, locals := 12 } : Room).cells ({ frames := 1, cells := 0, slots := 0, locals := 12 } : Room).slots) := by
  refine MetFree.of_bodySF (plainFor_of_name pn_com_example_roamd_roamd_net_DelayedAck) hisR ?_
  intro p e s m args below meth c s₁ Bd hml0 hP hK
  obtain ⟨rfl, hZ, hh⟩ := hP
  have hx := Bd.exec
  have hby := Bd.bytes
  have hml : c.maxLocals = 1 := hml0
  have hown : s.vm.findClass "com/example/roamd/roamd/net/DelayedAck" = some m.cls := findClass_of_methodNamed Bd.named
  have hnm := (name_of_methodNamed Bd.named Bd.method).1
  have X0 : Stand p l e ({ frames := 1, cells := 0, slots := 0, locals := 12 } : Room) s m #[(.ref pr0)] below meth c s₁ [] 0 0 := Stand.of_body Bd
  have e0 : s₁.heap = h0 := by rw [← hh, Bd.state]; rfl
  have N0 := Fr.nil n0
  obtain ⟨Go, hGo⟩ : ∃ P : State → Prop, ∀ t, P t ↔ Steps p.tables e below (s₁.setTop (entryFrame m #[(.ref pr0)] 1)) t := ⟨_, fun _ => Iff.rfl⟩
  have pre0 : ∀ t, Steps p.tables e below (s₁.setTop (mkF m 0 #[rv pr0] [])) t → Go t := fun t k => (hGo t).mpr (castTop (ef_1 m pr0) k)
  have pre1 : ∀ t, Steps p.tables e below (s₁.setTop (mkF m 1 #[rv pr0] [(.ref pr0)])) t → Go t := fun t kt => pre0 t (by
      refine y_aloadN X0.here hx (hb hby d1_0) rfl rfl (pc' := 1) rfl ?_
      exact kt)
  obtain ⟨T2, X2, e2, st2⟩ := initO X0 hx hZ hown (hw _ (List.mem_of_getElem? (i := 6) rfl)) (hw _ (List.mem_of_getElem? (i := 7) rfl)) (hw _ (List.mem_of_getElem? (i := 8) rfl)) e0 (g := (mkF m 1 #[rv pr0] [(.ref pr0)])) rfl (by rw [hml]; rfl) rfl (hb hby d1_1) (by decide) (W := 0) (by show 2 * 0 + _ ≤ _; exact Nat.le_of_eq rfl) (by decide)
  have pre3 : ∀ t, Steps p.tables e below (T2.setTop (mkF m 4 #[rv pr0] [])) t → Go t := fun t kt => pre1 t (st2 t kt)
  obtain ⟨fs, hr, hrun, hended, hW, hsame⟩ := X2.leave (v := none) (fun _ => rfl)
  refine ⟨_, _, (hGo _).mp (pre3 _ ?_), hrun, hended, _, _, rfl, ?_, ⟨_, rfl⟩, hW, hsame.mono (by decide) (by decide)⟩
  · exact X2.returnOut hx Bd.returns (hb hby d1_4) hr
  · show Q1 Z pr0 h0 n0 _ T2.heap _
    rw [e2]
    exact ⟨rfl, N0, rfl⟩
theorem d3_0 : decode prog_16_method_2_code 0 = .ok (.aload_n 0, 1) := by decide +kernel
theorem d3_1 : decode prog_16_method_2_code 1 = .ok (.getfield 7, 3) := by decide +kernel
theorem d3_4 : decode prog_16_method_2_code 4 = .ok (.ifCond .ne 55, 3) := by decide +kernel
theorem d3_7 : decode prog_16_method_2_code 7 = .ok (.aload_n 0, 1) := by decide +kernel
theorem d3_8 : decode prog_16_method_2_code 8 = .ok (.lload 4, 2) := by decide +kernel
theorem d3_10 : decode prog_16_method_2_code 10 = .ok (.putfield 13, 3) := by decide +kernel
theorem d3_13 : decode prog_16_method_2_code 13 = .ok (.aload_n 0, 1) := by decide +kernel
theorem d3_14 : decode prog_16_method_2_code 14 = .ok (.getfield 17, 3) := by decide +kernel
theorem d3_17 : decode prog_16_method_2_code 17 = .ok (.ifCond .eq 21, 3) := by decide +kernel
theorem d3_20 : decode prog_16_method_2_code 20 = .ok (.lload 4, 2) := by decide +kernel
theorem d3_22 : decode prog_16_method_2_code 22 = .ok (.aload_n 0, 1) := by decide +kernel
theorem d3_23 : decode prog_16_method_2_code 23 = .ok (.getfield 21, 3) := by decide +kernel
theorem d3_26 : decode prog_16_method_2_code 26 = .ok (.lsub, 1) := by decide +kernel
theorem d3_27 : decode prog_16_method_2_code 27 = .ok (.getstatic 24, 3) := by decide +kernel
theorem d3_30 : decode prog_16_method_2_code 30 = .ok (.lcmp, 1) := by decide +kernel
theorem d3_31 : decode prog_16_method_2_code 31 = .ok (.ifCond .gt 7, 3) := by decide +kernel
theorem d3_34 : decode prog_16_method_2_code 34 = .ok (.iconst 1, 1) := by decide +kernel
theorem d3_35 : decode prog_16_method_2_code 35 = .ok (.goto 4, 3) := by decide +kernel
theorem d3_38 : decode prog_16_method_2_code 38 = .ok (.iconst 0, 1) := by decide +kernel
theorem d3_39 : decode prog_16_method_2_code 39 = .ok (.istore 6, 2) := by decide +kernel
theorem d3_41 : decode prog_16_method_2_code 41 = .ok (.aload_n 0, 1) := by decide +kernel
theorem d3_42 : decode prog_16_method_2_code 42 = .ok (.iload 6, 2) := by decide +kernel
theorem d3_44 : decode prog_16_method_2_code 44 = .ok (.ifCond .eq 9, 3) := by decide +kernel
theorem d3_47 : decode prog_16_method_2_code 47 = .ok (.getstatic 24, 3) := by decide +kernel
theorem d3_50 : decode prog_16_method_2_code 50 = .ok (.goto 6, 3) := by decide +kernel
theorem d3_53 : decode prog_16_method_2_code 53 = .ok (.getstatic 27, 3) := by decide +kernel
theorem d3_56 : decode prog_16_method_2_code 56 = .ok (.putfield 30, 3) := by decide +kernel
theorem d3_59 : decode prog_16_method_2_code 59 = .ok (.aload_n 0, 1) := by decide +kernel
theorem d3_60 : decode prog_16_method_2_code 60 = .ok (.iconst 1, 1) := by decide +kernel
theorem d3_61 : decode prog_16_method_2_code 61 = .ok (.putfield 17, 3) := by decide +kernel
theorem d3_64 : decode prog_16_method_2_code 64 = .ok (.aload_n 0, 1) := by decide +kernel
theorem d3_65 : decode prog_16_method_2_code 65 = .ok (.lload 4, 2) := by decide +kernel
theorem d3_67 : decode prog_16_method_2_code 67 = .ok (.putfield 21, 3) := by decide +kernel
theorem d3_70 : decode prog_16_method_2_code 70 = .ok (.aload_n 0, 1) := by decide +kernel
theorem d3_71 : decode prog_16_method_2_code 71 = .ok (.dup, 1) := by decide +kernel
theorem d3_72 : decode prog_16_method_2_code 72 = .ok (.getfield 7, 3) := by decide +kernel
theorem d3_75 : decode prog_16_method_2_code 75 = .ok (.iload_n 1, 1) := by decide +kernel
theorem d3_76 : decode prog_16_method_2_code 76 = .ok (.iadd, 1) := by decide +kernel
theorem d3_77 : decode prog_16_method_2_code 77 = .ok (.putfield 7, 3) := by decide +kernel
theorem d3_80 : decode prog_16_method_2_code 80 = .ok (.aload_n 0, 1) := by decide +kernel
theorem d3_81 : decode prog_16_method_2_code 81 = .ok (.dup, 1) := by decide +kernel
theorem d3_82 : decode prog_16_method_2_code 82 = .ok (.getfield 33, 3) := by decide +kernel
theorem d3_85 : decode prog_16_method_2_code 85 = .ok (.iload_n 2, 1) := by decide +kernel
theorem d3_86 : decode prog_16_method_2_code 86 = .ok (.iload_n 1, 1) := by decide +kernel
theorem d3_87 : decode prog_16_method_2_code 87 = .ok (.if_icmp .ne 16, 3) := by decide +kernel
theorem d3_90 : decode prog_16_method_2_code 90 = .ok (.iload_n 3, 1) := by decide +kernel
theorem d3_91 : decode prog_16_method_2_code 91 = .ok (.ifCond .eq 12, 3) := by decide +kernel
theorem d3_94 : decode prog_16_method_2_code 94 = .ok (.aload_n 0, 1) := by decide +kernel
theorem d3_95 : decode prog_16_method_2_code 95 = .ok (.getfield 7, 3) := by decide +kernel
theorem d3_98 : decode prog_16_method_2_code 98 = .ok (.bipush 16, 2) := by decide +kernel
theorem d3_100 : decode prog_16_method_2_code 100 = .ok (.if_icmp .lt 7, 3) := by decide +kernel
theorem d3_103 : decode prog_16_method_2_code 103 = .ok (.iconst 1, 1) := by decide +kernel
theorem d3_104 : decode prog_16_method_2_code 104 = .ok (.goto 4, 3) := by decide +kernel
theorem d3_107 : decode prog_16_method_2_code 107 = .ok (.iconst 0, 1) := by decide +kernel
theorem d3_108 : decode prog_16_method_2_code 108 = .ok (.ior, 1) := by decide +kernel
theorem d3_109 : decode prog_16_method_2_code 109 = .ok (.putfield 33, 3) := by decide +kernel
theorem d3_112 : decode prog_16_method_2_code 112 = .ok (.return_, 1) := by decide +kernel
theorem ef_3 (m : MethodId) (x0 : Addr) (x1 : Int32) (x2 : Int32) (x3 : Int32) (x4 : Int64) : entryFrame m #[(.ref x0), (.int x1), (.int x2), (.int x3), (.long x4)] 7 = mkF m 0 #[rv x0, iv x1, iv x2, iv x3, jv x4, .second, .unset] [] := by first | (simp [entryFrame, mkF, argsToLocals, Value.category]; done) | rfl
def Q3 (Z : State) (pr0 : Addr) (pi1 : Int32) (pi2 : Int32) (pi3 : Int32) (pj4 : Int64) (u_waiting_pr0 : Int32) (u_firstAt_pr0 : Int64) (u_arrivedBefore_pr0 : Int32) (u_lastArrivedAt_pr0 : Int64) (u_holdNanos_pr0 : Int64) (u_urgent_pr0 : Int32) (h0 : Heap) (n0 : Nat) (v : Option Value) (h : Heap) (L : List Loc) : Prop := v = none ∧ Fr n0 L ∧ Keep h0 h [pr0] ∧ Fld Z h pr0 "com/example/roamd/roamd/net/DelayedAck" "waiting" "I" (.int (u_waiting_pr0 + pi1)) ∧ Fld Z h pr0 "com/example/roamd/roamd/net/DelayedAck" "firstAt" "J" (.long (if u_waiting_pr0 = (0 : Int32) then pj4 else u_firstAt_pr0)) ∧ Fld Z h pr0 "com/example/roamd/roamd/net/DelayedAck" "arrivedBefore" "Z" (.int (1 : Int32)) ∧ Fld Z h pr0 "com/example/roamd/roamd/net/DelayedAck" "lastArrivedAt" "J" (.long pj4) ∧ Fld Z h pr0 "com/example/roamd/roamd/net/DelayedAck" "holdNanos" "J" (.long (if u_waiting_pr0 = (0 : Int32) then (if (if u_arrivedBefore_pr0 = (0 : Int32) then (0 : Int32) else (if (700000000 : Int64) < (pj4 - u_lastArrivedAt_pr0) then (0 : Int32) else (1 : Int32))) = (0 : Int32) then (150000000 : Int64) else (700000000 : Int64)) else u_holdNanos_pr0)) ∧ Fld Z h pr0 "com/example/roamd/roamd/net/DelayedAck" "urgent" "Z" (.int (nar .boolean (u_urgent_pr0 ||| (if pi2 = pi1 then (if pi3 = (0 : Int32) then (1 : Int32) else (if (u_waiting_pr0 + pi1) < (16 : Int32) then (0 : Int32) else (1 : Int32))) else (1 : Int32)))))
set_option maxRecDepth 65536 in
set_option maxHeartbeats 40000000 in
theorem rm3 (l : Launch) (Z : State) (a0 : Array Value) (hw : ∀ d ∈ tables_1, d.before a0 Z = true) (ws : List Jvm.Cond) (pr0 : Addr) (pi1 : Int32) (pi2 : Int32) (pi3 : Int32) (pj4 : Int64) (u_waiting_pr0 : Int32) (u_firstAt_pr0 : Int64) (u_arrivedBefore_pr0 : Int32) (u_lastArrivedAt_pr0 : Int64) (u_holdNanos_pr0 : Int64) (u_urgent_pr0 : Int32) (h0 : Heap) (n0 : Nat) (O0 : Old Z n0 h0) (S_DELAY_NANOS : Sta Z Z.heap "com/example/roamd/roamd/net/DelayedAck" "DELAY_NANOS" "J" (.long (700000000 : Int64))) (S_ALONE_DELAY_NANOS : Sta Z Z.heap "com/example/roamd/roamd/net/DelayedAck" "ALONE_DELAY_NANOS" "J" (.long (150000000 : Int64))) (E_pr0 : Exa Z h0 pr0 "com/example/roamd/roamd/net/DelayedAck") (F_waiting_pr0 : Fld Z h0 pr0 "com/example/roamd/roamd/net/DelayedAck" "waiting" "I" (.int u_waiting_pr0)) (F_firstAt_pr0 : Fld Z h0 pr0 "com/example/roamd/roamd/net/DelayedAck" "firstAt" "J" (.long u_firstAt_pr0)) (F_arrivedBefore_pr0 : Fld Z h0 pr0 "com/example/roamd/roamd/net/DelayedAck" "arrivedBefore" "Z" (.int u_arrivedBefore_pr0)) (F_lastArrivedAt_pr0 : Fld Z h0 pr0 "com/example/roamd/roamd/net/DelayedAck" "lastArrivedAt" "J" (.long u_lastArrivedAt_pr0)) (F_holdNanos_pr0 : Fld Z h0 pr0 "com/example/roamd/roamd/net/DelayedAck" "holdNanos" "J" (.long u_holdNanos_pr0)) (F_urgent_pr0 : Fld Z h0 pr0 "com/example/roamd/roamd/net/DelayedAck" "urgent" "Z" (.int u_urgent_pr0)) (G_pr0 : n0 ≤ pr0) :
    MetFree l (⟨"com/example/roamd/roamd/net/DelayedAck", "arrived", "(IIZJ)V"⟩ : MethodName) (head1 (Jvm.Cond.code (⟨"com/example/roamd/roamd/net/DelayedAck", "arrived", "(IIZJ)V"⟩ : MethodName) prog_16_method_2_code 7 none :: ws) ({ frames := 0, cells := 0, slots := 0, locals := 0 } : Room)) (fun a U => a = #[(.ref pr0), (.int pi1), (.int pi2), (.int pi3), (.long pj4)] ∧ Z.Warmed39 U.vm ∧ U.heap = h0) (fun _ _ _ _ _ => True) (fun _ U o U' => ∃ v L, o = .returned v ∧ Q3 Z pr0 pi1 pi2 pi3 pj4 u_waiting_pr0 u_firstAt_pr0 u_arrivedBefore_pr0 u_lastArrivedAt_pr0 u_holdNanos_pr0 u_urgent_pr0 h0 n0 v U'.heap L ∧ FrameEnd U o U' L ({ frames := 0, cells := 0, slots := 0, locals := 0 } : Room).cells ({ frames := 0, cells := 0, slots := 0, locals := 0 } : Room).slots) := by
  refine MetFree.of_bodySF (plainFor_of_name pn_com_example_roamd_roamd_net_DelayedAck) hisR ?_
  intro p e s m args below meth c s₁ Bd hml0 hP hK
  obtain ⟨rfl, hZ, hh⟩ := hP
  have hx := Bd.exec
  have hby := Bd.bytes
  have hml : c.maxLocals = 7 := hml0
  have hown : s.vm.findClass "com/example/roamd/roamd/net/DelayedAck" = some m.cls := findClass_of_methodNamed Bd.named
  have hnm := (name_of_methodNamed Bd.named Bd.method).1
  have X0 : Stand p l e ({ frames := 0, cells := 0, slots := 0, locals := 0 } : Room) s m #[(.ref pr0), (.int pi1), (.int pi2), (.int pi3), (.long pj4)] below meth c s₁ [] 0 0 := Stand.of_body Bd
  have e0 : s₁.heap = h0 := by rw [← hh, Bd.state]; rfl
  have N0 := Fr.nil n0
  obtain ⟨Go, hGo⟩ : ∃ P : State → Prop, ∀ t, P t ↔ Steps p.tables e below (s₁.setTop (entryFrame m #[(.ref pr0), (.int pi1), (.int pi2), (.int pi3), (.long pj4)] 7)) t := ⟨_, fun _ => Iff.rfl⟩
  have pre0 : ∀ t, Steps p.tables e below (s₁.setTop (mkF m 0 #[rv pr0, iv pi1, iv pi2, iv pi3, jv pj4, .second, .unset] [])) t → Go t := fun t k => (hGo t).mpr (castTop (ef_3 m pr0 pi1 pi2 pi3 pj4) k)
  have K0 : Keep h0 h0 [pr0] := Keep.refl _ _
  have pre1 : ∀ t, Steps p.tables e below (s₁.setTop (mkF m 1 #[rv pr0, iv pi1, iv pi2, iv pi3, jv pj4, .second, .unset] [(.ref pr0)])) t → Go t := fun t kt => pre0 t (by
      refine y_aloadN X0.here hx (hb hby d3_0) rfl rfl (pc' := 1) rfl ?_
      exact kt)
  obtain ⟨T2, X2, e2, st2⟩ := getF X0 hx hZ hown (host := "") (Or.inl (hw _ (List.mem_of_getElem? (i := 14) rfl))) Via.refl e0 F_waiting_pr0 (g := (mkF m 1 #[rv pr0, iv pi1, iv pi2, iv pi3, jv pj4, .second, .unset] [(.ref pr0)])) rfl rfl (hb hby d3_1)
  have pre3 : ∀ t, Steps p.tables e below (T2.setTop (mkF m 4 #[rv pr0, iv pi1, iv pi2, iv pi3, jv pj4, .second, .unset] [(.int u_waiting_pr0)])) t → Go t := fun t kt => pre1 t (st2 t kt)
  by_cases hc4_4 : u_waiting_pr0 = (0 : Int32)
  · have pre5 : ∀ t, Steps p.tables e below (T2.setTop (mkF m 10 #[rv pr0, iv pi1, iv pi2, iv pi3, jv pj4, .second, .unset] [(.long pj4), (.ref pr0)])) t → Go t := fun t kt => pre3 t (by
        refine y_ifNo X2.here hx (hb hby d3_4) ((if0 _ _).trans (teq hc4_4).2) (pc' := 7) rfl ?_
        refine y_aloadN X2.here hx (hb hby d3_7) rfl rfl (pc' := 8) rfl ?_
        refine y_lload X2.here hx (hb hby d3_8) rfl (pc' := 10) rfl ?_
        exact kt)
    obtain ⟨T6, h6, X6, e6, W6, st6⟩ := putF X2 hx hZ hown (host := "") (Or.inl (hw _ (List.mem_of_getElem? (i := 16) rfl))) Via.refl e2 F_firstAt_pr0 E_pr0 (Or.inl (hw _ (List.mem_of_getElem? (i := 17) rfl))) (hw _ (List.mem_of_getElem? (i := 1) rfl)) (ty := .long) (by decide) rfl rfl (g := (mkF m 10 #[rv pr0, iv pi1, iv pi2, iv pi3, jv pj4, .second, .unset] [(.long pj4), (.ref pr0)])) rfl rfl (hb hby d3_10)
    have pre7 : ∀ t, Steps p.tables e below (T6.setTop (mkF m 13 #[rv pr0, iv pi1, iv pi2, iv pi3, jv pj4, .second, .unset] [])) t → Go t := fun t kt => pre5 t (st6 t kt)
    have f8 : Exa Z h6 pr0 "com/example/roamd/roamd/net/DelayedAck" := (E_pr0.wr W6)
    have f9 : Fld Z h6 pr0 "com/example/roamd/roamd/net/DelayedAck" "waiting" "I" (.int u_waiting_pr0) := (F_waiting_pr0.other W6 (Or.inr (slot_ne (Or.inl (hw _ (List.mem_of_getElem? (i := 15) rfl))) (Or.inl (hw _ (List.mem_of_getElem? (i := 17) rfl))) (by decide) (t := .int) (t' := .long) (by decide) (by decide))))
    have f11 : Fld Z h6 pr0 "com/example/roamd/roamd/net/DelayedAck" "arrivedBefore" "Z" (.int u_arrivedBefore_pr0) := (F_arrivedBefore_pr0.other W6 (Or.inr (slot_ne (Or.inl (hw _ (List.mem_of_getElem? (i := 19) rfl))) (Or.inl (hw _ (List.mem_of_getElem? (i := 17) rfl))) (by decide) (t := .boolean) (t' := .long) (by decide) (by decide))))
    have f12 : Fld Z h6 pr0 "com/example/roamd/roamd/net/DelayedAck" "lastArrivedAt" "J" (.long u_lastArrivedAt_pr0) := (F_lastArrivedAt_pr0.other W6 (Or.inr (slot_ne (Or.inl (hw _ (List.mem_of_getElem? (i := 25) rfl))) (Or.inl (hw _ (List.mem_of_getElem? (i := 17) rfl))) (by decide) (t := .long) (t' := .long) (by decide) (by decide))))
    have f13 : Fld Z h6 pr0 "com/example/roamd/roamd/net/DelayedAck" "holdNanos" "J" (.long u_holdNanos_pr0) := (F_holdNanos_pr0.other W6 (Or.inr (slot_ne (Or.inl (hw _ (List.mem_of_getElem? (i := 23) rfl))) (Or.inl (hw _ (List.mem_of_getElem? (i := 17) rfl))) (by decide) (t := .long) (t' := .long) (by decide) (by decide))))
    have f14 : Fld Z h6 pr0 "com/example/roamd/roamd/net/DelayedAck" "urgent" "Z" (.int u_urgent_pr0) := (F_urgent_pr0.other W6 (Or.inr (slot_ne (Or.inl (hw _ (List.mem_of_getElem? (i := 27) rfl))) (Or.inl (hw _ (List.mem_of_getElem? (i := 17) rfl))) (by decide) (t := .boolean) (t' := .long) (by decide) (by decide))))
    have f15 : Fld Z h6 pr0 "com/example/roamd/roamd/net/DelayedAck" "firstAt" "J" (.long pj4) := F_firstAt_pr0.same W6
    have N16 := Fr.snoc X6 N0 G_pr0
    have O16 := O0.wr W6 G_pr0
    have K16 : Keep h0 h6 [pr0] := K0.wr W6 (Or.inl (List.mem_of_getElem? (i := 0) rfl))
    have pre17 : ∀ t, Steps p.tables e below (T6.setTop (mkF m 14 #[rv pr0, iv pi1, iv pi2, iv pi3, jv pj4, .second, .unset] [(.ref pr0)])) t → Go t := fun t kt => pre7 t (by
        refine y_aloadN X6.here hx (hb hby d3_13) rfl rfl (pc' := 14) rfl ?_
        exact kt)
    obtain ⟨T18, X18, e18, st18⟩ := getF X6 hx hZ hown (host := "") (Or.inl (hw _ (List.mem_of_getElem? (i := 18) rfl))) Via.refl e6 f11 (g := (mkF m 14 #[rv pr0, iv pi1, iv pi2, iv pi3, jv pj4, .second, .unset] [(.ref pr0)])) rfl rfl (hb hby d3_14)
    have pre19 : ∀ t, Steps p.tables e below (T18.setTop (mkF m 17 #[rv pr0, iv pi1, iv pi2, iv pi3, jv pj4, .second, .unset] [(.int u_arrivedBefore_pr0)])) t → Go t := fun t kt => pre17 t (st18 t kt)
    obtain ⟨x20, hx20⟩ : ∃ z : Int32, z = (if u_arrivedBefore_pr0 = (0 : Int32) then (0 : Int32) else (if (700000000 : Int64) < (pj4 - u_lastArrivedAt_pr0) then (0 : Int32) else (1 : Int32))) := ⟨_, rfl⟩
    obtain ⟨T21, ⟨X21, q21⟩, st21⟩ : ∃ T', Nx X18 T' ∧ ∀ t, Steps p.tables e below (T'.setTop (mkF m 39 #[rv pr0, iv pi1, iv pi2, iv pi3, jv pj4, .second, .unset] [(.int x20)])) t → Steps p.tables e below (T18.setTop (mkF m 17 #[rv pr0, iv pi1, iv pi2, iv pi3, jv pj4, .second, .unset] [(.int u_arrivedBefore_pr0)])) t := by
      have pre21_ : ∀ t, Steps p.tables e below (T18.setTop (mkF m 17 #[rv pr0, iv pi1, iv pi2, iv pi3, jv pj4, .second, .unset] [(.int u_arrivedBefore_pr0)])) t → Steps p.tables e below (T18.setTop (mkF m 17 #[rv pr0, iv pi1, iv pi2, iv pi3, jv pj4, .second, .unset] [(.int u_arrivedBefore_pr0)])) t := fun t kt => kt
      subst hx20
      by_cases hm17_22 : u_arrivedBefore_pr0 = (0 : Int32)
      · have pre23 : ∀ t, Steps p.tables e below (T18.setTop (mkF m 39 #[rv pr0, iv pi1, iv pi2, iv pi3, jv pj4, .second, .unset] [(.int (0 : Int32))])) t → Steps p.tables e below (T18.setTop (mkF m 17 #[rv pr0, iv pi1, iv pi2, iv pi3, jv pj4, .second, .unset] [(.int u_arrivedBefore_pr0)])) t := fun t kt => pre21_ t (by
            refine y_ifYes X18.here hx (hb hby d3_17) ((if0 _ _).trans (teq hm17_22).1) (pc' := 38) (by decide) rfl ?_
            refine y_iconst X18.here hx (hb hby d3_38) (v := (0 : Int32)) rfl (pc' := 39) rfl ?_
            exact kt)
        refine ⟨T18, ⟨X18, e18.trans e18.symm⟩, fun t kt => pre23 t ?_⟩
        (try simp only [if_pos hm17_22] at kt)
        exact kt
      · have pre24 : ∀ t, Steps p.tables e below (T18.setTop (mkF m 23 #[rv pr0, iv pi1, iv pi2, iv pi3, jv pj4, .second, .unset] [(.ref pr0), (.long pj4)])) t → Steps p.tables e below (T18.setTop (mkF m 17 #[rv pr0, iv pi1, iv pi2, iv pi3, jv pj4, .second, .unset] [(.int u_arrivedBefore_pr0)])) t := fun t kt => pre21_ t (by
            refine y_ifNo X18.here hx (hb hby d3_17) ((if0 _ _).trans (feq hm17_22).1) (pc' := 20) rfl ?_
            refine y_lload X18.here hx (hb hby d3_20) rfl (pc' := 22) rfl ?_
            refine y_aloadN X18.here hx (hb hby d3_22) rfl rfl (pc' := 23) rfl ?_
            exact kt)
        obtain ⟨T25, X25, e25, st25⟩ := getF X18 hx hZ hown (host := "") (Or.inl (hw _ (List.mem_of_getElem? (i := 24) rfl))) Via.refl e18 f12 (g := (mkF m 23 #[rv pr0, iv pi1, iv pi2, iv pi3, jv pj4, .second, .unset] [(.ref pr0), (.long pj4)])) rfl rfl (hb hby d3_23)
        have pre26 : ∀ t, Steps p.tables e below (T25.setTop (mkF m 26 #[rv pr0, iv pi1, iv pi2, iv pi3, jv pj4, .second, .unset] [(.long u_lastArrivedAt_pr0), (.long pj4)])) t → Steps p.tables e below (T18.setTop (mkF m 17 #[rv pr0, iv pi1, iv pi2, iv pi3, jv pj4, .second, .unset] [(.int u_arrivedBefore_pr0)])) t := fun t kt => pre24 t (st25 t kt)
        have pre27 : ∀ t, Steps p.tables e below (T25.setTop (mkF m 27 #[rv pr0, iv pi1, iv pi2, iv pi3, jv pj4, .second, .unset] [(.long (pj4 - u_lastArrivedAt_pr0))])) t → Steps p.tables e below (T18.setTop (mkF m 17 #[rv pr0, iv pi1, iv pi2, iv pi3, jv pj4, .second, .unset] [(.int u_arrivedBefore_pr0)])) t := fun t kt => pre26 t (by
            refine y_lsub X25.here hx (hb hby d3_26) rfl (pc' := 27) rfl ?_
            exact kt)
        obtain ⟨T28, X28, e28, st28⟩ := getS2 X25 hx hZ hown (host := "") (Or.inl (hw _ (List.mem_of_getElem? (i := 44) rfl))) Via.refl e25 (S_DELAY_NANOS.ext O16.2) (g := (mkF m 27 #[rv pr0, iv pi1, iv pi2, iv pi3, jv pj4, .second, .unset] [(.long (pj4 - u_lastArrivedAt_pr0))])) rfl (hb hby d3_27)
        have pre29 : ∀ t, Steps p.tables e below (T28.setTop (mkF m 30 #[rv pr0, iv pi1, iv pi2, iv pi3, jv pj4, .second, .unset] [(.long (700000000 : Int64)), (.long (pj4 - u_lastArrivedAt_pr0))])) t → Steps p.tables e below (T18.setTop (mkF m 17 #[rv pr0, iv pi1, iv pi2, iv pi3, jv pj4, .second, .unset] [(.int u_arrivedBefore_pr0)])) t := fun t kt => pre27 t (st28 t kt)
        have pre30 : ∀ t, Steps p.tables e below (T28.setTop (mkF m 31 #[rv pr0, iv pi1, iv pi2, iv pi3, jv pj4, .second, .unset] [(.int (lcmpW (pj4 - u_lastArrivedAt_pr0) (700000000 : Int64)))])) t → Steps p.tables e below (T18.setTop (mkF m 17 #[rv pr0, iv pi1, iv pi2, iv pi3, jv pj4, .second, .unset] [(.int u_arrivedBefore_pr0)])) t := fun t kt => pre29 t (by
            refine y_lcmp X28.here hx (hb hby d3_30) (pc' := 31) rfl ?_
            exact kt)
        by_cases hm31_31 : (700000000 : Int64) < (pj4 - u_lastArrivedAt_pr0)
        · have pre32 : ∀ t, Steps p.tables e below (T28.setTop (mkF m 39 #[rv pr0, iv pi1, iv pi2, iv pi3, jv pj4, .second, .unset] [(.int (0 : Int32))])) t → Steps p.tables e below (T18.setTop (mkF m 17 #[rv pr0, iv pi1, iv pi2, iv pi3, jv pj4, .second, .unset] [(.int u_arrivedBefore_pr0)])) t := fun t kt => pre30 t (by
              refine y_ifYes X28.here hx (hb hby d3_31) ((if0 _ _).trans (tlt (lq_gt hm31_31)).2.2.1) (pc' := 38) (by decide) rfl ?_
              refine y_iconst X28.here hx (hb hby d3_38) (v := (0 : Int32)) rfl (pc' := 39) rfl ?_
              exact kt)
          refine ⟨T28, ⟨X28, e28.trans e18.symm⟩, fun t kt => pre32 t ?_⟩
          (try simp only [if_neg hm17_22, if_pos hm31_31] at kt)
          exact kt
        · have pre33 : ∀ t, Steps p.tables e below (T28.setTop (mkF m 39 #[rv pr0, iv pi1, iv pi2, iv pi3, jv pj4, .second, .unset] [(.int (1 : Int32))])) t → Steps p.tables e below (T18.setTop (mkF m 17 #[rv pr0, iv pi1, iv pi2, iv pi3, jv pj4, .second, .unset] [(.int u_arrivedBefore_pr0)])) t := fun t kt => pre30 t (by
              refine y_ifNo X28.here hx (hb hby d3_31) ((if0 _ _).trans (flt (lq_ngt hm31_31)).2.2.1) (pc' := 34) rfl ?_
              refine y_iconst X28.here hx (hb hby d3_34) (v := (1 : Int32)) rfl (pc' := 35) rfl ?_
              refine y_goto X28.here hx (hb hby d3_35) (pc' := 39) (by decide) rfl ?_
              exact kt)
          refine ⟨T28, ⟨X28, e28.trans e18.symm⟩, fun t kt => pre33 t ?_⟩
          (try simp only [if_neg hm17_22, if_neg hm31_31] at kt)
          exact kt
    have e21 : T21.heap = h6 := q21.trans e18
    have pre34 : ∀ t, Steps p.tables e below (T21.setTop (mkF m 39 #[rv pr0, iv pi1, iv pi2, iv pi3, jv pj4, .second, .unset] [(.int x20)])) t → Go t := fun t kt => pre19 t (st21 t kt)
    have pre35 : ∀ t, Steps p.tables e below (T21.setTop (mkF m 44 #[rv pr0, iv pi1, iv pi2, iv pi3, jv pj4, .second, iv x20] [(.int x20), (.ref pr0)])) t → Go t := fun t kt => pre34 t (by
        refine y_istore X21.here hx (hb hby d3_39) (l' := #[rv pr0, iv pi1, iv pi2, iv pi3, jv pj4, .second, iv x20]) rfl (pc' := 41) rfl ?_
        refine y_aloadN X21.here hx (hb hby d3_41) rfl rfl (pc' := 42) rfl ?_
        refine y_iload X21.here hx (hb hby d3_42) rfl (pc' := 44) rfl ?_
        exact kt)
    obtain ⟨x36, hx36⟩ : ∃ z : Int64, z = (if x20 = (0 : Int32) then (150000000 : Int64) else (700000000 : Int64)) := ⟨_, rfl⟩
    obtain ⟨T37, ⟨X37, q37⟩, st37⟩ : ∃ T', Nx X21 T' ∧ ∀ t, Steps p.tables e below (T'.setTop (mkF m 56 #[rv pr0, iv pi1, iv pi2, iv pi3, jv pj4, .second, iv x20] [(.long x36), (.ref pr0)])) t → Steps p.tables e below (T21.setTop (mkF m 44 #[rv pr0, iv pi1, iv pi2, iv pi3, jv pj4, .second, iv x20] [(.int x20), (.ref pr0)])) t := by
      have pre37_ : ∀ t, Steps p.tables e below (T21.setTop (mkF m 44 #[rv pr0, iv pi1, iv pi2, iv pi3, jv pj4, .second, iv x20] [(.int x20), (.ref pr0)])) t → Steps p.tables e below (T21.setTop (mkF m 44 #[rv pr0, iv pi1, iv pi2, iv pi3, jv pj4, .second, iv x20] [(.int x20), (.ref pr0)])) t := fun t kt => kt
      subst hx36
      by_cases hm44_38 : x20 = (0 : Int32)
      · have pre39 : ∀ t, Steps p.tables e below (T21.setTop (mkF m 53 #[rv pr0, iv pi1, iv pi2, iv pi3, jv pj4, .second, iv x20] [(.ref pr0)])) t → Steps p.tables e below (T21.setTop (mkF m 44 #[rv pr0, iv pi1, iv pi2, iv pi3, jv pj4, .second, iv x20] [(.int x20), (.ref pr0)])) t := fun t kt => pre37_ t (by
            refine y_ifYes X21.here hx (hb hby d3_44) ((if0 _ _).trans (teq hm44_38).1) (pc' := 53) (by decide) rfl ?_
            exact kt)
        obtain ⟨T40, X40, e40, st40⟩ := getS2 X21 hx hZ hown (host := "") (Or.inl (hw _ (List.mem_of_getElem? (i := 20) rfl))) Via.refl e21 (S_ALONE_DELAY_NANOS.ext O16.2) (g := (mkF m 53 #[rv pr0, iv pi1, iv pi2, iv pi3, jv pj4, .second, iv x20] [(.ref pr0)])) rfl (hb hby d3_53)
        have pre41 : ∀ t, Steps p.tables e below (T40.setTop (mkF m 56 #[rv pr0, iv pi1, iv pi2, iv pi3, jv pj4, .second, iv x20] [(.long (150000000 : Int64)), (.ref pr0)])) t → Steps p.tables e below (T21.setTop (mkF m 44 #[rv pr0, iv pi1, iv pi2, iv pi3, jv pj4, .second, iv x20] [(.int x20), (.ref pr0)])) t := fun t kt => pre39 t (st40 t kt)
        refine ⟨T40, ⟨X40, e40.trans e21.symm⟩, fun t kt => pre41 t ?_⟩
        (try simp only [if_pos hm44_38] at kt)
        exact kt
      · have pre42 : ∀ t, Steps p.tables e below (T21.setTop (mkF m 47 #[rv pr0, iv pi1, iv pi2, iv pi3, jv pj4, .second, iv x20] [(.ref pr0)])) t → Steps p.tables e below (T21.setTop (mkF m 44 #[rv pr0, iv pi1, iv pi2, iv pi3, jv pj4, .second, iv x20] [(.int x20), (.ref pr0)])) t := fun t kt => pre37_ t (by
            refine y_ifNo X21.here hx (hb hby d3_44) ((if0 _ _).trans (feq hm44_38).1) (pc' := 47) rfl ?_
            exact kt)
        obtain ⟨T43, X43, e43, st43⟩ := getS2 X21 hx hZ hown (host := "") (Or.inl (hw _ (List.mem_of_getElem? (i := 44) rfl))) Via.refl e21 (S_DELAY_NANOS.ext O16.2) (g := (mkF m 47 #[rv pr0, iv pi1, iv pi2, iv pi3, jv pj4, .second, iv x20] [(.ref pr0)])) rfl (hb hby d3_47)
        have pre44 : ∀ t, Steps p.tables e below (T43.setTop (mkF m 50 #[rv pr0, iv pi1, iv pi2, iv pi3, jv pj4, .second, iv x20] [(.long (700000000 : Int64)), (.ref pr0)])) t → Steps p.tables e below (T21.setTop (mkF m 44 #[rv pr0, iv pi1, iv pi2, iv pi3, jv pj4, .second, iv x20] [(.int x20), (.ref pr0)])) t := fun t kt => pre42 t (st43 t kt)
        have pre45 : ∀ t, Steps p.tables e below (T43.setTop (mkF m 56 #[rv pr0, iv pi1, iv pi2, iv pi3, jv pj4, .second, iv x20] [(.long (700000000 : Int64)), (.ref pr0)])) t → Steps p.tables e below (T21.setTop (mkF m 44 #[rv pr0, iv pi1, iv pi2, iv pi3, jv pj4, .second, iv x20] [(.int x20), (.ref pr0)])) t := fun t kt => pre44 t (by
            refine y_goto X43.here hx (hb hby d3_50) (pc' := 56) (by decide) rfl ?_
            exact kt)
        refine ⟨T43, ⟨X43, e43.trans e21.symm⟩, fun t kt => pre45 t ?_⟩
        (try simp only [if_neg hm44_38] at kt)
        exact kt
    have e37 : T37.heap = h6 := q37.trans e21
    have pre46 : ∀ t, Steps p.tables e below (T37.setTop (mkF m 56 #[rv pr0, iv pi1, iv pi2, iv pi3, jv pj4, .second, iv x20] [(.long x36), (.ref pr0)])) t → Go t := fun t kt => pre35 t (st37 t kt)
    obtain ⟨T47, h47, X47, e47, W47, st47⟩ := putF X37 hx hZ hown (host := "") (Or.inl (hw _ (List.mem_of_getElem? (i := 22) rfl))) Via.refl e37 f13 f8 (Or.inl (hw _ (List.mem_of_getElem? (i := 23) rfl))) (hw _ (List.mem_of_getElem? (i := 1) rfl)) (ty := .long) (by decide) rfl rfl (g := (mkF m 56 #[rv pr0, iv pi1, iv pi2, iv pi3, jv pj4, .second, iv x20] [(.long x36), (.ref pr0)])) rfl rfl (hb hby d3_56)
    have pre48 : ∀ t, Steps p.tables e below (T47.setTop (mkF m 59 #[rv pr0, iv pi1, iv pi2, iv pi3, jv pj4, .second, iv x20] [])) t → Go t := fun t kt => pre46 t (st47 t kt)
    have f49 : Exa Z h47 pr0 "com/example/roamd/roamd/net/DelayedAck" := (f8.wr W47)
    have f50 : Fld Z h47 pr0 "com/example/roamd/roamd/net/DelayedAck" "waiting" "I" (.int u_waiting_pr0) := (f9.other W47 (Or.inr (slot_ne (Or.inl (hw _ (List.mem_of_getElem? (i := 15) rfl))) (Or.inl (hw _ (List.mem_of_getElem? (i := 23) rfl))) (by decide) (t := .int) (t' := .long) (by decide) (by decide))))
    have f51 : Fld Z h47 pr0 "com/example/roamd/roamd/net/DelayedAck" "arrivedBefore" "Z" (.int u_arrivedBefore_pr0) := (f11.other W47 (Or.inr (slot_ne (Or.inl (hw _ (List.mem_of_getElem? (i := 19) rfl))) (Or.inl (hw _ (List.mem_of_getElem? (i := 23) rfl))) (by decide) (t := .boolean) (t' := .long) (by decide) (by decide))))
    have f52 : Fld Z h47 pr0 "com/example/roamd/roamd/net/DelayedAck" "lastArrivedAt" "J" (.long u_lastArrivedAt_pr0) := (f12.other W47 (Or.inr (slot_ne (Or.inl (hw _ (List.mem_of_getElem? (i := 25) rfl))) (Or.inl (hw _ (List.mem_of_getElem? (i := 23) rfl))) (by decide) (t := .long) (t' := .long) (by decide) (by decide))))
    have f54 : Fld Z h47 pr0 "com/example/roamd/roamd/net/DelayedAck" "urgent" "Z" (.int u_urgent_pr0) := (f14.other W47 (Or.inr (slot_ne (Or.inl (hw _ (List.mem_of_getElem? (i := 27) rfl))) (Or.inl (hw _ (List.mem_of_getElem? (i := 23) rfl))) (by decide) (t := .boolean) (t' := .long) (by decide) (by decide))))
    have f55 : Fld Z h47 pr0 "com/example/roamd/roamd/net/DelayedAck" "firstAt" "J" (.long pj4) := (f15.other W47 (Or.inr (slot_ne (Or.inl (hw _ (List.mem_of_getElem? (i := 17) rfl))) (Or.inl (hw _ (List.mem_of_getElem? (i := 23) rfl))) (by decide) (t := .long) (t' := .long) (by decide) (by decide))))
    have f56 : Fld Z h47 pr0 "com/example/roamd/roamd/net/DelayedAck" "holdNanos" "J" (.long x36) := f13.same W47
    have N57 := Fr.snoc X47 N16 G_pr0
    have O57 := O16.wr W47 G_pr0
    have K57 : Keep h0 h47 [pr0] := K16.wr W47 (Or.inl (List.mem_of_getElem? (i := 0) rfl))
    have pre58 : ∀ t, Steps p.tables e below (T47.setTop (mkF m 61 #[rv pr0, iv pi1, iv pi2, iv pi3, jv pj4, .second, iv x20] [(.int (1 : Int32)), (.ref pr0)])) t → Go t := fun t kt => pre48 t (by
        refine y_aloadN X47.here hx (hb hby d3_59) rfl rfl (pc' := 60) rfl ?_
        refine y_iconst X47.here hx (hb hby d3_60) (v := (1 : Int32)) rfl (pc' := 61) rfl ?_
        exact kt)
    obtain ⟨T59, h59, X59, e59, W59, st59⟩ := putFN X47 hx hZ hown (hw _ (List.mem_of_getElem? (i := 18) rfl)) Via.refl e47 f51 f49 (Or.inl (hw _ (List.mem_of_getElem? (i := 19) rfl))) (hw _ (List.mem_of_getElem? (i := 1) rfl)) (ty := .boolean) (v' := (.int (1 : Int32))) (by decide) rfl (by decide) (g := (mkF m 61 #[rv pr0, iv pi1, iv pi2, iv pi3, jv pj4, .second, iv x20] [(.int (1 : Int32)), (.ref pr0)])) rfl rfl (hb hby d3_61)
    have pre60 : ∀ t, Steps p.tables e below (T59.setTop (mkF m 64 #[rv pr0, iv pi1, iv pi2, iv pi3, jv pj4, .second, iv x20] [])) t → Go t := fun t kt => pre58 t (st59 t kt)
    have f61 : Exa Z h59 pr0 "com/example/roamd/roamd/net/DelayedAck" := (f49.wr W59)
    have f62 : Fld Z h59 pr0 "com/example/roamd/roamd/net/DelayedAck" "waiting" "I" (.int u_waiting_pr0) := (f50.other W59 (Or.inr (slot_ne (Or.inl (hw _ (List.mem_of_getElem? (i := 15) rfl))) (Or.inl (hw _ (List.mem_of_getElem? (i := 19) rfl))) (by decide) (t := .int) (t' := .boolean) (by decide) (by decide))))
    have f64 : Fld Z h59 pr0 "com/example/roamd/roamd/net/DelayedAck" "lastArrivedAt" "J" (.long u_lastArrivedAt_pr0) := (f52.other W59 (Or.inr (slot_ne (Or.inl (hw _ (List.mem_of_getElem? (i := 25) rfl))) (Or.inl (hw _ (List.mem_of_getElem? (i := 19) rfl))) (by decide) (t := .long) (t' := .boolean) (by decide) (by decide))))
    have f65 : Fld Z h59 pr0 "com/example/roamd/roamd/net/DelayedAck" "urgent" "Z" (.int u_urgent_pr0) := (f54.other W59 (Or.inr (slot_ne (Or.inl (hw _ (List.mem_of_getElem? (i := 27) rfl))) (Or.inl (hw _ (List.mem_of_getElem? (i := 19) rfl))) (by decide) (t := .boolean) (t' := .boolean) (by decide) (by decide))))
    have f66 : Fld Z h59 pr0 "com/example/roamd/roamd/net/DelayedAck" "firstAt" "J" (.long pj4) := (f55.other W59 (Or.inr (slot_ne (Or.inl (hw _ (List.mem_of_getElem? (i := 17) rfl))) (Or.inl (hw _ (List.mem_of_getElem? (i := 19) rfl))) (by decide) (t := .long) (t' := .boolean) (by decide) (by decide))))
    have f67 : Fld Z h59 pr0 "com/example/roamd/roamd/net/DelayedAck" "holdNanos" "J" (.long x36) := (f56.other W59 (Or.inr (slot_ne (Or.inl (hw _ (List.mem_of_getElem? (i := 23) rfl))) (Or.inl (hw _ (List.mem_of_getElem? (i := 19) rfl))) (by decide) (t := .long) (t' := .boolean) (by decide) (by decide))))
    have f68 : Fld Z h59 pr0 "com/example/roamd/roamd/net/DelayedAck" "arrivedBefore" "Z" (.int (1 : Int32)) := f51.same W59
    have N69 := Fr.snoc X59 N57 G_pr0
    have O69 := O57.wr W59 G_pr0
    have K69 : Keep h0 h59 [pr0] := K57.wr W59 (Or.inl (List.mem_of_getElem? (i := 0) rfl))
    have pre70 : ∀ t, Steps p.tables e below (T59.setTop (mkF m 67 #[rv pr0, iv pi1, iv pi2, iv pi3, jv pj4, .second, iv x20] [(.long pj4), (.ref pr0)])) t → Go t := fun t kt => pre60 t (by
        refine y_aloadN X59.here hx (hb hby d3_64) rfl rfl (pc' := 65) rfl ?_
        refine y_lload X59.here hx (hb hby d3_65) rfl (pc' := 67) rfl ?_
        exact kt)
    obtain ⟨T71, h71, X71, e71, W71, st71⟩ := putF X59 hx hZ hown (host := "") (Or.inl (hw _ (List.mem_of_getElem? (i := 24) rfl))) Via.refl e59 f64 f61 (Or.inl (hw _ (List.mem_of_getElem? (i := 25) rfl))) (hw _ (List.mem_of_getElem? (i := 1) rfl)) (ty := .long) (by decide) rfl rfl (g := (mkF m 67 #[rv pr0, iv pi1, iv pi2, iv pi3, jv pj4, .second, iv x20] [(.long pj4), (.ref pr0)])) rfl rfl (hb hby d3_67)
    have pre72 : ∀ t, Steps p.tables e below (T71.setTop (mkF m 70 #[rv pr0, iv pi1, iv pi2, iv pi3, jv pj4, .second, iv x20] [])) t → Go t := fun t kt => pre70 t (st71 t kt)
    have f73 : Exa Z h71 pr0 "com/example/roamd/roamd/net/DelayedAck" := (f61.wr W71)
    have f74 : Fld Z h71 pr0 "com/example/roamd/roamd/net/DelayedAck" "waiting" "I" (.int u_waiting_pr0) := (f62.other W71 (Or.inr (slot_ne (Or.inl (hw _ (List.mem_of_getElem? (i := 15) rfl))) (Or.inl (hw _ (List.mem_of_getElem? (i := 25) rfl))) (by decide) (t := .int) (t' := .long) (by decide) (by decide))))
    have f76 : Fld Z h71 pr0 "com/example/roamd/roamd/net/DelayedAck" "urgent" "Z" (.int u_urgent_pr0) := (f65.other W71 (Or.inr (slot_ne (Or.inl (hw _ (List.mem_of_getElem? (i := 27) rfl))) (Or.inl (hw _ (List.mem_of_getElem? (i := 25) rfl))) (by decide) (t := .boolean) (t' := .long) (by decide) (by decide))))
    have f77 : Fld Z h71 pr0 "com/example/roamd/roamd/net/DelayedAck" "firstAt" "J" (.long pj4) := (f66.other W71 (Or.inr (slot_ne (Or.inl (hw _ (List.mem_of_getElem? (i := 17) rfl))) (Or.inl (hw _ (List.mem_of_getElem? (i := 25) rfl))) (by decide) (t := .long) (t' := .long) (by decide) (by decide))))
    have f78 : Fld Z h71 pr0 "com/example/roamd/roamd/net/DelayedAck" "holdNanos" "J" (.long x36) := (f67.other W71 (Or.inr (slot_ne (Or.inl (hw _ (List.mem_of_getElem? (i := 23) rfl))) (Or.inl (hw _ (List.mem_of_getElem? (i := 25) rfl))) (by decide) (t := .long) (t' := .long) (by decide) (by decide))))
    have f79 : Fld Z h71 pr0 "com/example/roamd/roamd/net/DelayedAck" "arrivedBefore" "Z" (.int (1 : Int32)) := (f68.other W71 (Or.inr (slot_ne (Or.inl (hw _ (List.mem_of_getElem? (i := 19) rfl))) (Or.inl (hw _ (List.mem_of_getElem? (i := 25) rfl))) (by decide) (t := .boolean) (t' := .long) (by decide) (by decide))))
    have f80 : Fld Z h71 pr0 "com/example/roamd/roamd/net/DelayedAck" "lastArrivedAt" "J" (.long pj4) := f64.same W71
    have N81 := Fr.snoc X71 N69 G_pr0
    have O81 := O69.wr W71 G_pr0
    have K81 : Keep h0 h71 [pr0] := K69.wr W71 (Or.inl (List.mem_of_getElem? (i := 0) rfl))
    have pre82 : ∀ t, Steps p.tables e below (T71.setTop (mkF m 72 #[rv pr0, iv pi1, iv pi2, iv pi3, jv pj4, .second, iv x20] [(.ref pr0), (.ref pr0)])) t → Go t := fun t kt => pre72 t (by
        refine y_aloadN X71.here hx (hb hby d3_70) rfl rfl (pc' := 71) rfl ?_
        refine y_dup X71.here hx (hb hby d3_71) rfl (pc' := 72) rfl ?_
        exact kt)
    obtain ⟨T83, X83, e83, st83⟩ := getF X71 hx hZ hown (host := "") (Or.inl (hw _ (List.mem_of_getElem? (i := 14) rfl))) Via.refl e71 f74 (g := (mkF m 72 #[rv pr0, iv pi1, iv pi2, iv pi3, jv pj4, .second, iv x20] [(.ref pr0), (.ref pr0)])) rfl rfl (hb hby d3_72)
    have pre84 : ∀ t, Steps p.tables e below (T83.setTop (mkF m 75 #[rv pr0, iv pi1, iv pi2, iv pi3, jv pj4, .second, iv x20] [(.int u_waiting_pr0), (.ref pr0)])) t → Go t := fun t kt => pre82 t (st83 t kt)
    have pre85 : ∀ t, Steps p.tables e below (T83.setTop (mkF m 77 #[rv pr0, iv pi1, iv pi2, iv pi3, jv pj4, .second, iv x20] [(.int (u_waiting_pr0 + pi1)), (.ref pr0)])) t → Go t := fun t kt => pre84 t (by
        refine y_iloadN X83.here hx (hb hby d3_75) rfl (pc' := 76) rfl ?_
        refine y_iadd X83.here hx (hb hby d3_76) rfl (pc' := 77) rfl ?_
        exact kt)
    obtain ⟨x86, hx86⟩ : ∃ z : Int32, z = (u_waiting_pr0 + pi1) := ⟨_, rfl⟩
    have pre87 : ∀ t, Steps p.tables e below (T83.setTop (mkF m 77 #[rv pr0, iv pi1, iv pi2, iv pi3, jv pj4, .second, iv x20] [(.int x86), (.ref pr0)])) t → Go t := by subst hx86; exact pre85
    obtain ⟨T88, h88, X88, e88, W88, st88⟩ := putF X83 hx hZ hown (host := "") (Or.inl (hw _ (List.mem_of_getElem? (i := 14) rfl))) Via.refl e83 f74 f73 (Or.inl (hw _ (List.mem_of_getElem? (i := 15) rfl))) (hw _ (List.mem_of_getElem? (i := 1) rfl)) (ty := .int) (by decide) rfl rfl (g := (mkF m 77 #[rv pr0, iv pi1, iv pi2, iv pi3, jv pj4, .second, iv x20] [(.int x86), (.ref pr0)])) rfl rfl (hb hby d3_77)
    have pre89 : ∀ t, Steps p.tables e below (T88.setTop (mkF m 80 #[rv pr0, iv pi1, iv pi2, iv pi3, jv pj4, .second, iv x20] [])) t → Go t := fun t kt => pre87 t (st88 t kt)
    have f90 : Exa Z h88 pr0 "com/example/roamd/roamd/net/DelayedAck" := (f73.wr W88)
    have f92 : Fld Z h88 pr0 "com/example/roamd/roamd/net/DelayedAck" "urgent" "Z" (.int u_urgent_pr0) := (f76.other W88 (Or.inr (slot_ne (Or.inl (hw _ (List.mem_of_getElem? (i := 27) rfl))) (Or.inl (hw _ (List.mem_of_getElem? (i := 15) rfl))) (by decide) (t := .boolean) (t' := .int) (by decide) (by decide))))
    have f93 : Fld Z h88 pr0 "com/example/roamd/roamd/net/DelayedAck" "firstAt" "J" (.long pj4) := (f77.other W88 (Or.inr (slot_ne (Or.inl (hw _ (List.mem_of_getElem? (i := 17) rfl))) (Or.inl (hw _ (List.mem_of_getElem? (i := 15) rfl))) (by decide) (t := .long) (t' := .int) (by decide) (by decide))))
    have f94 : Fld Z h88 pr0 "com/example/roamd/roamd/net/DelayedAck" "holdNanos" "J" (.long x36) := (f78.other W88 (Or.inr (slot_ne (Or.inl (hw _ (List.mem_of_getElem? (i := 23) rfl))) (Or.inl (hw _ (List.mem_of_getElem? (i := 15) rfl))) (by decide) (t := .long) (t' := .int) (by decide) (by decide))))
    have f95 : Fld Z h88 pr0 "com/example/roamd/roamd/net/DelayedAck" "arrivedBefore" "Z" (.int (1 : Int32)) := (f79.other W88 (Or.inr (slot_ne (Or.inl (hw _ (List.mem_of_getElem? (i := 19) rfl))) (Or.inl (hw _ (List.mem_of_getElem? (i := 15) rfl))) (by decide) (t := .boolean) (t' := .int) (by decide) (by decide))))
    have f96 : Fld Z h88 pr0 "com/example/roamd/roamd/net/DelayedAck" "lastArrivedAt" "J" (.long pj4) := (f80.other W88 (Or.inr (slot_ne (Or.inl (hw _ (List.mem_of_getElem? (i := 25) rfl))) (Or.inl (hw _ (List.mem_of_getElem? (i := 15) rfl))) (by decide) (t := .long) (t' := .int) (by decide) (by decide))))
    have f97 : Fld Z h88 pr0 "com/example/roamd/roamd/net/DelayedAck" "waiting" "I" (.int x86) := f74.same W88
    have N98 := Fr.snoc X88 N81 G_pr0
    have O98 := O81.wr W88 G_pr0
    have K98 : Keep h0 h88 [pr0] := K81.wr W88 (Or.inl (List.mem_of_getElem? (i := 0) rfl))
    have pre99 : ∀ t, Steps p.tables e below (T88.setTop (mkF m 82 #[rv pr0, iv pi1, iv pi2, iv pi3, jv pj4, .second, iv x20] [(.ref pr0), (.ref pr0)])) t → Go t := fun t kt => pre89 t (by
        refine y_aloadN X88.here hx (hb hby d3_80) rfl rfl (pc' := 81) rfl ?_
        refine y_dup X88.here hx (hb hby d3_81) rfl (pc' := 82) rfl ?_
        exact kt)
    obtain ⟨T100, X100, e100, st100⟩ := getF X88 hx hZ hown (host := "") (Or.inl (hw _ (List.mem_of_getElem? (i := 26) rfl))) Via.refl e88 f92 (g := (mkF m 82 #[rv pr0, iv pi1, iv pi2, iv pi3, jv pj4, .second, iv x20] [(.ref pr0), (.ref pr0)])) rfl rfl (hb hby d3_82)
    have pre101 : ∀ t, Steps p.tables e below (T100.setTop (mkF m 85 #[rv pr0, iv pi1, iv pi2, iv pi3, jv pj4, .second, iv x20] [(.int u_urgent_pr0), (.ref pr0)])) t → Go t := fun t kt => pre99 t (st100 t kt)
    have pre102 : ∀ t, Steps p.tables e below (T100.setTop (mkF m 87 #[rv pr0, iv pi1, iv pi2, iv pi3, jv pj4, .second, iv x20] [(.int pi1), (.int pi2), (.int u_urgent_pr0), (.ref pr0)])) t → Go t := fun t kt => pre101 t (by
        refine y_iloadN X100.here hx (hb hby d3_85) rfl (pc' := 86) rfl ?_
        refine y_iloadN X100.here hx (hb hby d3_86) rfl (pc' := 87) rfl ?_
        exact kt)
    obtain ⟨x103, hx103⟩ : ∃ z : Int32, z = (if pi2 = pi1 then (if pi3 = (0 : Int32) then (1 : Int32) else (if x86 < (16 : Int32) then (0 : Int32) else (1 : Int32))) else (1 : Int32)) := ⟨_, rfl⟩
    obtain ⟨T104, ⟨X104, q104⟩, st104⟩ : ∃ T', Nx X100 T' ∧ ∀ t, Steps p.tables e below (T'.setTop (mkF m 108 #[rv pr0, iv pi1, iv pi2, iv pi3, jv pj4, .second, iv x20] [(.int x103), (.int u_urgent_pr0), (.ref pr0)])) t → Steps p.tables e below (T100.setTop (mkF m 87 #[rv pr0, iv pi1, iv pi2, iv pi3, jv pj4, .second, iv x20] [(.int pi1), (.int pi2), (.int u_urgent_pr0), (.ref pr0)])) t := by
      have pre104_ : ∀ t, Steps p.tables e below (T100.setTop (mkF m 87 #[rv pr0, iv pi1, iv pi2, iv pi3, jv pj4, .second, iv x20] [(.int pi1), (.int pi2), (.int u_urgent_pr0), (.ref pr0)])) t → Steps p.tables e below (T100.setTop (mkF m 87 #[rv pr0, iv pi1, iv pi2, iv pi3, jv pj4, .second, iv x20] [(.int pi1), (.int pi2), (.int u_urgent_pr0), (.ref pr0)])) t := fun t kt => kt
      subst hx103
      by_cases hm87_105 : pi2 = pi1
      · have pre106 : ∀ t, Steps p.tables e below (T100.setTop (mkF m 91 #[rv pr0, iv pi1, iv pi2, iv pi3, jv pj4, .second, iv x20] [(.int pi3), (.int u_urgent_pr0), (.ref pr0)])) t → Steps p.tables e below (T100.setTop (mkF m 87 #[rv pr0, iv pi1, iv pi2, iv pi3, jv pj4, .second, iv x20] [(.int pi1), (.int pi2), (.int u_urgent_pr0), (.ref pr0)])) t := fun t kt => pre104_ t (by
            refine y_icmpNo X100.here hx (hb hby d3_87) (teq hm87_105).2 (pc' := 90) rfl ?_
            refine y_iloadN X100.here hx (hb hby d3_90) rfl (pc' := 91) rfl ?_
            exact kt)
        by_cases hm91_107 : pi3 = (0 : Int32)
        · have pre108 : ∀ t, Steps p.tables e below (T100.setTop (mkF m 108 #[rv pr0, iv pi1, iv pi2, iv pi3, jv pj4, .second, iv x20] [(.int (1 : Int32)), (.int u_urgent_pr0), (.ref pr0)])) t → Steps p.tables e below (T100.setTop (mkF m 87 #[rv pr0, iv pi1, iv pi2, iv pi3, jv pj4, .second, iv x20] [(.int pi1), (.int pi2), (.int u_urgent_pr0), (.ref pr0)])) t := fun t kt => pre106 t (by
              refine y_ifYes X100.here hx (hb hby d3_91) ((if0 _ _).trans (teq hm91_107).1) (pc' := 103) (by decide) rfl ?_
              refine y_iconst X100.here hx (hb hby d3_103) (v := (1 : Int32)) rfl (pc' := 104) rfl ?_
              refine y_goto X100.here hx (hb hby d3_104) (pc' := 108) (by decide) rfl ?_
              exact kt)
          refine ⟨T100, ⟨X100, e100.trans e100.symm⟩, fun t kt => pre108 t ?_⟩
          (try simp only [if_pos hm87_105, if_pos hm91_107] at kt)
          exact kt
        · have pre109 : ∀ t, Steps p.tables e below (T100.setTop (mkF m 95 #[rv pr0, iv pi1, iv pi2, iv pi3, jv pj4, .second, iv x20] [(.ref pr0), (.int u_urgent_pr0), (.ref pr0)])) t → Steps p.tables e below (T100.setTop (mkF m 87 #[rv pr0, iv pi1, iv pi2, iv pi3, jv pj4, .second, iv x20] [(.int pi1), (.int pi2), (.int u_urgent_pr0), (.ref pr0)])) t := fun t kt => pre106 t (by
              refine y_ifNo X100.here hx (hb hby d3_91) ((if0 _ _).trans (feq hm91_107).1) (pc' := 94) rfl ?_
              refine y_aloadN X100.here hx (hb hby d3_94) rfl rfl (pc' := 95) rfl ?_
              exact kt)
          obtain ⟨T110, X110, e110, st110⟩ := getF X100 hx hZ hown (host := "") (Or.inl (hw _ (List.mem_of_getElem? (i := 14) rfl))) Via.refl e100 f97 (g := (mkF m 95 #[rv pr0, iv pi1, iv pi2, iv pi3, jv pj4, .second, iv x20] [(.ref pr0), (.int u_urgent_pr0), (.ref pr0)])) rfl rfl (hb hby d3_95)
          have pre111 : ∀ t, Steps p.tables e below (T110.setTop (mkF m 98 #[rv pr0, iv pi1, iv pi2, iv pi3, jv pj4, .second, iv x20] [(.int x86), (.int u_urgent_pr0), (.ref pr0)])) t → Steps p.tables e below (T100.setTop (mkF m 87 #[rv pr0, iv pi1, iv pi2, iv pi3, jv pj4, .second, iv x20] [(.int pi1), (.int pi2), (.int u_urgent_pr0), (.ref pr0)])) t := fun t kt => pre109 t (st110 t kt)
          have pre112 : ∀ t, Steps p.tables e below (T110.setTop (mkF m 100 #[rv pr0, iv pi1, iv pi2, iv pi3, jv pj4, .second, iv x20] [(.int (16 : Int32)), (.int x86), (.int u_urgent_pr0), (.ref pr0)])) t → Steps p.tables e below (T100.setTop (mkF m 87 #[rv pr0, iv pi1, iv pi2, iv pi3, jv pj4, .second, iv x20] [(.int pi1), (.int pi2), (.int u_urgent_pr0), (.ref pr0)])) t := fun t kt => pre111 t (by
              refine y_bipush X110.here hx (hb hby d3_98) (v := (16 : Int32)) rfl (pc' := 100) rfl ?_
              exact kt)
          by_cases hm100_113 : x86 < (16 : Int32)
          · have pre114 : ∀ t, Steps p.tables e below (T110.setTop (mkF m 108 #[rv pr0, iv pi1, iv pi2, iv pi3, jv pj4, .second, iv x20] [(.int (0 : Int32)), (.int u_urgent_pr0), (.ref pr0)])) t → Steps p.tables e below (T100.setTop (mkF m 87 #[rv pr0, iv pi1, iv pi2, iv pi3, jv pj4, .second, iv x20] [(.int pi1), (.int pi2), (.int u_urgent_pr0), (.ref pr0)])) t := fun t kt => pre112 t (by
                refine y_icmpYes X110.here hx (hb hby d3_100) (tlt hm100_113).1 (pc' := 107) (by decide) rfl ?_
                refine y_iconst X110.here hx (hb hby d3_107) (v := (0 : Int32)) rfl (pc' := 108) rfl ?_
                exact kt)
            refine ⟨T110, ⟨X110, e110.trans e100.symm⟩, fun t kt => pre114 t ?_⟩
            (try simp only [if_pos hm87_105, if_neg hm91_107, if_pos hm100_113] at kt)
            exact kt
          · have pre115 : ∀ t, Steps p.tables e below (T110.setTop (mkF m 108 #[rv pr0, iv pi1, iv pi2, iv pi3, jv pj4, .second, iv x20] [(.int (1 : Int32)), (.int u_urgent_pr0), (.ref pr0)])) t → Steps p.tables e below (T100.setTop (mkF m 87 #[rv pr0, iv pi1, iv pi2, iv pi3, jv pj4, .second, iv x20] [(.int pi1), (.int pi2), (.int u_urgent_pr0), (.ref pr0)])) t := fun t kt => pre112 t (by
                refine y_icmpNo X110.here hx (hb hby d3_100) (flt hm100_113).1 (pc' := 103) rfl ?_
                refine y_iconst X110.here hx (hb hby d3_103) (v := (1 : Int32)) rfl (pc' := 104) rfl ?_
                refine y_goto X110.here hx (hb hby d3_104) (pc' := 108) (by decide) rfl ?_
                exact kt)
            refine ⟨T110, ⟨X110, e110.trans e100.symm⟩, fun t kt => pre115 t ?_⟩
            (try simp only [if_pos hm87_105, if_neg hm91_107, if_neg hm100_113] at kt)
            exact kt
      · have pre116 : ∀ t, Steps p.tables e below (T100.setTop (mkF m 108 #[rv pr0, iv pi1, iv pi2, iv pi3, jv pj4, .second, iv x20] [(.int (1 : Int32)), (.int u_urgent_pr0), (.ref pr0)])) t → Steps p.tables e below (T100.setTop (mkF m 87 #[rv pr0, iv pi1, iv pi2, iv pi3, jv pj4, .second, iv x20] [(.int pi1), (.int pi2), (.int u_urgent_pr0), (.ref pr0)])) t := fun t kt => pre104_ t (by
            refine y_icmpYes X100.here hx (hb hby d3_87) (feq hm87_105).2 (pc' := 103) (by decide) rfl ?_
            refine y_iconst X100.here hx (hb hby d3_103) (v := (1 : Int32)) rfl (pc' := 104) rfl ?_
            refine y_goto X100.here hx (hb hby d3_104) (pc' := 108) (by decide) rfl ?_
            exact kt)
        refine ⟨T100, ⟨X100, e100.trans e100.symm⟩, fun t kt => pre116 t ?_⟩
        (try simp only [if_neg hm87_105] at kt)
        exact kt
    have e104 : T104.heap = h88 := q104.trans e100
    have pre117 : ∀ t, Steps p.tables e below (T104.setTop (mkF m 108 #[rv pr0, iv pi1, iv pi2, iv pi3, jv pj4, .second, iv x20] [(.int x103), (.int u_urgent_pr0), (.ref pr0)])) t → Go t := fun t kt => pre102 t (st104 t kt)
    have pre118 : ∀ t, Steps p.tables e below (T104.setTop (mkF m 109 #[rv pr0, iv pi1, iv pi2, iv pi3, jv pj4, .second, iv x20] [(.int (u_urgent_pr0 ||| x103)), (.ref pr0)])) t → Go t := fun t kt => pre117 t (by
        refine y_ior X104.here hx (hb hby d3_108) rfl (pc' := 109) rfl ?_
        exact kt)
    obtain ⟨x119, hx119⟩ : ∃ z : Int32, z = (u_urgent_pr0 ||| x103) := ⟨_, rfl⟩
    have pre120 : ∀ t, Steps p.tables e below (T104.setTop (mkF m 109 #[rv pr0, iv pi1, iv pi2, iv pi3, jv pj4, .second, iv x20] [(.int x119), (.ref pr0)])) t → Go t := by subst hx119; exact pre118
    obtain ⟨T121, h121, X121, e121, W121, st121⟩ := putFN X104 hx hZ hown (hw _ (List.mem_of_getElem? (i := 26) rfl)) Via.refl e104 f92 f90 (Or.inl (hw _ (List.mem_of_getElem? (i := 27) rfl))) (hw _ (List.mem_of_getElem? (i := 1) rfl)) (ty := .boolean) (v' := (.int (nar .boolean x119))) (by decide) rfl (fits_nar_bool _) (g := (mkF m 109 #[rv pr0, iv pi1, iv pi2, iv pi3, jv pj4, .second, iv x20] [(.int x119), (.ref pr0)])) rfl rfl (hb hby d3_109)
    have pre122 : ∀ t, Steps p.tables e below (T121.setTop (mkF m 112 #[rv pr0, iv pi1, iv pi2, iv pi3, jv pj4, .second, iv x20] [])) t → Go t := fun t kt => pre120 t (st121 t kt)
    have f123 : Exa Z h121 pr0 "com/example/roamd/roamd/net/DelayedAck" := (f90.wr W121)
    have f125 : Fld Z h121 pr0 "com/example/roamd/roamd/net/DelayedAck" "firstAt" "J" (.long pj4) := (f93.other W121 (Or.inr (slot_ne (Or.inl (hw _ (List.mem_of_getElem? (i := 17) rfl))) (Or.inl (hw _ (List.mem_of_getElem? (i := 27) rfl))) (by decide) (t := .long) (t' := .boolean) (by decide) (by decide))))
    have f126 : Fld Z h121 pr0 "com/example/roamd/roamd/net/DelayedAck" "holdNanos" "J" (.long x36) := (f94.other W121 (Or.inr (slot_ne (Or.inl (hw _ (List.mem_of_getElem? (i := 23) rfl))) (Or.inl (hw _ (List.mem_of_getElem? (i := 27) rfl))) (by decide) (t := .long) (t' := .boolean) (by decide) (by decide))))
    have f127 : Fld Z h121 pr0 "com/example/roamd/roamd/net/DelayedAck" "arrivedBefore" "Z" (.int (1 : Int32)) := (f95.other W121 (Or.inr (slot_ne (Or.inl (hw _ (List.mem_of_getElem? (i := 19) rfl))) (Or.inl (hw _ (List.mem_of_getElem? (i := 27) rfl))) (by decide) (t := .boolean) (t' := .boolean) (by decide) (by decide))))
    have f128 : Fld Z h121 pr0 "com/example/roamd/roamd/net/DelayedAck" "lastArrivedAt" "J" (.long pj4) := (f96.other W121 (Or.inr (slot_ne (Or.inl (hw _ (List.mem_of_getElem? (i := 25) rfl))) (Or.inl (hw _ (List.mem_of_getElem? (i := 27) rfl))) (by decide) (t := .long) (t' := .boolean) (by decide) (by decide))))
    have f129 : Fld Z h121 pr0 "com/example/roamd/roamd/net/DelayedAck" "waiting" "I" (.int x86) := (f97.other W121 (Or.inr (slot_ne (Or.inl (hw _ (List.mem_of_getElem? (i := 15) rfl))) (Or.inl (hw _ (List.mem_of_getElem? (i := 27) rfl))) (by decide) (t := .int) (t' := .boolean) (by decide) (by decide))))
    have f130 : Fld Z h121 pr0 "com/example/roamd/roamd/net/DelayedAck" "urgent" "Z" (.int (nar .boolean x119)) := f92.same W121
    have N131 := Fr.snoc X121 N98 G_pr0
    have O131 := O98.wr W121 G_pr0
    have K131 : Keep h0 h121 [pr0] := K98.wr W121 (Or.inl (List.mem_of_getElem? (i := 0) rfl))
    obtain ⟨fs, hr, hrun, hended, hW, hsame⟩ := X121.leave (v := none) (fun _ => rfl)
    refine ⟨_, _, (hGo _).mp (pre122 _ ?_), hrun, hended, _, _, rfl, ?_, ⟨_, rfl⟩, hW, hsame.mono (by decide) (by decide)⟩
    · exact X121.returnOut hx Bd.returns (hb hby d3_112) hr
    · show Q3 Z pr0 pi1 pi2 pi3 pj4 u_waiting_pr0 u_firstAt_pr0 u_arrivedBefore_pr0 u_lastArrivedAt_pr0 u_holdNanos_pr0 u_urgent_pr0 h0 n0 _ T121.heap _
      rw [e121]
      subst hx20 hx36 hx86 hx103 hx119
      exact ⟨rfl, N131, K131, f129, (by first | (simp only [if_pos hc4_4]; done) | (simp only [if_pos hc4_4]; exact f125) | exact f125), f127, f128, (by first | (simp only [if_pos hc4_4]; done) | (simp only [if_pos hc4_4]; exact f126) | exact f126), (by first | (simp only [if_pos hc4_4]; done) | (simp only [if_pos hc4_4]; exact f130) | exact f130)⟩
  · have pre132 : ∀ t, Steps p.tables e below (T2.setTop (mkF m 61 #[rv pr0, iv pi1, iv pi2, iv pi3, jv pj4, .second, .unset] [(.int (1 : Int32)), (.ref pr0)])) t → Go t := fun t kt => pre3 t (by
        refine y_ifYes X2.here hx (hb hby d3_4) ((if0 _ _).trans (feq hc4_4).2) (pc' := 59) (by decide) rfl ?_
        refine y_aloadN X2.here hx (hb hby d3_59) rfl rfl (pc' := 60) rfl ?_
        refine y_iconst X2.here hx (hb hby d3_60) (v := (1 : Int32)) rfl (pc' := 61) rfl ?_
        exact kt)
    obtain ⟨T133, h133, X133, e133, W133, st133⟩ := putFN X2 hx hZ hown (hw _ (List.mem_of_getElem? (i := 18) rfl)) Via.refl e2 F_arrivedBefore_pr0 E_pr0 (Or.inl (hw _ (List.mem_of_getElem? (i := 19) rfl))) (hw _ (List.mem_of_getElem? (i := 1) rfl)) (ty := .boolean) (v' := (.int (1 : Int32))) (by decide) rfl (by decide) (g := (mkF m 61 #[rv pr0, iv pi1, iv pi2, iv pi3, jv pj4, .second, .unset] [(.int (1 : Int32)), (.ref pr0)])) rfl rfl (hb hby d3_61)
    have pre134 : ∀ t, Steps p.tables e below (T133.setTop (mkF m 64 #[rv pr0, iv pi1, iv pi2, iv pi3, jv pj4, .second, .unset] [])) t → Go t := fun t kt => pre132 t (st133 t kt)
    have f135 : Exa Z h133 pr0 "com/example/roamd/roamd/net/DelayedAck" := (E_pr0.wr W133)
    have f136 : Fld Z h133 pr0 "com/example/roamd/roamd/net/DelayedAck" "waiting" "I" (.int u_waiting_pr0) := (F_waiting_pr0.other W133 (Or.inr (slot_ne (Or.inl (hw _ (List.mem_of_getElem? (i := 15) rfl))) (Or.inl (hw _ (List.mem_of_getElem? (i := 19) rfl))) (by decide) (t := .int) (t' := .boolean) (by decide) (by decide))))
    have f137 : Fld Z h133 pr0 "com/example/roamd/roamd/net/DelayedAck" "firstAt" "J" (.long u_firstAt_pr0) := (F_firstAt_pr0.other W133 (Or.inr (slot_ne (Or.inl (hw _ (List.mem_of_getElem? (i := 17) rfl))) (Or.inl (hw _ (List.mem_of_getElem? (i := 19) rfl))) (by decide) (t := .long) (t' := .boolean) (by decide) (by decide))))
    have f139 : Fld Z h133 pr0 "com/example/roamd/roamd/net/DelayedAck" "lastArrivedAt" "J" (.long u_lastArrivedAt_pr0) := (F_lastArrivedAt_pr0.other W133 (Or.inr (slot_ne (Or.inl (hw _ (List.mem_of_getElem? (i := 25) rfl))) (Or.inl (hw _ (List.mem_of_getElem? (i := 19) rfl))) (by decide) (t := .long) (t' := .boolean) (by decide) (by decide))))
    have f140 : Fld Z h133 pr0 "com/example/roamd/roamd/net/DelayedAck" "holdNanos" "J" (.long u_holdNanos_pr0) := (F_holdNanos_pr0.other W133 (Or.inr (slot_ne (Or.inl (hw _ (List.mem_of_getElem? (i := 23) rfl))) (Or.inl (hw _ (List.mem_of_getElem? (i := 19) rfl))) (by decide) (t := .long) (t' := .boolean) (by decide) (by decide))))
    have f141 : Fld Z h133 pr0 "com/example/roamd/roamd/net/DelayedAck" "urgent" "Z" (.int u_urgent_pr0) := (F_urgent_pr0.other W133 (Or.inr (slot_ne (Or.inl (hw _ (List.mem_of_getElem? (i := 27) rfl))) (Or.inl (hw _ (List.mem_of_getElem? (i := 19) rfl))) (by decide) (t := .boolean) (t' := .boolean) (by decide) (by decide))))
    have f142 : Fld Z h133 pr0 "com/example/roamd/roamd/net/DelayedAck" "arrivedBefore" "Z" (.int (1 : Int32)) := F_arrivedBefore_pr0.same W133
    have N143 := Fr.snoc X133 N0 G_pr0
    have O143 := O0.wr W133 G_pr0
    have K143 : Keep h0 h133 [pr0] := K0.wr W133 (Or.inl (List.mem_of_getElem? (i := 0) rfl))
    have pre144 : ∀ t, Steps p.tables e below (T133.setTop (mkF m 67 #[rv pr0, iv pi1, iv pi2, iv pi3, jv pj4, .second, .unset] [(.long pj4), (.ref pr0)])) t → Go t := fun t kt => pre134 t (by
        refine y_aloadN X133.here hx (hb hby d3_64) rfl rfl (pc' := 65) rfl ?_
        refine y_lload X133.here hx (hb hby d3_65) rfl (pc' := 67) rfl ?_
        exact kt)
    obtain ⟨T145, h145, X145, e145, W145, st145⟩ := putF X133 hx hZ hown (host := "") (Or.inl (hw _ (List.mem_of_getElem? (i := 24) rfl))) Via.refl e133 f139 f135 (Or.inl (hw _ (List.mem_of_getElem? (i := 25) rfl))) (hw _ (List.mem_of_getElem? (i := 1) rfl)) (ty := .long) (by decide) rfl rfl (g := (mkF m 67 #[rv pr0, iv pi1, iv pi2, iv pi3, jv pj4, .second, .unset] [(.long pj4), (.ref pr0)])) rfl rfl (hb hby d3_67)
    have pre146 : ∀ t, Steps p.tables e below (T145.setTop (mkF m 70 #[rv pr0, iv pi1, iv pi2, iv pi3, jv pj4, .second, .unset] [])) t → Go t := fun t kt => pre144 t (st145 t kt)
    have f147 : Exa Z h145 pr0 "com/example/roamd/roamd/net/DelayedAck" := (f135.wr W145)
    have f148 : Fld Z h145 pr0 "com/example/roamd/roamd/net/DelayedAck" "waiting" "I" (.int u_waiting_pr0) := (f136.other W145 (Or.inr (slot_ne (Or.inl (hw _ (List.mem_of_getElem? (i := 15) rfl))) (Or.inl (hw _ (List.mem_of_getElem? (i := 25) rfl))) (by decide) (t := .int) (t' := .long) (by decide) (by decide))))
    have f149 : Fld Z h145 pr0 "com/example/roamd/roamd/net/DelayedAck" "firstAt" "J" (.long u_firstAt_pr0) := (f137.other W145 (Or.inr (slot_ne (Or.inl (hw _ (List.mem_of_getElem? (i := 17) rfl))) (Or.inl (hw _ (List.mem_of_getElem? (i := 25) rfl))) (by decide) (t := .long) (t' := .long) (by decide) (by decide))))
    have f151 : Fld Z h145 pr0 "com/example/roamd/roamd/net/DelayedAck" "holdNanos" "J" (.long u_holdNanos_pr0) := (f140.other W145 (Or.inr (slot_ne (Or.inl (hw _ (List.mem_of_getElem? (i := 23) rfl))) (Or.inl (hw _ (List.mem_of_getElem? (i := 25) rfl))) (by decide) (t := .long) (t' := .long) (by decide) (by decide))))
    have f152 : Fld Z h145 pr0 "com/example/roamd/roamd/net/DelayedAck" "urgent" "Z" (.int u_urgent_pr0) := (f141.other W145 (Or.inr (slot_ne (Or.inl (hw _ (List.mem_of_getElem? (i := 27) rfl))) (Or.inl (hw _ (List.mem_of_getElem? (i := 25) rfl))) (by decide) (t := .boolean) (t' := .long) (by decide) (by decide))))
    have f153 : Fld Z h145 pr0 "com/example/roamd/roamd/net/DelayedAck" "arrivedBefore" "Z" (.int (1 : Int32)) := (f142.other W145 (Or.inr (slot_ne (Or.inl (hw _ (List.mem_of_getElem? (i := 19) rfl))) (Or.inl (hw _ (List.mem_of_getElem? (i := 25) rfl))) (by decide) (t := .boolean) (t' := .long) (by decide) (by decide))))
    have f154 : Fld Z h145 pr0 "com/example/roamd/roamd/net/DelayedAck" "lastArrivedAt" "J" (.long pj4) := f139.same W145
    have N155 := Fr.snoc X145 N143 G_pr0
    have O155 := O143.wr W145 G_pr0
    have K155 : Keep h0 h145 [pr0] := K143.wr W145 (Or.inl (List.mem_of_getElem? (i := 0) rfl))
    have pre156 : ∀ t, Steps p.tables e below (T145.setTop (mkF m 72 #[rv pr0, iv pi1, iv pi2, iv pi3, jv pj4, .second, .unset] [(.ref pr0), (.ref pr0)])) t → Go t := fun t kt => pre146 t (by
        refine y_aloadN X145.here hx (hb hby d3_70) rfl rfl (pc' := 71) rfl ?_
        refine y_dup X145.here hx (hb hby d3_71) rfl (pc' := 72) rfl ?_
        exact kt)
    obtain ⟨T157, X157, e157, st157⟩ := getF X145 hx hZ hown (host := "") (Or.inl (hw _ (List.mem_of_getElem? (i := 14) rfl))) Via.refl e145 f148 (g := (mkF m 72 #[rv pr0, iv pi1, iv pi2, iv pi3, jv pj4, .second, .unset] [(.ref pr0), (.ref pr0)])) rfl rfl (hb hby d3_72)
    have pre158 : ∀ t, Steps p.tables e below (T157.setTop (mkF m 75 #[rv pr0, iv pi1, iv pi2, iv pi3, jv pj4, .second, .unset] [(.int u_waiting_pr0), (.ref pr0)])) t → Go t := fun t kt => pre156 t (st157 t kt)
    have pre159 : ∀ t, Steps p.tables e below (T157.setTop (mkF m 77 #[rv pr0, iv pi1, iv pi2, iv pi3, jv pj4, .second, .unset] [(.int (u_waiting_pr0 + pi1)), (.ref pr0)])) t → Go t := fun t kt => pre158 t (by
        refine y_iloadN X157.here hx (hb hby d3_75) rfl (pc' := 76) rfl ?_
        refine y_iadd X157.here hx (hb hby d3_76) rfl (pc' := 77) rfl ?_
        exact kt)
    obtain ⟨x160, hx160⟩ : ∃ z : Int32, z = (u_waiting_pr0 + pi1) := ⟨_, rfl⟩
    have pre161 : ∀ t, Steps p.tables e below (T157.setTop (mkF m 77 #[rv pr0, iv pi1, iv pi2, iv pi3, jv pj4, .second, .unset] [(.int x160), (.ref pr0)])) t → Go t := by subst hx160; exact pre159
    obtain ⟨T162, h162, X162, e162, W162, st162⟩ := putF X157 hx hZ hown (host := "") (Or.inl (hw _ (List.mem_of_getElem? (i := 14) rfl))) Via.refl e157 f148 f147 (Or.inl (hw _ (List.mem_of_getElem? (i := 15) rfl))) (hw _ (List.mem_of_getElem? (i := 1) rfl)) (ty := .int) (by decide) rfl rfl (g := (mkF m 77 #[rv pr0, iv pi1, iv pi2, iv pi3, jv pj4, .second, .unset] [(.int x160), (.ref pr0)])) rfl rfl (hb hby d3_77)
    have pre163 : ∀ t, Steps p.tables e below (T162.setTop (mkF m 80 #[rv pr0, iv pi1, iv pi2, iv pi3, jv pj4, .second, .unset] [])) t → Go t := fun t kt => pre161 t (st162 t kt)
    have f164 : Exa Z h162 pr0 "com/example/roamd/roamd/net/DelayedAck" := (f147.wr W162)
    have f166 : Fld Z h162 pr0 "com/example/roamd/roamd/net/DelayedAck" "firstAt" "J" (.long u_firstAt_pr0) := (f149.other W162 (Or.inr (slot_ne (Or.inl (hw _ (List.mem_of_getElem? (i := 17) rfl))) (Or.inl (hw _ (List.mem_of_getElem? (i := 15) rfl))) (by decide) (t := .long) (t' := .int) (by decide) (by decide))))
    have f167 : Fld Z h162 pr0 "com/example/roamd/roamd/net/DelayedAck" "holdNanos" "J" (.long u_holdNanos_pr0) := (f151.other W162 (Or.inr (slot_ne (Or.inl (hw _ (List.mem_of_getElem? (i := 23) rfl))) (Or.inl (hw _ (List.mem_of_getElem? (i := 15) rfl))) (by decide) (t := .long) (t' := .int) (by decide) (by decide))))
    have f168 : Fld Z h162 pr0 "com/example/roamd/roamd/net/DelayedAck" "urgent" "Z" (.int u_urgent_pr0) := (f152.other W162 (Or.inr (slot_ne (Or.inl (hw _ (List.mem_of_getElem? (i := 27) rfl))) (Or.inl (hw _ (List.mem_of_getElem? (i := 15) rfl))) (by decide) (t := .boolean) (t' := .int) (by decide) (by decide))))
    have f169 : Fld Z h162 pr0 "com/example/roamd/roamd/net/DelayedAck" "arrivedBefore" "Z" (.int (1 : Int32)) := (f153.other W162 (Or.inr (slot_ne (Or.inl (hw _ (List.mem_of_getElem? (i := 19) rfl))) (Or.inl (hw _ (List.mem_of_getElem? (i := 15) rfl))) (by decide) (t := .boolean) (t' := .int) (by decide) (by decide))))
    have f170 : Fld Z h162 pr0 "com/example/roamd/roamd/net/DelayedAck" "lastArrivedAt" "J" (.long pj4) := (f154.other W162 (Or.inr (slot_ne (Or.inl (hw _ (List.mem_of_getElem? (i := 25) rfl))) (Or.inl (hw _ (List.mem_of_getElem? (i := 15) rfl))) (by decide) (t := .long) (t' := .int) (by decide) (by decide))))
    have f171 : Fld Z h162 pr0 "com/example/roamd/roamd/net/DelayedAck" "waiting" "I" (.int x160) := f148.same W162
    have N172 := Fr.snoc X162 N155 G_pr0
    have O172 := O155.wr W162 G_pr0
    have K172 : Keep h0 h162 [pr0] := K155.wr W162 (Or.inl (List.mem_of_getElem? (i := 0) rfl))
    have pre173 : ∀ t, Steps p.tables e below (T162.setTop (mkF m 82 #[rv pr0, iv pi1, iv pi2, iv pi3, jv pj4, .second, .unset] [(.ref pr0), (.ref pr0)])) t → Go t := fun t kt => pre163 t (by
        refine y_aloadN X162.here hx (hb hby d3_80) rfl rfl (pc' := 81) rfl ?_
        refine y_dup X162.here hx (hb hby d3_81) rfl (pc' := 82) rfl ?_
        exact kt)
    obtain ⟨T174, X174, e174, st174⟩ := getF X162 hx hZ hown (host := "") (Or.inl (hw _ (List.mem_of_getElem? (i := 26) rfl))) Via.refl e162 f168 (g := (mkF m 82 #[rv pr0, iv pi1, iv pi2, iv pi3, jv pj4, .second, .unset] [(.ref pr0), (.ref pr0)])) rfl rfl (hb hby d3_82)
    have pre175 : ∀ t, Steps p.tables e below (T174.setTop (mkF m 85 #[rv pr0, iv pi1, iv pi2, iv pi3, jv pj4, .second, .unset] [(.int u_urgent_pr0), (.ref pr0)])) t → Go t := fun t kt => pre173 t (st174 t kt)
    have pre176 : ∀ t, Steps p.tables e below (T174.setTop (mkF m 87 #[rv pr0, iv pi1, iv pi2, iv pi3, jv pj4, .second, .unset] [(.int pi1), (.int pi2), (.int u_urgent_pr0), (.ref pr0)])) t → Go t := fun t kt => pre175 t (by
        refine y_iloadN X174.here hx (hb hby d3_85) rfl (pc' := 86) rfl ?_
        refine y_iloadN X174.here hx (hb hby d3_86) rfl (pc' := 87) rfl ?_
        exact kt)
    obtain ⟨x177, hx177⟩ : ∃ z : Int32, z = (if pi2 = pi1 then (if pi3 = (0 : Int32) then (1 : Int32) else (if x160 < (16 : Int32) then (0 : Int32) else (1 : Int32))) else (1 : Int32)) := ⟨_, rfl⟩
    obtain ⟨T178, ⟨X178, q178⟩, st178⟩ : ∃ T', Nx X174 T' ∧ ∀ t, Steps p.tables e below (T'.setTop (mkF m 108 #[rv pr0, iv pi1, iv pi2, iv pi3, jv pj4, .second, .unset] [(.int x177), (.int u_urgent_pr0), (.ref pr0)])) t → Steps p.tables e below (T174.setTop (mkF m 87 #[rv pr0, iv pi1, iv pi2, iv pi3, jv pj4, .second, .unset] [(.int pi1), (.int pi2), (.int u_urgent_pr0), (.ref pr0)])) t := by
      have pre178_ : ∀ t, Steps p.tables e below (T174.setTop (mkF m 87 #[rv pr0, iv pi1, iv pi2, iv pi3, jv pj4, .second, .unset] [(.int pi1), (.int pi2), (.int u_urgent_pr0), (.ref pr0)])) t → Steps p.tables e below (T174.setTop (mkF m 87 #[rv pr0, iv pi1, iv pi2, iv pi3, jv pj4, .second, .unset] [(.int pi1), (.int pi2), (.int u_urgent_pr0), (.ref pr0)])) t := fun t kt => kt
      subst hx177
      by_cases hm87_179 : pi2 = pi1
      · have pre180 : ∀ t, Steps p.tables e below (T174.setTop (mkF m 91 #[rv pr0, iv pi1, iv pi2, iv pi3, jv pj4, .second, .unset] [(.int pi3), (.int u_urgent_pr0), (.ref pr0)])) t → Steps p.tables e below (T174.setTop (mkF m 87 #[rv pr0, iv pi1, iv pi2, iv pi3, jv pj4, .second, .unset] [(.int pi1), (.int pi2), (.int u_urgent_pr0), (.ref pr0)])) t := fun t kt => pre178_ t (by
            refine y_icmpNo X174.here hx (hb hby d3_87) (teq hm87_179).2 (pc' := 90) rfl ?_
            refine y_iloadN X174.here hx (hb hby d3_90) rfl (pc' := 91) rfl ?_
            exact kt)
        by_cases hm91_181 : pi3 = (0 : Int32)
        · have pre182 : ∀ t, Steps p.tables e below (T174.setTop (mkF m 108 #[rv pr0, iv pi1, iv pi2, iv pi3, jv pj4, .second, .unset] [(.int (1 : Int32)), (.int u_urgent_pr0), (.ref pr0)])) t → Steps p.tables e below (T174.setTop (mkF m 87 #[rv pr0, iv pi1, iv pi2, iv pi3, jv pj4, .second, .unset] [(.int pi1), (.int pi2), (.int u_urgent_pr0), (.ref pr0)])) t := fun t kt => pre180 t (by
              refine y_ifYes X174.here hx (hb hby d3_91) ((if0 _ _).trans (teq hm91_181).1) (pc' := 103) (by decide) rfl ?_
              refine y_iconst X174.here hx (hb hby d3_103) (v := (1 : Int32)) rfl (pc' := 104) rfl ?_
              refine y_goto X174.here hx (hb hby d3_104) (pc' := 108) (by decide) rfl ?_
              exact kt)
          refine ⟨T174, ⟨X174, e174.trans e174.symm⟩, fun t kt => pre182 t ?_⟩
          (try simp only [if_pos hm87_179, if_pos hm91_181] at kt)
          exact kt
        · have pre183 : ∀ t, Steps p.tables e below (T174.setTop (mkF m 95 #[rv pr0, iv pi1, iv pi2, iv pi3, jv pj4, .second, .unset] [(.ref pr0), (.int u_urgent_pr0), (.ref pr0)])) t → Steps p.tables e below (T174.setTop (mkF m 87 #[rv pr0, iv pi1, iv pi2, iv pi3, jv pj4, .second, .unset] [(.int pi1), (.int pi2), (.int u_urgent_pr0), (.ref pr0)])) t := fun t kt => pre180 t (by
              refine y_ifNo X174.here hx (hb hby d3_91) ((if0 _ _).trans (feq hm91_181).1) (pc' := 94) rfl ?_
              refine y_aloadN X174.here hx (hb hby d3_94) rfl rfl (pc' := 95) rfl ?_
              exact kt)
          obtain ⟨T184, X184, e184, st184⟩ := getF X174 hx hZ hown (host := "") (Or.inl (hw _ (List.mem_of_getElem? (i := 14) rfl))) Via.refl e174 f171 (g := (mkF m 95 #[rv pr0, iv pi1, iv pi2, iv pi3, jv pj4, .second, .unset] [(.ref pr0), (.int u_urgent_pr0), (.ref pr0)])) rfl rfl (hb hby d3_95)
          have pre185 : ∀ t, Steps p.tables e below (T184.setTop (mkF m 98 #[rv pr0, iv pi1, iv pi2, iv pi3, jv pj4, .second, .unset] [(.int x160), (.int u_urgent_pr0), (.ref pr0)])) t → Steps p.tables e below (T174.setTop (mkF m 87 #[rv pr0, iv pi1, iv pi2, iv pi3, jv pj4, .second, .unset] [(.int pi1), (.int pi2), (.int u_urgent_pr0), (.ref pr0)])) t := fun t kt => pre183 t (st184 t kt)
          have pre186 : ∀ t, Steps p.tables e below (T184.setTop (mkF m 100 #[rv pr0, iv pi1, iv pi2, iv pi3, jv pj4, .second, .unset] [(.int (16 : Int32)), (.int x160), (.int u_urgent_pr0), (.ref pr0)])) t → Steps p.tables e below (T174.setTop (mkF m 87 #[rv pr0, iv pi1, iv pi2, iv pi3, jv pj4, .second, .unset] [(.int pi1), (.int pi2), (.int u_urgent_pr0), (.ref pr0)])) t := fun t kt => pre185 t (by
              refine y_bipush X184.here hx (hb hby d3_98) (v := (16 : Int32)) rfl (pc' := 100) rfl ?_
              exact kt)
          by_cases hm100_187 : x160 < (16 : Int32)
          · have pre188 : ∀ t, Steps p.tables e below (T184.setTop (mkF m 108 #[rv pr0, iv pi1, iv pi2, iv pi3, jv pj4, .second, .unset] [(.int (0 : Int32)), (.int u_urgent_pr0), (.ref pr0)])) t → Steps p.tables e below (T174.setTop (mkF m 87 #[rv pr0, iv pi1, iv pi2, iv pi3, jv pj4, .second, .unset] [(.int pi1), (.int pi2), (.int u_urgent_pr0), (.ref pr0)])) t := fun t kt => pre186 t (by
                refine y_icmpYes X184.here hx (hb hby d3_100) (tlt hm100_187).1 (pc' := 107) (by decide) rfl ?_
                refine y_iconst X184.here hx (hb hby d3_107) (v := (0 : Int32)) rfl (pc' := 108) rfl ?_
                exact kt)
            refine ⟨T184, ⟨X184, e184.trans e174.symm⟩, fun t kt => pre188 t ?_⟩
            (try simp only [if_pos hm87_179, if_neg hm91_181, if_pos hm100_187] at kt)
            exact kt
          · have pre189 : ∀ t, Steps p.tables e below (T184.setTop (mkF m 108 #[rv pr0, iv pi1, iv pi2, iv pi3, jv pj4, .second, .unset] [(.int (1 : Int32)), (.int u_urgent_pr0), (.ref pr0)])) t → Steps p.tables e below (T174.setTop (mkF m 87 #[rv pr0, iv pi1, iv pi2, iv pi3, jv pj4, .second, .unset] [(.int pi1), (.int pi2), (.int u_urgent_pr0), (.ref pr0)])) t := fun t kt => pre186 t (by
                refine y_icmpNo X184.here hx (hb hby d3_100) (flt hm100_187).1 (pc' := 103) rfl ?_
                refine y_iconst X184.here hx (hb hby d3_103) (v := (1 : Int32)) rfl (pc' := 104) rfl ?_
                refine y_goto X184.here hx (hb hby d3_104) (pc' := 108) (by decide) rfl ?_
                exact kt)
            refine ⟨T184, ⟨X184, e184.trans e174.symm⟩, fun t kt => pre189 t ?_⟩
            (try simp only [if_pos hm87_179, if_neg hm91_181, if_neg hm100_187] at kt)
            exact kt
      · have pre190 : ∀ t, Steps p.tables e below (T174.setTop (mkF m 108 #[rv pr0, iv pi1, iv pi2, iv pi3, jv pj4, .second, .unset] [(.int (1 : Int32)), (.int u_urgent_pr0), (.ref pr0)])) t → Steps p.tables e below (T174.setTop (mkF m 87 #[rv pr0, iv pi1, iv pi2, iv pi3, jv pj4, .second, .unset] [(.int pi1), (.int pi2), (.int u_urgent_pr0), (.ref pr0)])) t := fun t kt => pre178_ t (by
            refine y_icmpYes X174.here hx (hb hby d3_87) (feq hm87_179).2 (pc' := 103) (by decide) rfl ?_
            refine y_iconst X174.here hx (hb hby d3_103) (v := (1 : Int32)) rfl (pc' := 104) rfl ?_
            refine y_goto X174.here hx (hb hby d3_104) (pc' := 108) (by decide) rfl ?_
            exact kt)
        refine ⟨T174, ⟨X174, e174.trans e174.symm⟩, fun t kt => pre190 t ?_⟩
        (try simp only [if_neg hm87_179] at kt)
        exact kt
    have e178 : T178.heap = h162 := q178.trans e174
    have pre191 : ∀ t, Steps p.tables e below (T178.setTop (mkF m 108 #[rv pr0, iv pi1, iv pi2, iv pi3, jv pj4, .second, .unset] [(.int x177), (.int u_urgent_pr0), (.ref pr0)])) t → Go t := fun t kt => pre176 t (st178 t kt)
    have pre192 : ∀ t, Steps p.tables e below (T178.setTop (mkF m 109 #[rv pr0, iv pi1, iv pi2, iv pi3, jv pj4, .second, .unset] [(.int (u_urgent_pr0 ||| x177)), (.ref pr0)])) t → Go t := fun t kt => pre191 t (by
        refine y_ior X178.here hx (hb hby d3_108) rfl (pc' := 109) rfl ?_
        exact kt)
    obtain ⟨x193, hx193⟩ : ∃ z : Int32, z = (u_urgent_pr0 ||| x177) := ⟨_, rfl⟩
    have pre194 : ∀ t, Steps p.tables e below (T178.setTop (mkF m 109 #[rv pr0, iv pi1, iv pi2, iv pi3, jv pj4, .second, .unset] [(.int x193), (.ref pr0)])) t → Go t := by subst hx193; exact pre192
    obtain ⟨T195, h195, X195, e195, W195, st195⟩ := putFN X178 hx hZ hown (hw _ (List.mem_of_getElem? (i := 26) rfl)) Via.refl e178 f168 f164 (Or.inl (hw _ (List.mem_of_getElem? (i := 27) rfl))) (hw _ (List.mem_of_getElem? (i := 1) rfl)) (ty := .boolean) (v' := (.int (nar .boolean x193))) (by decide) rfl (fits_nar_bool _) (g := (mkF m 109 #[rv pr0, iv pi1, iv pi2, iv pi3, jv pj4, .second, .unset] [(.int x193), (.ref pr0)])) rfl rfl (hb hby d3_109)
    have pre196 : ∀ t, Steps p.tables e below (T195.setTop (mkF m 112 #[rv pr0, iv pi1, iv pi2, iv pi3, jv pj4, .second, .unset] [])) t → Go t := fun t kt => pre194 t (st195 t kt)
    have f197 : Exa Z h195 pr0 "com/example/roamd/roamd/net/DelayedAck" := (f164.wr W195)
    have f198 : Fld Z h195 pr0 "com/example/roamd/roamd/net/DelayedAck" "firstAt" "J" (.long u_firstAt_pr0) := (f166.other W195 (Or.inr (slot_ne (Or.inl (hw _ (List.mem_of_getElem? (i := 17) rfl))) (Or.inl (hw _ (List.mem_of_getElem? (i := 27) rfl))) (by decide) (t := .long) (t' := .boolean) (by decide) (by decide))))
    have f199 : Fld Z h195 pr0 "com/example/roamd/roamd/net/DelayedAck" "holdNanos" "J" (.long u_holdNanos_pr0) := (f167.other W195 (Or.inr (slot_ne (Or.inl (hw _ (List.mem_of_getElem? (i := 23) rfl))) (Or.inl (hw _ (List.mem_of_getElem? (i := 27) rfl))) (by decide) (t := .long) (t' := .boolean) (by decide) (by decide))))
    have f201 : Fld Z h195 pr0 "com/example/roamd/roamd/net/DelayedAck" "arrivedBefore" "Z" (.int (1 : Int32)) := (f169.other W195 (Or.inr (slot_ne (Or.inl (hw _ (List.mem_of_getElem? (i := 19) rfl))) (Or.inl (hw _ (List.mem_of_getElem? (i := 27) rfl))) (by decide) (t := .boolean) (t' := .boolean) (by decide) (by decide))))
    have f202 : Fld Z h195 pr0 "com/example/roamd/roamd/net/DelayedAck" "lastArrivedAt" "J" (.long pj4) := (f170.other W195 (Or.inr (slot_ne (Or.inl (hw _ (List.mem_of_getElem? (i := 25) rfl))) (Or.inl (hw _ (List.mem_of_getElem? (i := 27) rfl))) (by decide) (t := .long) (t' := .boolean) (by decide) (by decide))))
    have f203 : Fld Z h195 pr0 "com/example/roamd/roamd/net/DelayedAck" "waiting" "I" (.int x160) := (f171.other W195 (Or.inr (slot_ne (Or.inl (hw _ (List.mem_of_getElem? (i := 15) rfl))) (Or.inl (hw _ (List.mem_of_getElem? (i := 27) rfl))) (by decide) (t := .int) (t' := .boolean) (by decide) (by decide))))
    have f204 : Fld Z h195 pr0 "com/example/roamd/roamd/net/DelayedAck" "urgent" "Z" (.int (nar .boolean x193)) := f168.same W195
    have N205 := Fr.snoc X195 N172 G_pr0
    have O205 := O172.wr W195 G_pr0
    have K205 : Keep h0 h195 [pr0] := K172.wr W195 (Or.inl (List.mem_of_getElem? (i := 0) rfl))
    obtain ⟨fs, hr, hrun, hended, hW, hsame⟩ := X195.leave (v := none) (fun _ => rfl)
    refine ⟨_, _, (hGo _).mp (pre196 _ ?_), hrun, hended, _, _, rfl, ?_, ⟨_, rfl⟩, hW, hsame.mono (by decide) (by decide)⟩
    · exact X195.returnOut hx Bd.returns (hb hby d3_112) hr
    · show Q3 Z pr0 pi1 pi2 pi3 pj4 u_waiting_pr0 u_firstAt_pr0 u_arrivedBefore_pr0 u_lastArrivedAt_pr0 u_holdNanos_pr0 u_urgent_pr0 h0 n0 _ T195.heap _
      rw [e195]
      subst hx160 hx177 hx193
      exact ⟨rfl, N205, K205, f203, (by first | (simp only [if_neg hc4_4]; done) | (simp only [if_neg hc4_4]; exact f198) | exact f198), f201, f202, (by first | (simp only [if_neg hc4_4]; done) | (simp only [if_neg hc4_4]; exact f199) | exact f199), (by first | (simp only [if_neg hc4_4]; done) | (simp only [if_neg hc4_4]; exact f204) | exact f204)⟩
theorem d6_0 : decode prog_16_method_5_code 0 = .ok (.aload_n 0, 1) := by decide +kernel
theorem d6_1 : decode prog_16_method_5_code 1 = .ok (.iconst 0, 1) := by decide +kernel
theorem d6_2 : decode prog_16_method_5_code 2 = .ok (.putfield 7, 3) := by decide +kernel
theorem d6_5 : decode prog_16_method_5_code 5 = .ok (.aload_n 0, 1) := by decide +kernel
theorem d6_6 : decode prog_16_method_5_code 6 = .ok (.iconst 0, 1) := by decide +kernel
theorem d6_7 : decode prog_16_method_5_code 7 = .ok (.putfield 33, 3) := by decide +kernel
theorem d6_10 : decode prog_16_method_5_code 10 = .ok (.return_, 1) := by decide +kernel
theorem ef_6 (m : MethodId) (x0 : Addr) : entryFrame m #[(.ref x0)] 1 = mkF m 0 #[rv x0] [] := by first | (simp [entryFrame, mkF, argsToLocals, Value.category]; done) | rfl
def Q6 (Z : State) (pr0 : Addr) (u_waiting_pr0 : Int32) (u_firstAt_pr0 : Int64) (u_arrivedBefore_pr0 : Int32) (u_lastArrivedAt_pr0 : Int64) (u_holdNanos_pr0 : Int64) (u_urgent_pr0 : Int32) (h0 : Heap) (n0 : Nat) (v : Option Value) (h : Heap) (L : List Loc) : Prop := v = none ∧ Fr n0 L ∧ Keep h0 h [pr0] ∧ Fld Z h pr0 "com/example/roamd/roamd/net/DelayedAck" "waiting" "I" (.int (0 : Int32)) ∧ Fld Z h pr0 "com/example/roamd/roamd/net/DelayedAck" "firstAt" "J" (.long u_firstAt_pr0) ∧ Fld Z h pr0 "com/example/roamd/roamd/net/DelayedAck" "arrivedBefore" "Z" (.int u_arrivedBefore_pr0) ∧ Fld Z h pr0 "com/example/roamd/roamd/net/DelayedAck" "lastArrivedAt" "J" (.long u_lastArrivedAt_pr0) ∧ Fld Z h pr0 "com/example/roamd/roamd/net/DelayedAck" "holdNanos" "J" (.long u_holdNanos_pr0) ∧ Fld Z h pr0 "com/example/roamd/roamd/net/DelayedAck" "urgent" "Z" (.int (0 : Int32))
set_option maxRecDepth 65536 in
set_option maxHeartbeats 40000000 in
theorem rm6 (l : Launch) (Z : State) (a0 : Array Value) (hw : ∀ d ∈ tables_1, d.before a0 Z = true) (ws : List Jvm.Cond) (pr0 : Addr) (u_waiting_pr0 : Int32) (u_firstAt_pr0 : Int64) (u_arrivedBefore_pr0 : Int32) (u_lastArrivedAt_pr0 : Int64) (u_holdNanos_pr0 : Int64) (u_urgent_pr0 : Int32) (h0 : Heap) (n0 : Nat) (O0 : Old Z n0 h0) (E_pr0 : Exa Z h0 pr0 "com/example/roamd/roamd/net/DelayedAck") (F_waiting_pr0 : Fld Z h0 pr0 "com/example/roamd/roamd/net/DelayedAck" "waiting" "I" (.int u_waiting_pr0)) (F_firstAt_pr0 : Fld Z h0 pr0 "com/example/roamd/roamd/net/DelayedAck" "firstAt" "J" (.long u_firstAt_pr0)) (F_arrivedBefore_pr0 : Fld Z h0 pr0 "com/example/roamd/roamd/net/DelayedAck" "arrivedBefore" "Z" (.int u_arrivedBefore_pr0)) (F_lastArrivedAt_pr0 : Fld Z h0 pr0 "com/example/roamd/roamd/net/DelayedAck" "lastArrivedAt" "J" (.long u_lastArrivedAt_pr0)) (F_holdNanos_pr0 : Fld Z h0 pr0 "com/example/roamd/roamd/net/DelayedAck" "holdNanos" "J" (.long u_holdNanos_pr0)) (F_urgent_pr0 : Fld Z h0 pr0 "com/example/roamd/roamd/net/DelayedAck" "urgent" "Z" (.int u_urgent_pr0)) (G_pr0 : n0 ≤ pr0) :
    MetFree l (⟨"com/example/roamd/roamd/net/DelayedAck", "sent", "()V"⟩ : MethodName) (head1 (Jvm.Cond.code (⟨"com/example/roamd/roamd/net/DelayedAck", "sent", "()V"⟩ : MethodName) prog_16_method_5_code 1 none :: ws) ({ frames := 0, cells := 0, slots := 0, locals := 0 } : Room)) (fun a U => a = #[(.ref pr0)] ∧ Z.Warmed39 U.vm ∧ U.heap = h0) (fun _ _ _ _ _ => True) (fun _ U o U' => ∃ v L, o = .returned v ∧ Q6 Z pr0 u_waiting_pr0 u_firstAt_pr0 u_arrivedBefore_pr0 u_lastArrivedAt_pr0 u_holdNanos_pr0 u_urgent_pr0 h0 n0 v U'.heap L ∧ FrameEnd U o U' L ({ frames := 0, cells := 0, slots := 0, locals := 0 } : Room).cells ({ frames := 0, cells := 0, slots := 0, locals := 0 } : Room).slots) := by
  refine MetFree.of_bodySF (plainFor_of_name pn_com_example_roamd_roamd_net_DelayedAck) hisR ?_
  intro p e s m args below meth c s₁ Bd hml0 hP hK
  obtain ⟨rfl, hZ, hh⟩ := hP
  have hx := Bd.exec
  have hby := Bd.bytes
  have hml : c.maxLocals = 1 := hml0
  have hown : s.vm.findClass "com/example/roamd/roamd/net/DelayedAck" = some m.cls := findClass_of_methodNamed Bd.named
  have hnm := (name_of_methodNamed Bd.named Bd.method).1
  have X0 : Stand p l e ({ frames := 0, cells := 0, slots := 0, locals := 0 } : Room) s m #[(.ref pr0)] below meth c s₁ [] 0 0 := Stand.of_body Bd
  have e0 : s₁.heap = h0 := by rw [← hh, Bd.state]; rfl
  have N0 := Fr.nil n0
  obtain ⟨Go, hGo⟩ : ∃ P : State → Prop, ∀ t, P t ↔ Steps p.tables e below (s₁.setTop (entryFrame m #[(.ref pr0)] 1)) t := ⟨_, fun _ => Iff.rfl⟩
  have pre0 : ∀ t, Steps p.tables e below (s₁.setTop (mkF m 0 #[rv pr0] [])) t → Go t := fun t k => (hGo t).mpr (castTop (ef_6 m pr0) k)
  have K0 : Keep h0 h0 [pr0] := Keep.refl _ _
  have pre1 : ∀ t, Steps p.tables e below (s₁.setTop (mkF m 2 #[rv pr0] [(.int (0 : Int32)), (.ref pr0)])) t → Go t := fun t kt => pre0 t (by
      refine y_aloadN X0.here hx (hb hby d6_0) rfl rfl (pc' := 1) rfl ?_
      refine y_iconst X0.here hx (hb hby d6_1) (v := (0 : Int32)) rfl (pc' := 2) rfl ?_
      exact kt)
  obtain ⟨T2, h2, X2, e2, W2, st2⟩ := putF X0 hx hZ hown (host := "") (Or.inl (hw _ (List.mem_of_getElem? (i := 14) rfl))) Via.refl e0 F_waiting_pr0 E_pr0 (Or.inl (hw _ (List.mem_of_getElem? (i := 15) rfl))) (hw _ (List.mem_of_getElem? (i := 1) rfl)) (ty := .int) (by decide) rfl rfl (g := (mkF m 2 #[rv pr0] [(.int (0 : Int32)), (.ref pr0)])) rfl rfl (hb hby d6_2)
  have pre3 : ∀ t, Steps p.tables e below (T2.setTop (mkF m 5 #[rv pr0] [])) t → Go t := fun t kt => pre1 t (st2 t kt)
  have f4 : Exa Z h2 pr0 "com/example/roamd/roamd/net/DelayedAck" := (E_pr0.wr W2)
  have f6 : Fld Z h2 pr0 "com/example/roamd/roamd/net/DelayedAck" "firstAt" "J" (.long u_firstAt_pr0) := (F_firstAt_pr0.other W2 (Or.inr (slot_ne (Or.inl (hw _ (List.mem_of_getElem? (i := 17) rfl))) (Or.inl (hw _ (List.mem_of_getElem? (i := 15) rfl))) (by decide) (t := .long) (t' := .int) (by decide) (by decide))))
  have f7 : Fld Z h2 pr0 "com/example/roamd/roamd/net/DelayedAck" "arrivedBefore" "Z" (.int u_arrivedBefore_pr0) := (F_arrivedBefore_pr0.other W2 (Or.inr (slot_ne (Or.inl (hw _ (List.mem_of_getElem? (i := 19) rfl))) (Or.inl (hw _ (List.mem_of_getElem? (i := 15) rfl))) (by decide) (t := .boolean) (t' := .int) (by decide) (by decide))))
  have f8 : Fld Z h2 pr0 "com/example/roamd/roamd/net/DelayedAck" "lastArrivedAt" "J" (.long u_lastArrivedAt_pr0) := (F_lastArrivedAt_pr0.other W2 (Or.inr (slot_ne (Or.inl (hw _ (List.mem_of_getElem? (i := 25) rfl))) (Or.inl (hw _ (List.mem_of_getElem? (i := 15) rfl))) (by decide) (t := .long) (t' := .int) (by decide) (by decide))))
  have f9 : Fld Z h2 pr0 "com/example/roamd/roamd/net/DelayedAck" "holdNanos" "J" (.long u_holdNanos_pr0) := (F_holdNanos_pr0.other W2 (Or.inr (slot_ne (Or.inl (hw _ (List.mem_of_getElem? (i := 23) rfl))) (Or.inl (hw _ (List.mem_of_getElem? (i := 15) rfl))) (by decide) (t := .long) (t' := .int) (by decide) (by decide))))
  have f10 : Fld Z h2 pr0 "com/example/roamd/roamd/net/DelayedAck" "urgent" "Z" (.int u_urgent_pr0) := (F_urgent_pr0.other W2 (Or.inr (slot_ne (Or.inl (hw _ (List.mem_of_getElem? (i := 27) rfl))) (Or.inl (hw _ (List.mem_of_getElem? (i := 15) rfl))) (by decide) (t := .boolean) (t' := .int) (by decide) (by decide))))
  have f11 : Fld Z h2 pr0 "com/example/roamd/roamd/net/DelayedAck" "waiting" "I" (.int (0 : Int32)) := F_waiting_pr0.same W2
  have N12 := Fr.snoc X2 N0 G_pr0
  have O12 := O0.wr W2 G_pr0
  have K12 : Keep h0 h2 [pr0] := K0.wr W2 (Or.inl (List.mem_of_getElem? (i := 0) rfl))
  have pre13 : ∀ t, Steps p.tables e below (T2.setTop (mkF m 7 #[rv pr0] [(.int (0 : Int32)), (.ref pr0)])) t → Go t := fun t kt => pre3 t (by
      refine y_aloadN X2.here hx (hb hby d6_5) rfl rfl (pc' := 6) rfl ?_
      refine y_iconst X2.here hx (hb hby d6_6) (v := (0 : Int32)) rfl (pc' := 7) rfl ?_
      exact kt)
  obtain ⟨T14, h14, X14, e14, W14, st14⟩ := putFN X2 hx hZ hown (hw _ (List.mem_of_getElem? (i := 26) rfl)) Via.refl e2 f10 f4 (Or.inl (hw _ (List.mem_of_getElem? (i := 27) rfl))) (hw _ (List.mem_of_getElem? (i := 1) rfl)) (ty := .boolean) (v' := (.int (0 : Int32))) (by decide) rfl (by decide) (g := (mkF m 7 #[rv pr0] [(.int (0 : Int32)), (.ref pr0)])) rfl rfl (hb hby d6_7)
  have pre15 : ∀ t, Steps p.tables e below (T14.setTop (mkF m 10 #[rv pr0] [])) t → Go t := fun t kt => pre13 t (st14 t kt)
  have f16 : Exa Z h14 pr0 "com/example/roamd/roamd/net/DelayedAck" := (f4.wr W14)
  have f17 : Fld Z h14 pr0 "com/example/roamd/roamd/net/DelayedAck" "firstAt" "J" (.long u_firstAt_pr0) := (f6.other W14 (Or.inr (slot_ne (Or.inl (hw _ (List.mem_of_getElem? (i := 17) rfl))) (Or.inl (hw _ (List.mem_of_getElem? (i := 27) rfl))) (by decide) (t := .long) (t' := .boolean) (by decide) (by decide))))
  have f18 : Fld Z h14 pr0 "com/example/roamd/roamd/net/DelayedAck" "arrivedBefore" "Z" (.int u_arrivedBefore_pr0) := (f7.other W14 (Or.inr (slot_ne (Or.inl (hw _ (List.mem_of_getElem? (i := 19) rfl))) (Or.inl (hw _ (List.mem_of_getElem? (i := 27) rfl))) (by decide) (t := .boolean) (t' := .boolean) (by decide) (by decide))))
  have f19 : Fld Z h14 pr0 "com/example/roamd/roamd/net/DelayedAck" "lastArrivedAt" "J" (.long u_lastArrivedAt_pr0) := (f8.other W14 (Or.inr (slot_ne (Or.inl (hw _ (List.mem_of_getElem? (i := 25) rfl))) (Or.inl (hw _ (List.mem_of_getElem? (i := 27) rfl))) (by decide) (t := .long) (t' := .boolean) (by decide) (by decide))))
  have f20 : Fld Z h14 pr0 "com/example/roamd/roamd/net/DelayedAck" "holdNanos" "J" (.long u_holdNanos_pr0) := (f9.other W14 (Or.inr (slot_ne (Or.inl (hw _ (List.mem_of_getElem? (i := 23) rfl))) (Or.inl (hw _ (List.mem_of_getElem? (i := 27) rfl))) (by decide) (t := .long) (t' := .boolean) (by decide) (by decide))))
  have f22 : Fld Z h14 pr0 "com/example/roamd/roamd/net/DelayedAck" "waiting" "I" (.int (0 : Int32)) := (f11.other W14 (Or.inr (slot_ne (Or.inl (hw _ (List.mem_of_getElem? (i := 15) rfl))) (Or.inl (hw _ (List.mem_of_getElem? (i := 27) rfl))) (by decide) (t := .int) (t' := .boolean) (by decide) (by decide))))
  have f23 : Fld Z h14 pr0 "com/example/roamd/roamd/net/DelayedAck" "urgent" "Z" (.int (0 : Int32)) := f10.same W14
  have N24 := Fr.snoc X14 N12 G_pr0
  have O24 := O12.wr W14 G_pr0
  have K24 : Keep h0 h14 [pr0] := K12.wr W14 (Or.inl (List.mem_of_getElem? (i := 0) rfl))
  obtain ⟨fs, hr, hrun, hended, hW, hsame⟩ := X14.leave (v := none) (fun _ => rfl)
  refine ⟨_, _, (hGo _).mp (pre15 _ ?_), hrun, hended, _, _, rfl, ?_, ⟨_, rfl⟩, hW, hsame.mono (by decide) (by decide)⟩
  · exact X14.returnOut hx Bd.returns (hb hby d6_10) hr
  · show Q6 Z pr0 u_waiting_pr0 u_firstAt_pr0 u_arrivedBefore_pr0 u_lastArrivedAt_pr0 u_holdNanos_pr0 u_urgent_pr0 h0 n0 _ T14.heap _
    rw [e14]
    exact ⟨rfl, N24, K24, f22, f17, f18, f19, f20, f23⟩
theorem d5_0 : decode prog_16_method_3_code 0 = .ok (.aload_n 0, 1) := by decide +kernel
theorem d5_1 : decode prog_16_method_3_code 1 = .ok (.getfield 33, 3) := by decide +kernel
theorem d5_4 : decode prog_16_method_3_code 4 = .ok (.ifCond .ne 24, 3) := by decide +kernel
theorem d5_7 : decode prog_16_method_3_code 7 = .ok (.aload_n 0, 1) := by decide +kernel
theorem d5_8 : decode prog_16_method_3_code 8 = .ok (.getfield 7, 3) := by decide +kernel
theorem d5_11 : decode prog_16_method_3_code 11 = .ok (.ifCond .le 21, 3) := by decide +kernel
theorem d5_14 : decode prog_16_method_3_code 14 = .ok (.lload_n 1, 1) := by decide +kernel
theorem d5_15 : decode prog_16_method_3_code 15 = .ok (.aload_n 0, 1) := by decide +kernel
theorem d5_16 : decode prog_16_method_3_code 16 = .ok (.getfield 13, 3) := by decide +kernel
theorem d5_19 : decode prog_16_method_3_code 19 = .ok (.lsub, 1) := by decide +kernel
theorem d5_20 : decode prog_16_method_3_code 20 = .ok (.aload_n 0, 1) := by decide +kernel
theorem d5_21 : decode prog_16_method_3_code 21 = .ok (.getfield 30, 3) := by decide +kernel
theorem d5_24 : decode prog_16_method_3_code 24 = .ok (.lcmp, 1) := by decide +kernel
theorem d5_25 : decode prog_16_method_3_code 25 = .ok (.ifCond .lt 7, 3) := by decide +kernel
theorem d5_28 : decode prog_16_method_3_code 28 = .ok (.iconst 1, 1) := by decide +kernel
theorem d5_29 : decode prog_16_method_3_code 29 = .ok (.goto 4, 3) := by decide +kernel
theorem d5_32 : decode prog_16_method_3_code 32 = .ok (.iconst 0, 1) := by decide +kernel
theorem d5_33 : decode prog_16_method_3_code 33 = .ok (.ireturn, 1) := by decide +kernel
theorem ef_5 (m : MethodId) (x0 : Addr) (x1 : Int64) : entryFrame m #[(.ref x0), (.long x1)] 3 = mkF m 0 #[rv x0, jv x1, .second] [] := by first | (simp [entryFrame, mkF, argsToLocals, Value.category]; done) | rfl
def Q5 (Z : State) (pr0 : Addr) (pj1 : Int64) (u_waiting_pr0 : Int32) (u_firstAt_pr0 : Int64) (u_holdNanos_pr0 : Int64) (u_urgent_pr0 : Int32) (h0 : Heap) (n0 : Nat) (v : Option Value) (h : Heap) (L : List Loc) : Prop := v = some (.int (if u_urgent_pr0 = (0 : Int32) then (if (0 : Int32) < u_waiting_pr0 then (if (pj1 - u_firstAt_pr0) < u_holdNanos_pr0 then (0 : Int32) else (1 : Int32)) else (0 : Int32)) else (1 : Int32))) ∧ Fr n0 L ∧ h = h0
set_option maxRecDepth 65536 in
set_option maxHeartbeats 40000000 in
theorem rm5 (l : Launch) (Z : State) (a0 : Array Value) (hw : ∀ d ∈ tables_1, d.before a0 Z = true) (ws : List Jvm.Cond) (pr0 : Addr) (pj1 : Int64) (u_waiting_pr0 : Int32) (u_firstAt_pr0 : Int64) (u_holdNanos_pr0 : Int64) (u_urgent_pr0 : Int32) (h0 : Heap) (n0 : Nat) (O0 : Old Z n0 h0) (E_pr0 : Exa Z h0 pr0 "com/example/roamd/roamd/net/DelayedAck") (F_waiting_pr0 : Fld Z h0 pr0 "com/example/roamd/roamd/net/DelayedAck" "waiting" "I" (.int u_waiting_pr0)) (F_firstAt_pr0 : Fld Z h0 pr0 "com/example/roamd/roamd/net/DelayedAck" "firstAt" "J" (.long u_firstAt_pr0)) (F_holdNanos_pr0 : Fld Z h0 pr0 "com/example/roamd/roamd/net/DelayedAck" "holdNanos" "J" (.long u_holdNanos_pr0)) (F_urgent_pr0 : Fld Z h0 pr0 "com/example/roamd/roamd/net/DelayedAck" "urgent" "Z" (.int u_urgent_pr0)) :
    MetFree l (⟨"com/example/roamd/roamd/net/DelayedAck", "due", "(J)Z"⟩ : MethodName) (head1 (Jvm.Cond.code (⟨"com/example/roamd/roamd/net/DelayedAck", "due", "(J)Z"⟩ : MethodName) prog_16_method_3_code 3 (some .boolean) :: ws) ({ frames := 0, cells := 0, slots := 0, locals := 0 } : Room)) (fun a U => a = #[(.ref pr0), (.long pj1)] ∧ Z.Warmed39 U.vm ∧ U.heap = h0) (fun _ _ _ _ _ => True) (fun _ U o U' => ∃ v L, o = .returned v ∧ Q5 Z pr0 pj1 u_waiting_pr0 u_firstAt_pr0 u_holdNanos_pr0 u_urgent_pr0 h0 n0 v U'.heap L ∧ FrameEnd U o U' L ({ frames := 0, cells := 0, slots := 0, locals := 0 } : Room).cells ({ frames := 0, cells := 0, slots := 0, locals := 0 } : Room).slots) := by
  refine MetFree.of_bodySF (plainFor_of_name pn_com_example_roamd_roamd_net_DelayedAck) hisR ?_
  intro p e s m args below meth c s₁ Bd hml0 hP hK
  obtain ⟨rfl, hZ, hh⟩ := hP
  have hx := Bd.exec
  have hby := Bd.bytes
  have hml : c.maxLocals = 3 := hml0
  have hown : s.vm.findClass "com/example/roamd/roamd/net/DelayedAck" = some m.cls := findClass_of_methodNamed Bd.named
  have hnm := (name_of_methodNamed Bd.named Bd.method).1
  have X0 : Stand p l e ({ frames := 0, cells := 0, slots := 0, locals := 0 } : Room) s m #[(.ref pr0), (.long pj1)] below meth c s₁ [] 0 0 := Stand.of_body Bd
  have e0 : s₁.heap = h0 := by rw [← hh, Bd.state]; rfl
  have N0 := Fr.nil n0
  obtain ⟨Go, hGo⟩ : ∃ P : State → Prop, ∀ t, P t ↔ Steps p.tables e below (s₁.setTop (entryFrame m #[(.ref pr0), (.long pj1)] 3)) t := ⟨_, fun _ => Iff.rfl⟩
  have pre0 : ∀ t, Steps p.tables e below (s₁.setTop (mkF m 0 #[rv pr0, jv pj1, .second] [])) t → Go t := fun t k => (hGo t).mpr (castTop (ef_5 m pr0 pj1) k)
  have pre1 : ∀ t, Steps p.tables e below (s₁.setTop (mkF m 1 #[rv pr0, jv pj1, .second] [(.ref pr0)])) t → Go t := fun t kt => pre0 t (by
      refine y_aloadN X0.here hx (hb hby d5_0) rfl rfl (pc' := 1) rfl ?_
      exact kt)
  obtain ⟨T2, X2, e2, st2⟩ := getF X0 hx hZ hown (host := "") (Or.inl (hw _ (List.mem_of_getElem? (i := 26) rfl))) Via.refl e0 F_urgent_pr0 (g := (mkF m 1 #[rv pr0, jv pj1, .second] [(.ref pr0)])) rfl rfl (hb hby d5_1)
  have pre3 : ∀ t, Steps p.tables e below (T2.setTop (mkF m 4 #[rv pr0, jv pj1, .second] [(.int u_urgent_pr0)])) t → Go t := fun t kt => pre1 t (st2 t kt)
  by_cases hc4_4 : u_urgent_pr0 = (0 : Int32)
  · have pre5 : ∀ t, Steps p.tables e below (T2.setTop (mkF m 8 #[rv pr0, jv pj1, .second] [(.ref pr0)])) t → Go t := fun t kt => pre3 t (by
        refine y_ifNo X2.here hx (hb hby d5_4) ((if0 _ _).trans (teq hc4_4).2) (pc' := 7) rfl ?_
        refine y_aloadN X2.here hx (hb hby d5_7) rfl rfl (pc' := 8) rfl ?_
        exact kt)
    obtain ⟨T6, X6, e6, st6⟩ := getF X2 hx hZ hown (host := "") (Or.inl (hw _ (List.mem_of_getElem? (i := 14) rfl))) Via.refl e2 F_waiting_pr0 (g := (mkF m 8 #[rv pr0, jv pj1, .second] [(.ref pr0)])) rfl rfl (hb hby d5_8)
    have pre7 : ∀ t, Steps p.tables e below (T6.setTop (mkF m 11 #[rv pr0, jv pj1, .second] [(.int u_waiting_pr0)])) t → Go t := fun t kt => pre5 t (st6 t kt)
    by_cases hc11_8 : (0 : Int32) < u_waiting_pr0
    · have pre9 : ∀ t, Steps p.tables e below (T6.setTop (mkF m 16 #[rv pr0, jv pj1, .second] [(.ref pr0), (.long pj1)])) t → Go t := fun t kt => pre7 t (by
          refine y_ifNo X6.here hx (hb hby d5_11) ((if0 _ _).trans (tlt hc11_8).2.2.2) (pc' := 14) rfl ?_
          refine y_lloadN X6.here hx (hb hby d5_14) rfl (pc' := 15) rfl ?_
          refine y_aloadN X6.here hx (hb hby d5_15) rfl rfl (pc' := 16) rfl ?_
          exact kt)
      obtain ⟨T10, X10, e10, st10⟩ := getF X6 hx hZ hown (host := "") (Or.inl (hw _ (List.mem_of_getElem? (i := 16) rfl))) Via.refl e6 F_firstAt_pr0 (g := (mkF m 16 #[rv pr0, jv pj1, .second] [(.ref pr0), (.long pj1)])) rfl rfl (hb hby d5_16)
      have pre11 : ∀ t, Steps p.tables e below (T10.setTop (mkF m 19 #[rv pr0, jv pj1, .second] [(.long u_firstAt_pr0), (.long pj1)])) t → Go t := fun t kt => pre9 t (st10 t kt)
      have pre12 : ∀ t, Steps p.tables e below (T10.setTop (mkF m 21 #[rv pr0, jv pj1, .second] [(.ref pr0), (.long (pj1 - u_firstAt_pr0))])) t → Go t := fun t kt => pre11 t (by
          refine y_lsub X10.here hx (hb hby d5_19) rfl (pc' := 20) rfl ?_
          refine y_aloadN X10.here hx (hb hby d5_20) rfl rfl (pc' := 21) rfl ?_
          exact kt)
      obtain ⟨T13, X13, e13, st13⟩ := getF X10 hx hZ hown (host := "") (Or.inl (hw _ (List.mem_of_getElem? (i := 22) rfl))) Via.refl e10 F_holdNanos_pr0 (g := (mkF m 21 #[rv pr0, jv pj1, .second] [(.ref pr0), (.long (pj1 - u_firstAt_pr0))])) rfl rfl (hb hby d5_21)
      have pre14 : ∀ t, Steps p.tables e below (T13.setTop (mkF m 24 #[rv pr0, jv pj1, .second] [(.long u_holdNanos_pr0), (.long (pj1 - u_firstAt_pr0))])) t → Go t := fun t kt => pre12 t (st13 t kt)
      have pre15 : ∀ t, Steps p.tables e below (T13.setTop (mkF m 25 #[rv pr0, jv pj1, .second] [(.int (lcmpW (pj1 - u_firstAt_pr0) u_holdNanos_pr0))])) t → Go t := fun t kt => pre14 t (by
          refine y_lcmp X13.here hx (hb hby d5_24) (pc' := 25) rfl ?_
          exact kt)
      by_cases hc25_16 : (pj1 - u_firstAt_pr0) < u_holdNanos_pr0
      · have pre17 : ∀ t, Steps p.tables e below (T13.setTop (mkF m 33 #[rv pr0, jv pj1, .second] [(.int (0 : Int32))])) t → Go t := fun t kt => pre15 t (by
            refine y_ifYes X13.here hx (hb hby d5_25) ((if0 _ _).trans (tlt (lq_lt hc25_16)).1) (pc' := 32) (by decide) rfl ?_
            refine y_iconst X13.here hx (hb hby d5_32) (v := (0 : Int32)) rfl (pc' := 33) rfl ?_
            exact kt)
        obtain ⟨fs, hr, hrun, hended, hW, hsame⟩ := X13.leave (v := some (.int (0 : Int32))) (fun h => by rw [Bd.returns] at h; cases h)
        refine ⟨_, _, (hGo _).mp (pre17 _ ?_), hrun, hended, _, _, rfl, ?_, ⟨_, rfl⟩, hW, hsame.mono (by decide) (by decide)⟩
        · exact retN X13 hx (t := .boolean) Bd.returns (by simp) (hb hby d5_33) hr
        · show Q5 Z pr0 pj1 u_waiting_pr0 u_firstAt_pr0 u_holdNanos_pr0 u_urgent_pr0 h0 n0 _ T13.heap _
          rw [e13]
          exact ⟨(by first | (simp only [if_pos hc4_4, if_pos hc11_8, if_pos hc25_16]; done) | (simp only [if_pos hc4_4, if_pos hc11_8, if_pos hc25_16]; exact rfl) | exact rfl), N0, rfl⟩
      · have pre18 : ∀ t, Steps p.tables e below (T13.setTop (mkF m 33 #[rv pr0, jv pj1, .second] [(.int (1 : Int32))])) t → Go t := fun t kt => pre15 t (by
            refine y_ifNo X13.here hx (hb hby d5_25) ((if0 _ _).trans (flt (lq_nlt hc25_16)).1) (pc' := 28) rfl ?_
            refine y_iconst X13.here hx (hb hby d5_28) (v := (1 : Int32)) rfl (pc' := 29) rfl ?_
            refine y_goto X13.here hx (hb hby d5_29) (pc' := 33) (by decide) rfl ?_
            exact kt)
        obtain ⟨fs, hr, hrun, hended, hW, hsame⟩ := X13.leave (v := some (.int (1 : Int32))) (fun h => by rw [Bd.returns] at h; cases h)
        refine ⟨_, _, (hGo _).mp (pre18 _ ?_), hrun, hended, _, _, rfl, ?_, ⟨_, rfl⟩, hW, hsame.mono (by decide) (by decide)⟩
        · exact retN X13 hx (t := .boolean) Bd.returns (by simp) (hb hby d5_33) hr
        · show Q5 Z pr0 pj1 u_waiting_pr0 u_firstAt_pr0 u_holdNanos_pr0 u_urgent_pr0 h0 n0 _ T13.heap _
          rw [e13]
          exact ⟨(by first | (simp only [if_pos hc4_4, if_pos hc11_8, if_neg hc25_16]; done) | (simp only [if_pos hc4_4, if_pos hc11_8, if_neg hc25_16]; exact rfl) | exact rfl), N0, rfl⟩
    · have pre19 : ∀ t, Steps p.tables e below (T6.setTop (mkF m 33 #[rv pr0, jv pj1, .second] [(.int (0 : Int32))])) t → Go t := fun t kt => pre7 t (by
          refine y_ifYes X6.here hx (hb hby d5_11) ((if0 _ _).trans (flt hc11_8).2.2.2) (pc' := 32) (by decide) rfl ?_
          refine y_iconst X6.here hx (hb hby d5_32) (v := (0 : Int32)) rfl (pc' := 33) rfl ?_
          exact kt)
      obtain ⟨fs, hr, hrun, hended, hW, hsame⟩ := X6.leave (v := some (.int (0 : Int32))) (fun h => by rw [Bd.returns] at h; cases h)
      refine ⟨_, _, (hGo _).mp (pre19 _ ?_), hrun, hended, _, _, rfl, ?_, ⟨_, rfl⟩, hW, hsame.mono (by decide) (by decide)⟩
      · exact retN X6 hx (t := .boolean) Bd.returns (by simp) (hb hby d5_33) hr
      · show Q5 Z pr0 pj1 u_waiting_pr0 u_firstAt_pr0 u_holdNanos_pr0 u_urgent_pr0 h0 n0 _ T6.heap _
        rw [e6]
        exact ⟨(by first | (simp only [if_pos hc4_4, if_neg hc11_8]; done) | (simp only [if_pos hc4_4, if_neg hc11_8]; exact rfl) | exact rfl), N0, rfl⟩
  · have pre20 : ∀ t, Steps p.tables e below (T2.setTop (mkF m 33 #[rv pr0, jv pj1, .second] [(.int (1 : Int32))])) t → Go t := fun t kt => pre3 t (by
        refine y_ifYes X2.here hx (hb hby d5_4) ((if0 _ _).trans (feq hc4_4).2) (pc' := 28) (by decide) rfl ?_
        refine y_iconst X2.here hx (hb hby d5_28) (v := (1 : Int32)) rfl (pc' := 29) rfl ?_
        refine y_goto X2.here hx (hb hby d5_29) (pc' := 33) (by decide) rfl ?_
        exact kt)
    obtain ⟨fs, hr, hrun, hended, hW, hsame⟩ := X2.leave (v := some (.int (1 : Int32))) (fun h => by rw [Bd.returns] at h; cases h)
    refine ⟨_, _, (hGo _).mp (pre20 _ ?_), hrun, hended, _, _, rfl, ?_, ⟨_, rfl⟩, hW, hsame.mono (by decide) (by decide)⟩
    · exact retN X2 hx (t := .boolean) Bd.returns (by simp) (hb hby d5_33) hr
    · show Q5 Z pr0 pj1 u_waiting_pr0 u_firstAt_pr0 u_holdNanos_pr0 u_urgent_pr0 h0 n0 _ T2.heap _
      rw [e2]
      exact ⟨(by first | (simp only [if_neg hc4_4]; done) | (simp only [if_neg hc4_4]; exact rfl) | exact rfl), N0, rfl⟩
theorem d4_0 : decode prog_16_method_4_code 0 = .ok (.aload_n 0, 1) := by decide +kernel
theorem d4_1 : decode prog_16_method_4_code 1 = .ok (.getfield 7, 3) := by decide +kernel
theorem d4_4 : decode prog_16_method_4_code 4 = .ok (.ifCond .ne 7, 3) := by decide +kernel
theorem d4_7 : decode prog_16_method_4_code 7 = .ok (.ldc2_w 38, 3) := by decide +kernel
theorem d4_10 : decode prog_16_method_4_code 10 = .ok (.lreturn, 1) := by decide +kernel
theorem d4_11 : decode prog_16_method_4_code 11 = .ok (.aload_n 0, 1) := by decide +kernel
theorem d4_12 : decode prog_16_method_4_code 12 = .ok (.getfield 33, 3) := by decide +kernel
theorem d4_15 : decode prog_16_method_4_code 15 = .ok (.ifCond .eq 7, 3) := by decide +kernel
theorem d4_18 : decode prog_16_method_4_code 18 = .ok (.lconst 0, 1) := by decide +kernel
theorem d4_19 : decode prog_16_method_4_code 19 = .ok (.goto 14, 3) := by decide +kernel
theorem d4_22 : decode prog_16_method_4_code 22 = .ok (.aload_n 0, 1) := by decide +kernel
theorem d4_23 : decode prog_16_method_4_code 23 = .ok (.getfield 13, 3) := by decide +kernel
theorem d4_26 : decode prog_16_method_4_code 26 = .ok (.aload_n 0, 1) := by decide +kernel
theorem d4_27 : decode prog_16_method_4_code 27 = .ok (.getfield 30, 3) := by decide +kernel
theorem d4_30 : decode prog_16_method_4_code 30 = .ok (.ladd, 1) := by decide +kernel
theorem d4_31 : decode prog_16_method_4_code 31 = .ok (.lload_n 1, 1) := by decide +kernel
theorem d4_32 : decode prog_16_method_4_code 32 = .ok (.lsub, 1) := by decide +kernel
theorem d4_33 : decode prog_16_method_4_code 33 = .ok (.lreturn, 1) := by decide +kernel
theorem ef_4 (m : MethodId) (x0 : Addr) (x1 : Int64) : entryFrame m #[(.ref x0), (.long x1)] 3 = mkF m 0 #[rv x0, jv x1, .second] [] := by first | (simp [entryFrame, mkF, argsToLocals, Value.category]; done) | rfl
def Q4 (Z : State) (pr0 : Addr) (pj1 : Int64) (u_waiting_pr0 : Int32) (u_firstAt_pr0 : Int64) (u_holdNanos_pr0 : Int64) (u_urgent_pr0 : Int32) (h0 : Heap) (n0 : Nat) (v : Option Value) (h : Heap) (L : List Loc) : Prop := v = some (.long (if u_waiting_pr0 = (0 : Int32) then (9223372036854775807 : Int64) else (if u_urgent_pr0 = (0 : Int32) then ((u_firstAt_pr0 + u_holdNanos_pr0) - pj1) else (0 : Int64)))) ∧ Fr n0 L ∧ h = h0
set_option maxRecDepth 65536 in
set_option maxHeartbeats 40000000 in
theorem rm4 (l : Launch) (Z : State) (a0 : Array Value) (hw : ∀ d ∈ tables_1, d.before a0 Z = true) (ws : List Jvm.Cond) (pr0 : Addr) (pj1 : Int64) (u_waiting_pr0 : Int32) (u_firstAt_pr0 : Int64) (u_holdNanos_pr0 : Int64) (u_urgent_pr0 : Int32) (h0 : Heap) (n0 : Nat) (O0 : Old Z n0 h0) (E_pr0 : Exa Z h0 pr0 "com/example/roamd/roamd/net/DelayedAck") (F_waiting_pr0 : Fld Z h0 pr0 "com/example/roamd/roamd/net/DelayedAck" "waiting" "I" (.int u_waiting_pr0)) (F_firstAt_pr0 : Fld Z h0 pr0 "com/example/roamd/roamd/net/DelayedAck" "firstAt" "J" (.long u_firstAt_pr0)) (F_holdNanos_pr0 : Fld Z h0 pr0 "com/example/roamd/roamd/net/DelayedAck" "holdNanos" "J" (.long u_holdNanos_pr0)) (F_urgent_pr0 : Fld Z h0 pr0 "com/example/roamd/roamd/net/DelayedAck" "urgent" "Z" (.int u_urgent_pr0)) :
    MetFree l (⟨"com/example/roamd/roamd/net/DelayedAck", "waitNanos", "(J)J"⟩ : MethodName) (head1 (Jvm.Cond.code (⟨"com/example/roamd/roamd/net/DelayedAck", "waitNanos", "(J)J"⟩ : MethodName) prog_16_method_4_code 3 (some .long) :: ws) ({ frames := 0, cells := 0, slots := 0, locals := 0 } : Room)) (fun a U => a = #[(.ref pr0), (.long pj1)] ∧ Z.Warmed39 U.vm ∧ U.heap = h0) (fun _ _ _ _ _ => True) (fun _ U o U' => ∃ v L, o = .returned v ∧ Q4 Z pr0 pj1 u_waiting_pr0 u_firstAt_pr0 u_holdNanos_pr0 u_urgent_pr0 h0 n0 v U'.heap L ∧ FrameEnd U o U' L ({ frames := 0, cells := 0, slots := 0, locals := 0 } : Room).cells ({ frames := 0, cells := 0, slots := 0, locals := 0 } : Room).slots) := by
  refine MetFree.of_bodySF (plainFor_of_name pn_com_example_roamd_roamd_net_DelayedAck) hisR ?_
  intro p e s m args below meth c s₁ Bd hml0 hP hK
  obtain ⟨rfl, hZ, hh⟩ := hP
  have hx := Bd.exec
  have hby := Bd.bytes
  have hml : c.maxLocals = 3 := hml0
  have hown : s.vm.findClass "com/example/roamd/roamd/net/DelayedAck" = some m.cls := findClass_of_methodNamed Bd.named
  have hnm := (name_of_methodNamed Bd.named Bd.method).1
  have X0 : Stand p l e ({ frames := 0, cells := 0, slots := 0, locals := 0 } : Room) s m #[(.ref pr0), (.long pj1)] below meth c s₁ [] 0 0 := Stand.of_body Bd
  have e0 : s₁.heap = h0 := by rw [← hh, Bd.state]; rfl
  have N0 := Fr.nil n0
  obtain ⟨Go, hGo⟩ : ∃ P : State → Prop, ∀ t, P t ↔ Steps p.tables e below (s₁.setTop (entryFrame m #[(.ref pr0), (.long pj1)] 3)) t := ⟨_, fun _ => Iff.rfl⟩
  have pre0 : ∀ t, Steps p.tables e below (s₁.setTop (mkF m 0 #[rv pr0, jv pj1, .second] [])) t → Go t := fun t k => (hGo t).mpr (castTop (ef_4 m pr0 pj1) k)
  have pre1 : ∀ t, Steps p.tables e below (s₁.setTop (mkF m 1 #[rv pr0, jv pj1, .second] [(.ref pr0)])) t → Go t := fun t kt => pre0 t (by
      refine y_aloadN X0.here hx (hb hby d4_0) rfl rfl (pc' := 1) rfl ?_
      exact kt)
  obtain ⟨T2, X2, e2, st2⟩ := getF X0 hx hZ hown (host := "") (Or.inl (hw _ (List.mem_of_getElem? (i := 14) rfl))) Via.refl e0 F_waiting_pr0 (g := (mkF m 1 #[rv pr0, jv pj1, .second] [(.ref pr0)])) rfl rfl (hb hby d4_1)
  have pre3 : ∀ t, Steps p.tables e below (T2.setTop (mkF m 4 #[rv pr0, jv pj1, .second] [(.int u_waiting_pr0)])) t → Go t := fun t kt => pre1 t (st2 t kt)
  by_cases hc4_4 : u_waiting_pr0 = (0 : Int32)
  · have pre5 : ∀ t, Steps p.tables e below (T2.setTop (mkF m 10 #[rv pr0, jv pj1, .second] [(.long (9223372036854775807 : Int64))])) t → Go t := fun t kt => pre3 t (by
        refine y_ifNo X2.here hx (hb hby d4_4) ((if0 _ _).trans (teq hc4_4).2) (pc' := 7) rfl ?_
        refine X2.ldc2Long hx hown (mvT hZ (hw _ (List.mem_of_getElem? (i := 47) rfl))) (g := (mkF m 7 #[rv pr0, jv pj1, .second] [])) rfl (hb hby d4_7) _ ?_
        show Steps p.tables e below (T2.setTop (mkF m 10 #[rv pr0, jv pj1, .second] [(.long (9223372036854775807 : Int64))])) _
        exact kt)
    obtain ⟨fs, hr, hrun, hended, hW, hsame⟩ := X2.leave (v := some (.long (9223372036854775807 : Int64))) (fun h => by rw [Bd.returns] at h; cases h)
    refine ⟨_, _, (hGo _).mp (pre5 _ ?_), hrun, hended, _, _, rfl, ?_, ⟨_, rfl⟩, hW, hsame.mono (by decide) (by decide)⟩
    · exact retOut X2 hx Bd.returns rfl (Or.inr (Or.inl ⟨rfl, rfl, _, rfl⟩)) (hb hby d4_10) hr
    · show Q4 Z pr0 pj1 u_waiting_pr0 u_firstAt_pr0 u_holdNanos_pr0 u_urgent_pr0 h0 n0 _ T2.heap _
      rw [e2]
      exact ⟨(by first | (simp only [if_pos hc4_4]; done) | (simp only [if_pos hc4_4]; exact rfl) | exact rfl), N0, rfl⟩
  · have pre6 : ∀ t, Steps p.tables e below (T2.setTop (mkF m 12 #[rv pr0, jv pj1, .second] [(.ref pr0)])) t → Go t := fun t kt => pre3 t (by
        refine y_ifYes X2.here hx (hb hby d4_4) ((if0 _ _).trans (feq hc4_4).2) (pc' := 11) (by decide) rfl ?_
        refine y_aloadN X2.here hx (hb hby d4_11) rfl rfl (pc' := 12) rfl ?_
        exact kt)
    obtain ⟨T7, X7, e7, st7⟩ := getF X2 hx hZ hown (host := "") (Or.inl (hw _ (List.mem_of_getElem? (i := 26) rfl))) Via.refl e2 F_urgent_pr0 (g := (mkF m 12 #[rv pr0, jv pj1, .second] [(.ref pr0)])) rfl rfl (hb hby d4_12)
    have pre8 : ∀ t, Steps p.tables e below (T7.setTop (mkF m 15 #[rv pr0, jv pj1, .second] [(.int u_urgent_pr0)])) t → Go t := fun t kt => pre6 t (st7 t kt)
    by_cases hc15_9 : u_urgent_pr0 = (0 : Int32)
    · have pre10 : ∀ t, Steps p.tables e below (T7.setTop (mkF m 23 #[rv pr0, jv pj1, .second] [(.ref pr0)])) t → Go t := fun t kt => pre8 t (by
          refine y_ifYes X7.here hx (hb hby d4_15) ((if0 _ _).trans (teq hc15_9).1) (pc' := 22) (by decide) rfl ?_
          refine y_aloadN X7.here hx (hb hby d4_22) rfl rfl (pc' := 23) rfl ?_
          exact kt)
      obtain ⟨T11, X11, e11, st11⟩ := getF X7 hx hZ hown (host := "") (Or.inl (hw _ (List.mem_of_getElem? (i := 16) rfl))) Via.refl e7 F_firstAt_pr0 (g := (mkF m 23 #[rv pr0, jv pj1, .second] [(.ref pr0)])) rfl rfl (hb hby d4_23)
      have pre12 : ∀ t, Steps p.tables e below (T11.setTop (mkF m 26 #[rv pr0, jv pj1, .second] [(.long u_firstAt_pr0)])) t → Go t := fun t kt => pre10 t (st11 t kt)
      have pre13 : ∀ t, Steps p.tables e below (T11.setTop (mkF m 27 #[rv pr0, jv pj1, .second] [(.ref pr0), (.long u_firstAt_pr0)])) t → Go t := fun t kt => pre12 t (by
          refine y_aloadN X11.here hx (hb hby d4_26) rfl rfl (pc' := 27) rfl ?_
          exact kt)
      obtain ⟨T14, X14, e14, st14⟩ := getF X11 hx hZ hown (host := "") (Or.inl (hw _ (List.mem_of_getElem? (i := 22) rfl))) Via.refl e11 F_holdNanos_pr0 (g := (mkF m 27 #[rv pr0, jv pj1, .second] [(.ref pr0), (.long u_firstAt_pr0)])) rfl rfl (hb hby d4_27)
      have pre15 : ∀ t, Steps p.tables e below (T14.setTop (mkF m 30 #[rv pr0, jv pj1, .second] [(.long u_holdNanos_pr0), (.long u_firstAt_pr0)])) t → Go t := fun t kt => pre13 t (st14 t kt)
      have pre16 : ∀ t, Steps p.tables e below (T14.setTop (mkF m 33 #[rv pr0, jv pj1, .second] [(.long ((u_firstAt_pr0 + u_holdNanos_pr0) - pj1))])) t → Go t := fun t kt => pre15 t (by
          refine y_ladd X14.here hx (hb hby d4_30) rfl (pc' := 31) rfl ?_
          refine y_lloadN X14.here hx (hb hby d4_31) rfl (pc' := 32) rfl ?_
          refine y_lsub X14.here hx (hb hby d4_32) rfl (pc' := 33) rfl ?_
          exact kt)
      obtain ⟨fs, hr, hrun, hended, hW, hsame⟩ := X14.leave (v := some (.long ((u_firstAt_pr0 + u_holdNanos_pr0) - pj1))) (fun h => by rw [Bd.returns] at h; cases h)
      refine ⟨_, _, (hGo _).mp (pre16 _ ?_), hrun, hended, _, _, rfl, ?_, ⟨_, rfl⟩, hW, hsame.mono (by decide) (by decide)⟩
      · exact retOut X14 hx Bd.returns rfl (Or.inr (Or.inl ⟨rfl, rfl, _, rfl⟩)) (hb hby d4_33) hr
      · show Q4 Z pr0 pj1 u_waiting_pr0 u_firstAt_pr0 u_holdNanos_pr0 u_urgent_pr0 h0 n0 _ T14.heap _
        rw [e14]
        exact ⟨(by first | (simp only [if_neg hc4_4, if_pos hc15_9]; done) | (simp only [if_neg hc4_4, if_pos hc15_9]; exact rfl) | exact rfl), N0, rfl⟩
    · have pre17 : ∀ t, Steps p.tables e below (T7.setTop (mkF m 33 #[rv pr0, jv pj1, .second] [(.long (0 : Int64))])) t → Go t := fun t kt => pre8 t (by
          refine y_ifNo X7.here hx (hb hby d4_15) ((if0 _ _).trans (feq hc15_9).1) (pc' := 18) rfl ?_
          refine y_lconst X7.here hx (hb hby d4_18) (v := (0 : Int64)) rfl (pc' := 19) rfl ?_
          refine y_goto X7.here hx (hb hby d4_19) (pc' := 33) (by decide) rfl ?_
          exact kt)
      obtain ⟨fs, hr, hrun, hended, hW, hsame⟩ := X7.leave (v := some (.long (0 : Int64))) (fun h => by rw [Bd.returns] at h; cases h)
      refine ⟨_, _, (hGo _).mp (pre17 _ ?_), hrun, hended, _, _, rfl, ?_, ⟨_, rfl⟩, hW, hsame.mono (by decide) (by decide)⟩
      · exact retOut X7 hx Bd.returns rfl (Or.inr (Or.inl ⟨rfl, rfl, _, rfl⟩)) (hb hby d4_33) hr
      · show Q4 Z pr0 pj1 u_waiting_pr0 u_firstAt_pr0 u_holdNanos_pr0 u_urgent_pr0 h0 n0 _ T7.heap _
        rw [e7]
        exact ⟨(by first | (simp only [if_neg hc4_4, if_neg hc15_9]; done) | (simp only [if_neg hc4_4, if_neg hc15_9]; exact rfl) | exact rfl), N0, rfl⟩
theorem law0_136 (pj2 : Int64) (pj3 : Int64) (pj5 : Int64) (x2 : Int32) (x9 : Int32) (x23 : Int32) (x43 : Int32) (x45 : Int32) (x48 : Int32) (x61 : Int64) (x91 : Int32) (x92 : Int64) (x93 : Int32) (x98 : Int32) (x110 : Int64) (x113 : Int64) (x132 : Int64) (hx91 : x91 = ((0 : Int32) + x43)) (hx92 : x92 = (if (if (0 : Int32) = (0 : Int32) then (0 : Int32) else (if (700000000 : Int64) < (x61 - (0 : Int64)) then (0 : Int32) else (1 : Int32))) = (0 : Int32) then (150000000 : Int64) else (700000000 : Int64))) (hx93 : x93 = (nar .boolean ((0 : Int32) ||| (if x48 = x43 then (if x9 = (0 : Int32) then (1 : Int32) else (if ((0 : Int32) + x43) < (16 : Int32) then (0 : Int32) else (1 : Int32))) else (1 : Int32))))) (hx98 : x98 = (if x48 = x43 then (if x9 = (0 : Int32) then (1 : Int32) else (if x43 < (16 : Int32) then (0 : Int32) else (1 : Int32))) else (1 : Int32))) (hx110 : x110 = (x61 + pj5)) (hx113 : x113 = (if x98 = (0 : Int32) then ((150000000 : Int64) - pj5) else (0 : Int64))) (hx132 : x132 = (if x91 = (0 : Int32) then (9223372036854775807 : Int64) else (if x93 = (0 : Int32) then ((x61 + x92) - x110) else (0 : Int64)))) (hc155_79 : x2 = (0 : Int32)) (hc187_96 : x23 = (0 : Int32)) (B1 : 1 ≤ x43.toInt ∧ x43.toInt ≤ 16) (B2 : 1 ≤ x45.toInt ∧ x45.toInt ≤ 16) (A1 : x61 - pj2 = pj3) : x132 = x113 := by
  subst hx91 hx92 hx93 hx98 hx110 hx113 hx132
  have p1 := own_pos B1
  have p2 := own_pos B2
  have p3 := own_pos2 B1 B2
  try simp only [Int32.zero_add, own_as, own_ss, own_s0, A1] at *
  by_cases a0 : x48 = x43 <;> by_cases a1 : x9 = (0 : Int32) <;> by_cases a2 : x43 < (16 : Int32) <;> simp [p1.1, p1.2, p2.1, p2.2, p3.1, p3.2, own_n0, own_n1, own_as, own_ss, own_s0, a0, a1, a2]
theorem law0_144 (pj2 : Int64) (pj3 : Int64) (pj5 : Int64) (x2 : Int32) (x9 : Int32) (x23 : Int32) (x43 : Int32) (x45 : Int32) (x48 : Int32) (x61 : Int64) (x91 : Int32) (x92 : Int64) (x93 : Int32) (x98 : Int32) (x110 : Int64) (x120 : Int32) (x140 : Int32) (hx91 : x91 = ((0 : Int32) + x43)) (hx92 : x92 = (if (if (0 : Int32) = (0 : Int32) then (0 : Int32) else (if (700000000 : Int64) < (x61 - (0 : Int64)) then (0 : Int32) else (1 : Int32))) = (0 : Int32) then (150000000 : Int64) else (700000000 : Int64))) (hx93 : x93 = (nar .boolean ((0 : Int32) ||| (if x48 = x43 then (if x9 = (0 : Int32) then (1 : Int32) else (if ((0 : Int32) + x43) < (16 : Int32) then (0 : Int32) else (1 : Int32))) else (1 : Int32))))) (hx98 : x98 = (if x48 = x43 then (if x9 = (0 : Int32) then (1 : Int32) else (if x43 < (16 : Int32) then (0 : Int32) else (1 : Int32))) else (1 : Int32))) (hx110 : x110 = (x61 + pj5)) (hx120 : x120 = (if x98 = (0 : Int32) then (if pj5 < (150000000 : Int64) then (0 : Int32) else (1 : Int32)) else (1 : Int32))) (hx140 : x140 = (if x93 = (0 : Int32) then (if (0 : Int32) < x91 then (if (x110 - x61) < x92 then (0 : Int32) else (1 : Int32)) else (0 : Int32)) else (1 : Int32))) (hc155_79 : x2 = (0 : Int32)) (hc187_96 : x23 = (0 : Int32)) (B1 : 1 ≤ x43.toInt ∧ x43.toInt ≤ 16) (B2 : 1 ≤ x45.toInt ∧ x45.toInt ≤ 16) (A1 : x61 - pj2 = pj3) : x140 = x120 := by
  subst hx91 hx92 hx93 hx98 hx110 hx120 hx140
  have p1 := own_pos B1
  have p2 := own_pos B2
  have p3 := own_pos2 B1 B2
  try simp only [Int32.zero_add, own_as, own_ss, own_s0, A1] at *
  by_cases a0 : x48 = x43 <;> by_cases a1 : x9 = (0 : Int32) <;> by_cases a2 : x43 < (16 : Int32) <;> by_cases a3 : pj5 < (150000000 : Int64) <;> simp [p1.1, p1.2, p2.1, p2.2, p3.1, p3.2, own_n0, own_n1, own_as, own_ss, own_s0, a0, a1, a2, a3]
theorem law0_188 (pj2 : Int64) (pj3 : Int64) (x2 : Int32) (x23 : Int32) (x43 : Int32) (x45 : Int32) (x61 : Int64) (x157 : Int64) (x170 : Int32) (x171 : Int64) (x172 : Int32) (x175 : Int64) (x184 : Int64) (hx157 : x157 = (x61 + pj3)) (hx170 : x170 = ((0 : Int32) + (1 : Int32))) (hx171 : x171 = (if (if (1 : Int32) = (0 : Int32) then (0 : Int32) else (if (700000000 : Int64) < (x157 - x61) then (0 : Int32) else (1 : Int32))) = (0 : Int32) then (150000000 : Int64) else (700000000 : Int64))) (hx172 : x172 = (nar .boolean ((0 : Int32) ||| (if (1 : Int32) = (1 : Int32) then (if (1 : Int32) = (0 : Int32) then (1 : Int32) else (if ((0 : Int32) + (1 : Int32)) < (16 : Int32) then (0 : Int32) else (1 : Int32))) else (1 : Int32))))) (hx175 : x175 = (if (700000000 : Int64) < pj3 then (150000000 : Int64) else (700000000 : Int64))) (hx184 : x184 = (if x170 = (0 : Int32) then (9223372036854775807 : Int64) else (if x172 = (0 : Int32) then ((x157 + x171) - x157) else (0 : Int64)))) (hc155_79 : x2 = (0 : Int32)) (hc187_96 : x23 = (0 : Int32)) (B1 : 1 ≤ x43.toInt ∧ x43.toInt ≤ 16) (B2 : 1 ≤ x45.toInt ∧ x45.toInt ≤ 16) (A1 : x61 - pj2 = pj3) : x184 = x175 := by
  subst hx157 hx170 hx171 hx172 hx175 hx184
  have p1 := own_pos B1
  have p2 := own_pos B2
  have p3 := own_pos2 B1 B2
  try simp only [Int32.zero_add, own_as, own_ss, own_s0, A1] at *
  by_cases a0 : (700000000 : Int64) < pj3 <;> simp [p1.1, p1.2, p2.1, p2.2, p3.1, p3.2, own_n0, own_n1, own_as, own_ss, own_s0, a0]
theorem law0_195 (pj2 : Int64) (pj3 : Int64) (x2 : Int32) (x23 : Int32) (x43 : Int32) (x45 : Int32) (x61 : Int64) (x157 : Int64) (x170 : Int32) (x171 : Int64) (x172 : Int32) (x192 : Int32) (hx157 : x157 = (x61 + pj3)) (hx170 : x170 = ((0 : Int32) + (1 : Int32))) (hx171 : x171 = (if (if (1 : Int32) = (0 : Int32) then (0 : Int32) else (if (700000000 : Int64) < (x157 - x61) then (0 : Int32) else (1 : Int32))) = (0 : Int32) then (150000000 : Int64) else (700000000 : Int64))) (hx172 : x172 = (nar .boolean ((0 : Int32) ||| (if (1 : Int32) = (1 : Int32) then (if (1 : Int32) = (0 : Int32) then (1 : Int32) else (if ((0 : Int32) + (1 : Int32)) < (16 : Int32) then (0 : Int32) else (1 : Int32))) else (1 : Int32))))) (hx192 : x192 = (if x172 = (0 : Int32) then (if (0 : Int32) < x170 then (if (x157 - x157) < x171 then (0 : Int32) else (1 : Int32)) else (0 : Int32)) else (1 : Int32))) (hc155_79 : x2 = (0 : Int32)) (hc187_96 : x23 = (0 : Int32)) (B1 : 1 ≤ x43.toInt ∧ x43.toInt ≤ 16) (B2 : 1 ≤ x45.toInt ∧ x45.toInt ≤ 16) (A1 : x61 - pj2 = pj3) : x192 = (0 : Int32) := by
  subst hx157 hx170 hx171 hx172 hx192
  have p1 := own_pos B1
  have p2 := own_pos B2
  have p3 := own_pos2 B1 B2
  try simp only [Int32.zero_add, own_as, own_ss, own_s0, A1] at *
  by_cases a0 : (700000000 : Int64) < pj3 <;> simp [p1.1, p1.2, p2.1, p2.2, p3.1, p3.2, own_n0, own_n1, own_as, own_ss, own_s0, a0]
theorem law0_260 (pj2 : Int64) (pj3 : Int64) (pj5 : Int64) (x2 : Int32) (x9 : Int32) (x23 : Int32) (x30 : Int32) (x43 : Int32) (x45 : Int32) (x48 : Int32) (x55 : Int32) (x61 : Int64) (x63 : Int64) (x91 : Int32) (x92 : Int64) (x93 : Int32) (x208 : Int32) (x209 : Int64) (x210 : Int64) (x211 : Int32) (x213 : Int32) (x216 : Int32) (x234 : Int64) (x237 : Int64) (x256 : Int64) (hx91 : x91 = ((0 : Int32) + x43)) (hx92 : x92 = (if (if (0 : Int32) = (0 : Int32) then (0 : Int32) else (if (700000000 : Int64) < (x61 - (0 : Int64)) then (0 : Int32) else (1 : Int32))) = (0 : Int32) then (150000000 : Int64) else (700000000 : Int64))) (hx93 : x93 = (nar .boolean ((0 : Int32) ||| (if x48 = x43 then (if x9 = (0 : Int32) then (1 : Int32) else (if ((0 : Int32) + x43) < (16 : Int32) then (0 : Int32) else (1 : Int32))) else (1 : Int32))))) (hx208 : x208 = (x91 + x45)) (hx209 : x209 = (if x91 = (0 : Int32) then x63 else x61)) (hx210 : x210 = (if x91 = (0 : Int32) then (if (if (1 : Int32) = (0 : Int32) then (0 : Int32) else (if (700000000 : Int64) < (x63 - x61) then (0 : Int32) else (1 : Int32))) = (0 : Int32) then (150000000 : Int64) else (700000000 : Int64)) else x92)) (hx211 : x211 = (nar .boolean (x93 ||| (if x55 = x45 then (if x30 = (0 : Int32) then (1 : Int32) else (if (x91 + x45) < (16 : Int32) then (0 : Int32) else (1 : Int32))) else (1 : Int32))))) (hx213 : x213 = (x43 + x45)) (hx216 : x216 = (if x48 = x43 then (if x9 = (0 : Int32) then (1 : Int32) else (if x55 = x45 then (if x30 = (0 : Int32) then (1 : Int32) else (if x213 < (16 : Int32) then (0 : Int32) else (1 : Int32))) else (1 : Int32))) else (1 : Int32))) (hx234 : x234 = (x61 + pj5)) (hx237 : x237 = (if x216 = (0 : Int32) then ((150000000 : Int64) - pj5) else (0 : Int64))) (hx256 : x256 = (if x208 = (0 : Int32) then (9223372036854775807 : Int64) else (if x211 = (0 : Int32) then ((x209 + x210) - x234) else (0 : Int64)))) (hc155_79 : x2 = (0 : Int32)) (hc187_96 : ¬ (x23 = (0 : Int32))) (B1 : 1 ≤ x43.toInt ∧ x43.toInt ≤ 16) (B2 : 1 ≤ x45.toInt ∧ x45.toInt ≤ 16) (A1 : x61 - pj2 = pj3) : x256 = x237 := by
  subst hx91 hx92 hx93 hx208 hx209 hx210 hx211 hx213 hx216 hx234 hx237 hx256
  have p1 := own_pos B1
  have p2 := own_pos B2
  have p3 := own_pos2 B1 B2
  try simp only [Int32.zero_add, own_as, own_ss, own_s0, A1] at *
  rcases own_tri B1 B2 with ⟨u, v⟩ | ⟨u, v⟩ | ⟨u, v⟩ <;> by_cases a0 : x48 = x43 <;> by_cases a1 : x9 = (0 : Int32) <;> by_cases a2 : x55 = x45 <;> by_cases a3 : x30 = (0 : Int32) <;> simp [p1.1, p1.2, p2.1, p2.2, p3.1, p3.2, own_n0, own_n1, own_as, own_ss, own_s0, u, v, a0, a1, a2, a3]
theorem law0_268 (pj2 : Int64) (pj3 : Int64) (pj5 : Int64) (x2 : Int32) (x9 : Int32) (x23 : Int32) (x30 : Int32) (x43 : Int32) (x45 : Int32) (x48 : Int32) (x55 : Int32) (x61 : Int64) (x63 : Int64) (x91 : Int32) (x92 : Int64) (x93 : Int32) (x208 : Int32) (x209 : Int64) (x210 : Int64) (x211 : Int32) (x213 : Int32) (x216 : Int32) (x234 : Int64) (x244 : Int32) (x264 : Int32) (hx91 : x91 = ((0 : Int32) + x43)) (hx92 : x92 = (if (if (0 : Int32) = (0 : Int32) then (0 : Int32) else (if (700000000 : Int64) < (x61 - (0 : Int64)) then (0 : Int32) else (1 : Int32))) = (0 : Int32) then (150000000 : Int64) else (700000000 : Int64))) (hx93 : x93 = (nar .boolean ((0 : Int32) ||| (if x48 = x43 then (if x9 = (0 : Int32) then (1 : Int32) else (if ((0 : Int32) + x43) < (16 : Int32) then (0 : Int32) else (1 : Int32))) else (1 : Int32))))) (hx208 : x208 = (x91 + x45)) (hx209 : x209 = (if x91 = (0 : Int32) then x63 else x61)) (hx210 : x210 = (if x91 = (0 : Int32) then (if (if (1 : Int32) = (0 : Int32) then (0 : Int32) else (if (700000000 : Int64) < (x63 - x61) then (0 : Int32) else (1 : Int32))) = (0 : Int32) then (150000000 : Int64) else (700000000 : Int64)) else x92)) (hx211 : x211 = (nar .boolean (x93 ||| (if x55 = x45 then (if x30 = (0 : Int32) then (1 : Int32) else (if (x91 + x45) < (16 : Int32) then (0 : Int32) else (1 : Int32))) else (1 : Int32))))) (hx213 : x213 = (x43 + x45)) (hx216 : x216 = (if x48 = x43 then (if x9 = (0 : Int32) then (1 : Int32) else (if x55 = x45 then (if x30 = (0 : Int32) then (1 : Int32) else (if x213 < (16 : Int32) then (0 : Int32) else (1 : Int32))) else (1 : Int32))) else (1 : Int32))) (hx234 : x234 = (x61 + pj5)) (hx244 : x244 = (if x216 = (0 : Int32) then (if pj5 < (150000000 : Int64) then (0 : Int32) else (1 : Int32)) else (1 : Int32))) (hx264 : x264 = (if x211 = (0 : Int32) then (if (0 : Int32) < x208 then (if (x234 - x209) < x210 then (0 : Int32) else (1 : Int32)) else (0 : Int32)) else (1 : Int32))) (hc155_79 : x2 = (0 : Int32)) (hc187_96 : ¬ (x23 = (0 : Int32))) (B1 : 1 ≤ x43.toInt ∧ x43.toInt ≤ 16) (B2 : 1 ≤ x45.toInt ∧ x45.toInt ≤ 16) (A1 : x61 - pj2 = pj3) : x264 = x244 := by
  subst hx91 hx92 hx93 hx208 hx209 hx210 hx211 hx213 hx216 hx234 hx244 hx264
  have p1 := own_pos B1
  have p2 := own_pos B2
  have p3 := own_pos2 B1 B2
  try simp only [Int32.zero_add, own_as, own_ss, own_s0, A1] at *
  rcases own_tri B1 B2 with ⟨u, v⟩ | ⟨u, v⟩ | ⟨u, v⟩ <;> by_cases a0 : x48 = x43 <;> by_cases a1 : x9 = (0 : Int32) <;> by_cases a2 : x55 = x45 <;> by_cases a3 : x30 = (0 : Int32) <;> by_cases a4 : pj5 < (150000000 : Int64) <;> simp [p1.1, p1.2, p2.1, p2.2, p3.1, p3.2, own_n0, own_n1, own_as, own_ss, own_s0, u, v, a0, a1, a2, a3, a4]
theorem law0_312 (pj2 : Int64) (pj3 : Int64) (x2 : Int32) (x23 : Int32) (x43 : Int32) (x45 : Int32) (x61 : Int64) (x63 : Int64) (x281 : Int64) (x294 : Int32) (x295 : Int64) (x296 : Int32) (x299 : Int64) (x308 : Int64) (hx281 : x281 = (x63 + pj3)) (hx294 : x294 = ((0 : Int32) + (1 : Int32))) (hx295 : x295 = (if (if (1 : Int32) = (0 : Int32) then (0 : Int32) else (if (700000000 : Int64) < (x281 - x63) then (0 : Int32) else (1 : Int32))) = (0 : Int32) then (150000000 : Int64) else (700000000 : Int64))) (hx296 : x296 = (nar .boolean ((0 : Int32) ||| (if (1 : Int32) = (1 : Int32) then (if (1 : Int32) = (0 : Int32) then (1 : Int32) else (if ((0 : Int32) + (1 : Int32)) < (16 : Int32) then (0 : Int32) else (1 : Int32))) else (1 : Int32))))) (hx299 : x299 = (if (700000000 : Int64) < pj3 then (150000000 : Int64) else (700000000 : Int64))) (hx308 : x308 = (if x294 = (0 : Int32) then (9223372036854775807 : Int64) else (if x296 = (0 : Int32) then ((x281 + x295) - x281) else (0 : Int64)))) (hc155_79 : x2 = (0 : Int32)) (hc187_96 : ¬ (x23 = (0 : Int32))) (B1 : 1 ≤ x43.toInt ∧ x43.toInt ≤ 16) (B2 : 1 ≤ x45.toInt ∧ x45.toInt ≤ 16) (A1 : x61 - pj2 = pj3) : x308 = x299 := by
  subst hx281 hx294 hx295 hx296 hx299 hx308
  have p1 := own_pos B1
  have p2 := own_pos B2
  have p3 := own_pos2 B1 B2
  try simp only [Int32.zero_add, own_as, own_ss, own_s0, A1] at *
  by_cases a0 : (700000000 : Int64) < pj3 <;> simp [p1.1, p1.2, p2.1, p2.2, p3.1, p3.2, own_n0, own_n1, own_as, own_ss, own_s0, a0]
theorem law0_319 (pj2 : Int64) (pj3 : Int64) (x2 : Int32) (x23 : Int32) (x43 : Int32) (x45 : Int32) (x61 : Int64) (x63 : Int64) (x281 : Int64) (x294 : Int32) (x295 : Int64) (x296 : Int32) (x316 : Int32) (hx281 : x281 = (x63 + pj3)) (hx294 : x294 = ((0 : Int32) + (1 : Int32))) (hx295 : x295 = (if (if (1 : Int32) = (0 : Int32) then (0 : Int32) else (if (700000000 : Int64) < (x281 - x63) then (0 : Int32) else (1 : Int32))) = (0 : Int32) then (150000000 : Int64) else (700000000 : Int64))) (hx296 : x296 = (nar .boolean ((0 : Int32) ||| (if (1 : Int32) = (1 : Int32) then (if (1 : Int32) = (0 : Int32) then (1 : Int32) else (if ((0 : Int32) + (1 : Int32)) < (16 : Int32) then (0 : Int32) else (1 : Int32))) else (1 : Int32))))) (hx316 : x316 = (if x296 = (0 : Int32) then (if (0 : Int32) < x294 then (if (x281 - x281) < x295 then (0 : Int32) else (1 : Int32)) else (0 : Int32)) else (1 : Int32))) (hc155_79 : x2 = (0 : Int32)) (hc187_96 : ¬ (x23 = (0 : Int32))) (B1 : 1 ≤ x43.toInt ∧ x43.toInt ≤ 16) (B2 : 1 ≤ x45.toInt ∧ x45.toInt ≤ 16) (A1 : x61 - pj2 = pj3) : x316 = (0 : Int32) := by
  subst hx281 hx294 hx295 hx296 hx316
  have p1 := own_pos B1
  have p2 := own_pos B2
  have p3 := own_pos2 B1 B2
  try simp only [Int32.zero_add, own_as, own_ss, own_s0, A1] at *
  by_cases a0 : (700000000 : Int64) < pj3 <;> simp [p1.1, p1.2, p2.1, p2.2, p3.1, p3.2, own_n0, own_n1, own_as, own_ss, own_s0, a0]
theorem law0_411 (pj2 : Int64) (pj3 : Int64) (pj5 : Int64) (x2 : Int32) (x9 : Int32) (x23 : Int32) (x43 : Int32) (x45 : Int32) (x48 : Int32) (x61 : Int64) (x359 : Int32) (x360 : Int64) (x361 : Int32) (x366 : Int64) (x373 : Int32) (x385 : Int64) (x388 : Int64) (x407 : Int64) (hx359 : x359 = ((0 : Int32) + x43)) (hx360 : x360 = (if (if (1 : Int32) = (0 : Int32) then (0 : Int32) else (if (700000000 : Int64) < (x61 - pj2) then (0 : Int32) else (1 : Int32))) = (0 : Int32) then (150000000 : Int64) else (700000000 : Int64))) (hx361 : x361 = (nar .boolean ((0 : Int32) ||| (if x48 = x43 then (if x9 = (0 : Int32) then (1 : Int32) else (if ((0 : Int32) + x43) < (16 : Int32) then (0 : Int32) else (1 : Int32))) else (1 : Int32))))) (hx366 : x366 = (if (700000000 : Int64) < pj3 then (150000000 : Int64) else (700000000 : Int64))) (hx373 : x373 = (if x48 = x43 then (if x9 = (0 : Int32) then (1 : Int32) else (if x43 < (16 : Int32) then (0 : Int32) else (1 : Int32))) else (1 : Int32))) (hx385 : x385 = (x61 + pj5)) (hx388 : x388 = (if x373 = (0 : Int32) then (x366 - pj5) else (0 : Int64))) (hx407 : x407 = (if x359 = (0 : Int32) then (9223372036854775807 : Int64) else (if x361 = (0 : Int32) then ((x61 + x360) - x385) else (0 : Int64)))) (hc155_79 : ¬ (x2 = (0 : Int32))) (hc187_364 : x23 = (0 : Int32)) (B1 : 1 ≤ x43.toInt ∧ x43.toInt ≤ 16) (B2 : 1 ≤ x45.toInt ∧ x45.toInt ≤ 16) (A1 : x61 - pj2 = pj3) : x407 = x388 := by
  subst hx359 hx360 hx361 hx366 hx373 hx385 hx388 hx407
  have p1 := own_pos B1
  have p2 := own_pos B2
  have p3 := own_pos2 B1 B2
  try simp only [Int32.zero_add, own_as, own_ss, own_s0, A1] at *
  by_cases a0 : x48 = x43 <;> by_cases a1 : x9 = (0 : Int32) <;> by_cases a2 : x43 < (16 : Int32) <;> by_cases a3 : (700000000 : Int64) < pj3 <;> simp [p1.1, p1.2, p2.1, p2.2, p3.1, p3.2, own_n0, own_n1, own_as, own_ss, own_s0, a0, a1, a2, a3]
theorem law0_419 (pj2 : Int64) (pj3 : Int64) (pj5 : Int64) (x2 : Int32) (x9 : Int32) (x23 : Int32) (x43 : Int32) (x45 : Int32) (x48 : Int32) (x61 : Int64) (x359 : Int32) (x360 : Int64) (x361 : Int32) (x366 : Int64) (x373 : Int32) (x385 : Int64) (x395 : Int32) (x415 : Int32) (hx359 : x359 = ((0 : Int32) + x43)) (hx360 : x360 = (if (if (1 : Int32) = (0 : Int32) then (0 : Int32) else (if (700000000 : Int64) < (x61 - pj2) then (0 : Int32) else (1 : Int32))) = (0 : Int32) then (150000000 : Int64) else (700000000 : Int64))) (hx361 : x361 = (nar .boolean ((0 : Int32) ||| (if x48 = x43 then (if x9 = (0 : Int32) then (1 : Int32) else (if ((0 : Int32) + x43) < (16 : Int32) then (0 : Int32) else (1 : Int32))) else (1 : Int32))))) (hx366 : x366 = (if (700000000 : Int64) < pj3 then (150000000 : Int64) else (700000000 : Int64))) (hx373 : x373 = (if x48 = x43 then (if x9 = (0 : Int32) then (1 : Int32) else (if x43 < (16 : Int32) then (0 : Int32) else (1 : Int32))) else (1 : Int32))) (hx385 : x385 = (x61 + pj5)) (hx395 : x395 = (if x373 = (0 : Int32) then (if pj5 < x366 then (0 : Int32) else (1 : Int32)) else (1 : Int32))) (hx415 : x415 = (if x361 = (0 : Int32) then (if (0 : Int32) < x359 then (if (x385 - x61) < x360 then (0 : Int32) else (1 : Int32)) else (0 : Int32)) else (1 : Int32))) (hc155_79 : ¬ (x2 = (0 : Int32))) (hc187_364 : x23 = (0 : Int32)) (B1 : 1 ≤ x43.toInt ∧ x43.toInt ≤ 16) (B2 : 1 ≤ x45.toInt ∧ x45.toInt ≤ 16) (A1 : x61 - pj2 = pj3) : x415 = x395 := by
  subst hx359 hx360 hx361 hx366 hx373 hx385 hx395 hx415
  have p1 := own_pos B1
  have p2 := own_pos B2
  have p3 := own_pos2 B1 B2
  try simp only [Int32.zero_add, own_as, own_ss, own_s0, A1] at *
  by_cases a0 : x48 = x43 <;> by_cases a1 : x9 = (0 : Int32) <;> by_cases a2 : x43 < (16 : Int32) <;> by_cases a3 : (700000000 : Int64) < pj3 <;> simp [p1.1, p1.2, p2.1, p2.2, p3.1, p3.2, own_n0, own_n1, own_as, own_ss, own_s0, a0, a1, a2, a3]
theorem law0_463 (pj2 : Int64) (pj3 : Int64) (x2 : Int32) (x23 : Int32) (x43 : Int32) (x45 : Int32) (x61 : Int64) (x432 : Int64) (x445 : Int32) (x446 : Int64) (x447 : Int32) (x450 : Int64) (x459 : Int64) (hx432 : x432 = (x61 + pj3)) (hx445 : x445 = ((0 : Int32) + (1 : Int32))) (hx446 : x446 = (if (if (1 : Int32) = (0 : Int32) then (0 : Int32) else (if (700000000 : Int64) < (x432 - x61) then (0 : Int32) else (1 : Int32))) = (0 : Int32) then (150000000 : Int64) else (700000000 : Int64))) (hx447 : x447 = (nar .boolean ((0 : Int32) ||| (if (1 : Int32) = (1 : Int32) then (if (1 : Int32) = (0 : Int32) then (1 : Int32) else (if ((0 : Int32) + (1 : Int32)) < (16 : Int32) then (0 : Int32) else (1 : Int32))) else (1 : Int32))))) (hx450 : x450 = (if (700000000 : Int64) < pj3 then (150000000 : Int64) else (700000000 : Int64))) (hx459 : x459 = (if x445 = (0 : Int32) then (9223372036854775807 : Int64) else (if x447 = (0 : Int32) then ((x432 + x446) - x432) else (0 : Int64)))) (hc155_79 : ¬ (x2 = (0 : Int32))) (hc187_364 : x23 = (0 : Int32)) (B1 : 1 ≤ x43.toInt ∧ x43.toInt ≤ 16) (B2 : 1 ≤ x45.toInt ∧ x45.toInt ≤ 16) (A1 : x61 - pj2 = pj3) : x459 = x450 := by
  subst hx432 hx445 hx446 hx447 hx450 hx459
  have p1 := own_pos B1
  have p2 := own_pos B2
  have p3 := own_pos2 B1 B2
  try simp only [Int32.zero_add, own_as, own_ss, own_s0, A1] at *
  by_cases a0 : (700000000 : Int64) < pj3 <;> simp [p1.1, p1.2, p2.1, p2.2, p3.1, p3.2, own_n0, own_n1, own_as, own_ss, own_s0, a0]
theorem law0_470 (pj2 : Int64) (pj3 : Int64) (x2 : Int32) (x23 : Int32) (x43 : Int32) (x45 : Int32) (x61 : Int64) (x432 : Int64) (x445 : Int32) (x446 : Int64) (x447 : Int32) (x467 : Int32) (hx432 : x432 = (x61 + pj3)) (hx445 : x445 = ((0 : Int32) + (1 : Int32))) (hx446 : x446 = (if (if (1 : Int32) = (0 : Int32) then (0 : Int32) else (if (700000000 : Int64) < (x432 - x61) then (0 : Int32) else (1 : Int32))) = (0 : Int32) then (150000000 : Int64) else (700000000 : Int64))) (hx447 : x447 = (nar .boolean ((0 : Int32) ||| (if (1 : Int32) = (1 : Int32) then (if (1 : Int32) = (0 : Int32) then (1 : Int32) else (if ((0 : Int32) + (1 : Int32)) < (16 : Int32) then (0 : Int32) else (1 : Int32))) else (1 : Int32))))) (hx467 : x467 = (if x447 = (0 : Int32) then (if (0 : Int32) < x445 then (if (x432 - x432) < x446 then (0 : Int32) else (1 : Int32)) else (0 : Int32)) else (1 : Int32))) (hc155_79 : ¬ (x2 = (0 : Int32))) (hc187_364 : x23 = (0 : Int32)) (B1 : 1 ≤ x43.toInt ∧ x43.toInt ≤ 16) (B2 : 1 ≤ x45.toInt ∧ x45.toInt ≤ 16) (A1 : x61 - pj2 = pj3) : x467 = (0 : Int32) := by
  subst hx432 hx445 hx446 hx447 hx467
  have p1 := own_pos B1
  have p2 := own_pos B2
  have p3 := own_pos2 B1 B2
  try simp only [Int32.zero_add, own_as, own_ss, own_s0, A1] at *
  by_cases a0 : (700000000 : Int64) < pj3 <;> simp [p1.1, p1.2, p2.1, p2.2, p3.1, p3.2, own_n0, own_n1, own_as, own_ss, own_s0, a0]
theorem law0_542 (pj2 : Int64) (pj3 : Int64) (pj5 : Int64) (x2 : Int32) (x9 : Int32) (x23 : Int32) (x30 : Int32) (x43 : Int32) (x45 : Int32) (x48 : Int32) (x55 : Int32) (x61 : Int64) (x63 : Int64) (x359 : Int32) (x360 : Int64) (x361 : Int32) (x483 : Int32) (x484 : Int64) (x485 : Int64) (x486 : Int32) (x489 : Int64) (x495 : Int32) (x498 : Int32) (x516 : Int64) (x519 : Int64) (x538 : Int64) (hx359 : x359 = ((0 : Int32) + x43)) (hx360 : x360 = (if (if (1 : Int32) = (0 : Int32) then (0 : Int32) else (if (700000000 : Int64) < (x61 - pj2) then (0 : Int32) else (1 : Int32))) = (0 : Int32) then (150000000 : Int64) else (700000000 : Int64))) (hx361 : x361 = (nar .boolean ((0 : Int32) ||| (if x48 = x43 then (if x9 = (0 : Int32) then (1 : Int32) else (if ((0 : Int32) + x43) < (16 : Int32) then (0 : Int32) else (1 : Int32))) else (1 : Int32))))) (hx483 : x483 = (x359 + x45)) (hx484 : x484 = (if x359 = (0 : Int32) then x63 else x61)) (hx485 : x485 = (if x359 = (0 : Int32) then (if (if (1 : Int32) = (0 : Int32) then (0 : Int32) else (if (700000000 : Int64) < (x63 - x61) then (0 : Int32) else (1 : Int32))) = (0 : Int32) then (150000000 : Int64) else (700000000 : Int64)) else x360)) (hx486 : x486 = (nar .boolean (x361 ||| (if x55 = x45 then (if x30 = (0 : Int32) then (1 : Int32) else (if (x359 + x45) < (16 : Int32) then (0 : Int32) else (1 : Int32))) else (1 : Int32))))) (hx489 : x489 = (if (700000000 : Int64) < pj3 then (150000000 : Int64) else (700000000 : Int64))) (hx495 : x495 = (x43 + x45)) (hx498 : x498 = (if x48 = x43 then (if x9 = (0 : Int32) then (1 : Int32) else (if x55 = x45 then (if x30 = (0 : Int32) then (1 : Int32) else (if x495 < (16 : Int32) then (0 : Int32) else (1 : Int32))) else (1 : Int32))) else (1 : Int32))) (hx516 : x516 = (x61 + pj5)) (hx519 : x519 = (if x498 = (0 : Int32) then (x489 - pj5) else (0 : Int64))) (hx538 : x538 = (if x483 = (0 : Int32) then (9223372036854775807 : Int64) else (if x486 = (0 : Int32) then ((x484 + x485) - x516) else (0 : Int64)))) (hc155_79 : ¬ (x2 = (0 : Int32))) (hc187_364 : ¬ (x23 = (0 : Int32))) (B1 : 1 ≤ x43.toInt ∧ x43.toInt ≤ 16) (B2 : 1 ≤ x45.toInt ∧ x45.toInt ≤ 16) (A1 : x61 - pj2 = pj3) : x538 = x519 := by
  subst hx359 hx360 hx361 hx483 hx484 hx485 hx486 hx489 hx495 hx498 hx516 hx519 hx538
  have p1 := own_pos B1
  have p2 := own_pos B2
  have p3 := own_pos2 B1 B2
  try simp only [Int32.zero_add, own_as, own_ss, own_s0, A1] at *
  rcases own_tri B1 B2 with ⟨u, v⟩ | ⟨u, v⟩ | ⟨u, v⟩ <;> by_cases a0 : x48 = x43 <;> by_cases a1 : x9 = (0 : Int32) <;> by_cases a2 : x55 = x45 <;> by_cases a3 : x30 = (0 : Int32) <;> by_cases a4 : (700000000 : Int64) < pj3 <;> simp [p1.1, p1.2, p2.1, p2.2, p3.1, p3.2, own_n0, own_n1, own_as, own_ss, own_s0, u, v, a0, a1, a2, a3, a4]
theorem law0_550 (pj2 : Int64) (pj3 : Int64) (pj5 : Int64) (x2 : Int32) (x9 : Int32) (x23 : Int32) (x30 : Int32) (x43 : Int32) (x45 : Int32) (x48 : Int32) (x55 : Int32) (x61 : Int64) (x63 : Int64) (x359 : Int32) (x360 : Int64) (x361 : Int32) (x483 : Int32) (x484 : Int64) (x485 : Int64) (x486 : Int32) (x489 : Int64) (x495 : Int32) (x498 : Int32) (x516 : Int64) (x526 : Int32) (x546 : Int32) (hx359 : x359 = ((0 : Int32) + x43)) (hx360 : x360 = (if (if (1 : Int32) = (0 : Int32) then (0 : Int32) else (if (700000000 : Int64) < (x61 - pj2) then (0 : Int32) else (1 : Int32))) = (0 : Int32) then (150000000 : Int64) else (700000000 : Int64))) (hx361 : x361 = (nar .boolean ((0 : Int32) ||| (if x48 = x43 then (if x9 = (0 : Int32) then (1 : Int32) else (if ((0 : Int32) + x43) < (16 : Int32) then (0 : Int32) else (1 : Int32))) else (1 : Int32))))) (hx483 : x483 = (x359 + x45)) (hx484 : x484 = (if x359 = (0 : Int32) then x63 else x61)) (hx485 : x485 = (if x359 = (0 : Int32) then (if (if (1 : Int32) = (0 : Int32) then (0 : Int32) else (if (700000000 : Int64) < (x63 - x61) then (0 : Int32) else (1 : Int32))) = (0 : Int32) then (150000000 : Int64) else (700000000 : Int64)) else x360)) (hx486 : x486 = (nar .boolean (x361 ||| (if x55 = x45 then (if x30 = (0 : Int32) then (1 : Int32) else (if (x359 + x45) < (16 : Int32) then (0 : Int32) else (1 : Int32))) else (1 : Int32))))) (hx489 : x489 = (if (700000000 : Int64) < pj3 then (150000000 : Int64) else (700000000 : Int64))) (hx495 : x495 = (x43 + x45)) (hx498 : x498 = (if x48 = x43 then (if x9 = (0 : Int32) then (1 : Int32) else (if x55 = x45 then (if x30 = (0 : Int32) then (1 : Int32) else (if x495 < (16 : Int32) then (0 : Int32) else (1 : Int32))) else (1 : Int32))) else (1 : Int32))) (hx516 : x516 = (x61 + pj5)) (hx526 : x526 = (if x498 = (0 : Int32) then (if pj5 < x489 then (0 : Int32) else (1 : Int32)) else (1 : Int32))) (hx546 : x546 = (if x486 = (0 : Int32) then (if (0 : Int32) < x483 then (if (x516 - x484) < x485 then (0 : Int32) else (1 : Int32)) else (0 : Int32)) else (1 : Int32))) (hc155_79 : ¬ (x2 = (0 : Int32))) (hc187_364 : ¬ (x23 = (0 : Int32))) (B1 : 1 ≤ x43.toInt ∧ x43.toInt ≤ 16) (B2 : 1 ≤ x45.toInt ∧ x45.toInt ≤ 16) (A1 : x61 - pj2 = pj3) : x546 = x526 := by
  subst hx359 hx360 hx361 hx483 hx484 hx485 hx486 hx489 hx495 hx498 hx516 hx526 hx546
  have p1 := own_pos B1
  have p2 := own_pos B2
  have p3 := own_pos2 B1 B2
  try simp only [Int32.zero_add, own_as, own_ss, own_s0, A1] at *
  rcases own_tri B1 B2 with ⟨u, v⟩ | ⟨u, v⟩ | ⟨u, v⟩ <;> by_cases a0 : x48 = x43 <;> by_cases a1 : x9 = (0 : Int32) <;> by_cases a2 : x55 = x45 <;> by_cases a3 : x30 = (0 : Int32) <;> by_cases a4 : (700000000 : Int64) < pj3 <;> simp [p1.1, p1.2, p2.1, p2.2, p3.1, p3.2, own_n0, own_n1, own_as, own_ss, own_s0, u, v, a0, a1, a2, a3, a4]
theorem law0_594 (pj2 : Int64) (pj3 : Int64) (x2 : Int32) (x23 : Int32) (x43 : Int32) (x45 : Int32) (x61 : Int64) (x63 : Int64) (x563 : Int64) (x576 : Int32) (x577 : Int64) (x578 : Int32) (x581 : Int64) (x590 : Int64) (hx563 : x563 = (x63 + pj3)) (hx576 : x576 = ((0 : Int32) + (1 : Int32))) (hx577 : x577 = (if (if (1 : Int32) = (0 : Int32) then (0 : Int32) else (if (700000000 : Int64) < (x563 - x63) then (0 : Int32) else (1 : Int32))) = (0 : Int32) then (150000000 : Int64) else (700000000 : Int64))) (hx578 : x578 = (nar .boolean ((0 : Int32) ||| (if (1 : Int32) = (1 : Int32) then (if (1 : Int32) = (0 : Int32) then (1 : Int32) else (if ((0 : Int32) + (1 : Int32)) < (16 : Int32) then (0 : Int32) else (1 : Int32))) else (1 : Int32))))) (hx581 : x581 = (if (700000000 : Int64) < pj3 then (150000000 : Int64) else (700000000 : Int64))) (hx590 : x590 = (if x576 = (0 : Int32) then (9223372036854775807 : Int64) else (if x578 = (0 : Int32) then ((x563 + x577) - x563) else (0 : Int64)))) (hc155_79 : ¬ (x2 = (0 : Int32))) (hc187_364 : ¬ (x23 = (0 : Int32))) (B1 : 1 ≤ x43.toInt ∧ x43.toInt ≤ 16) (B2 : 1 ≤ x45.toInt ∧ x45.toInt ≤ 16) (A1 : x61 - pj2 = pj3) : x590 = x581 := by
  subst hx563 hx576 hx577 hx578 hx581 hx590
  have p1 := own_pos B1
  have p2 := own_pos B2
  have p3 := own_pos2 B1 B2
  try simp only [Int32.zero_add, own_as, own_ss, own_s0, A1] at *
  by_cases a0 : (700000000 : Int64) < pj3 <;> simp [p1.1, p1.2, p2.1, p2.2, p3.1, p3.2, own_n0, own_n1, own_as, own_ss, own_s0, a0]
theorem law0_601 (pj2 : Int64) (pj3 : Int64) (x2 : Int32) (x23 : Int32) (x43 : Int32) (x45 : Int32) (x61 : Int64) (x63 : Int64) (x563 : Int64) (x576 : Int32) (x577 : Int64) (x578 : Int32) (x598 : Int32) (hx563 : x563 = (x63 + pj3)) (hx576 : x576 = ((0 : Int32) + (1 : Int32))) (hx577 : x577 = (if (if (1 : Int32) = (0 : Int32) then (0 : Int32) else (if (700000000 : Int64) < (x563 - x63) then (0 : Int32) else (1 : Int32))) = (0 : Int32) then (150000000 : Int64) else (700000000 : Int64))) (hx578 : x578 = (nar .boolean ((0 : Int32) ||| (if (1 : Int32) = (1 : Int32) then (if (1 : Int32) = (0 : Int32) then (1 : Int32) else (if ((0 : Int32) + (1 : Int32)) < (16 : Int32) then (0 : Int32) else (1 : Int32))) else (1 : Int32))))) (hx598 : x598 = (if x578 = (0 : Int32) then (if (0 : Int32) < x576 then (if (x563 - x563) < x577 then (0 : Int32) else (1 : Int32)) else (0 : Int32)) else (1 : Int32))) (hc155_79 : ¬ (x2 = (0 : Int32))) (hc187_364 : ¬ (x23 = (0 : Int32))) (B1 : 1 ≤ x43.toInt ∧ x43.toInt ≤ 16) (B2 : 1 ≤ x45.toInt ∧ x45.toInt ≤ 16) (A1 : x61 - pj2 = pj3) : x598 = (0 : Int32) := by
  subst hx563 hx576 hx577 hx578 hx598
  have p1 := own_pos B1
  have p2 := own_pos B2
  have p3 := own_pos2 B1 B2
  try simp only [Int32.zero_add, own_as, own_ss, own_s0, A1] at *
  by_cases a0 : (700000000 : Int64) < pj3 <;> simp [p1.1, p1.2, p2.1, p2.2, p3.1, p3.2, own_n0, own_n1, own_as, own_ss, own_s0, a0]
theorem pn_com_example_roamd_roamd_net_DelayedAckArrivedPinLaw : plainName "com/example/roamd/roamd/net/DelayedAckArrivedPinLaw" = true := by first | (simp [plainName, overriddenIn]; done) | decide +kernel
theorem pd___V : parseMethodDescriptor "()V" = some ⟨[], none⟩ := by decide +kernel
theorem pd__IIZJ_V : parseMethodDescriptor "(IIZJ)V" = some ⟨[.int, .int, .boolean, .long], none⟩ := by decide +kernel
theorem pd__J_J : parseMethodDescriptor "(J)J" = some ⟨[.long], some .long⟩ := by decide +kernel
theorem pd__J_Z : parseMethodDescriptor "(J)Z" = some ⟨[.long], some .boolean⟩ := by decide +kernel
theorem ef_0 (m : MethodId) (x0 : Int32) (x1 : Int32) (x2 : Int64) (x3 : Int64) (x4 : Int64) (x5 : Int64) : entryFrame m #[(.int x0), (.int x1), (.long x2), (.long x3), (.long x4), (.long x5)] maxLocals = mkF m 0 #[iv x0, iv x1, jv x2, .second, jv x3, .second, jv x4, .second, jv x5, .second, .unset, .unset, .unset, .unset, .unset, .unset, .unset, .unset, .unset, .unset, .unset, .unset, .unset, .unset, .unset, .unset, .unset, .unset, .unset, .unset, .unset, .unset, .unset, .unset, .unset, .unset, .unset, .unset, .unset, .unset, .unset, .unset] [] := by first | (simp [entryFrame, mkF, argsToLocals, Value.category, maxLocals]; done) | rfl
def Q0 (Z : State) (pi0 : Int32) (pi1 : Int32) (pj2 : Int64) (pj3 : Int64) (pj4 : Int64) (pj5 : Int64) (h0 : Heap) (n0 : Nat) (v : Option Value) (h : Heap) (L : List Loc) : Prop := v = some (.int (1 : Int32)) ∧ Fr n0 L
set_option maxRecDepth 65536 in
set_option maxHeartbeats 40000000 in
theorem rm0 (l : Launch) (Z : State) (a0 : Array Value) (hw : ∀ d ∈ tables_1, d.before a0 Z = true) (ws : List Jvm.Cond) (pi0 : Int32) (pi1 : Int32) (pj2 : Int64) (pj3 : Int64) (pj4 : Int64) (pj5 : Int64) (h0 : Heap) (n0 : Nat) (O0 : Old Z n0 h0) (S_DELAY_NANOS : Sta Z Z.heap "com/example/roamd/roamd/net/DelayedAck" "DELAY_NANOS" "J" (.long (700000000 : Int64))) (S_ALONE_DELAY_NANOS : Sta Z Z.heap "com/example/roamd/roamd/net/DelayedAck" "ALONE_DELAY_NANOS" "J" (.long (150000000 : Int64))) :
    MetFree l x (head1 (Jvm.Cond.code x code maxLocals ret :: ws) room_1) (fun a U => a = #[(.int pi0), (.int pi1), (.long pj2), (.long pj3), (.long pj4), (.long pj5)] ∧ Z.Warmed39 U.vm ∧ U.heap = h0) (fun _ _ _ _ _ => True) (fun _ U o U' => ∃ v L, o = .returned v ∧ Q0 Z pi0 pi1 pj2 pj3 pj4 pj5 h0 n0 v U'.heap L ∧ FrameEnd U o U' L room_1.cells room_1.slots) := by
  refine MetFree.of_bodySF (plainFor_of_name pn_com_example_roamd_roamd_net_DelayedAckArrivedPinLaw) hisR ?_
  intro p e s m args below meth c s₁ Bd hml0 hP hK
  obtain ⟨rfl, hZ, hh⟩ := hP
  have hx := Bd.exec
  have hby := Bd.bytes
  have hml : c.maxLocals = 42 := hml0
  have hown : s.vm.findClass "com/example/roamd/roamd/net/DelayedAckArrivedPinLaw" = some m.cls := findClass_of_methodNamed Bd.named
  have hnm := (name_of_methodNamed Bd.named Bd.method).1
  have X0 : Stand p l e room_1 s m #[(.int pi0), (.int pi1), (.long pj2), (.long pj3), (.long pj4), (.long pj5)] below meth c s₁ [] 0 0 := Stand.of_body Bd
  have e0 : s₁.heap = h0 := by rw [← hh, Bd.state]; rfl
  have N0 := Fr.nil n0
  obtain ⟨Go, hGo⟩ : ∃ P : State → Prop, ∀ t, P t ↔ Steps p.tables e below (s₁.setTop (entryFrame m #[(.int pi0), (.int pi1), (.long pj2), (.long pj3), (.long pj4), (.long pj5)] maxLocals)) t := ⟨_, fun _ => Iff.rfl⟩
  have pre0 : ∀ t, Steps p.tables e below (s₁.setTop (mkF m 0 #[iv pi0, iv pi1, jv pj2, .second, jv pj3, .second, jv pj4, .second, jv pj5, .second, .unset, .unset, .unset, .unset, .unset, .unset, .unset, .unset, .unset, .unset, .unset, .unset, .unset, .unset, .unset, .unset, .unset, .unset, .unset, .unset, .unset, .unset, .unset, .unset, .unset, .unset, .unset, .unset, .unset, .unset, .unset, .unset] [])) t → Go t := fun t k => (hGo t).mpr (castTop (ef_0 m pi0 pi1 pj2 pj3 pj4 pj5) k)
  have pre1 : ∀ t, Steps p.tables e below (s₁.setTop (mkF m 3 #[iv pi0, iv pi1, jv pj2, .second, jv pj3, .second, jv pj4, .second, jv pj5, .second, .unset, .unset, .unset, .unset, .unset, .unset, .unset, .unset, .unset, .unset, .unset, .unset, .unset, .unset, .unset, .unset, .unset, .unset, .unset, .unset, .unset, .unset, .unset, .unset, .unset, .unset, .unset, .unset, .unset, .unset, .unset, .unset] [(.int (pi0 &&& (1 : Int32)))])) t → Go t := fun t kt => pre0 t (by
      refine y_iloadN X0.here hx (hb hby at_0) rfl (pc' := 1) rfl ?_
      refine y_iconst X0.here hx (hb hby at_1) (v := (1 : Int32)) rfl (pc' := 2) rfl ?_
      refine y_iand X0.here hx (hb hby at_2) rfl (pc' := 3) rfl ?_
      exact kt)
  obtain ⟨x2, hx2⟩ : ∃ z : Int32, z = (if (pi0 &&& (1 : Int32)) = (0 : Int32) then (0 : Int32) else (1 : Int32)) := ⟨_, rfl⟩
  obtain ⟨T3, ⟨X3, q3⟩, st3⟩ : ∃ T', Nx X0 T' ∧ ∀ t, Steps p.tables e below (T'.setTop (mkF m 11 #[iv pi0, iv pi1, jv pj2, .second, jv pj3, .second, jv pj4, .second, jv pj5, .second, .unset, .unset, .unset, .unset, .unset, .unset, .unset, .unset, .unset, .unset, .unset, .unset, .unset, .unset, .unset, .unset, .unset, .unset, .unset, .unset, .unset, .unset, .unset, .unset, .unset, .unset, .unset, .unset, .unset, .unset, .unset, .unset] [(.int x2)])) t → Steps p.tables e below (s₁.setTop (mkF m 3 #[iv pi0, iv pi1, jv pj2, .second, jv pj3, .second, jv pj4, .second, jv pj5, .second, .unset, .unset, .unset, .unset, .unset, .unset, .unset, .unset, .unset, .unset, .unset, .unset, .unset, .unset, .unset, .unset, .unset, .unset, .unset, .unset, .unset, .unset, .unset, .unset, .unset, .unset, .unset, .unset, .unset, .unset, .unset, .unset] [(.int (pi0 &&& (1 : Int32)))])) t := by
    have pre3_ : ∀ t, Steps p.tables e below (s₁.setTop (mkF m 3 #[iv pi0, iv pi1, jv pj2, .second, jv pj3, .second, jv pj4, .second, jv pj5, .second, .unset, .unset, .unset, .unset, .unset, .unset, .unset, .unset, .unset, .unset, .unset, .unset, .unset, .unset, .unset, .unset, .unset, .unset, .unset, .unset, .unset, .unset, .unset, .unset, .unset, .unset, .unset, .unset, .unset, .unset, .unset, .unset] [(.int (pi0 &&& (1 : Int32)))])) t → Steps p.tables e below (s₁.setTop (mkF m 3 #[iv pi0, iv pi1, jv pj2, .second, jv pj3, .second, jv pj4, .second, jv pj5, .second, .unset, .unset, .unset, .unset, .unset, .unset, .unset, .unset, .unset, .unset, .unset, .unset, .unset, .unset, .unset, .unset, .unset, .unset, .unset, .unset, .unset, .unset, .unset, .unset, .unset, .unset, .unset, .unset, .unset, .unset, .unset, .unset] [(.int (pi0 &&& (1 : Int32)))])) t := fun t kt => kt
    subst hx2
    by_cases hm3_4 : (pi0 &&& (1 : Int32)) = (0 : Int32)
    · have pre5 : ∀ t, Steps p.tables e below (s₁.setTop (mkF m 11 #[iv pi0, iv pi1, jv pj2, .second, jv pj3, .second, jv pj4, .second, jv pj5, .second, .unset, .unset, .unset, .unset, .unset, .unset, .unset, .unset, .unset, .unset, .unset, .unset, .unset, .unset, .unset, .unset, .unset, .unset, .unset, .unset, .unset, .unset, .unset, .unset, .unset, .unset, .unset, .unset, .unset, .unset, .unset, .unset] [(.int (0 : Int32))])) t → Steps p.tables e below (s₁.setTop (mkF m 3 #[iv pi0, iv pi1, jv pj2, .second, jv pj3, .second, jv pj4, .second, jv pj5, .second, .unset, .unset, .unset, .unset, .unset, .unset, .unset, .unset, .unset, .unset, .unset, .unset, .unset, .unset, .unset, .unset, .unset, .unset, .unset, .unset, .unset, .unset, .unset, .unset, .unset, .unset, .unset, .unset, .unset, .unset, .unset, .unset] [(.int (pi0 &&& (1 : Int32)))])) t := fun t kt => pre3_ t (by
          refine y_ifYes X0.here hx (hb hby at_3) ((if0 _ _).trans (teq hm3_4).1) (pc' := 10) (by decide) rfl ?_
          refine y_iconst X0.here hx (hb hby at_10) (v := (0 : Int32)) rfl (pc' := 11) rfl ?_
          exact kt)
      refine ⟨s₁, ⟨X0, e0.trans e0.symm⟩, fun t kt => pre5 t ?_⟩
      (try simp only [if_pos hm3_4] at kt)
      exact kt
    · have pre6 : ∀ t, Steps p.tables e below (s₁.setTop (mkF m 11 #[iv pi0, iv pi1, jv pj2, .second, jv pj3, .second, jv pj4, .second, jv pj5, .second, .unset, .unset, .unset, .unset, .unset, .unset, .unset, .unset, .unset, .unset, .unset, .unset, .unset, .unset, .unset, .unset, .unset, .unset, .unset, .unset, .unset, .unset, .unset, .unset, .unset, .unset, .unset, .unset, .unset, .unset, .unset, .unset] [(.int (1 : Int32))])) t → Steps p.tables e below (s₁.setTop (mkF m 3 #[iv pi0, iv pi1, jv pj2, .second, jv pj3, .second, jv pj4, .second, jv pj5, .second, .unset, .unset, .unset, .unset, .unset, .unset, .unset, .unset, .unset, .unset, .unset, .unset, .unset, .unset, .unset, .unset, .unset, .unset, .unset, .unset, .unset, .unset, .unset, .unset, .unset, .unset, .unset, .unset, .unset, .unset, .unset, .unset] [(.int (pi0 &&& (1 : Int32)))])) t := fun t kt => pre3_ t (by
          refine y_ifNo X0.here hx (hb hby at_3) ((if0 _ _).trans (feq hm3_4).1) (pc' := 6) rfl ?_
          refine y_iconst X0.here hx (hb hby at_6) (v := (1 : Int32)) rfl (pc' := 7) rfl ?_
          refine y_goto X0.here hx (hb hby at_7) (pc' := 11) (by decide) rfl ?_
          exact kt)
      refine ⟨s₁, ⟨X0, e0.trans e0.symm⟩, fun t kt => pre6 t ?_⟩
      (try simp only [if_neg hm3_4] at kt)
      exact kt
  have e3 : T3.heap = h0 := q3.trans e0
  have pre7 : ∀ t, Steps p.tables e below (T3.setTop (mkF m 11 #[iv pi0, iv pi1, jv pj2, .second, jv pj3, .second, jv pj4, .second, jv pj5, .second, .unset, .unset, .unset, .unset, .unset, .unset, .unset, .unset, .unset, .unset, .unset, .unset, .unset, .unset, .unset, .unset, .unset, .unset, .unset, .unset, .unset, .unset, .unset, .unset, .unset, .unset, .unset, .unset, .unset, .unset, .unset, .unset] [(.int x2)])) t → Go t := fun t kt => pre1 t (st3 t kt)
  have pre8 : ∀ t, Steps p.tables e below (T3.setTop (mkF m 16 #[iv pi0, iv pi1, jv pj2, .second, jv pj3, .second, jv pj4, .second, jv pj5, .second, iv x2, .unset, .unset, .unset, .unset, .unset, .unset, .unset, .unset, .unset, .unset, .unset, .unset, .unset, .unset, .unset, .unset, .unset, .unset, .unset, .unset, .unset, .unset, .unset, .unset, .unset, .unset, .unset, .unset, .unset, .unset, .unset] [(.int (pi0 &&& (2 : Int32)))])) t → Go t := fun t kt => pre7 t (by
      refine y_istore X3.here hx (hb hby at_11) (l' := #[iv pi0, iv pi1, jv pj2, .second, jv pj3, .second, jv pj4, .second, jv pj5, .second, iv x2, .unset, .unset, .unset, .unset, .unset, .unset, .unset, .unset, .unset, .unset, .unset, .unset, .unset, .unset, .unset, .unset, .unset, .unset, .unset, .unset, .unset, .unset, .unset, .unset, .unset, .unset, .unset, .unset, .unset, .unset, .unset]) rfl (pc' := 13) rfl ?_
      refine y_iloadN X3.here hx (hb hby at_13) rfl (pc' := 14) rfl ?_
      refine y_iconst X3.here hx (hb hby at_14) (v := (2 : Int32)) rfl (pc' := 15) rfl ?_
      refine y_iand X3.here hx (hb hby at_15) rfl (pc' := 16) rfl ?_
      exact kt)
  obtain ⟨x9, hx9⟩ : ∃ z : Int32, z = (if (pi0 &&& (2 : Int32)) = (0 : Int32) then (0 : Int32) else (1 : Int32)) := ⟨_, rfl⟩
  obtain ⟨T10, ⟨X10, q10⟩, st10⟩ : ∃ T', Nx X3 T' ∧ ∀ t, Steps p.tables e below (T'.setTop (mkF m 24 #[iv pi0, iv pi1, jv pj2, .second, jv pj3, .second, jv pj4, .second, jv pj5, .second, iv x2, .unset, .unset, .unset, .unset, .unset, .unset, .unset, .unset, .unset, .unset, .unset, .unset, .unset, .unset, .unset, .unset, .unset, .unset, .unset, .unset, .unset, .unset, .unset, .unset, .unset, .unset, .unset, .unset, .unset, .unset, .unset] [(.int x9)])) t → Steps p.tables e below (T3.setTop (mkF m 16 #[iv pi0, iv pi1, jv pj2, .second, jv pj3, .second, jv pj4, .second, jv pj5, .second, iv x2, .unset, .unset, .unset, .unset, .unset, .unset, .unset, .unset, .unset, .unset, .unset, .unset, .unset, .unset, .unset, .unset, .unset, .unset, .unset, .unset, .unset, .unset, .unset, .unset, .unset, .unset, .unset, .unset, .unset, .unset, .unset] [(.int (pi0 &&& (2 : Int32)))])) t := by
    have pre10_ : ∀ t, Steps p.tables e below (T3.setTop (mkF m 16 #[iv pi0, iv pi1, jv pj2, .second, jv pj3, .second, jv pj4, .second, jv pj5, .second, iv x2, .unset, .unset, .unset, .unset, .unset, .unset, .unset, .unset, .unset, .unset, .unset, .unset, .unset, .unset, .unset, .unset, .unset, .unset, .unset, .unset, .unset, .unset, .unset, .unset, .unset, .unset, .unset, .unset, .unset, .unset, .unset] [(.int (pi0 &&& (2 : Int32)))])) t → Steps p.tables e below (T3.setTop (mkF m 16 #[iv pi0, iv pi1, jv pj2, .second, jv pj3, .second, jv pj4, .second, jv pj5, .second, iv x2, .unset, .unset, .unset, .unset, .unset, .unset, .unset, .unset, .unset, .unset, .unset, .unset, .unset, .unset, .unset, .unset, .unset, .unset, .unset, .unset, .unset, .unset, .unset, .unset, .unset, .unset, .unset, .unset, .unset, .unset, .unset] [(.int (pi0 &&& (2 : Int32)))])) t := fun t kt => kt
    subst hx9
    by_cases hm16_11 : (pi0 &&& (2 : Int32)) = (0 : Int32)
    · have pre12 : ∀ t, Steps p.tables e below (T3.setTop (mkF m 24 #[iv pi0, iv pi1, jv pj2, .second, jv pj3, .second, jv pj4, .second, jv pj5, .second, iv x2, .unset, .unset, .unset, .unset, .unset, .unset, .unset, .unset, .unset, .unset, .unset, .unset, .unset, .unset, .unset, .unset, .unset, .unset, .unset, .unset, .unset, .unset, .unset, .unset, .unset, .unset, .unset, .unset, .unset, .unset, .unset] [(.int (0 : Int32))])) t → Steps p.tables e below (T3.setTop (mkF m 16 #[iv pi0, iv pi1, jv pj2, .second, jv pj3, .second, jv pj4, .second, jv pj5, .second, iv x2, .unset, .unset, .unset, .unset, .unset, .unset, .unset, .unset, .unset, .unset, .unset, .unset, .unset, .unset, .unset, .unset, .unset, .unset, .unset, .unset, .unset, .unset, .unset, .unset, .unset, .unset, .unset, .unset, .unset, .unset, .unset] [(.int (pi0 &&& (2 : Int32)))])) t := fun t kt => pre10_ t (by
          refine y_ifYes X3.here hx (hb hby at_16) ((if0 _ _).trans (teq hm16_11).1) (pc' := 23) (by decide) rfl ?_
          refine y_iconst X3.here hx (hb hby at_23) (v := (0 : Int32)) rfl (pc' := 24) rfl ?_
          exact kt)
      refine ⟨T3, ⟨X3, e3.trans e3.symm⟩, fun t kt => pre12 t ?_⟩
      (try simp only [if_pos hm16_11] at kt)
      exact kt
    · have pre13 : ∀ t, Steps p.tables e below (T3.setTop (mkF m 24 #[iv pi0, iv pi1, jv pj2, .second, jv pj3, .second, jv pj4, .second, jv pj5, .second, iv x2, .unset, .unset, .unset, .unset, .unset, .unset, .unset, .unset, .unset, .unset, .unset, .unset, .unset, .unset, .unset, .unset, .unset, .unset, .unset, .unset, .unset, .unset, .unset, .unset, .unset, .unset, .unset, .unset, .unset, .unset, .unset] [(.int (1 : Int32))])) t → Steps p.tables e below (T3.setTop (mkF m 16 #[iv pi0, iv pi1, jv pj2, .second, jv pj3, .second, jv pj4, .second, jv pj5, .second, iv x2, .unset, .unset, .unset, .unset, .unset, .unset, .unset, .unset, .unset, .unset, .unset, .unset, .unset, .unset, .unset, .unset, .unset, .unset, .unset, .unset, .unset, .unset, .unset, .unset, .unset, .unset, .unset, .unset, .unset, .unset, .unset] [(.int (pi0 &&& (2 : Int32)))])) t := fun t kt => pre10_ t (by
          refine y_ifNo X3.here hx (hb hby at_16) ((if0 _ _).trans (feq hm16_11).1) (pc' := 19) rfl ?_
          refine y_iconst X3.here hx (hb hby at_19) (v := (1 : Int32)) rfl (pc' := 20) rfl ?_
          refine y_goto X3.here hx (hb hby at_20) (pc' := 24) (by decide) rfl ?_
          exact kt)
      refine ⟨T3, ⟨X3, e3.trans e3.symm⟩, fun t kt => pre13 t ?_⟩
      (try simp only [if_neg hm16_11] at kt)
      exact kt
  have e10 : T10.heap = h0 := q10.trans e3
  have pre14 : ∀ t, Steps p.tables e below (T10.setTop (mkF m 24 #[iv pi0, iv pi1, jv pj2, .second, jv pj3, .second, jv pj4, .second, jv pj5, .second, iv x2, .unset, .unset, .unset, .unset, .unset, .unset, .unset, .unset, .unset, .unset, .unset, .unset, .unset, .unset, .unset, .unset, .unset, .unset, .unset, .unset, .unset, .unset, .unset, .unset, .unset, .unset, .unset, .unset, .unset, .unset, .unset] [(.int x9)])) t → Go t := fun t kt => pre8 t (st10 t kt)
  have pre15 : ∀ t, Steps p.tables e below (T10.setTop (mkF m 29 #[iv pi0, iv pi1, jv pj2, .second, jv pj3, .second, jv pj4, .second, jv pj5, .second, iv x2, iv x9, .unset, .unset, .unset, .unset, .unset, .unset, .unset, .unset, .unset, .unset, .unset, .unset, .unset, .unset, .unset, .unset, .unset, .unset, .unset, .unset, .unset, .unset, .unset, .unset, .unset, .unset, .unset, .unset, .unset, .unset] [(.int (pi0 &&& (4 : Int32)))])) t → Go t := fun t kt => pre14 t (by
      refine y_istore X10.here hx (hb hby at_24) (l' := #[iv pi0, iv pi1, jv pj2, .second, jv pj3, .second, jv pj4, .second, jv pj5, .second, iv x2, iv x9, .unset, .unset, .unset, .unset, .unset, .unset, .unset, .unset, .unset, .unset, .unset, .unset, .unset, .unset, .unset, .unset, .unset, .unset, .unset, .unset, .unset, .unset, .unset, .unset, .unset, .unset, .unset, .unset, .unset, .unset]) rfl (pc' := 26) rfl ?_
      refine y_iloadN X10.here hx (hb hby at_26) rfl (pc' := 27) rfl ?_
      refine y_iconst X10.here hx (hb hby at_27) (v := (4 : Int32)) rfl (pc' := 28) rfl ?_
      refine y_iand X10.here hx (hb hby at_28) rfl (pc' := 29) rfl ?_
      exact kt)
  obtain ⟨x16, hx16⟩ : ∃ z : Int32, z = (if (pi0 &&& (4 : Int32)) = (0 : Int32) then (0 : Int32) else (1 : Int32)) := ⟨_, rfl⟩
  obtain ⟨T17, ⟨X17, q17⟩, st17⟩ : ∃ T', Nx X10 T' ∧ ∀ t, Steps p.tables e below (T'.setTop (mkF m 37 #[iv pi0, iv pi1, jv pj2, .second, jv pj3, .second, jv pj4, .second, jv pj5, .second, iv x2, iv x9, .unset, .unset, .unset, .unset, .unset, .unset, .unset, .unset, .unset, .unset, .unset, .unset, .unset, .unset, .unset, .unset, .unset, .unset, .unset, .unset, .unset, .unset, .unset, .unset, .unset, .unset, .unset, .unset, .unset, .unset] [(.int x16)])) t → Steps p.tables e below (T10.setTop (mkF m 29 #[iv pi0, iv pi1, jv pj2, .second, jv pj3, .second, jv pj4, .second, jv pj5, .second, iv x2, iv x9, .unset, .unset, .unset, .unset, .unset, .unset, .unset, .unset, .unset, .unset, .unset, .unset, .unset, .unset, .unset, .unset, .unset, .unset, .unset, .unset, .unset, .unset, .unset, .unset, .unset, .unset, .unset, .unset, .unset, .unset] [(.int (pi0 &&& (4 : Int32)))])) t := by
    have pre17_ : ∀ t, Steps p.tables e below (T10.setTop (mkF m 29 #[iv pi0, iv pi1, jv pj2, .second, jv pj3, .second, jv pj4, .second, jv pj5, .second, iv x2, iv x9, .unset, .unset, .unset, .unset, .unset, .unset, .unset, .unset, .unset, .unset, .unset, .unset, .unset, .unset, .unset, .unset, .unset, .unset, .unset, .unset, .unset, .unset, .unset, .unset, .unset, .unset, .unset, .unset, .unset, .unset] [(.int (pi0 &&& (4 : Int32)))])) t → Steps p.tables e below (T10.setTop (mkF m 29 #[iv pi0, iv pi1, jv pj2, .second, jv pj3, .second, jv pj4, .second, jv pj5, .second, iv x2, iv x9, .unset, .unset, .unset, .unset, .unset, .unset, .unset, .unset, .unset, .unset, .unset, .unset, .unset, .unset, .unset, .unset, .unset, .unset, .unset, .unset, .unset, .unset, .unset, .unset, .unset, .unset, .unset, .unset, .unset, .unset] [(.int (pi0 &&& (4 : Int32)))])) t := fun t kt => kt
    subst hx16
    by_cases hm29_18 : (pi0 &&& (4 : Int32)) = (0 : Int32)
    · have pre19 : ∀ t, Steps p.tables e below (T10.setTop (mkF m 37 #[iv pi0, iv pi1, jv pj2, .second, jv pj3, .second, jv pj4, .second, jv pj5, .second, iv x2, iv x9, .unset, .unset, .unset, .unset, .unset, .unset, .unset, .unset, .unset, .unset, .unset, .unset, .unset, .unset, .unset, .unset, .unset, .unset, .unset, .unset, .unset, .unset, .unset, .unset, .unset, .unset, .unset, .unset, .unset, .unset] [(.int (0 : Int32))])) t → Steps p.tables e below (T10.setTop (mkF m 29 #[iv pi0, iv pi1, jv pj2, .second, jv pj3, .second, jv pj4, .second, jv pj5, .second, iv x2, iv x9, .unset, .unset, .unset, .unset, .unset, .unset, .unset, .unset, .unset, .unset, .unset, .unset, .unset, .unset, .unset, .unset, .unset, .unset, .unset, .unset, .unset, .unset, .unset, .unset, .unset, .unset, .unset, .unset, .unset, .unset] [(.int (pi0 &&& (4 : Int32)))])) t := fun t kt => pre17_ t (by
          refine y_ifYes X10.here hx (hb hby at_29) ((if0 _ _).trans (teq hm29_18).1) (pc' := 36) (by decide) rfl ?_
          refine y_iconst X10.here hx (hb hby at_36) (v := (0 : Int32)) rfl (pc' := 37) rfl ?_
          exact kt)
      refine ⟨T10, ⟨X10, e10.trans e10.symm⟩, fun t kt => pre19 t ?_⟩
      (try simp only [if_pos hm29_18] at kt)
      exact kt
    · have pre20 : ∀ t, Steps p.tables e below (T10.setTop (mkF m 37 #[iv pi0, iv pi1, jv pj2, .second, jv pj3, .second, jv pj4, .second, jv pj5, .second, iv x2, iv x9, .unset, .unset, .unset, .unset, .unset, .unset, .unset, .unset, .unset, .unset, .unset, .unset, .unset, .unset, .unset, .unset, .unset, .unset, .unset, .unset, .unset, .unset, .unset, .unset, .unset, .unset, .unset, .unset, .unset, .unset] [(.int (1 : Int32))])) t → Steps p.tables e below (T10.setTop (mkF m 29 #[iv pi0, iv pi1, jv pj2, .second, jv pj3, .second, jv pj4, .second, jv pj5, .second, iv x2, iv x9, .unset, .unset, .unset, .unset, .unset, .unset, .unset, .unset, .unset, .unset, .unset, .unset, .unset, .unset, .unset, .unset, .unset, .unset, .unset, .unset, .unset, .unset, .unset, .unset, .unset, .unset, .unset, .unset, .unset, .unset] [(.int (pi0 &&& (4 : Int32)))])) t := fun t kt => pre17_ t (by
          refine y_ifNo X10.here hx (hb hby at_29) ((if0 _ _).trans (feq hm29_18).1) (pc' := 32) rfl ?_
          refine y_iconst X10.here hx (hb hby at_32) (v := (1 : Int32)) rfl (pc' := 33) rfl ?_
          refine y_goto X10.here hx (hb hby at_33) (pc' := 37) (by decide) rfl ?_
          exact kt)
      refine ⟨T10, ⟨X10, e10.trans e10.symm⟩, fun t kt => pre20 t ?_⟩
      (try simp only [if_neg hm29_18] at kt)
      exact kt
  have e17 : T17.heap = h0 := q17.trans e10
  have pre21 : ∀ t, Steps p.tables e below (T17.setTop (mkF m 37 #[iv pi0, iv pi1, jv pj2, .second, jv pj3, .second, jv pj4, .second, jv pj5, .second, iv x2, iv x9, .unset, .unset, .unset, .unset, .unset, .unset, .unset, .unset, .unset, .unset, .unset, .unset, .unset, .unset, .unset, .unset, .unset, .unset, .unset, .unset, .unset, .unset, .unset, .unset, .unset, .unset, .unset, .unset, .unset, .unset] [(.int x16)])) t → Go t := fun t kt => pre15 t (st17 t kt)
  have pre22 : ∀ t, Steps p.tables e below (T17.setTop (mkF m 43 #[iv pi0, iv pi1, jv pj2, .second, jv pj3, .second, jv pj4, .second, jv pj5, .second, iv x2, iv x9, iv x16, .unset, .unset, .unset, .unset, .unset, .unset, .unset, .unset, .unset, .unset, .unset, .unset, .unset, .unset, .unset, .unset, .unset, .unset, .unset, .unset, .unset, .unset, .unset, .unset, .unset, .unset, .unset, .unset, .unset] [(.int (pi0 &&& (8 : Int32)))])) t → Go t := fun t kt => pre21 t (by
      refine y_istore X17.here hx (hb hby at_37) (l' := #[iv pi0, iv pi1, jv pj2, .second, jv pj3, .second, jv pj4, .second, jv pj5, .second, iv x2, iv x9, iv x16, .unset, .unset, .unset, .unset, .unset, .unset, .unset, .unset, .unset, .unset, .unset, .unset, .unset, .unset, .unset, .unset, .unset, .unset, .unset, .unset, .unset, .unset, .unset, .unset, .unset, .unset, .unset, .unset, .unset]) rfl (pc' := 39) rfl ?_
      refine y_iloadN X17.here hx (hb hby at_39) rfl (pc' := 40) rfl ?_
      refine y_bipush X17.here hx (hb hby at_40) (v := (8 : Int32)) rfl (pc' := 42) rfl ?_
      refine y_iand X17.here hx (hb hby at_42) rfl (pc' := 43) rfl ?_
      exact kt)
  obtain ⟨x23, hx23⟩ : ∃ z : Int32, z = (if (pi0 &&& (8 : Int32)) = (0 : Int32) then (0 : Int32) else (1 : Int32)) := ⟨_, rfl⟩
  obtain ⟨T24, ⟨X24, q24⟩, st24⟩ : ∃ T', Nx X17 T' ∧ ∀ t, Steps p.tables e below (T'.setTop (mkF m 51 #[iv pi0, iv pi1, jv pj2, .second, jv pj3, .second, jv pj4, .second, jv pj5, .second, iv x2, iv x9, iv x16, .unset, .unset, .unset, .unset, .unset, .unset, .unset, .unset, .unset, .unset, .unset, .unset, .unset, .unset, .unset, .unset, .unset, .unset, .unset, .unset, .unset, .unset, .unset, .unset, .unset, .unset, .unset, .unset, .unset] [(.int x23)])) t → Steps p.tables e below (T17.setTop (mkF m 43 #[iv pi0, iv pi1, jv pj2, .second, jv pj3, .second, jv pj4, .second, jv pj5, .second, iv x2, iv x9, iv x16, .unset, .unset, .unset, .unset, .unset, .unset, .unset, .unset, .unset, .unset, .unset, .unset, .unset, .unset, .unset, .unset, .unset, .unset, .unset, .unset, .unset, .unset, .unset, .unset, .unset, .unset, .unset, .unset, .unset] [(.int (pi0 &&& (8 : Int32)))])) t := by
    have pre24_ : ∀ t, Steps p.tables e below (T17.setTop (mkF m 43 #[iv pi0, iv pi1, jv pj2, .second, jv pj3, .second, jv pj4, .second, jv pj5, .second, iv x2, iv x9, iv x16, .unset, .unset, .unset, .unset, .unset, .unset, .unset, .unset, .unset, .unset, .unset, .unset, .unset, .unset, .unset, .unset, .unset, .unset, .unset, .unset, .unset, .unset, .unset, .unset, .unset, .unset, .unset, .unset, .unset] [(.int (pi0 &&& (8 : Int32)))])) t → Steps p.tables e below (T17.setTop (mkF m 43 #[iv pi0, iv pi1, jv pj2, .second, jv pj3, .second, jv pj4, .second, jv pj5, .second, iv x2, iv x9, iv x16, .unset, .unset, .unset, .unset, .unset, .unset, .unset, .unset, .unset, .unset, .unset, .unset, .unset, .unset, .unset, .unset, .unset, .unset, .unset, .unset, .unset, .unset, .unset, .unset, .unset, .unset, .unset, .unset, .unset] [(.int (pi0 &&& (8 : Int32)))])) t := fun t kt => kt
    subst hx23
    by_cases hm43_25 : (pi0 &&& (8 : Int32)) = (0 : Int32)
    · have pre26 : ∀ t, Steps p.tables e below (T17.setTop (mkF m 51 #[iv pi0, iv pi1, jv pj2, .second, jv pj3, .second, jv pj4, .second, jv pj5, .second, iv x2, iv x9, iv x16, .unset, .unset, .unset, .unset, .unset, .unset, .unset, .unset, .unset, .unset, .unset, .unset, .unset, .unset, .unset, .unset, .unset, .unset, .unset, .unset, .unset, .unset, .unset, .unset, .unset, .unset, .unset, .unset, .unset] [(.int (0 : Int32))])) t → Steps p.tables e below (T17.setTop (mkF m 43 #[iv pi0, iv pi1, jv pj2, .second, jv pj3, .second, jv pj4, .second, jv pj5, .second, iv x2, iv x9, iv x16, .unset, .unset, .unset, .unset, .unset, .unset, .unset, .unset, .unset, .unset, .unset, .unset, .unset, .unset, .unset, .unset, .unset, .unset, .unset, .unset, .unset, .unset, .unset, .unset, .unset, .unset, .unset, .unset, .unset] [(.int (pi0 &&& (8 : Int32)))])) t := fun t kt => pre24_ t (by
          refine y_ifYes X17.here hx (hb hby at_43) ((if0 _ _).trans (teq hm43_25).1) (pc' := 50) (by decide) rfl ?_
          refine y_iconst X17.here hx (hb hby at_50) (v := (0 : Int32)) rfl (pc' := 51) rfl ?_
          exact kt)
      refine ⟨T17, ⟨X17, e17.trans e17.symm⟩, fun t kt => pre26 t ?_⟩
      (try simp only [if_pos hm43_25] at kt)
      exact kt
    · have pre27 : ∀ t, Steps p.tables e below (T17.setTop (mkF m 51 #[iv pi0, iv pi1, jv pj2, .second, jv pj3, .second, jv pj4, .second, jv pj5, .second, iv x2, iv x9, iv x16, .unset, .unset, .unset, .unset, .unset, .unset, .unset, .unset, .unset, .unset, .unset, .unset, .unset, .unset, .unset, .unset, .unset, .unset, .unset, .unset, .unset, .unset, .unset, .unset, .unset, .unset, .unset, .unset, .unset] [(.int (1 : Int32))])) t → Steps p.tables e below (T17.setTop (mkF m 43 #[iv pi0, iv pi1, jv pj2, .second, jv pj3, .second, jv pj4, .second, jv pj5, .second, iv x2, iv x9, iv x16, .unset, .unset, .unset, .unset, .unset, .unset, .unset, .unset, .unset, .unset, .unset, .unset, .unset, .unset, .unset, .unset, .unset, .unset, .unset, .unset, .unset, .unset, .unset, .unset, .unset, .unset, .unset, .unset, .unset] [(.int (pi0 &&& (8 : Int32)))])) t := fun t kt => pre24_ t (by
          refine y_ifNo X17.here hx (hb hby at_43) ((if0 _ _).trans (feq hm43_25).1) (pc' := 46) rfl ?_
          refine y_iconst X17.here hx (hb hby at_46) (v := (1 : Int32)) rfl (pc' := 47) rfl ?_
          refine y_goto X17.here hx (hb hby at_47) (pc' := 51) (by decide) rfl ?_
          exact kt)
      refine ⟨T17, ⟨X17, e17.trans e17.symm⟩, fun t kt => pre27 t ?_⟩
      (try simp only [if_neg hm43_25] at kt)
      exact kt
  have e24 : T24.heap = h0 := q24.trans e17
  have pre28 : ∀ t, Steps p.tables e below (T24.setTop (mkF m 51 #[iv pi0, iv pi1, jv pj2, .second, jv pj3, .second, jv pj4, .second, jv pj5, .second, iv x2, iv x9, iv x16, .unset, .unset, .unset, .unset, .unset, .unset, .unset, .unset, .unset, .unset, .unset, .unset, .unset, .unset, .unset, .unset, .unset, .unset, .unset, .unset, .unset, .unset, .unset, .unset, .unset, .unset, .unset, .unset, .unset] [(.int x23)])) t → Go t := fun t kt => pre22 t (st24 t kt)
  have pre29 : ∀ t, Steps p.tables e below (T24.setTop (mkF m 57 #[iv pi0, iv pi1, jv pj2, .second, jv pj3, .second, jv pj4, .second, jv pj5, .second, iv x2, iv x9, iv x16, iv x23, .unset, .unset, .unset, .unset, .unset, .unset, .unset, .unset, .unset, .unset, .unset, .unset, .unset, .unset, .unset, .unset, .unset, .unset, .unset, .unset, .unset, .unset, .unset, .unset, .unset, .unset, .unset, .unset] [(.int (pi0 &&& (16 : Int32)))])) t → Go t := fun t kt => pre28 t (by
      refine y_istore X24.here hx (hb hby at_51) (l' := #[iv pi0, iv pi1, jv pj2, .second, jv pj3, .second, jv pj4, .second, jv pj5, .second, iv x2, iv x9, iv x16, iv x23, .unset, .unset, .unset, .unset, .unset, .unset, .unset, .unset, .unset, .unset, .unset, .unset, .unset, .unset, .unset, .unset, .unset, .unset, .unset, .unset, .unset, .unset, .unset, .unset, .unset, .unset, .unset, .unset]) rfl (pc' := 53) rfl ?_
      refine y_iloadN X24.here hx (hb hby at_53) rfl (pc' := 54) rfl ?_
      refine y_bipush X24.here hx (hb hby at_54) (v := (16 : Int32)) rfl (pc' := 56) rfl ?_
      refine y_iand X24.here hx (hb hby at_56) rfl (pc' := 57) rfl ?_
      exact kt)
  obtain ⟨x30, hx30⟩ : ∃ z : Int32, z = (if (pi0 &&& (16 : Int32)) = (0 : Int32) then (0 : Int32) else (1 : Int32)) := ⟨_, rfl⟩
  obtain ⟨T31, ⟨X31, q31⟩, st31⟩ : ∃ T', Nx X24 T' ∧ ∀ t, Steps p.tables e below (T'.setTop (mkF m 65 #[iv pi0, iv pi1, jv pj2, .second, jv pj3, .second, jv pj4, .second, jv pj5, .second, iv x2, iv x9, iv x16, iv x23, .unset, .unset, .unset, .unset, .unset, .unset, .unset, .unset, .unset, .unset, .unset, .unset, .unset, .unset, .unset, .unset, .unset, .unset, .unset, .unset, .unset, .unset, .unset, .unset, .unset, .unset, .unset, .unset] [(.int x30)])) t → Steps p.tables e below (T24.setTop (mkF m 57 #[iv pi0, iv pi1, jv pj2, .second, jv pj3, .second, jv pj4, .second, jv pj5, .second, iv x2, iv x9, iv x16, iv x23, .unset, .unset, .unset, .unset, .unset, .unset, .unset, .unset, .unset, .unset, .unset, .unset, .unset, .unset, .unset, .unset, .unset, .unset, .unset, .unset, .unset, .unset, .unset, .unset, .unset, .unset, .unset, .unset] [(.int (pi0 &&& (16 : Int32)))])) t := by
    have pre31_ : ∀ t, Steps p.tables e below (T24.setTop (mkF m 57 #[iv pi0, iv pi1, jv pj2, .second, jv pj3, .second, jv pj4, .second, jv pj5, .second, iv x2, iv x9, iv x16, iv x23, .unset, .unset, .unset, .unset, .unset, .unset, .unset, .unset, .unset, .unset, .unset, .unset, .unset, .unset, .unset, .unset, .unset, .unset, .unset, .unset, .unset, .unset, .unset, .unset, .unset, .unset, .unset, .unset] [(.int (pi0 &&& (16 : Int32)))])) t → Steps p.tables e below (T24.setTop (mkF m 57 #[iv pi0, iv pi1, jv pj2, .second, jv pj3, .second, jv pj4, .second, jv pj5, .second, iv x2, iv x9, iv x16, iv x23, .unset, .unset, .unset, .unset, .unset, .unset, .unset, .unset, .unset, .unset, .unset, .unset, .unset, .unset, .unset, .unset, .unset, .unset, .unset, .unset, .unset, .unset, .unset, .unset, .unset, .unset, .unset, .unset] [(.int (pi0 &&& (16 : Int32)))])) t := fun t kt => kt
    subst hx30
    by_cases hm57_32 : (pi0 &&& (16 : Int32)) = (0 : Int32)
    · have pre33 : ∀ t, Steps p.tables e below (T24.setTop (mkF m 65 #[iv pi0, iv pi1, jv pj2, .second, jv pj3, .second, jv pj4, .second, jv pj5, .second, iv x2, iv x9, iv x16, iv x23, .unset, .unset, .unset, .unset, .unset, .unset, .unset, .unset, .unset, .unset, .unset, .unset, .unset, .unset, .unset, .unset, .unset, .unset, .unset, .unset, .unset, .unset, .unset, .unset, .unset, .unset, .unset, .unset] [(.int (0 : Int32))])) t → Steps p.tables e below (T24.setTop (mkF m 57 #[iv pi0, iv pi1, jv pj2, .second, jv pj3, .second, jv pj4, .second, jv pj5, .second, iv x2, iv x9, iv x16, iv x23, .unset, .unset, .unset, .unset, .unset, .unset, .unset, .unset, .unset, .unset, .unset, .unset, .unset, .unset, .unset, .unset, .unset, .unset, .unset, .unset, .unset, .unset, .unset, .unset, .unset, .unset, .unset, .unset] [(.int (pi0 &&& (16 : Int32)))])) t := fun t kt => pre31_ t (by
          refine y_ifYes X24.here hx (hb hby at_57) ((if0 _ _).trans (teq hm57_32).1) (pc' := 64) (by decide) rfl ?_
          refine y_iconst X24.here hx (hb hby at_64) (v := (0 : Int32)) rfl (pc' := 65) rfl ?_
          exact kt)
      refine ⟨T24, ⟨X24, e24.trans e24.symm⟩, fun t kt => pre33 t ?_⟩
      (try simp only [if_pos hm57_32] at kt)
      exact kt
    · have pre34 : ∀ t, Steps p.tables e below (T24.setTop (mkF m 65 #[iv pi0, iv pi1, jv pj2, .second, jv pj3, .second, jv pj4, .second, jv pj5, .second, iv x2, iv x9, iv x16, iv x23, .unset, .unset, .unset, .unset, .unset, .unset, .unset, .unset, .unset, .unset, .unset, .unset, .unset, .unset, .unset, .unset, .unset, .unset, .unset, .unset, .unset, .unset, .unset, .unset, .unset, .unset, .unset, .unset] [(.int (1 : Int32))])) t → Steps p.tables e below (T24.setTop (mkF m 57 #[iv pi0, iv pi1, jv pj2, .second, jv pj3, .second, jv pj4, .second, jv pj5, .second, iv x2, iv x9, iv x16, iv x23, .unset, .unset, .unset, .unset, .unset, .unset, .unset, .unset, .unset, .unset, .unset, .unset, .unset, .unset, .unset, .unset, .unset, .unset, .unset, .unset, .unset, .unset, .unset, .unset, .unset, .unset, .unset, .unset] [(.int (pi0 &&& (16 : Int32)))])) t := fun t kt => pre31_ t (by
          refine y_ifNo X24.here hx (hb hby at_57) ((if0 _ _).trans (feq hm57_32).1) (pc' := 60) rfl ?_
          refine y_iconst X24.here hx (hb hby at_60) (v := (1 : Int32)) rfl (pc' := 61) rfl ?_
          refine y_goto X24.here hx (hb hby at_61) (pc' := 65) (by decide) rfl ?_
          exact kt)
      refine ⟨T24, ⟨X24, e24.trans e24.symm⟩, fun t kt => pre34 t ?_⟩
      (try simp only [if_neg hm57_32] at kt)
      exact kt
  have e31 : T31.heap = h0 := q31.trans e24
  have pre35 : ∀ t, Steps p.tables e below (T31.setTop (mkF m 65 #[iv pi0, iv pi1, jv pj2, .second, jv pj3, .second, jv pj4, .second, jv pj5, .second, iv x2, iv x9, iv x16, iv x23, .unset, .unset, .unset, .unset, .unset, .unset, .unset, .unset, .unset, .unset, .unset, .unset, .unset, .unset, .unset, .unset, .unset, .unset, .unset, .unset, .unset, .unset, .unset, .unset, .unset, .unset, .unset, .unset] [(.int x30)])) t → Go t := fun t kt => pre29 t (st31 t kt)
  have pre36 : ∀ t, Steps p.tables e below (T31.setTop (mkF m 71 #[iv pi0, iv pi1, jv pj2, .second, jv pj3, .second, jv pj4, .second, jv pj5, .second, iv x2, iv x9, iv x16, iv x23, iv x30, .unset, .unset, .unset, .unset, .unset, .unset, .unset, .unset, .unset, .unset, .unset, .unset, .unset, .unset, .unset, .unset, .unset, .unset, .unset, .unset, .unset, .unset, .unset, .unset, .unset, .unset, .unset] [(.int (pi0 &&& (32 : Int32)))])) t → Go t := fun t kt => pre35 t (by
      refine y_istore X31.here hx (hb hby at_65) (l' := #[iv pi0, iv pi1, jv pj2, .second, jv pj3, .second, jv pj4, .second, jv pj5, .second, iv x2, iv x9, iv x16, iv x23, iv x30, .unset, .unset, .unset, .unset, .unset, .unset, .unset, .unset, .unset, .unset, .unset, .unset, .unset, .unset, .unset, .unset, .unset, .unset, .unset, .unset, .unset, .unset, .unset, .unset, .unset, .unset, .unset]) rfl (pc' := 67) rfl ?_
      refine y_iloadN X31.here hx (hb hby at_67) rfl (pc' := 68) rfl ?_
      refine y_bipush X31.here hx (hb hby at_68) (v := (32 : Int32)) rfl (pc' := 70) rfl ?_
      refine y_iand X31.here hx (hb hby at_70) rfl (pc' := 71) rfl ?_
      exact kt)
  obtain ⟨x37, hx37⟩ : ∃ z : Int32, z = (if (pi0 &&& (32 : Int32)) = (0 : Int32) then (0 : Int32) else (1 : Int32)) := ⟨_, rfl⟩
  obtain ⟨T38, ⟨X38, q38⟩, st38⟩ : ∃ T', Nx X31 T' ∧ ∀ t, Steps p.tables e below (T'.setTop (mkF m 79 #[iv pi0, iv pi1, jv pj2, .second, jv pj3, .second, jv pj4, .second, jv pj5, .second, iv x2, iv x9, iv x16, iv x23, iv x30, .unset, .unset, .unset, .unset, .unset, .unset, .unset, .unset, .unset, .unset, .unset, .unset, .unset, .unset, .unset, .unset, .unset, .unset, .unset, .unset, .unset, .unset, .unset, .unset, .unset, .unset, .unset] [(.int x37)])) t → Steps p.tables e below (T31.setTop (mkF m 71 #[iv pi0, iv pi1, jv pj2, .second, jv pj3, .second, jv pj4, .second, jv pj5, .second, iv x2, iv x9, iv x16, iv x23, iv x30, .unset, .unset, .unset, .unset, .unset, .unset, .unset, .unset, .unset, .unset, .unset, .unset, .unset, .unset, .unset, .unset, .unset, .unset, .unset, .unset, .unset, .unset, .unset, .unset, .unset, .unset, .unset] [(.int (pi0 &&& (32 : Int32)))])) t := by
    have pre38_ : ∀ t, Steps p.tables e below (T31.setTop (mkF m 71 #[iv pi0, iv pi1, jv pj2, .second, jv pj3, .second, jv pj4, .second, jv pj5, .second, iv x2, iv x9, iv x16, iv x23, iv x30, .unset, .unset, .unset, .unset, .unset, .unset, .unset, .unset, .unset, .unset, .unset, .unset, .unset, .unset, .unset, .unset, .unset, .unset, .unset, .unset, .unset, .unset, .unset, .unset, .unset, .unset, .unset] [(.int (pi0 &&& (32 : Int32)))])) t → Steps p.tables e below (T31.setTop (mkF m 71 #[iv pi0, iv pi1, jv pj2, .second, jv pj3, .second, jv pj4, .second, jv pj5, .second, iv x2, iv x9, iv x16, iv x23, iv x30, .unset, .unset, .unset, .unset, .unset, .unset, .unset, .unset, .unset, .unset, .unset, .unset, .unset, .unset, .unset, .unset, .unset, .unset, .unset, .unset, .unset, .unset, .unset, .unset, .unset, .unset, .unset] [(.int (pi0 &&& (32 : Int32)))])) t := fun t kt => kt
    subst hx37
    by_cases hm71_39 : (pi0 &&& (32 : Int32)) = (0 : Int32)
    · have pre40 : ∀ t, Steps p.tables e below (T31.setTop (mkF m 79 #[iv pi0, iv pi1, jv pj2, .second, jv pj3, .second, jv pj4, .second, jv pj5, .second, iv x2, iv x9, iv x16, iv x23, iv x30, .unset, .unset, .unset, .unset, .unset, .unset, .unset, .unset, .unset, .unset, .unset, .unset, .unset, .unset, .unset, .unset, .unset, .unset, .unset, .unset, .unset, .unset, .unset, .unset, .unset, .unset, .unset] [(.int (0 : Int32))])) t → Steps p.tables e below (T31.setTop (mkF m 71 #[iv pi0, iv pi1, jv pj2, .second, jv pj3, .second, jv pj4, .second, jv pj5, .second, iv x2, iv x9, iv x16, iv x23, iv x30, .unset, .unset, .unset, .unset, .unset, .unset, .unset, .unset, .unset, .unset, .unset, .unset, .unset, .unset, .unset, .unset, .unset, .unset, .unset, .unset, .unset, .unset, .unset, .unset, .unset, .unset, .unset] [(.int (pi0 &&& (32 : Int32)))])) t := fun t kt => pre38_ t (by
          refine y_ifYes X31.here hx (hb hby at_71) ((if0 _ _).trans (teq hm71_39).1) (pc' := 78) (by decide) rfl ?_
          refine y_iconst X31.here hx (hb hby at_78) (v := (0 : Int32)) rfl (pc' := 79) rfl ?_
          exact kt)
      refine ⟨T31, ⟨X31, e31.trans e31.symm⟩, fun t kt => pre40 t ?_⟩
      (try simp only [if_pos hm71_39] at kt)
      exact kt
    · have pre41 : ∀ t, Steps p.tables e below (T31.setTop (mkF m 79 #[iv pi0, iv pi1, jv pj2, .second, jv pj3, .second, jv pj4, .second, jv pj5, .second, iv x2, iv x9, iv x16, iv x23, iv x30, .unset, .unset, .unset, .unset, .unset, .unset, .unset, .unset, .unset, .unset, .unset, .unset, .unset, .unset, .unset, .unset, .unset, .unset, .unset, .unset, .unset, .unset, .unset, .unset, .unset, .unset, .unset] [(.int (1 : Int32))])) t → Steps p.tables e below (T31.setTop (mkF m 71 #[iv pi0, iv pi1, jv pj2, .second, jv pj3, .second, jv pj4, .second, jv pj5, .second, iv x2, iv x9, iv x16, iv x23, iv x30, .unset, .unset, .unset, .unset, .unset, .unset, .unset, .unset, .unset, .unset, .unset, .unset, .unset, .unset, .unset, .unset, .unset, .unset, .unset, .unset, .unset, .unset, .unset, .unset, .unset, .unset, .unset] [(.int (pi0 &&& (32 : Int32)))])) t := fun t kt => pre38_ t (by
          refine y_ifNo X31.here hx (hb hby at_71) ((if0 _ _).trans (feq hm71_39).1) (pc' := 74) rfl ?_
          refine y_iconst X31.here hx (hb hby at_74) (v := (1 : Int32)) rfl (pc' := 75) rfl ?_
          refine y_goto X31.here hx (hb hby at_75) (pc' := 79) (by decide) rfl ?_
          exact kt)
      refine ⟨T31, ⟨X31, e31.trans e31.symm⟩, fun t kt => pre41 t ?_⟩
      (try simp only [if_neg hm71_39] at kt)
      exact kt
  have e38 : T38.heap = h0 := q38.trans e31
  have pre42 : ∀ t, Steps p.tables e below (T38.setTop (mkF m 79 #[iv pi0, iv pi1, jv pj2, .second, jv pj3, .second, jv pj4, .second, jv pj5, .second, iv x2, iv x9, iv x16, iv x23, iv x30, .unset, .unset, .unset, .unset, .unset, .unset, .unset, .unset, .unset, .unset, .unset, .unset, .unset, .unset, .unset, .unset, .unset, .unset, .unset, .unset, .unset, .unset, .unset, .unset, .unset, .unset, .unset] [(.int x37)])) t → Go t := fun t kt => pre36 t (st38 t kt)
  obtain ⟨x43, hx43⟩ : ∃ z : Int32, z = ((pi1 &&& (15 : Int32)) + (1 : Int32)) := ⟨_, rfl⟩
  have pre44 : ∀ t, Steps p.tables e below (T38.setTop (mkF m 89 #[iv pi0, iv pi1, jv pj2, .second, jv pj3, .second, jv pj4, .second, jv pj5, .second, iv x2, iv x9, iv x16, iv x23, iv x30, iv x37, iv x43, .unset, .unset, .unset, .unset, .unset, .unset, .unset, .unset, .unset, .unset, .unset, .unset, .unset, .unset, .unset, .unset, .unset, .unset, .unset, .unset, .unset, .unset, .unset, .unset, .unset] [])) t → Go t := fun t kt => pre42 t (by
      subst hx43
      refine y_istore X38.here hx (hb hby at_79) (l' := #[iv pi0, iv pi1, jv pj2, .second, jv pj3, .second, jv pj4, .second, jv pj5, .second, iv x2, iv x9, iv x16, iv x23, iv x30, iv x37, .unset, .unset, .unset, .unset, .unset, .unset, .unset, .unset, .unset, .unset, .unset, .unset, .unset, .unset, .unset, .unset, .unset, .unset, .unset, .unset, .unset, .unset, .unset, .unset, .unset, .unset]) rfl (pc' := 81) rfl ?_
      refine y_iloadN X38.here hx (hb hby at_81) rfl (pc' := 82) rfl ?_
      refine y_bipush X38.here hx (hb hby at_82) (v := (15 : Int32)) rfl (pc' := 84) rfl ?_
      refine y_iand X38.here hx (hb hby at_84) rfl (pc' := 85) rfl ?_
      refine y_iconst X38.here hx (hb hby at_85) (v := (1 : Int32)) rfl (pc' := 86) rfl ?_
      refine y_iadd X38.here hx (hb hby at_86) rfl (pc' := 87) rfl ?_
      refine y_istore X38.here hx (hb hby at_87) (l' := #[iv pi0, iv pi1, jv pj2, .second, jv pj3, .second, jv pj4, .second, jv pj5, .second, iv x2, iv x9, iv x16, iv x23, iv x30, iv x37, iv ((pi1 &&& (15 : Int32)) + (1 : Int32)), .unset, .unset, .unset, .unset, .unset, .unset, .unset, .unset, .unset, .unset, .unset, .unset, .unset, .unset, .unset, .unset, .unset, .unset, .unset, .unset, .unset, .unset, .unset, .unset, .unset]) rfl (pc' := 89) rfl ?_
      exact kt)
  obtain ⟨x45, hx45⟩ : ∃ z : Int32, z = ((((pi1.toUInt32 >>> ((4 : Int32) &&& 31).toUInt32).toInt32) &&& (15 : Int32)) + (1 : Int32)) := ⟨_, rfl⟩
  have pre46 : ∀ t, Steps p.tables e below (T38.setTop (mkF m 99 #[iv pi0, iv pi1, jv pj2, .second, jv pj3, .second, jv pj4, .second, jv pj5, .second, iv x2, iv x9, iv x16, iv x23, iv x30, iv x37, iv x43, iv x45, .unset, .unset, .unset, .unset, .unset, .unset, .unset, .unset, .unset, .unset, .unset, .unset, .unset, .unset, .unset, .unset, .unset, .unset, .unset, .unset, .unset, .unset, .unset, .unset] [])) t → Go t := fun t kt => pre44 t (by
      subst hx45
      refine y_iloadN X38.here hx (hb hby at_89) rfl (pc' := 90) rfl ?_
      refine y_iconst X38.here hx (hb hby at_90) (v := (4 : Int32)) rfl (pc' := 91) rfl ?_
      refine y_iushr X38.here hx (hb hby at_91) (z := ((pi1.toUInt32 >>> ((4 : Int32) &&& 31).toUInt32).toInt32)) rfl (pc' := 92) rfl ?_
      refine y_bipush X38.here hx (hb hby at_92) (v := (15 : Int32)) rfl (pc' := 94) rfl ?_
      refine y_iand X38.here hx (hb hby at_94) rfl (pc' := 95) rfl ?_
      refine y_iconst X38.here hx (hb hby at_95) (v := (1 : Int32)) rfl (pc' := 96) rfl ?_
      refine y_iadd X38.here hx (hb hby at_96) rfl (pc' := 97) rfl ?_
      refine y_istore X38.here hx (hb hby at_97) (l' := #[iv pi0, iv pi1, jv pj2, .second, jv pj3, .second, jv pj4, .second, jv pj5, .second, iv x2, iv x9, iv x16, iv x23, iv x30, iv x37, iv x43, iv ((((pi1.toUInt32 >>> ((4 : Int32) &&& 31).toUInt32).toInt32) &&& (15 : Int32)) + (1 : Int32)), .unset, .unset, .unset, .unset, .unset, .unset, .unset, .unset, .unset, .unset, .unset, .unset, .unset, .unset, .unset, .unset, .unset, .unset, .unset, .unset, .unset, .unset, .unset, .unset]) rfl (pc' := 99) rfl ?_
      exact kt)
  have pre47 : ∀ t, Steps p.tables e below (T38.setTop (mkF m 101 #[iv pi0, iv pi1, jv pj2, .second, jv pj3, .second, jv pj4, .second, jv pj5, .second, iv x2, iv x9, iv x16, iv x23, iv x30, iv x37, iv x43, iv x45, .unset, .unset, .unset, .unset, .unset, .unset, .unset, .unset, .unset, .unset, .unset, .unset, .unset, .unset, .unset, .unset, .unset, .unset, .unset, .unset, .unset, .unset, .unset, .unset] [(.int x16)])) t → Go t := fun t kt => pre46 t (by
      refine y_iload X38.here hx (hb hby at_99) rfl (pc' := 101) rfl ?_
      exact kt)
  obtain ⟨x48, hx48⟩ : ∃ z : Int32, z = (if x16 = (0 : Int32) then (pi1 >>> ((8 : Int32) &&& 31)) else x43) := ⟨_, rfl⟩
  obtain ⟨T49, ⟨X49, q49⟩, st49⟩ : ∃ T', Nx X38 T' ∧ ∀ t, Steps p.tables e below (T'.setTop (mkF m 113 #[iv pi0, iv pi1, jv pj2, .second, jv pj3, .second, jv pj4, .second, jv pj5, .second, iv x2, iv x9, iv x16, iv x23, iv x30, iv x37, iv x43, iv x45, .unset, .unset, .unset, .unset, .unset, .unset, .unset, .unset, .unset, .unset, .unset, .unset, .unset, .unset, .unset, .unset, .unset, .unset, .unset, .unset, .unset, .unset, .unset, .unset] [(.int x48)])) t → Steps p.tables e below (T38.setTop (mkF m 101 #[iv pi0, iv pi1, jv pj2, .second, jv pj3, .second, jv pj4, .second, jv pj5, .second, iv x2, iv x9, iv x16, iv x23, iv x30, iv x37, iv x43, iv x45, .unset, .unset, .unset, .unset, .unset, .unset, .unset, .unset, .unset, .unset, .unset, .unset, .unset, .unset, .unset, .unset, .unset, .unset, .unset, .unset, .unset, .unset, .unset, .unset] [(.int x16)])) t := by
    have pre49_ : ∀ t, Steps p.tables e below (T38.setTop (mkF m 101 #[iv pi0, iv pi1, jv pj2, .second, jv pj3, .second, jv pj4, .second, jv pj5, .second, iv x2, iv x9, iv x16, iv x23, iv x30, iv x37, iv x43, iv x45, .unset, .unset, .unset, .unset, .unset, .unset, .unset, .unset, .unset, .unset, .unset, .unset, .unset, .unset, .unset, .unset, .unset, .unset, .unset, .unset, .unset, .unset, .unset, .unset] [(.int x16)])) t → Steps p.tables e below (T38.setTop (mkF m 101 #[iv pi0, iv pi1, jv pj2, .second, jv pj3, .second, jv pj4, .second, jv pj5, .second, iv x2, iv x9, iv x16, iv x23, iv x30, iv x37, iv x43, iv x45, .unset, .unset, .unset, .unset, .unset, .unset, .unset, .unset, .unset, .unset, .unset, .unset, .unset, .unset, .unset, .unset, .unset, .unset, .unset, .unset, .unset, .unset, .unset, .unset] [(.int x16)])) t := fun t kt => kt
    subst hx48
    by_cases hm101_50 : x16 = (0 : Int32)
    · have pre51 : ∀ t, Steps p.tables e below (T38.setTop (mkF m 113 #[iv pi0, iv pi1, jv pj2, .second, jv pj3, .second, jv pj4, .second, jv pj5, .second, iv x2, iv x9, iv x16, iv x23, iv x30, iv x37, iv x43, iv x45, .unset, .unset, .unset, .unset, .unset, .unset, .unset, .unset, .unset, .unset, .unset, .unset, .unset, .unset, .unset, .unset, .unset, .unset, .unset, .unset, .unset, .unset, .unset, .unset] [(.int (pi1 >>> ((8 : Int32) &&& 31)))])) t → Steps p.tables e below (T38.setTop (mkF m 101 #[iv pi0, iv pi1, jv pj2, .second, jv pj3, .second, jv pj4, .second, jv pj5, .second, iv x2, iv x9, iv x16, iv x23, iv x30, iv x37, iv x43, iv x45, .unset, .unset, .unset, .unset, .unset, .unset, .unset, .unset, .unset, .unset, .unset, .unset, .unset, .unset, .unset, .unset, .unset, .unset, .unset, .unset, .unset, .unset, .unset, .unset] [(.int x16)])) t := fun t kt => pre49_ t (by
          refine y_ifYes X38.here hx (hb hby at_101) ((if0 _ _).trans (teq hm101_50).1) (pc' := 109) (by decide) rfl ?_
          refine y_iloadN X38.here hx (hb hby at_109) rfl (pc' := 110) rfl ?_
          refine y_bipush X38.here hx (hb hby at_110) (v := (8 : Int32)) rfl (pc' := 112) rfl ?_
          refine y_ishr X38.here hx (hb hby at_112) (z := (pi1 >>> ((8 : Int32) &&& 31))) rfl (pc' := 113) rfl ?_
          exact kt)
      refine ⟨T38, ⟨X38, e38.trans e38.symm⟩, fun t kt => pre51 t ?_⟩
      (try simp only [if_pos hm101_50] at kt)
      exact kt
    · have pre52 : ∀ t, Steps p.tables e below (T38.setTop (mkF m 113 #[iv pi0, iv pi1, jv pj2, .second, jv pj3, .second, jv pj4, .second, jv pj5, .second, iv x2, iv x9, iv x16, iv x23, iv x30, iv x37, iv x43, iv x45, .unset, .unset, .unset, .unset, .unset, .unset, .unset, .unset, .unset, .unset, .unset, .unset, .unset, .unset, .unset, .unset, .unset, .unset, .unset, .unset, .unset, .unset, .unset, .unset] [(.int x43)])) t → Steps p.tables e below (T38.setTop (mkF m 101 #[iv pi0, iv pi1, jv pj2, .second, jv pj3, .second, jv pj4, .second, jv pj5, .second, iv x2, iv x9, iv x16, iv x23, iv x30, iv x37, iv x43, iv x45, .unset, .unset, .unset, .unset, .unset, .unset, .unset, .unset, .unset, .unset, .unset, .unset, .unset, .unset, .unset, .unset, .unset, .unset, .unset, .unset, .unset, .unset, .unset, .unset] [(.int x16)])) t := fun t kt => pre49_ t (by
          refine y_ifNo X38.here hx (hb hby at_101) ((if0 _ _).trans (feq hm101_50).1) (pc' := 104) rfl ?_
          refine y_iload X38.here hx (hb hby at_104) rfl (pc' := 106) rfl ?_
          refine y_goto X38.here hx (hb hby at_106) (pc' := 113) (by decide) rfl ?_
          exact kt)
      refine ⟨T38, ⟨X38, e38.trans e38.symm⟩, fun t kt => pre52 t ?_⟩
      (try simp only [if_neg hm101_50] at kt)
      exact kt
  have e49 : T49.heap = h0 := q49.trans e38
  have pre53 : ∀ t, Steps p.tables e below (T49.setTop (mkF m 113 #[iv pi0, iv pi1, jv pj2, .second, jv pj3, .second, jv pj4, .second, jv pj5, .second, iv x2, iv x9, iv x16, iv x23, iv x30, iv x37, iv x43, iv x45, .unset, .unset, .unset, .unset, .unset, .unset, .unset, .unset, .unset, .unset, .unset, .unset, .unset, .unset, .unset, .unset, .unset, .unset, .unset, .unset, .unset, .unset, .unset, .unset] [(.int x48)])) t → Go t := fun t kt => pre47 t (st49 t kt)
  have pre54 : ∀ t, Steps p.tables e below (T49.setTop (mkF m 117 #[iv pi0, iv pi1, jv pj2, .second, jv pj3, .second, jv pj4, .second, jv pj5, .second, iv x2, iv x9, iv x16, iv x23, iv x30, iv x37, iv x43, iv x45, iv x48, .unset, .unset, .unset, .unset, .unset, .unset, .unset, .unset, .unset, .unset, .unset, .unset, .unset, .unset, .unset, .unset, .unset, .unset, .unset, .unset, .unset, .unset, .unset] [(.int x37)])) t → Go t := fun t kt => pre53 t (by
      refine y_istore X49.here hx (hb hby at_113) (l' := #[iv pi0, iv pi1, jv pj2, .second, jv pj3, .second, jv pj4, .second, jv pj5, .second, iv x2, iv x9, iv x16, iv x23, iv x30, iv x37, iv x43, iv x45, iv x48, .unset, .unset, .unset, .unset, .unset, .unset, .unset, .unset, .unset, .unset, .unset, .unset, .unset, .unset, .unset, .unset, .unset, .unset, .unset, .unset, .unset, .unset, .unset]) rfl (pc' := 115) rfl ?_
      refine y_iload X49.here hx (hb hby at_115) rfl (pc' := 117) rfl ?_
      exact kt)
  obtain ⟨x55, hx55⟩ : ∃ z : Int32, z = (if x37 = (0 : Int32) then (pi1 >>> ((20 : Int32) &&& 31)) else x45) := ⟨_, rfl⟩
  obtain ⟨T56, ⟨X56, q56⟩, st56⟩ : ∃ T', Nx X49 T' ∧ ∀ t, Steps p.tables e below (T'.setTop (mkF m 129 #[iv pi0, iv pi1, jv pj2, .second, jv pj3, .second, jv pj4, .second, jv pj5, .second, iv x2, iv x9, iv x16, iv x23, iv x30, iv x37, iv x43, iv x45, iv x48, .unset, .unset, .unset, .unset, .unset, .unset, .unset, .unset, .unset, .unset, .unset, .unset, .unset, .unset, .unset, .unset, .unset, .unset, .unset, .unset, .unset, .unset, .unset] [(.int x55)])) t → Steps p.tables e below (T49.setTop (mkF m 117 #[iv pi0, iv pi1, jv pj2, .second, jv pj3, .second, jv pj4, .second, jv pj5, .second, iv x2, iv x9, iv x16, iv x23, iv x30, iv x37, iv x43, iv x45, iv x48, .unset, .unset, .unset, .unset, .unset, .unset, .unset, .unset, .unset, .unset, .unset, .unset, .unset, .unset, .unset, .unset, .unset, .unset, .unset, .unset, .unset, .unset, .unset] [(.int x37)])) t := by
    have pre56_ : ∀ t, Steps p.tables e below (T49.setTop (mkF m 117 #[iv pi0, iv pi1, jv pj2, .second, jv pj3, .second, jv pj4, .second, jv pj5, .second, iv x2, iv x9, iv x16, iv x23, iv x30, iv x37, iv x43, iv x45, iv x48, .unset, .unset, .unset, .unset, .unset, .unset, .unset, .unset, .unset, .unset, .unset, .unset, .unset, .unset, .unset, .unset, .unset, .unset, .unset, .unset, .unset, .unset, .unset] [(.int x37)])) t → Steps p.tables e below (T49.setTop (mkF m 117 #[iv pi0, iv pi1, jv pj2, .second, jv pj3, .second, jv pj4, .second, jv pj5, .second, iv x2, iv x9, iv x16, iv x23, iv x30, iv x37, iv x43, iv x45, iv x48, .unset, .unset, .unset, .unset, .unset, .unset, .unset, .unset, .unset, .unset, .unset, .unset, .unset, .unset, .unset, .unset, .unset, .unset, .unset, .unset, .unset, .unset, .unset] [(.int x37)])) t := fun t kt => kt
    subst hx55
    by_cases hm117_57 : x37 = (0 : Int32)
    · have pre58 : ∀ t, Steps p.tables e below (T49.setTop (mkF m 129 #[iv pi0, iv pi1, jv pj2, .second, jv pj3, .second, jv pj4, .second, jv pj5, .second, iv x2, iv x9, iv x16, iv x23, iv x30, iv x37, iv x43, iv x45, iv x48, .unset, .unset, .unset, .unset, .unset, .unset, .unset, .unset, .unset, .unset, .unset, .unset, .unset, .unset, .unset, .unset, .unset, .unset, .unset, .unset, .unset, .unset, .unset] [(.int (pi1 >>> ((20 : Int32) &&& 31)))])) t → Steps p.tables e below (T49.setTop (mkF m 117 #[iv pi0, iv pi1, jv pj2, .second, jv pj3, .second, jv pj4, .second, jv pj5, .second, iv x2, iv x9, iv x16, iv x23, iv x30, iv x37, iv x43, iv x45, iv x48, .unset, .unset, .unset, .unset, .unset, .unset, .unset, .unset, .unset, .unset, .unset, .unset, .unset, .unset, .unset, .unset, .unset, .unset, .unset, .unset, .unset, .unset, .unset] [(.int x37)])) t := fun t kt => pre56_ t (by
          refine y_ifYes X49.here hx (hb hby at_117) ((if0 _ _).trans (teq hm117_57).1) (pc' := 125) (by decide) rfl ?_
          refine y_iloadN X49.here hx (hb hby at_125) rfl (pc' := 126) rfl ?_
          refine y_bipush X49.here hx (hb hby at_126) (v := (20 : Int32)) rfl (pc' := 128) rfl ?_
          refine y_ishr X49.here hx (hb hby at_128) (z := (pi1 >>> ((20 : Int32) &&& 31))) rfl (pc' := 129) rfl ?_
          exact kt)
      refine ⟨T49, ⟨X49, e49.trans e49.symm⟩, fun t kt => pre58 t ?_⟩
      (try simp only [if_pos hm117_57] at kt)
      exact kt
    · have pre59 : ∀ t, Steps p.tables e below (T49.setTop (mkF m 129 #[iv pi0, iv pi1, jv pj2, .second, jv pj3, .second, jv pj4, .second, jv pj5, .second, iv x2, iv x9, iv x16, iv x23, iv x30, iv x37, iv x43, iv x45, iv x48, .unset, .unset, .unset, .unset, .unset, .unset, .unset, .unset, .unset, .unset, .unset, .unset, .unset, .unset, .unset, .unset, .unset, .unset, .unset, .unset, .unset, .unset, .unset] [(.int x45)])) t → Steps p.tables e below (T49.setTop (mkF m 117 #[iv pi0, iv pi1, jv pj2, .second, jv pj3, .second, jv pj4, .second, jv pj5, .second, iv x2, iv x9, iv x16, iv x23, iv x30, iv x37, iv x43, iv x45, iv x48, .unset, .unset, .unset, .unset, .unset, .unset, .unset, .unset, .unset, .unset, .unset, .unset, .unset, .unset, .unset, .unset, .unset, .unset, .unset, .unset, .unset, .unset, .unset] [(.int x37)])) t := fun t kt => pre56_ t (by
          refine y_ifNo X49.here hx (hb hby at_117) ((if0 _ _).trans (feq hm117_57).1) (pc' := 120) rfl ?_
          refine y_iload X49.here hx (hb hby at_120) rfl (pc' := 122) rfl ?_
          refine y_goto X49.here hx (hb hby at_122) (pc' := 129) (by decide) rfl ?_
          exact kt)
      refine ⟨T49, ⟨X49, e49.trans e49.symm⟩, fun t kt => pre59 t ?_⟩
      (try simp only [if_neg hm117_57] at kt)
      exact kt
  have e56 : T56.heap = h0 := q56.trans e49
  have pre60 : ∀ t, Steps p.tables e below (T56.setTop (mkF m 129 #[iv pi0, iv pi1, jv pj2, .second, jv pj3, .second, jv pj4, .second, jv pj5, .second, iv x2, iv x9, iv x16, iv x23, iv x30, iv x37, iv x43, iv x45, iv x48, .unset, .unset, .unset, .unset, .unset, .unset, .unset, .unset, .unset, .unset, .unset, .unset, .unset, .unset, .unset, .unset, .unset, .unset, .unset, .unset, .unset, .unset, .unset] [(.int x55)])) t → Go t := fun t kt => pre54 t (st56 t kt)
  obtain ⟨x61, hx61⟩ : ∃ z : Int64, z = (pj2 + pj3) := ⟨_, rfl⟩
  have pre62 : ∀ t, Steps p.tables e below (T56.setTop (mkF m 137 #[iv pi0, iv pi1, jv pj2, .second, jv pj3, .second, jv pj4, .second, jv pj5, .second, iv x2, iv x9, iv x16, iv x23, iv x30, iv x37, iv x43, iv x45, iv x48, iv x55, jv x61, .second, .unset, .unset, .unset, .unset, .unset, .unset, .unset, .unset, .unset, .unset, .unset, .unset, .unset, .unset, .unset, .unset, .unset, .unset, .unset, .unset] [])) t → Go t := fun t kt => pre60 t (by
      subst hx61
      refine y_istore X56.here hx (hb hby at_129) (l' := #[iv pi0, iv pi1, jv pj2, .second, jv pj3, .second, jv pj4, .second, jv pj5, .second, iv x2, iv x9, iv x16, iv x23, iv x30, iv x37, iv x43, iv x45, iv x48, iv x55, .unset, .unset, .unset, .unset, .unset, .unset, .unset, .unset, .unset, .unset, .unset, .unset, .unset, .unset, .unset, .unset, .unset, .unset, .unset, .unset, .unset, .unset]) rfl (pc' := 131) rfl ?_
      refine y_lloadN X56.here hx (hb hby at_131) rfl (pc' := 132) rfl ?_
      refine y_lload X56.here hx (hb hby at_132) rfl (pc' := 134) rfl ?_
      refine y_ladd X56.here hx (hb hby at_134) rfl (pc' := 135) rfl ?_
      refine y_lstore X56.here hx (hb hby at_135) (l' := #[iv pi0, iv pi1, jv pj2, .second, jv pj3, .second, jv pj4, .second, jv pj5, .second, iv x2, iv x9, iv x16, iv x23, iv x30, iv x37, iv x43, iv x45, iv x48, iv x55, jv (pj2 + pj3), .second, .unset, .unset, .unset, .unset, .unset, .unset, .unset, .unset, .unset, .unset, .unset, .unset, .unset, .unset, .unset, .unset, .unset, .unset, .unset, .unset]) rfl (pc' := 137) rfl ?_
      exact kt)
  obtain ⟨x63, hx63⟩ : ∃ z : Int64, z = (x61 + pj4) := ⟨_, rfl⟩
  have pre64 : ∀ t, Steps p.tables e below (T56.setTop (mkF m 144 #[iv pi0, iv pi1, jv pj2, .second, jv pj3, .second, jv pj4, .second, jv pj5, .second, iv x2, iv x9, iv x16, iv x23, iv x30, iv x37, iv x43, iv x45, iv x48, iv x55, jv x61, .second, jv x63, .second, .unset, .unset, .unset, .unset, .unset, .unset, .unset, .unset, .unset, .unset, .unset, .unset, .unset, .unset, .unset, .unset, .unset, .unset] [])) t → Go t := fun t kt => pre62 t (by
      subst hx63
      refine y_lload X56.here hx (hb hby at_137) rfl (pc' := 139) rfl ?_
      refine y_lload X56.here hx (hb hby at_139) rfl (pc' := 141) rfl ?_
      refine y_ladd X56.here hx (hb hby at_141) rfl (pc' := 142) rfl ?_
      refine y_lstore X56.here hx (hb hby at_142) (l' := #[iv pi0, iv pi1, jv pj2, .second, jv pj3, .second, jv pj4, .second, jv pj5, .second, iv x2, iv x9, iv x16, iv x23, iv x30, iv x37, iv x43, iv x45, iv x48, iv x55, jv x61, .second, jv (x61 + pj4), .second, .unset, .unset, .unset, .unset, .unset, .unset, .unset, .unset, .unset, .unset, .unset, .unset, .unset, .unset, .unset, .unset, .unset, .unset]) rfl (pc' := 144) rfl ?_
      exact kt)
  have B1 : 1 ≤ x43.toInt ∧ x43.toInt ≤ 16 := by rw [hx43]; exact own_d _
  have B2 : 1 ≤ x45.toInt ∧ x45.toInt ≤ 16 := by rw [hx45]; exact own_d _
  have A1 : x61 - pj2 = pj3 := by rw [hx61]; exact own_as _ _
  obtain ⟨T65, h65, X65, e65, E65, A65, D65, -, st65⟩ := newO X56 hx hZ hown (hw _ (List.mem_of_getElem? (i := 0) rfl)) (hw _ (List.mem_of_getElem? (i := 1) rfl)) (hw _ (List.mem_of_getElem? (i := 2) rfl)) e56 (g := (mkF m 144 #[iv pi0, iv pi1, jv pj2, .second, jv pj3, .second, jv pj4, .second, jv pj5, .second, iv x2, iv x9, iv x16, iv x23, iv x30, iv x37, iv x43, iv x45, iv x48, iv x55, jv x61, .second, jv x63, .second, .unset, .unset, .unset, .unset, .unset, .unset, .unset, .unset, .unset, .unset, .unset, .unset, .unset, .unset, .unset, .unset, .unset, .unset] [])) rfl (hb hby at_144) (by decide) (by decide)
  obtain ⟨b65, g65⟩ : ∃ z, z = h0.size := ⟨_, rfl⟩
  rw [← g65] at A65 D65 st65
  have pre66 : ∀ t, Steps p.tables e below (T65.setTop (mkF m 147 #[iv pi0, iv pi1, jv pj2, .second, jv pj3, .second, jv pj4, .second, jv pj5, .second, iv x2, iv x9, iv x16, iv x23, iv x30, iv x37, iv x43, iv x45, iv x48, iv x55, jv x61, .second, jv x63, .second, .unset, .unset, .unset, .unset, .unset, .unset, .unset, .unset, .unset, .unset, .unset, .unset, .unset, .unset, .unset, .unset, .unset, .unset] [(.ref b65)])) t → Go t := fun t kt => pre64 t (st65 t kt)
  have G67 : n0 ≤ b65 := Nat.le_trans (O0.1 ▸ O0.2.1) (Nat.le_of_eq g65.symm)
  have O67 := O0.ext E65
  have f68 : Fld Z h65 b65 "com/example/roamd/roamd/net/DelayedAck" "waiting" "I" (.int (0 : Int32)) := D65 (Or.inl (hw _ (List.mem_of_getElem? (i := 15) rfl))) (ty := .int) (by decide)
  have f69 : Fld Z h65 b65 "com/example/roamd/roamd/net/DelayedAck" "firstAt" "J" (.long (0 : Int64)) := D65 (Or.inl (hw _ (List.mem_of_getElem? (i := 17) rfl))) (ty := .long) (by decide)
  have f70 : Fld Z h65 b65 "com/example/roamd/roamd/net/DelayedAck" "arrivedBefore" "Z" (.int (0 : Int32)) := D65 (Or.inl (hw _ (List.mem_of_getElem? (i := 19) rfl))) (ty := .boolean) (by decide)
  have f71 : Fld Z h65 b65 "com/example/roamd/roamd/net/DelayedAck" "holdNanos" "J" (.long (0 : Int64)) := D65 (Or.inl (hw _ (List.mem_of_getElem? (i := 23) rfl))) (ty := .long) (by decide)
  have f72 : Fld Z h65 b65 "com/example/roamd/roamd/net/DelayedAck" "lastArrivedAt" "J" (.long (0 : Int64)) := D65 (Or.inl (hw _ (List.mem_of_getElem? (i := 25) rfl))) (ty := .long) (by decide)
  have f73 : Fld Z h65 b65 "com/example/roamd/roamd/net/DelayedAck" "urgent" "Z" (.int (0 : Int32)) := D65 (Or.inl (hw _ (List.mem_of_getElem? (i := 27) rfl))) (ty := .boolean) (by decide)
  have pre74 : ∀ t, Steps p.tables e below (T65.setTop (mkF m 148 #[iv pi0, iv pi1, jv pj2, .second, jv pj3, .second, jv pj4, .second, jv pj5, .second, iv x2, iv x9, iv x16, iv x23, iv x30, iv x37, iv x43, iv x45, iv x48, iv x55, jv x61, .second, jv x63, .second, .unset, .unset, .unset, .unset, .unset, .unset, .unset, .unset, .unset, .unset, .unset, .unset, .unset, .unset, .unset, .unset, .unset, .unset] [(.ref b65), (.ref b65)])) t → Go t := fun t kt => pre66 t (by
      refine y_dup X65.here hx (hb hby at_147) rfl (pc' := 148) rfl ?_
      exact kt)
  obtain ⟨v75, _, ⟨T75, L75, k75, n75⟩, -, X75, ⟨Lc75, hQ75, l75, y75, z75⟩, st75⟩ := X65.specialBack hx (y := (⟨"com/example/roamd/roamd/net/DelayedAck", "<init>", "()V"⟩ : MethodName)) rfl hown (mvT hZ (hw _ (List.mem_of_getElem? (i := 3) rfl))) (mvT hZ (hw _ (List.mem_of_getElem? (i := 4) rfl))) (mvT hZ (hw _ (List.mem_of_getElem? (i := 5) rfl))) (by decide) (backOf (W := 1) (rm1 l Z a0 hw [] b65 h65 n0 O67 A65) hZ (hw _ (List.mem_of_getElem? (i := 5) rfl)) (hw _ (List.mem_of_getElem? (i := 2) rfl)) (by decide) (by decide)) (g := (mkF m 148 #[iv pi0, iv pi1, jv pj2, .second, jv pj3, .second, jv pj4, .second, jv pj5, .second, iv x2, iv x9, iv x16, iv x23, iv x30, iv x37, iv x43, iv x45, iv x48, iv x55, jv x61, .second, jv x63, .second, .unset, .unset, .unset, .unset, .unset, .unset, .unset, .unset, .unset, .unset, .unset, .unset, .unset, .unset, .unset, .unset, .unset, .unset] [(.ref b65), (.ref b65)])) rfl (by rw [hml]; rfl) (Steps.refl _) (a := b65) (argsL := []) (rest := [(.ref b65)]) (lenOf pd___V rfl) rfl (by show 2 * 0 + _ ≤ _; exact Nat.le_of_eq rfl) (hb hby at_148) (fun _ _ => ⟨rfl, e65, (by decide : 1 + 0 ≤ _), (by decide : 6 + 0 ≤ _)⟩)
  dsimp only [Pt.U, Pt.locs, Pt.cells, Pt.slots] at X75 l75 y75 z75 st75 hQ75
  subst l75 y75 z75
  obtain ⟨hv75, N75q, e75q⟩ := hQ75
  have N76 := Fr.app N0 N75q
  subst hv75
  have pre77 : ∀ t, Steps p.tables e below (T75.setTop (mkF m 151 #[iv pi0, iv pi1, jv pj2, .second, jv pj3, .second, jv pj4, .second, jv pj5, .second, iv x2, iv x9, iv x16, iv x23, iv x30, iv x37, iv x43, iv x45, iv x48, iv x55, jv x61, .second, jv x63, .second, .unset, .unset, .unset, .unset, .unset, .unset, .unset, .unset, .unset, .unset, .unset, .unset, .unset, .unset, .unset, .unset, .unset, .unset] [(.ref b65)])) t → Go t := fun t kt => pre74 t (st75.trans kt)
  have pre78 : ∀ t, Steps p.tables e below (T75.setTop (mkF m 155 #[iv pi0, iv pi1, jv pj2, .second, jv pj3, .second, jv pj4, .second, jv pj5, .second, iv x2, iv x9, iv x16, iv x23, iv x30, iv x37, iv x43, iv x45, iv x48, iv x55, jv x61, .second, jv x63, .second, rv b65, .unset, .unset, .unset, .unset, .unset, .unset, .unset, .unset, .unset, .unset, .unset, .unset, .unset, .unset, .unset, .unset, .unset] [(.int x2)])) t → Go t := fun t kt => pre77 t (by
      refine y_astore X75.here hx (hb hby at_151) rfl (l' := #[iv pi0, iv pi1, jv pj2, .second, jv pj3, .second, jv pj4, .second, jv pj5, .second, iv x2, iv x9, iv x16, iv x23, iv x30, iv x37, iv x43, iv x45, iv x48, iv x55, jv x61, .second, jv x63, .second, rv b65, .unset, .unset, .unset, .unset, .unset, .unset, .unset, .unset, .unset, .unset, .unset, .unset, .unset, .unset, .unset, .unset, .unset]) rfl (pc' := 153) rfl ?_
      refine y_iload X75.here hx (hb hby at_153) rfl (pc' := 155) rfl ?_
      exact kt)
  by_cases hc155_79 : x2 = (0 : Int32)
  · have pre80 : ∀ t, Steps p.tables e below (T75.setTop (mkF m 182 #[iv pi0, iv pi1, jv pj2, .second, jv pj3, .second, jv pj4, .second, jv pj5, .second, iv x2, iv x9, iv x16, iv x23, iv x30, iv x37, iv x43, iv x45, iv x48, iv x55, jv x61, .second, jv x63, .second, rv b65, .unset, .unset, .unset, .unset, .unset, .unset, .unset, .unset, .unset, .unset, .unset, .unset, .unset, .unset, .unset, .unset, .unset] [(.long x61), (.int x9), (.int x48), (.int x43), (.ref b65)])) t → Go t := fun t kt => pre78 t (by
        refine y_ifYes X75.here hx (hb hby at_155) ((if0 _ _).trans (teq hc155_79).1) (pc' := 172) (by decide) rfl ?_
        refine y_aload X75.here hx (hb hby at_172) rfl rfl (pc' := 174) rfl ?_
        refine y_iload X75.here hx (hb hby at_174) rfl (pc' := 176) rfl ?_
        refine y_iload X75.here hx (hb hby at_176) rfl (pc' := 178) rfl ?_
        refine y_iload X75.here hx (hb hby at_178) rfl (pc' := 180) rfl ?_
        refine y_lload X75.here hx (hb hby at_180) rfl (pc' := 182) rfl ?_
        exact kt)
    obtain ⟨cq81, kq81, q81a, q81b, q81c⟩ := isOf hZ e75q A65
    obtain ⟨v81, _, ⟨T81, L81, k81, n81⟩, -, X81, ⟨Lc81, hQ81, l81, y81, z81⟩, st81⟩ := X75.virtualBack hx (y := (⟨"com/example/roamd/roamd/net/DelayedAck", "arrived", "(IIZJ)V"⟩ : MethodName)) (z := (⟨"com/example/roamd/roamd/net/DelayedAck", "arrived", "(IIZJ)V"⟩ : MethodName)) hown (mvT hZ (hw _ (List.mem_of_getElem? (i := 9) rfl))) (mvT hZ (hw _ (List.mem_of_getElem? (i := 10) rfl))) (notFace_of_selects (args := #[]) (mvT hZ (hw _ (List.mem_of_getElem? (i := 12) rfl)))) (mvT hZ (hw _ (List.mem_of_getElem? (i := 12) rfl))) (mvT hZ (hw _ (List.mem_of_getElem? (i := 11) rfl))) (by decide) (backOf (W := 0) (rm3 l Z a0 hw [] b65 x43 x48 x9 x61 (0 : Int32) (0 : Int64) (0 : Int32) (0 : Int64) (0 : Int64) (0 : Int32) h65 n0 O67 S_DELAY_NANOS S_ALONE_DELAY_NANOS A65 f68 f69 f70 f72 f71 f73 G67) hZ (hw _ (List.mem_of_getElem? (i := 13) rfl)) (hw _ (List.mem_of_getElem? (i := 2) rfl)) (by decide) (by decide)) q81a q81c (g := (mkF m 182 #[iv pi0, iv pi1, jv pj2, .second, jv pj3, .second, jv pj4, .second, jv pj5, .second, iv x2, iv x9, iv x16, iv x23, iv x30, iv x37, iv x43, iv x45, iv x48, iv x55, jv x61, .second, jv x63, .second, rv b65, .unset, .unset, .unset, .unset, .unset, .unset, .unset, .unset, .unset, .unset, .unset, .unset, .unset, .unset, .unset, .unset, .unset] [(.long x61), (.int x9), (.int x48), (.int x43), (.ref b65)])) rfl (by rw [hml]; rfl) (Steps.refl _) (argsL := [(.int x43), (.int x48), (.int x9), (.long x61)]) (rest := []) (lenOf pd__IIZJ_V rfl) rfl (by show 2 * 0 + _ ≤ _; exact Nat.le_of_eq rfl) (hb hby at_182) (fun _ _ => ⟨rfl, e75q, (by decide : 1 + 0 ≤ _), (by decide : 6 + 0 ≤ _)⟩)
    dsimp only [Pt.U, Pt.locs, Pt.cells, Pt.slots] at X81 l81 y81 z81 st81 hQ81
    subst l81 y81 z81
    obtain ⟨hv81, N81q, K81q, p81_0, p81_1, p81_2, p81_3, p81_4, p81_5⟩ := hQ81
    have N82 := Fr.app N76 N81q
    subst hv81
    have pre83 : ∀ t, Steps p.tables e below (T81.setTop (mkF m 185 #[iv pi0, iv pi1, jv pj2, .second, jv pj3, .second, jv pj4, .second, jv pj5, .second, iv x2, iv x9, iv x16, iv x23, iv x30, iv x37, iv x43, iv x45, iv x48, iv x55, jv x61, .second, jv x63, .second, rv b65, .unset, .unset, .unset, .unset, .unset, .unset, .unset, .unset, .unset, .unset, .unset, .unset, .unset, .unset, .unset, .unset, .unset] [])) t → Go t := fun t kt => pre80 t (st81.trans kt)
    obtain ⟨h81, eh81⟩ : ∃ z, T81.heap = z := ⟨_, rfl⟩
    rw [eh81] at K81q p81_0 p81_1 p81_2 p81_3 p81_4 p81_5
    have f84 : Exa Z h81 b65 "com/example/roamd/roamd/net/DelayedAck" := (A65.keep K81q)
    obtain ⟨x91, hx91⟩ : ∃ z : Int32, z = ((0 : Int32) + x43) := ⟨_, rfl⟩
    rw [← hx91] at p81_0
    rw [if_pos (rfl : (0 : Int32) = (0 : Int32))] at p81_1
    rw [if_pos (rfl : (0 : Int32) = (0 : Int32))] at p81_4
    obtain ⟨x92, hx92⟩ : ∃ z : Int64, z = (if (if (0 : Int32) = (0 : Int32) then (0 : Int32) else (if (700000000 : Int64) < (x61 - (0 : Int64)) then (0 : Int32) else (1 : Int32))) = (0 : Int32) then (150000000 : Int64) else (700000000 : Int64)) := ⟨_, rfl⟩
    rw [← hx92] at p81_4
    obtain ⟨x93, hx93⟩ : ∃ z : Int32, z = (nar .boolean ((0 : Int32) ||| (if x48 = x43 then (if x9 = (0 : Int32) then (1 : Int32) else (if ((0 : Int32) + x43) < (16 : Int32) then (0 : Int32) else (1 : Int32))) else (1 : Int32)))) := ⟨_, rfl⟩
    rw [← hx93] at p81_5
    have O94 := O67.keep K81q (allS G67 all0)
    have pre95 : ∀ t, Steps p.tables e below (T81.setTop (mkF m 187 #[iv pi0, iv pi1, jv pj2, .second, jv pj3, .second, jv pj4, .second, jv pj5, .second, iv x2, iv x9, iv x16, iv x23, iv x30, iv x37, iv x43, iv x45, iv x48, iv x55, jv x61, .second, jv x63, .second, rv b65, .unset, .unset, .unset, .unset, .unset, .unset, .unset, .unset, .unset, .unset, .unset, .unset, .unset, .unset, .unset, .unset, .unset] [(.int x23)])) t → Go t := fun t kt => pre83 t (by
        refine y_iload X81.here hx (hb hby at_185) rfl (pc' := 187) rfl ?_
        exact kt)
    by_cases hc187_96 : x23 = (0 : Int32)
    · have pre97 : ∀ t, Steps p.tables e below (T81.setTop (mkF m 249 #[iv pi0, iv pi1, jv pj2, .second, jv pj3, .second, jv pj4, .second, jv pj5, .second, iv x2, iv x9, iv x16, iv x23, iv x30, iv x37, iv x43, iv x45, iv x48, iv x55, jv x61, .second, jv x63, .second, rv b65, jv (150000000 : Int64), .second, iv x43, .unset, .unset, .unset, .unset, .unset, .unset, .unset, .unset, .unset, .unset, .unset, .unset, .unset, .unset] [(.int x43), (.int x48)])) t → Go t := fun t kt => pre95 t (by
          refine y_ifYes X81.here hx (hb hby at_187) ((if0 _ _).trans (teq hc187_96).1) (pc' := 203) (by decide) rfl ?_
          refine y_iload X81.here hx (hb hby at_203) rfl (pc' := 205) rfl ?_
          refine y_ifYes X81.here hx (hb hby at_205) ((if0 _ _).trans (teq hc155_79).1) (pc' := 223) (by decide) rfl ?_
          refine X81.ldc2Long hx hown (mvT hZ (hw _ (List.mem_of_getElem? (i := 28) rfl))) (g := (mkF m 223 #[iv pi0, iv pi1, jv pj2, .second, jv pj3, .second, jv pj4, .second, jv pj5, .second, iv x2, iv x9, iv x16, iv x23, iv x30, iv x37, iv x43, iv x45, iv x48, iv x55, jv x61, .second, jv x63, .second, rv b65, .unset, .unset, .unset, .unset, .unset, .unset, .unset, .unset, .unset, .unset, .unset, .unset, .unset, .unset, .unset, .unset, .unset] [])) rfl (hb hby at_223) _ ?_
          show Steps p.tables e below (T81.setTop (mkF m 226 #[iv pi0, iv pi1, jv pj2, .second, jv pj3, .second, jv pj4, .second, jv pj5, .second, iv x2, iv x9, iv x16, iv x23, iv x30, iv x37, iv x43, iv x45, iv x48, iv x55, jv x61, .second, jv x63, .second, rv b65, .unset, .unset, .unset, .unset, .unset, .unset, .unset, .unset, .unset, .unset, .unset, .unset, .unset, .unset, .unset, .unset, .unset] [(.long (150000000 : Int64))])) _
          refine y_lstore X81.here hx (hb hby at_226) (l' := #[iv pi0, iv pi1, jv pj2, .second, jv pj3, .second, jv pj4, .second, jv pj5, .second, iv x2, iv x9, iv x16, iv x23, iv x30, iv x37, iv x43, iv x45, iv x48, iv x55, jv x61, .second, jv x63, .second, rv b65, jv (150000000 : Int64), .second, .unset, .unset, .unset, .unset, .unset, .unset, .unset, .unset, .unset, .unset, .unset, .unset, .unset, .unset, .unset]) rfl (pc' := 228) rfl ?_
          refine y_iload X81.here hx (hb hby at_228) rfl (pc' := 230) rfl ?_
          refine y_ifYes X81.here hx (hb hby at_230) ((if0 _ _).trans (teq hc187_96).1) (pc' := 241) (by decide) rfl ?_
          refine y_iload X81.here hx (hb hby at_241) rfl (pc' := 243) rfl ?_
          refine y_istore X81.here hx (hb hby at_243) (l' := #[iv pi0, iv pi1, jv pj2, .second, jv pj3, .second, jv pj4, .second, jv pj5, .second, iv x2, iv x9, iv x16, iv x23, iv x30, iv x37, iv x43, iv x45, iv x48, iv x55, jv x61, .second, jv x63, .second, rv b65, jv (150000000 : Int64), .second, iv x43, .unset, .unset, .unset, .unset, .unset, .unset, .unset, .unset, .unset, .unset, .unset, .unset, .unset, .unset]) rfl (pc' := 245) rfl ?_
          refine y_iload X81.here hx (hb hby at_245) rfl (pc' := 247) rfl ?_
          refine y_iload X81.here hx (hb hby at_247) rfl (pc' := 249) rfl ?_
          exact kt)
      obtain ⟨x98, hx98⟩ : ∃ z : Int32, z = (if x48 = x43 then (if x9 = (0 : Int32) then (1 : Int32) else (if x43 < (16 : Int32) then (0 : Int32) else (1 : Int32))) else (1 : Int32)) := ⟨_, rfl⟩
      obtain ⟨T99, ⟨X99, q99⟩, st99⟩ : ∃ T', Nx X81 T' ∧ ∀ t, Steps p.tables e below (T'.setTop (mkF m 286 #[iv pi0, iv pi1, jv pj2, .second, jv pj3, .second, jv pj4, .second, jv pj5, .second, iv x2, iv x9, iv x16, iv x23, iv x30, iv x37, iv x43, iv x45, iv x48, iv x55, jv x61, .second, jv x63, .second, rv b65, jv (150000000 : Int64), .second, iv x43, .unset, .unset, .unset, .unset, .unset, .unset, .unset, .unset, .unset, .unset, .unset, .unset, .unset, .unset] [(.int x98)])) t → Steps p.tables e below (T81.setTop (mkF m 249 #[iv pi0, iv pi1, jv pj2, .second, jv pj3, .second, jv pj4, .second, jv pj5, .second, iv x2, iv x9, iv x16, iv x23, iv x30, iv x37, iv x43, iv x45, iv x48, iv x55, jv x61, .second, jv x63, .second, rv b65, jv (150000000 : Int64), .second, iv x43, .unset, .unset, .unset, .unset, .unset, .unset, .unset, .unset, .unset, .unset, .unset, .unset, .unset, .unset] [(.int x43), (.int x48)])) t := by
        have pre99_ : ∀ t, Steps p.tables e below (T81.setTop (mkF m 249 #[iv pi0, iv pi1, jv pj2, .second, jv pj3, .second, jv pj4, .second, jv pj5, .second, iv x2, iv x9, iv x16, iv x23, iv x30, iv x37, iv x43, iv x45, iv x48, iv x55, jv x61, .second, jv x63, .second, rv b65, jv (150000000 : Int64), .second, iv x43, .unset, .unset, .unset, .unset, .unset, .unset, .unset, .unset, .unset, .unset, .unset, .unset, .unset, .unset] [(.int x43), (.int x48)])) t → Steps p.tables e below (T81.setTop (mkF m 249 #[iv pi0, iv pi1, jv pj2, .second, jv pj3, .second, jv pj4, .second, jv pj5, .second, iv x2, iv x9, iv x16, iv x23, iv x30, iv x37, iv x43, iv x45, iv x48, iv x55, jv x61, .second, jv x63, .second, rv b65, jv (150000000 : Int64), .second, iv x43, .unset, .unset, .unset, .unset, .unset, .unset, .unset, .unset, .unset, .unset, .unset, .unset, .unset, .unset] [(.int x43), (.int x48)])) t := fun t kt => kt
        subst hx98
        by_cases hm249_100 : x48 = x43
        · have pre101 : ∀ t, Steps p.tables e below (T81.setTop (mkF m 254 #[iv pi0, iv pi1, jv pj2, .second, jv pj3, .second, jv pj4, .second, jv pj5, .second, iv x2, iv x9, iv x16, iv x23, iv x30, iv x37, iv x43, iv x45, iv x48, iv x55, jv x61, .second, jv x63, .second, rv b65, jv (150000000 : Int64), .second, iv x43, .unset, .unset, .unset, .unset, .unset, .unset, .unset, .unset, .unset, .unset, .unset, .unset, .unset, .unset] [(.int x9)])) t → Steps p.tables e below (T81.setTop (mkF m 249 #[iv pi0, iv pi1, jv pj2, .second, jv pj3, .second, jv pj4, .second, jv pj5, .second, iv x2, iv x9, iv x16, iv x23, iv x30, iv x37, iv x43, iv x45, iv x48, iv x55, jv x61, .second, jv x63, .second, rv b65, jv (150000000 : Int64), .second, iv x43, .unset, .unset, .unset, .unset, .unset, .unset, .unset, .unset, .unset, .unset, .unset, .unset, .unset, .unset] [(.int x43), (.int x48)])) t := fun t kt => pre99_ t (by
              refine y_icmpNo X81.here hx (hb hby at_249) (teq hm249_100).2 (pc' := 252) rfl ?_
              refine y_iload X81.here hx (hb hby at_252) rfl (pc' := 254) rfl ?_
              exact kt)
          by_cases hm254_102 : x9 = (0 : Int32)
          · have pre103 : ∀ t, Steps p.tables e below (T81.setTop (mkF m 286 #[iv pi0, iv pi1, jv pj2, .second, jv pj3, .second, jv pj4, .second, jv pj5, .second, iv x2, iv x9, iv x16, iv x23, iv x30, iv x37, iv x43, iv x45, iv x48, iv x55, jv x61, .second, jv x63, .second, rv b65, jv (150000000 : Int64), .second, iv x43, .unset, .unset, .unset, .unset, .unset, .unset, .unset, .unset, .unset, .unset, .unset, .unset, .unset, .unset] [(.int (1 : Int32))])) t → Steps p.tables e below (T81.setTop (mkF m 249 #[iv pi0, iv pi1, jv pj2, .second, jv pj3, .second, jv pj4, .second, jv pj5, .second, iv x2, iv x9, iv x16, iv x23, iv x30, iv x37, iv x43, iv x45, iv x48, iv x55, jv x61, .second, jv x63, .second, rv b65, jv (150000000 : Int64), .second, iv x43, .unset, .unset, .unset, .unset, .unset, .unset, .unset, .unset, .unset, .unset, .unset, .unset, .unset, .unset] [(.int x43), (.int x48)])) t := fun t kt => pre101 t (by
                refine y_ifYes X81.here hx (hb hby at_254) ((if0 _ _).trans (teq hm254_102).1) (pc' := 281) (by decide) rfl ?_
                refine y_iconst X81.here hx (hb hby at_281) (v := (1 : Int32)) rfl (pc' := 282) rfl ?_
                refine y_goto X81.here hx (hb hby at_282) (pc' := 286) (by decide) rfl ?_
                exact kt)
            refine ⟨T81, ⟨X81, eh81.trans eh81.symm⟩, fun t kt => pre103 t ?_⟩
            (try simp only [if_pos hm249_100, if_pos hm254_102] at kt)
            exact kt
          · have pre104 : ∀ t, Steps p.tables e below (T81.setTop (mkF m 278 #[iv pi0, iv pi1, jv pj2, .second, jv pj3, .second, jv pj4, .second, jv pj5, .second, iv x2, iv x9, iv x16, iv x23, iv x30, iv x37, iv x43, iv x45, iv x48, iv x55, jv x61, .second, jv x63, .second, rv b65, jv (150000000 : Int64), .second, iv x43, .unset, .unset, .unset, .unset, .unset, .unset, .unset, .unset, .unset, .unset, .unset, .unset, .unset, .unset] [(.int (16 : Int32)), (.int x43)])) t → Steps p.tables e below (T81.setTop (mkF m 249 #[iv pi0, iv pi1, jv pj2, .second, jv pj3, .second, jv pj4, .second, jv pj5, .second, iv x2, iv x9, iv x16, iv x23, iv x30, iv x37, iv x43, iv x45, iv x48, iv x55, jv x61, .second, jv x63, .second, rv b65, jv (150000000 : Int64), .second, iv x43, .unset, .unset, .unset, .unset, .unset, .unset, .unset, .unset, .unset, .unset, .unset, .unset, .unset, .unset] [(.int x43), (.int x48)])) t := fun t kt => pre101 t (by
                refine y_ifNo X81.here hx (hb hby at_254) ((if0 _ _).trans (feq hm254_102).1) (pc' := 257) rfl ?_
                refine y_iload X81.here hx (hb hby at_257) rfl (pc' := 259) rfl ?_
                refine y_ifYes X81.here hx (hb hby at_259) ((if0 _ _).trans (teq hc187_96).1) (pc' := 274) (by decide) rfl ?_
                refine y_iload X81.here hx (hb hby at_274) rfl (pc' := 276) rfl ?_
                refine y_bipush X81.here hx (hb hby at_276) (v := (16 : Int32)) rfl (pc' := 278) rfl ?_
                exact kt)
            by_cases hm278_105 : x43 < (16 : Int32)
            · have pre106 : ∀ t, Steps p.tables e below (T81.setTop (mkF m 286 #[iv pi0, iv pi1, jv pj2, .second, jv pj3, .second, jv pj4, .second, jv pj5, .second, iv x2, iv x9, iv x16, iv x23, iv x30, iv x37, iv x43, iv x45, iv x48, iv x55, jv x61, .second, jv x63, .second, rv b65, jv (150000000 : Int64), .second, iv x43, .unset, .unset, .unset, .unset, .unset, .unset, .unset, .unset, .unset, .unset, .unset, .unset, .unset, .unset] [(.int (0 : Int32))])) t → Steps p.tables e below (T81.setTop (mkF m 249 #[iv pi0, iv pi1, jv pj2, .second, jv pj3, .second, jv pj4, .second, jv pj5, .second, iv x2, iv x9, iv x16, iv x23, iv x30, iv x37, iv x43, iv x45, iv x48, iv x55, jv x61, .second, jv x63, .second, rv b65, jv (150000000 : Int64), .second, iv x43, .unset, .unset, .unset, .unset, .unset, .unset, .unset, .unset, .unset, .unset, .unset, .unset, .unset, .unset] [(.int x43), (.int x48)])) t := fun t kt => pre104 t (by
                  refine y_icmpYes X81.here hx (hb hby at_278) (tlt hm278_105).1 (pc' := 285) (by decide) rfl ?_
                  refine y_iconst X81.here hx (hb hby at_285) (v := (0 : Int32)) rfl (pc' := 286) rfl ?_
                  exact kt)
              refine ⟨T81, ⟨X81, eh81.trans eh81.symm⟩, fun t kt => pre106 t ?_⟩
              (try simp only [if_pos hm249_100, if_neg hm254_102, if_pos hm278_105] at kt)
              exact kt
            · have pre107 : ∀ t, Steps p.tables e below (T81.setTop (mkF m 286 #[iv pi0, iv pi1, jv pj2, .second, jv pj3, .second, jv pj4, .second, jv pj5, .second, iv x2, iv x9, iv x16, iv x23, iv x30, iv x37, iv x43, iv x45, iv x48, iv x55, jv x61, .second, jv x63, .second, rv b65, jv (150000000 : Int64), .second, iv x43, .unset, .unset, .unset, .unset, .unset, .unset, .unset, .unset, .unset, .unset, .unset, .unset, .unset, .unset] [(.int (1 : Int32))])) t → Steps p.tables e below (T81.setTop (mkF m 249 #[iv pi0, iv pi1, jv pj2, .second, jv pj3, .second, jv pj4, .second, jv pj5, .second, iv x2, iv x9, iv x16, iv x23, iv x30, iv x37, iv x43, iv x45, iv x48, iv x55, jv x61, .second, jv x63, .second, rv b65, jv (150000000 : Int64), .second, iv x43, .unset, .unset, .unset, .unset, .unset, .unset, .unset, .unset, .unset, .unset, .unset, .unset, .unset, .unset] [(.int x43), (.int x48)])) t := fun t kt => pre104 t (by
                  refine y_icmpNo X81.here hx (hb hby at_278) (flt hm278_105).1 (pc' := 281) rfl ?_
                  refine y_iconst X81.here hx (hb hby at_281) (v := (1 : Int32)) rfl (pc' := 282) rfl ?_
                  refine y_goto X81.here hx (hb hby at_282) (pc' := 286) (by decide) rfl ?_
                  exact kt)
              refine ⟨T81, ⟨X81, eh81.trans eh81.symm⟩, fun t kt => pre107 t ?_⟩
              (try simp only [if_pos hm249_100, if_neg hm254_102, if_neg hm278_105] at kt)
              exact kt
        · have pre108 : ∀ t, Steps p.tables e below (T81.setTop (mkF m 286 #[iv pi0, iv pi1, jv pj2, .second, jv pj3, .second, jv pj4, .second, jv pj5, .second, iv x2, iv x9, iv x16, iv x23, iv x30, iv x37, iv x43, iv x45, iv x48, iv x55, jv x61, .second, jv x63, .second, rv b65, jv (150000000 : Int64), .second, iv x43, .unset, .unset, .unset, .unset, .unset, .unset, .unset, .unset, .unset, .unset, .unset, .unset, .unset, .unset] [(.int (1 : Int32))])) t → Steps p.tables e below (T81.setTop (mkF m 249 #[iv pi0, iv pi1, jv pj2, .second, jv pj3, .second, jv pj4, .second, jv pj5, .second, iv x2, iv x9, iv x16, iv x23, iv x30, iv x37, iv x43, iv x45, iv x48, iv x55, jv x61, .second, jv x63, .second, rv b65, jv (150000000 : Int64), .second, iv x43, .unset, .unset, .unset, .unset, .unset, .unset, .unset, .unset, .unset, .unset, .unset, .unset, .unset, .unset] [(.int x43), (.int x48)])) t := fun t kt => pre99_ t (by
              refine y_icmpYes X81.here hx (hb hby at_249) (feq hm249_100).2 (pc' := 281) (by decide) rfl ?_
              refine y_iconst X81.here hx (hb hby at_281) (v := (1 : Int32)) rfl (pc' := 282) rfl ?_
              refine y_goto X81.here hx (hb hby at_282) (pc' := 286) (by decide) rfl ?_
              exact kt)
          refine ⟨T81, ⟨X81, eh81.trans eh81.symm⟩, fun t kt => pre108 t ?_⟩
          (try simp only [if_neg hm249_100] at kt)
          exact kt
      have e99 : T99.heap = h81 := q99.trans eh81
      have pre109 : ∀ t, Steps p.tables e below (T99.setTop (mkF m 286 #[iv pi0, iv pi1, jv pj2, .second, jv pj3, .second, jv pj4, .second, jv pj5, .second, iv x2, iv x9, iv x16, iv x23, iv x30, iv x37, iv x43, iv x45, iv x48, iv x55, jv x61, .second, jv x63, .second, rv b65, jv (150000000 : Int64), .second, iv x43, .unset, .unset, .unset, .unset, .unset, .unset, .unset, .unset, .unset, .unset, .unset, .unset, .unset, .unset] [(.int x98)])) t → Go t := fun t kt => pre97 t (st99 t kt)
      obtain ⟨x110, hx110⟩ : ∃ z : Int64, z = (x61 + pj5) := ⟨_, rfl⟩
      have pre111 : ∀ t, Steps p.tables e below (T99.setTop (mkF m 295 #[iv pi0, iv pi1, jv pj2, .second, jv pj3, .second, jv pj4, .second, jv pj5, .second, iv x2, iv x9, iv x16, iv x23, iv x30, iv x37, iv x43, iv x45, iv x48, iv x55, jv x61, .second, jv x63, .second, rv b65, jv (150000000 : Int64), .second, iv x43, iv x98, jv x110, .second, .unset, .unset, .unset, .unset, .unset, .unset, .unset, .unset, .unset, .unset, .unset] [])) t → Go t := fun t kt => pre109 t (by
          subst hx110
          refine y_istore X99.here hx (hb hby at_286) (l' := #[iv pi0, iv pi1, jv pj2, .second, jv pj3, .second, jv pj4, .second, jv pj5, .second, iv x2, iv x9, iv x16, iv x23, iv x30, iv x37, iv x43, iv x45, iv x48, iv x55, jv x61, .second, jv x63, .second, rv b65, jv (150000000 : Int64), .second, iv x43, iv x98, .unset, .unset, .unset, .unset, .unset, .unset, .unset, .unset, .unset, .unset, .unset, .unset, .unset]) rfl (pc' := 288) rfl ?_
          refine y_lload X99.here hx (hb hby at_288) rfl (pc' := 290) rfl ?_
          refine y_lload X99.here hx (hb hby at_290) rfl (pc' := 292) rfl ?_
          refine y_ladd X99.here hx (hb hby at_292) rfl (pc' := 293) rfl ?_
          refine y_lstore X99.here hx (hb hby at_293) (l' := #[iv pi0, iv pi1, jv pj2, .second, jv pj3, .second, jv pj4, .second, jv pj5, .second, iv x2, iv x9, iv x16, iv x23, iv x30, iv x37, iv x43, iv x45, iv x48, iv x55, jv x61, .second, jv x63, .second, rv b65, jv (150000000 : Int64), .second, iv x43, iv x98, jv (x61 + pj5), .second, .unset, .unset, .unset, .unset, .unset, .unset, .unset, .unset, .unset, .unset, .unset]) rfl (pc' := 295) rfl ?_
          exact kt)
      have pre112 : ∀ t, Steps p.tables e below (T99.setTop (mkF m 297 #[iv pi0, iv pi1, jv pj2, .second, jv pj3, .second, jv pj4, .second, jv pj5, .second, iv x2, iv x9, iv x16, iv x23, iv x30, iv x37, iv x43, iv x45, iv x48, iv x55, jv x61, .second, jv x63, .second, rv b65, jv (150000000 : Int64), .second, iv x43, iv x98, jv x110, .second, .unset, .unset, .unset, .unset, .unset, .unset, .unset, .unset, .unset, .unset, .unset] [(.int x98)])) t → Go t := fun t kt => pre111 t (by
          refine y_iload X99.here hx (hb hby at_295) rfl (pc' := 297) rfl ?_
          exact kt)
      obtain ⟨x113, hx113⟩ : ∃ z : Int64, z = (if x98 = (0 : Int32) then ((150000000 : Int64) - pj5) else (0 : Int64)) := ⟨_, rfl⟩
      obtain ⟨T114, ⟨X114, q114⟩, st114⟩ : ∃ T', Nx X99 T' ∧ ∀ t, Steps p.tables e below (T'.setTop (mkF m 309 #[iv pi0, iv pi1, jv pj2, .second, jv pj3, .second, jv pj4, .second, jv pj5, .second, iv x2, iv x9, iv x16, iv x23, iv x30, iv x37, iv x43, iv x45, iv x48, iv x55, jv x61, .second, jv x63, .second, rv b65, jv (150000000 : Int64), .second, iv x43, iv x98, jv x110, .second, .unset, .unset, .unset, .unset, .unset, .unset, .unset, .unset, .unset, .unset, .unset] [(.long x113)])) t → Steps p.tables e below (T99.setTop (mkF m 297 #[iv pi0, iv pi1, jv pj2, .second, jv pj3, .second, jv pj4, .second, jv pj5, .second, iv x2, iv x9, iv x16, iv x23, iv x30, iv x37, iv x43, iv x45, iv x48, iv x55, jv x61, .second, jv x63, .second, rv b65, jv (150000000 : Int64), .second, iv x43, iv x98, jv x110, .second, .unset, .unset, .unset, .unset, .unset, .unset, .unset, .unset, .unset, .unset, .unset] [(.int x98)])) t := by
        have pre114_ : ∀ t, Steps p.tables e below (T99.setTop (mkF m 297 #[iv pi0, iv pi1, jv pj2, .second, jv pj3, .second, jv pj4, .second, jv pj5, .second, iv x2, iv x9, iv x16, iv x23, iv x30, iv x37, iv x43, iv x45, iv x48, iv x55, jv x61, .second, jv x63, .second, rv b65, jv (150000000 : Int64), .second, iv x43, iv x98, jv x110, .second, .unset, .unset, .unset, .unset, .unset, .unset, .unset, .unset, .unset, .unset, .unset] [(.int x98)])) t → Steps p.tables e below (T99.setTop (mkF m 297 #[iv pi0, iv pi1, jv pj2, .second, jv pj3, .second, jv pj4, .second, jv pj5, .second, iv x2, iv x9, iv x16, iv x23, iv x30, iv x37, iv x43, iv x45, iv x48, iv x55, jv x61, .second, jv x63, .second, rv b65, jv (150000000 : Int64), .second, iv x43, iv x98, jv x110, .second, .unset, .unset, .unset, .unset, .unset, .unset, .unset, .unset, .unset, .unset, .unset] [(.int x98)])) t := fun t kt => kt
        subst hx113
        by_cases hm297_115 : x98 = (0 : Int32)
        · have pre116 : ∀ t, Steps p.tables e below (T99.setTop (mkF m 309 #[iv pi0, iv pi1, jv pj2, .second, jv pj3, .second, jv pj4, .second, jv pj5, .second, iv x2, iv x9, iv x16, iv x23, iv x30, iv x37, iv x43, iv x45, iv x48, iv x55, jv x61, .second, jv x63, .second, rv b65, jv (150000000 : Int64), .second, iv x43, iv x98, jv x110, .second, .unset, .unset, .unset, .unset, .unset, .unset, .unset, .unset, .unset, .unset, .unset] [(.long ((150000000 : Int64) - pj5))])) t → Steps p.tables e below (T99.setTop (mkF m 297 #[iv pi0, iv pi1, jv pj2, .second, jv pj3, .second, jv pj4, .second, jv pj5, .second, iv x2, iv x9, iv x16, iv x23, iv x30, iv x37, iv x43, iv x45, iv x48, iv x55, jv x61, .second, jv x63, .second, rv b65, jv (150000000 : Int64), .second, iv x43, iv x98, jv x110, .second, .unset, .unset, .unset, .unset, .unset, .unset, .unset, .unset, .unset, .unset, .unset] [(.int x98)])) t := fun t kt => pre114_ t (by
              refine y_ifYes X99.here hx (hb hby at_297) ((if0 _ _).trans (teq hm297_115).1) (pc' := 304) (by decide) rfl ?_
              refine y_lload X99.here hx (hb hby at_304) rfl (pc' := 306) rfl ?_
              refine y_lload X99.here hx (hb hby at_306) rfl (pc' := 308) rfl ?_
              refine y_lsub X99.here hx (hb hby at_308) rfl (pc' := 309) rfl ?_
              exact kt)
          refine ⟨T99, ⟨X99, e99.trans e99.symm⟩, fun t kt => pre116 t ?_⟩
          (try simp only [if_pos hm297_115] at kt)
          exact kt
        · have pre117 : ∀ t, Steps p.tables e below (T99.setTop (mkF m 309 #[iv pi0, iv pi1, jv pj2, .second, jv pj3, .second, jv pj4, .second, jv pj5, .second, iv x2, iv x9, iv x16, iv x23, iv x30, iv x37, iv x43, iv x45, iv x48, iv x55, jv x61, .second, jv x63, .second, rv b65, jv (150000000 : Int64), .second, iv x43, iv x98, jv x110, .second, .unset, .unset, .unset, .unset, .unset, .unset, .unset, .unset, .unset, .unset, .unset] [(.long (0 : Int64))])) t → Steps p.tables e below (T99.setTop (mkF m 297 #[iv pi0, iv pi1, jv pj2, .second, jv pj3, .second, jv pj4, .second, jv pj5, .second, iv x2, iv x9, iv x16, iv x23, iv x30, iv x37, iv x43, iv x45, iv x48, iv x55, jv x61, .second, jv x63, .second, rv b65, jv (150000000 : Int64), .second, iv x43, iv x98, jv x110, .second, .unset, .unset, .unset, .unset, .unset, .unset, .unset, .unset, .unset, .unset, .unset] [(.int x98)])) t := fun t kt => pre114_ t (by
              refine y_ifNo X99.here hx (hb hby at_297) ((if0 _ _).trans (feq hm297_115).1) (pc' := 300) rfl ?_
              refine y_lconst X99.here hx (hb hby at_300) (v := (0 : Int64)) rfl (pc' := 301) rfl ?_
              refine y_goto X99.here hx (hb hby at_301) (pc' := 309) (by decide) rfl ?_
              exact kt)
          refine ⟨T99, ⟨X99, e99.trans e99.symm⟩, fun t kt => pre117 t ?_⟩
          (try simp only [if_neg hm297_115] at kt)
          exact kt
      have e114 : T114.heap = h81 := q114.trans e99
      have pre118 : ∀ t, Steps p.tables e below (T114.setTop (mkF m 309 #[iv pi0, iv pi1, jv pj2, .second, jv pj3, .second, jv pj4, .second, jv pj5, .second, iv x2, iv x9, iv x16, iv x23, iv x30, iv x37, iv x43, iv x45, iv x48, iv x55, jv x61, .second, jv x63, .second, rv b65, jv (150000000 : Int64), .second, iv x43, iv x98, jv x110, .second, .unset, .unset, .unset, .unset, .unset, .unset, .unset, .unset, .unset, .unset, .unset] [(.long x113)])) t → Go t := fun t kt => pre112 t (st114 t kt)
      have pre119 : ∀ t, Steps p.tables e below (T114.setTop (mkF m 313 #[iv pi0, iv pi1, jv pj2, .second, jv pj3, .second, jv pj4, .second, jv pj5, .second, iv x2, iv x9, iv x16, iv x23, iv x30, iv x37, iv x43, iv x45, iv x48, iv x55, jv x61, .second, jv x63, .second, rv b65, jv (150000000 : Int64), .second, iv x43, iv x98, jv x110, .second, jv x113, .second, .unset, .unset, .unset, .unset, .unset, .unset, .unset, .unset, .unset] [(.int x98)])) t → Go t := fun t kt => pre118 t (by
          refine y_lstore X114.here hx (hb hby at_309) (l' := #[iv pi0, iv pi1, jv pj2, .second, jv pj3, .second, jv pj4, .second, jv pj5, .second, iv x2, iv x9, iv x16, iv x23, iv x30, iv x37, iv x43, iv x45, iv x48, iv x55, jv x61, .second, jv x63, .second, rv b65, jv (150000000 : Int64), .second, iv x43, iv x98, jv x110, .second, jv x113, .second, .unset, .unset, .unset, .unset, .unset, .unset, .unset, .unset, .unset]) rfl (pc' := 311) rfl ?_
          refine y_iload X114.here hx (hb hby at_311) rfl (pc' := 313) rfl ?_
          exact kt)
      obtain ⟨x120, hx120⟩ : ∃ z : Int32, z = (if x98 = (0 : Int32) then (if pj5 < (150000000 : Int64) then (0 : Int32) else (1 : Int32)) else (1 : Int32)) := ⟨_, rfl⟩
      obtain ⟨T121, ⟨X121, q121⟩, st121⟩ : ∃ T', Nx X114 T' ∧ ∀ t, Steps p.tables e below (T'.setTop (mkF m 329 #[iv pi0, iv pi1, jv pj2, .second, jv pj3, .second, jv pj4, .second, jv pj5, .second, iv x2, iv x9, iv x16, iv x23, iv x30, iv x37, iv x43, iv x45, iv x48, iv x55, jv x61, .second, jv x63, .second, rv b65, jv (150000000 : Int64), .second, iv x43, iv x98, jv x110, .second, jv x113, .second, .unset, .unset, .unset, .unset, .unset, .unset, .unset, .unset, .unset] [(.int x120)])) t → Steps p.tables e below (T114.setTop (mkF m 313 #[iv pi0, iv pi1, jv pj2, .second, jv pj3, .second, jv pj4, .second, jv pj5, .second, iv x2, iv x9, iv x16, iv x23, iv x30, iv x37, iv x43, iv x45, iv x48, iv x55, jv x61, .second, jv x63, .second, rv b65, jv (150000000 : Int64), .second, iv x43, iv x98, jv x110, .second, jv x113, .second, .unset, .unset, .unset, .unset, .unset, .unset, .unset, .unset, .unset] [(.int x98)])) t := by
        have pre121_ : ∀ t, Steps p.tables e below (T114.setTop (mkF m 313 #[iv pi0, iv pi1, jv pj2, .second, jv pj3, .second, jv pj4, .second, jv pj5, .second, iv x2, iv x9, iv x16, iv x23, iv x30, iv x37, iv x43, iv x45, iv x48, iv x55, jv x61, .second, jv x63, .second, rv b65, jv (150000000 : Int64), .second, iv x43, iv x98, jv x110, .second, jv x113, .second, .unset, .unset, .unset, .unset, .unset, .unset, .unset, .unset, .unset] [(.int x98)])) t → Steps p.tables e below (T114.setTop (mkF m 313 #[iv pi0, iv pi1, jv pj2, .second, jv pj3, .second, jv pj4, .second, jv pj5, .second, iv x2, iv x9, iv x16, iv x23, iv x30, iv x37, iv x43, iv x45, iv x48, iv x55, jv x61, .second, jv x63, .second, rv b65, jv (150000000 : Int64), .second, iv x43, iv x98, jv x110, .second, jv x113, .second, .unset, .unset, .unset, .unset, .unset, .unset, .unset, .unset, .unset] [(.int x98)])) t := fun t kt => kt
        subst hx120
        by_cases hm313_122 : x98 = (0 : Int32)
        · have pre123 : ∀ t, Steps p.tables e below (T114.setTop (mkF m 321 #[iv pi0, iv pi1, jv pj2, .second, jv pj3, .second, jv pj4, .second, jv pj5, .second, iv x2, iv x9, iv x16, iv x23, iv x30, iv x37, iv x43, iv x45, iv x48, iv x55, jv x61, .second, jv x63, .second, rv b65, jv (150000000 : Int64), .second, iv x43, iv x98, jv x110, .second, jv x113, .second, .unset, .unset, .unset, .unset, .unset, .unset, .unset, .unset, .unset] [(.int (lcmpW pj5 (150000000 : Int64)))])) t → Steps p.tables e below (T114.setTop (mkF m 313 #[iv pi0, iv pi1, jv pj2, .second, jv pj3, .second, jv pj4, .second, jv pj5, .second, iv x2, iv x9, iv x16, iv x23, iv x30, iv x37, iv x43, iv x45, iv x48, iv x55, jv x61, .second, jv x63, .second, rv b65, jv (150000000 : Int64), .second, iv x43, iv x98, jv x110, .second, jv x113, .second, .unset, .unset, .unset, .unset, .unset, .unset, .unset, .unset, .unset] [(.int x98)])) t := fun t kt => pre121_ t (by
              refine y_ifNo X114.here hx (hb hby at_313) ((if0 _ _).trans (teq hm313_122).2) (pc' := 316) rfl ?_
              refine y_lload X114.here hx (hb hby at_316) rfl (pc' := 318) rfl ?_
              refine y_lload X114.here hx (hb hby at_318) rfl (pc' := 320) rfl ?_
              refine y_lcmp X114.here hx (hb hby at_320) (pc' := 321) rfl ?_
              exact kt)
          by_cases hm321_124 : pj5 < (150000000 : Int64)
          · have pre125 : ∀ t, Steps p.tables e below (T114.setTop (mkF m 329 #[iv pi0, iv pi1, jv pj2, .second, jv pj3, .second, jv pj4, .second, jv pj5, .second, iv x2, iv x9, iv x16, iv x23, iv x30, iv x37, iv x43, iv x45, iv x48, iv x55, jv x61, .second, jv x63, .second, rv b65, jv (150000000 : Int64), .second, iv x43, iv x98, jv x110, .second, jv x113, .second, .unset, .unset, .unset, .unset, .unset, .unset, .unset, .unset, .unset] [(.int (0 : Int32))])) t → Steps p.tables e below (T114.setTop (mkF m 313 #[iv pi0, iv pi1, jv pj2, .second, jv pj3, .second, jv pj4, .second, jv pj5, .second, iv x2, iv x9, iv x16, iv x23, iv x30, iv x37, iv x43, iv x45, iv x48, iv x55, jv x61, .second, jv x63, .second, rv b65, jv (150000000 : Int64), .second, iv x43, iv x98, jv x110, .second, jv x113, .second, .unset, .unset, .unset, .unset, .unset, .unset, .unset, .unset, .unset] [(.int x98)])) t := fun t kt => pre123 t (by
                refine y_ifYes X114.here hx (hb hby at_321) ((if0 _ _).trans (tlt (lq_lt hm321_124)).1) (pc' := 328) (by decide) rfl ?_
                refine y_iconst X114.here hx (hb hby at_328) (v := (0 : Int32)) rfl (pc' := 329) rfl ?_
                exact kt)
            refine ⟨T114, ⟨X114, e114.trans e114.symm⟩, fun t kt => pre125 t ?_⟩
            (try simp only [if_pos hm313_122, if_pos hm321_124] at kt)
            exact kt
          · have pre126 : ∀ t, Steps p.tables e below (T114.setTop (mkF m 329 #[iv pi0, iv pi1, jv pj2, .second, jv pj3, .second, jv pj4, .second, jv pj5, .second, iv x2, iv x9, iv x16, iv x23, iv x30, iv x37, iv x43, iv x45, iv x48, iv x55, jv x61, .second, jv x63, .second, rv b65, jv (150000000 : Int64), .second, iv x43, iv x98, jv x110, .second, jv x113, .second, .unset, .unset, .unset, .unset, .unset, .unset, .unset, .unset, .unset] [(.int (1 : Int32))])) t → Steps p.tables e below (T114.setTop (mkF m 313 #[iv pi0, iv pi1, jv pj2, .second, jv pj3, .second, jv pj4, .second, jv pj5, .second, iv x2, iv x9, iv x16, iv x23, iv x30, iv x37, iv x43, iv x45, iv x48, iv x55, jv x61, .second, jv x63, .second, rv b65, jv (150000000 : Int64), .second, iv x43, iv x98, jv x110, .second, jv x113, .second, .unset, .unset, .unset, .unset, .unset, .unset, .unset, .unset, .unset] [(.int x98)])) t := fun t kt => pre123 t (by
                refine y_ifNo X114.here hx (hb hby at_321) ((if0 _ _).trans (flt (lq_nlt hm321_124)).1) (pc' := 324) rfl ?_
                refine y_iconst X114.here hx (hb hby at_324) (v := (1 : Int32)) rfl (pc' := 325) rfl ?_
                refine y_goto X114.here hx (hb hby at_325) (pc' := 329) (by decide) rfl ?_
                exact kt)
            refine ⟨T114, ⟨X114, e114.trans e114.symm⟩, fun t kt => pre126 t ?_⟩
            (try simp only [if_pos hm313_122, if_neg hm321_124] at kt)
            exact kt
        · have pre127 : ∀ t, Steps p.tables e below (T114.setTop (mkF m 329 #[iv pi0, iv pi1, jv pj2, .second, jv pj3, .second, jv pj4, .second, jv pj5, .second, iv x2, iv x9, iv x16, iv x23, iv x30, iv x37, iv x43, iv x45, iv x48, iv x55, jv x61, .second, jv x63, .second, rv b65, jv (150000000 : Int64), .second, iv x43, iv x98, jv x110, .second, jv x113, .second, .unset, .unset, .unset, .unset, .unset, .unset, .unset, .unset, .unset] [(.int (1 : Int32))])) t → Steps p.tables e below (T114.setTop (mkF m 313 #[iv pi0, iv pi1, jv pj2, .second, jv pj3, .second, jv pj4, .second, jv pj5, .second, iv x2, iv x9, iv x16, iv x23, iv x30, iv x37, iv x43, iv x45, iv x48, iv x55, jv x61, .second, jv x63, .second, rv b65, jv (150000000 : Int64), .second, iv x43, iv x98, jv x110, .second, jv x113, .second, .unset, .unset, .unset, .unset, .unset, .unset, .unset, .unset, .unset] [(.int x98)])) t := fun t kt => pre121_ t (by
              refine y_ifYes X114.here hx (hb hby at_313) ((if0 _ _).trans (feq hm313_122).2) (pc' := 324) (by decide) rfl ?_
              refine y_iconst X114.here hx (hb hby at_324) (v := (1 : Int32)) rfl (pc' := 325) rfl ?_
              refine y_goto X114.here hx (hb hby at_325) (pc' := 329) (by decide) rfl ?_
              exact kt)
          refine ⟨T114, ⟨X114, e114.trans e114.symm⟩, fun t kt => pre127 t ?_⟩
          (try simp only [if_neg hm313_122] at kt)
          exact kt
      have e121 : T121.heap = h81 := q121.trans e114
      have pre128 : ∀ t, Steps p.tables e below (T121.setTop (mkF m 329 #[iv pi0, iv pi1, jv pj2, .second, jv pj3, .second, jv pj4, .second, jv pj5, .second, iv x2, iv x9, iv x16, iv x23, iv x30, iv x37, iv x43, iv x45, iv x48, iv x55, jv x61, .second, jv x63, .second, rv b65, jv (150000000 : Int64), .second, iv x43, iv x98, jv x110, .second, jv x113, .second, .unset, .unset, .unset, .unset, .unset, .unset, .unset, .unset, .unset] [(.int x120)])) t → Go t := fun t kt => pre119 t (st121 t kt)
      have pre129 : ∀ t, Steps p.tables e below (T121.setTop (mkF m 335 #[iv pi0, iv pi1, jv pj2, .second, jv pj3, .second, jv pj4, .second, jv pj5, .second, iv x2, iv x9, iv x16, iv x23, iv x30, iv x37, iv x43, iv x45, iv x48, iv x55, jv x61, .second, jv x63, .second, rv b65, jv (150000000 : Int64), .second, iv x43, iv x98, jv x110, .second, jv x113, .second, iv x120, .unset, .unset, .unset, .unset, .unset, .unset, .unset, .unset] [(.long x110), (.ref b65)])) t → Go t := fun t kt => pre128 t (by
          refine y_istore X121.here hx (hb hby at_329) (l' := #[iv pi0, iv pi1, jv pj2, .second, jv pj3, .second, jv pj4, .second, jv pj5, .second, iv x2, iv x9, iv x16, iv x23, iv x30, iv x37, iv x43, iv x45, iv x48, iv x55, jv x61, .second, jv x63, .second, rv b65, jv (150000000 : Int64), .second, iv x43, iv x98, jv x110, .second, jv x113, .second, iv x120, .unset, .unset, .unset, .unset, .unset, .unset, .unset, .unset]) rfl (pc' := 331) rfl ?_
          refine y_aload X121.here hx (hb hby at_331) rfl rfl (pc' := 333) rfl ?_
          refine y_lload X121.here hx (hb hby at_333) rfl (pc' := 335) rfl ?_
          exact kt)
      obtain ⟨cq130, kq130, q130a, q130b, q130c⟩ := isOf hZ e121 f84
      obtain ⟨v130, _, ⟨T130, L130, k130, n130⟩, -, X130, ⟨Lc130, hQ130, l130, y130, z130⟩, st130⟩ := X121.virtualBack hx (y := (⟨"com/example/roamd/roamd/net/DelayedAck", "waitNanos", "(J)J"⟩ : MethodName)) (z := (⟨"com/example/roamd/roamd/net/DelayedAck", "waitNanos", "(J)J"⟩ : MethodName)) hown (mvT hZ (hw _ (List.mem_of_getElem? (i := 29) rfl))) (mvT hZ (hw _ (List.mem_of_getElem? (i := 30) rfl))) (notFace_of_selects (args := #[]) (mvT hZ (hw _ (List.mem_of_getElem? (i := 32) rfl)))) (mvT hZ (hw _ (List.mem_of_getElem? (i := 32) rfl))) (mvT hZ (hw _ (List.mem_of_getElem? (i := 31) rfl))) (by decide) (backOf (W := 0) (rm4 l Z a0 hw [] b65 x110 x91 x61 x92 x93 h81 n0 O94 f84 p81_0 p81_1 p81_4 p81_5) hZ (hw _ (List.mem_of_getElem? (i := 33) rfl)) (hw _ (List.mem_of_getElem? (i := 2) rfl)) (by decide) (by decide)) q130a q130c (g := (mkF m 335 #[iv pi0, iv pi1, jv pj2, .second, jv pj3, .second, jv pj4, .second, jv pj5, .second, iv x2, iv x9, iv x16, iv x23, iv x30, iv x37, iv x43, iv x45, iv x48, iv x55, jv x61, .second, jv x63, .second, rv b65, jv (150000000 : Int64), .second, iv x43, iv x98, jv x110, .second, jv x113, .second, iv x120, .unset, .unset, .unset, .unset, .unset, .unset, .unset, .unset] [(.long x110), (.ref b65)])) rfl (by rw [hml]; rfl) (Steps.refl _) (argsL := [(.long x110)]) (rest := []) (lenOf pd__J_J rfl) rfl (by show 2 * 0 + _ ≤ _; exact Nat.le_of_eq rfl) (hb hby at_335) (fun _ _ => ⟨rfl, e121, (by decide : 1 + 0 ≤ _), (by decide : 6 + 0 ≤ _)⟩)
      dsimp only [Pt.U, Pt.locs, Pt.cells, Pt.slots] at X130 l130 y130 z130 st130 hQ130
      subst l130 y130 z130
      obtain ⟨hv130, N130q, e130q⟩ := hQ130
      have N131 := Fr.app N82 N130q
      have hw130 := hv130
      obtain ⟨x132, hx132⟩ : ∃ z : Int64, z = (if x91 = (0 : Int32) then (9223372036854775807 : Int64) else (if x93 = (0 : Int32) then ((x61 + x92) - x110) else (0 : Int64))) := ⟨_, rfl⟩
      rw [← hx132] at hw130
      subst hw130
      have pre133 : ∀ t, Steps p.tables e below (T130.setTop (mkF m 338 #[iv pi0, iv pi1, jv pj2, .second, jv pj3, .second, jv pj4, .second, jv pj5, .second, iv x2, iv x9, iv x16, iv x23, iv x30, iv x37, iv x43, iv x45, iv x48, iv x55, jv x61, .second, jv x63, .second, rv b65, jv (150000000 : Int64), .second, iv x43, iv x98, jv x110, .second, jv x113, .second, iv x120, .unset, .unset, .unset, .unset, .unset, .unset, .unset, .unset] [(.long x132)])) t → Go t := fun t kt => pre129 t (st130.trans kt)
      have pre135 : ∀ t, Steps p.tables e below (T130.setTop (mkF m 341 #[iv pi0, iv pi1, jv pj2, .second, jv pj3, .second, jv pj4, .second, jv pj5, .second, iv x2, iv x9, iv x16, iv x23, iv x30, iv x37, iv x43, iv x45, iv x48, iv x55, jv x61, .second, jv x63, .second, rv b65, jv (150000000 : Int64), .second, iv x43, iv x98, jv x110, .second, jv x113, .second, iv x120, .unset, .unset, .unset, .unset, .unset, .unset, .unset, .unset] [(.int (lcmpW x132 x113))])) t → Go t := fun t kt => pre133 t (by
          refine y_lload X130.here hx (hb hby at_338) rfl (pc' := 340) rfl ?_
          refine y_lcmp X130.here hx (hb hby at_340) (pc' := 341) rfl ?_
          exact kt)
      have hf341_134 : x132 = x113 := by
          exact law0_136 pj2 pj3 pj5 x2 x9 x23 x43 x45 x48 x61 x91 x92 x93 x98 x110 x113 x132 hx91 hx92 hx93 hx98 hx110 hx113 hx132 hc155_79 hc187_96 B1 B2 A1
      have pre137 : ∀ t, Steps p.tables e below (T130.setTop (mkF m 348 #[iv pi0, iv pi1, jv pj2, .second, jv pj3, .second, jv pj4, .second, jv pj5, .second, iv x2, iv x9, iv x16, iv x23, iv x30, iv x37, iv x43, iv x45, iv x48, iv x55, jv x61, .second, jv x63, .second, rv b65, jv (150000000 : Int64), .second, iv x43, iv x98, jv x110, .second, jv x113, .second, iv x120, .unset, .unset, .unset, .unset, .unset, .unset, .unset, .unset] [(.long x110), (.ref b65)])) t → Go t := fun t kt => pre135 t (by
          refine y_ifNo X130.here hx (hb hby at_341) ((if0 _ _).trans (teq (lq_eq hf341_134)).2) (pc' := 344) rfl ?_
          refine y_aload X130.here hx (hb hby at_344) rfl rfl (pc' := 346) rfl ?_
          refine y_lload X130.here hx (hb hby at_346) rfl (pc' := 348) rfl ?_
          exact kt)
      obtain ⟨cq138, kq138, q138a, q138b, q138c⟩ := isOf hZ e130q f84
      obtain ⟨v138, _, ⟨T138, L138, k138, n138⟩, -, X138, ⟨Lc138, hQ138, l138, y138, z138⟩, st138⟩ := X130.virtualBack hx (y := (⟨"com/example/roamd/roamd/net/DelayedAck", "due", "(J)Z"⟩ : MethodName)) (z := (⟨"com/example/roamd/roamd/net/DelayedAck", "due", "(J)Z"⟩ : MethodName)) hown (mvT hZ (hw _ (List.mem_of_getElem? (i := 34) rfl))) (mvT hZ (hw _ (List.mem_of_getElem? (i := 35) rfl))) (notFace_of_selects (args := #[]) (mvT hZ (hw _ (List.mem_of_getElem? (i := 37) rfl)))) (mvT hZ (hw _ (List.mem_of_getElem? (i := 37) rfl))) (mvT hZ (hw _ (List.mem_of_getElem? (i := 36) rfl))) (by decide) (backOf (W := 0) (rm5 l Z a0 hw [] b65 x110 x91 x61 x92 x93 h81 n0 O94 f84 p81_0 p81_1 p81_4 p81_5) hZ (hw _ (List.mem_of_getElem? (i := 38) rfl)) (hw _ (List.mem_of_getElem? (i := 2) rfl)) (by decide) (by decide)) q138a q138c (g := (mkF m 348 #[iv pi0, iv pi1, jv pj2, .second, jv pj3, .second, jv pj4, .second, jv pj5, .second, iv x2, iv x9, iv x16, iv x23, iv x30, iv x37, iv x43, iv x45, iv x48, iv x55, jv x61, .second, jv x63, .second, rv b65, jv (150000000 : Int64), .second, iv x43, iv x98, jv x110, .second, jv x113, .second, iv x120, .unset, .unset, .unset, .unset, .unset, .unset, .unset, .unset] [(.long x110), (.ref b65)])) rfl (by rw [hml]; rfl) (Steps.refl _) (argsL := [(.long x110)]) (rest := []) (lenOf pd__J_Z rfl) rfl (by show 2 * 0 + _ ≤ _; exact Nat.le_of_eq rfl) (hb hby at_348) (fun _ _ => ⟨rfl, e130q, (by decide : 1 + 0 ≤ _), (by decide : 6 + 0 ≤ _)⟩)
      dsimp only [Pt.U, Pt.locs, Pt.cells, Pt.slots] at X138 l138 y138 z138 st138 hQ138
      subst l138 y138 z138
      obtain ⟨hv138, N138q, e138q⟩ := hQ138
      have N139 := Fr.app N131 N138q
      have hw138 := hv138
      obtain ⟨x140, hx140⟩ : ∃ z : Int32, z = (if x93 = (0 : Int32) then (if (0 : Int32) < x91 then (if (x110 - x61) < x92 then (0 : Int32) else (1 : Int32)) else (0 : Int32)) else (1 : Int32)) := ⟨_, rfl⟩
      rw [← hx140] at hw138
      subst hw138
      have pre141 : ∀ t, Steps p.tables e below (T138.setTop (mkF m 351 #[iv pi0, iv pi1, jv pj2, .second, jv pj3, .second, jv pj4, .second, jv pj5, .second, iv x2, iv x9, iv x16, iv x23, iv x30, iv x37, iv x43, iv x45, iv x48, iv x55, jv x61, .second, jv x63, .second, rv b65, jv (150000000 : Int64), .second, iv x43, iv x98, jv x110, .second, jv x113, .second, iv x120, .unset, .unset, .unset, .unset, .unset, .unset, .unset, .unset] [(.int x140)])) t → Go t := fun t kt => pre137 t (st138.trans kt)
      have pre143 : ∀ t, Steps p.tables e below (T138.setTop (mkF m 353 #[iv pi0, iv pi1, jv pj2, .second, jv pj3, .second, jv pj4, .second, jv pj5, .second, iv x2, iv x9, iv x16, iv x23, iv x30, iv x37, iv x43, iv x45, iv x48, iv x55, jv x61, .second, jv x63, .second, rv b65, jv (150000000 : Int64), .second, iv x43, iv x98, jv x110, .second, jv x113, .second, iv x120, .unset, .unset, .unset, .unset, .unset, .unset, .unset, .unset] [(.int x120), (.int x140)])) t → Go t := fun t kt => pre141 t (by
          refine y_iload X138.here hx (hb hby at_351) rfl (pc' := 353) rfl ?_
          exact kt)
      have hf353_142 : x140 = x120 := by
          exact law0_144 pj2 pj3 pj5 x2 x9 x23 x43 x45 x48 x61 x91 x92 x93 x98 x110 x120 x140 hx91 hx92 hx93 hx98 hx110 hx120 hx140 hc155_79 hc187_96 B1 B2 A1
      have pre145 : ∀ t, Steps p.tables e below (T138.setTop (mkF m 379 #[iv pi0, iv pi1, jv pj2, .second, jv pj3, .second, jv pj4, .second, jv pj5, .second, iv x2, iv x9, iv x16, iv x23, iv x30, iv x37, iv x43, iv x45, iv x48, iv x55, jv x61, .second, jv x63, .second, rv b65, jv (150000000 : Int64), .second, iv x43, iv x98, jv x110, .second, jv x113, .second, iv x120, iv (1 : Int32), jv x61, .second, .unset, .unset, .unset, .unset, .unset] [(.ref b65)])) t → Go t := fun t kt => pre143 t (by
          refine y_icmpNo X138.here hx (hb hby at_353) (teq hf353_142).2 (pc' := 356) rfl ?_
          refine y_iconst X138.here hx (hb hby at_356) (v := (1 : Int32)) rfl (pc' := 357) rfl ?_
          refine y_goto X138.here hx (hb hby at_357) (pc' := 361) (by decide) rfl ?_
          refine y_istore X138.here hx (hb hby at_361) (l' := #[iv pi0, iv pi1, jv pj2, .second, jv pj3, .second, jv pj4, .second, jv pj5, .second, iv x2, iv x9, iv x16, iv x23, iv x30, iv x37, iv x43, iv x45, iv x48, iv x55, jv x61, .second, jv x63, .second, rv b65, jv (150000000 : Int64), .second, iv x43, iv x98, jv x110, .second, jv x113, .second, iv x120, iv (1 : Int32), .unset, .unset, .unset, .unset, .unset, .unset, .unset]) rfl (pc' := 363) rfl ?_
          refine y_iload X138.here hx (hb hby at_363) rfl (pc' := 365) rfl ?_
          refine y_ifYes X138.here hx (hb hby at_365) ((if0 _ _).trans (teq hc187_96).1) (pc' := 373) (by decide) rfl ?_
          refine y_lload X138.here hx (hb hby at_373) rfl (pc' := 375) rfl ?_
          refine y_lstore X138.here hx (hb hby at_375) (l' := #[iv pi0, iv pi1, jv pj2, .second, jv pj3, .second, jv pj4, .second, jv pj5, .second, iv x2, iv x9, iv x16, iv x23, iv x30, iv x37, iv x43, iv x45, iv x48, iv x55, jv x61, .second, jv x63, .second, rv b65, jv (150000000 : Int64), .second, iv x43, iv x98, jv x110, .second, jv x113, .second, iv x120, iv (1 : Int32), jv x61, .second, .unset, .unset, .unset, .unset, .unset]) rfl (pc' := 377) rfl ?_
          refine y_aload X138.here hx (hb hby at_377) rfl rfl (pc' := 379) rfl ?_
          exact kt)
      obtain ⟨cq146, kq146, q146a, q146b, q146c⟩ := isOf hZ e138q f84
      obtain ⟨v146, _, ⟨T146, L146, k146, n146⟩, -, X146, ⟨Lc146, hQ146, l146, y146, z146⟩, st146⟩ := X138.virtualBack hx (y := (⟨"com/example/roamd/roamd/net/DelayedAck", "sent", "()V"⟩ : MethodName)) (z := (⟨"com/example/roamd/roamd/net/DelayedAck", "sent", "()V"⟩ : MethodName)) hown (mvT hZ (hw _ (List.mem_of_getElem? (i := 39) rfl))) (mvT hZ (hw _ (List.mem_of_getElem? (i := 40) rfl))) (notFace_of_selects (args := #[]) (mvT hZ (hw _ (List.mem_of_getElem? (i := 42) rfl)))) (mvT hZ (hw _ (List.mem_of_getElem? (i := 42) rfl))) (mvT hZ (hw _ (List.mem_of_getElem? (i := 41) rfl))) (by decide) (backOf (W := 0) (rm6 l Z a0 hw [] b65 x91 x61 (1 : Int32) x61 x92 x93 h81 n0 O94 f84 p81_0 p81_1 p81_2 p81_3 p81_4 p81_5 G67) hZ (hw _ (List.mem_of_getElem? (i := 43) rfl)) (hw _ (List.mem_of_getElem? (i := 2) rfl)) (by decide) (by decide)) q146a q146c (g := (mkF m 379 #[iv pi0, iv pi1, jv pj2, .second, jv pj3, .second, jv pj4, .second, jv pj5, .second, iv x2, iv x9, iv x16, iv x23, iv x30, iv x37, iv x43, iv x45, iv x48, iv x55, jv x61, .second, jv x63, .second, rv b65, jv (150000000 : Int64), .second, iv x43, iv x98, jv x110, .second, jv x113, .second, iv x120, iv (1 : Int32), jv x61, .second, .unset, .unset, .unset, .unset, .unset] [(.ref b65)])) rfl (by rw [hml]; rfl) (Steps.refl _) (argsL := []) (rest := []) (lenOf pd___V rfl) rfl (by show 2 * 0 + _ ≤ _; exact Nat.le_of_eq rfl) (hb hby at_379) (fun _ _ => ⟨rfl, e138q, (by decide : 1 + 0 ≤ _), (by decide : 6 + 0 ≤ _)⟩)
      dsimp only [Pt.U, Pt.locs, Pt.cells, Pt.slots] at X146 l146 y146 z146 st146 hQ146
      subst l146 y146 z146
      obtain ⟨hv146, N146q, K146q, p146_0, p146_1, p146_2, p146_3, p146_4, p146_5⟩ := hQ146
      have N147 := Fr.app N139 N146q
      subst hv146
      have pre148 : ∀ t, Steps p.tables e below (T146.setTop (mkF m 382 #[iv pi0, iv pi1, jv pj2, .second, jv pj3, .second, jv pj4, .second, jv pj5, .second, iv x2, iv x9, iv x16, iv x23, iv x30, iv x37, iv x43, iv x45, iv x48, iv x55, jv x61, .second, jv x63, .second, rv b65, jv (150000000 : Int64), .second, iv x43, iv x98, jv x110, .second, jv x113, .second, iv x120, iv (1 : Int32), jv x61, .second, .unset, .unset, .unset, .unset, .unset] [])) t → Go t := fun t kt => pre145 t (st146.trans kt)
      obtain ⟨h146, eh146⟩ : ∃ z, T146.heap = z := ⟨_, rfl⟩
      rw [eh146] at K146q p146_0 p146_1 p146_2 p146_3 p146_4 p146_5
      have f149 : Exa Z h146 b65 "com/example/roamd/roamd/net/DelayedAck" := (f84.keep K146q)
      have O156 := O94.keep K146q (allS G67 all0)
      obtain ⟨x157, hx157⟩ : ∃ z : Int64, z = (x61 + pj3) := ⟨_, rfl⟩
      have pre158 : ∀ t, Steps p.tables e below (T146.setTop (mkF m 389 #[iv pi0, iv pi1, jv pj2, .second, jv pj3, .second, jv pj4, .second, jv pj5, .second, iv x2, iv x9, iv x16, iv x23, iv x30, iv x37, iv x43, iv x45, iv x48, iv x55, jv x61, .second, jv x63, .second, rv b65, jv (150000000 : Int64), .second, iv x43, iv x98, jv x110, .second, jv x113, .second, iv x120, iv (1 : Int32), jv x61, .second, jv x157, .second, .unset, .unset, .unset] [])) t → Go t := fun t kt => pre148 t (by
          subst hx157
          refine y_lload X146.here hx (hb hby at_382) rfl (pc' := 384) rfl ?_
          refine y_lload X146.here hx (hb hby at_384) rfl (pc' := 386) rfl ?_
          refine y_ladd X146.here hx (hb hby at_386) rfl (pc' := 387) rfl ?_
          refine y_lstore X146.here hx (hb hby at_387) (l' := #[iv pi0, iv pi1, jv pj2, .second, jv pj3, .second, jv pj4, .second, jv pj5, .second, iv x2, iv x9, iv x16, iv x23, iv x30, iv x37, iv x43, iv x45, iv x48, iv x55, jv x61, .second, jv x63, .second, rv b65, jv (150000000 : Int64), .second, iv x43, iv x98, jv x110, .second, jv x113, .second, iv x120, iv (1 : Int32), jv x61, .second, jv (x61 + pj3), .second, .unset, .unset, .unset]) rfl (pc' := 389) rfl ?_
          exact kt)
      have pre159 : ∀ t, Steps p.tables e below (T146.setTop (mkF m 396 #[iv pi0, iv pi1, jv pj2, .second, jv pj3, .second, jv pj4, .second, jv pj5, .second, iv x2, iv x9, iv x16, iv x23, iv x30, iv x37, iv x43, iv x45, iv x48, iv x55, jv x61, .second, jv x63, .second, rv b65, jv (150000000 : Int64), .second, iv x43, iv x98, jv x110, .second, jv x113, .second, iv x120, iv (1 : Int32), jv x61, .second, jv x157, .second, .unset, .unset, .unset] [(.long x157), (.int (1 : Int32)), (.int (1 : Int32)), (.int (1 : Int32)), (.ref b65)])) t → Go t := fun t kt => pre158 t (by
          refine y_aload X146.here hx (hb hby at_389) rfl rfl (pc' := 391) rfl ?_
          refine y_iconst X146.here hx (hb hby at_391) (v := (1 : Int32)) rfl (pc' := 392) rfl ?_
          refine y_iconst X146.here hx (hb hby at_392) (v := (1 : Int32)) rfl (pc' := 393) rfl ?_
          refine y_iconst X146.here hx (hb hby at_393) (v := (1 : Int32)) rfl (pc' := 394) rfl ?_
          refine y_lload X146.here hx (hb hby at_394) rfl (pc' := 396) rfl ?_
          exact kt)
      obtain ⟨cq160, kq160, q160a, q160b, q160c⟩ := isOf hZ eh146 f149
      obtain ⟨v160, _, ⟨T160, L160, k160, n160⟩, -, X160, ⟨Lc160, hQ160, l160, y160, z160⟩, st160⟩ := X146.virtualBack hx (y := (⟨"com/example/roamd/roamd/net/DelayedAck", "arrived", "(IIZJ)V"⟩ : MethodName)) (z := (⟨"com/example/roamd/roamd/net/DelayedAck", "arrived", "(IIZJ)V"⟩ : MethodName)) hown (mvT hZ (hw _ (List.mem_of_getElem? (i := 9) rfl))) (mvT hZ (hw _ (List.mem_of_getElem? (i := 10) rfl))) (notFace_of_selects (args := #[]) (mvT hZ (hw _ (List.mem_of_getElem? (i := 12) rfl)))) (mvT hZ (hw _ (List.mem_of_getElem? (i := 12) rfl))) (mvT hZ (hw _ (List.mem_of_getElem? (i := 11) rfl))) (by decide) (backOf (W := 0) (rm3 l Z a0 hw [] b65 (1 : Int32) (1 : Int32) (1 : Int32) x157 (0 : Int32) x61 (1 : Int32) x61 x92 (0 : Int32) h146 n0 O156 S_DELAY_NANOS S_ALONE_DELAY_NANOS f149 p146_0 p146_1 p146_2 p146_3 p146_4 p146_5 G67) hZ (hw _ (List.mem_of_getElem? (i := 13) rfl)) (hw _ (List.mem_of_getElem? (i := 2) rfl)) (by decide) (by decide)) q160a q160c (g := (mkF m 396 #[iv pi0, iv pi1, jv pj2, .second, jv pj3, .second, jv pj4, .second, jv pj5, .second, iv x2, iv x9, iv x16, iv x23, iv x30, iv x37, iv x43, iv x45, iv x48, iv x55, jv x61, .second, jv x63, .second, rv b65, jv (150000000 : Int64), .second, iv x43, iv x98, jv x110, .second, jv x113, .second, iv x120, iv (1 : Int32), jv x61, .second, jv x157, .second, .unset, .unset, .unset] [(.long x157), (.int (1 : Int32)), (.int (1 : Int32)), (.int (1 : Int32)), (.ref b65)])) rfl (by rw [hml]; rfl) (Steps.refl _) (argsL := [(.int (1 : Int32)), (.int (1 : Int32)), (.int (1 : Int32)), (.long x157)]) (rest := []) (lenOf pd__IIZJ_V rfl) rfl (by show 2 * 0 + _ ≤ _; exact Nat.le_of_eq rfl) (hb hby at_396) (fun _ _ => ⟨rfl, eh146, (by decide : 1 + 0 ≤ _), (by decide : 6 + 0 ≤ _)⟩)
      dsimp only [Pt.U, Pt.locs, Pt.cells, Pt.slots] at X160 l160 y160 z160 st160 hQ160
      subst l160 y160 z160
      obtain ⟨hv160, N160q, K160q, p160_0, p160_1, p160_2, p160_3, p160_4, p160_5⟩ := hQ160
      have N161 := Fr.app N147 N160q
      subst hv160
      have pre162 : ∀ t, Steps p.tables e below (T160.setTop (mkF m 399 #[iv pi0, iv pi1, jv pj2, .second, jv pj3, .second, jv pj4, .second, jv pj5, .second, iv x2, iv x9, iv x16, iv x23, iv x30, iv x37, iv x43, iv x45, iv x48, iv x55, jv x61, .second, jv x63, .second, rv b65, jv (150000000 : Int64), .second, iv x43, iv x98, jv x110, .second, jv x113, .second, iv x120, iv (1 : Int32), jv x61, .second, jv x157, .second, .unset, .unset, .unset] [])) t → Go t := fun t kt => pre159 t (st160.trans kt)
      obtain ⟨h160, eh160⟩ : ∃ z, T160.heap = z := ⟨_, rfl⟩
      rw [eh160] at K160q p160_0 p160_1 p160_2 p160_3 p160_4 p160_5
      have f163 : Exa Z h160 b65 "com/example/roamd/roamd/net/DelayedAck" := (f149.keep K160q)
      obtain ⟨x170, hx170⟩ : ∃ z : Int32, z = ((0 : Int32) + (1 : Int32)) := ⟨_, rfl⟩
      rw [← hx170] at p160_0
      rw [if_pos (rfl : (0 : Int32) = (0 : Int32))] at p160_1
      rw [if_pos (rfl : (0 : Int32) = (0 : Int32))] at p160_4
      obtain ⟨x171, hx171⟩ : ∃ z : Int64, z = (if (if (1 : Int32) = (0 : Int32) then (0 : Int32) else (if (700000000 : Int64) < (x157 - x61) then (0 : Int32) else (1 : Int32))) = (0 : Int32) then (150000000 : Int64) else (700000000 : Int64)) := ⟨_, rfl⟩
      rw [← hx171] at p160_4
      obtain ⟨x172, hx172⟩ : ∃ z : Int32, z = (nar .boolean ((0 : Int32) ||| (if (1 : Int32) = (1 : Int32) then (if (1 : Int32) = (0 : Int32) then (1 : Int32) else (if ((0 : Int32) + (1 : Int32)) < (16 : Int32) then (0 : Int32) else (1 : Int32))) else (1 : Int32)))) := ⟨_, rfl⟩
      rw [← hx172] at p160_5
      have O173 := O156.keep K160q (allS G67 all0)
      have pre174 : ∀ t, Steps p.tables e below (T160.setTop (mkF m 405 #[iv pi0, iv pi1, jv pj2, .second, jv pj3, .second, jv pj4, .second, jv pj5, .second, iv x2, iv x9, iv x16, iv x23, iv x30, iv x37, iv x43, iv x45, iv x48, iv x55, jv x61, .second, jv x63, .second, rv b65, jv (150000000 : Int64), .second, iv x43, iv x98, jv x110, .second, jv x113, .second, iv x120, iv (1 : Int32), jv x61, .second, jv x157, .second, .unset, .unset, .unset] [(.int (lcmpW pj3 (700000000 : Int64)))])) t → Go t := fun t kt => pre162 t (by
          refine y_lload X160.here hx (hb hby at_399) rfl (pc' := 401) rfl ?_
          refine X160.ldc2Long hx hown (mvT hZ (hw _ (List.mem_of_getElem? (i := 46) rfl))) (g := (mkF m 401 #[iv pi0, iv pi1, jv pj2, .second, jv pj3, .second, jv pj4, .second, jv pj5, .second, iv x2, iv x9, iv x16, iv x23, iv x30, iv x37, iv x43, iv x45, iv x48, iv x55, jv x61, .second, jv x63, .second, rv b65, jv (150000000 : Int64), .second, iv x43, iv x98, jv x110, .second, jv x113, .second, iv x120, iv (1 : Int32), jv x61, .second, jv x157, .second, .unset, .unset, .unset] [(.long pj3)])) rfl (hb hby at_401) _ ?_
          show Steps p.tables e below (T160.setTop (mkF m 404 #[iv pi0, iv pi1, jv pj2, .second, jv pj3, .second, jv pj4, .second, jv pj5, .second, iv x2, iv x9, iv x16, iv x23, iv x30, iv x37, iv x43, iv x45, iv x48, iv x55, jv x61, .second, jv x63, .second, rv b65, jv (150000000 : Int64), .second, iv x43, iv x98, jv x110, .second, jv x113, .second, iv x120, iv (1 : Int32), jv x61, .second, jv x157, .second, .unset, .unset, .unset] [(.long (700000000 : Int64)), (.long pj3)])) _
          refine y_lcmp X160.here hx (hb hby at_404) (pc' := 405) rfl ?_
          exact kt)
      obtain ⟨x175, hx175⟩ : ∃ z : Int64, z = (if (700000000 : Int64) < pj3 then (150000000 : Int64) else (700000000 : Int64)) := ⟨_, rfl⟩
      obtain ⟨T176, ⟨X176, q176⟩, st176⟩ : ∃ T', Nx X160 T' ∧ ∀ t, Steps p.tables e below (T'.setTop (mkF m 417 #[iv pi0, iv pi1, jv pj2, .second, jv pj3, .second, jv pj4, .second, jv pj5, .second, iv x2, iv x9, iv x16, iv x23, iv x30, iv x37, iv x43, iv x45, iv x48, iv x55, jv x61, .second, jv x63, .second, rv b65, jv (150000000 : Int64), .second, iv x43, iv x98, jv x110, .second, jv x113, .second, iv x120, iv (1 : Int32), jv x61, .second, jv x157, .second, .unset, .unset, .unset] [(.long x175)])) t → Steps p.tables e below (T160.setTop (mkF m 405 #[iv pi0, iv pi1, jv pj2, .second, jv pj3, .second, jv pj4, .second, jv pj5, .second, iv x2, iv x9, iv x16, iv x23, iv x30, iv x37, iv x43, iv x45, iv x48, iv x55, jv x61, .second, jv x63, .second, rv b65, jv (150000000 : Int64), .second, iv x43, iv x98, jv x110, .second, jv x113, .second, iv x120, iv (1 : Int32), jv x61, .second, jv x157, .second, .unset, .unset, .unset] [(.int (lcmpW pj3 (700000000 : Int64)))])) t := by
        have pre176_ : ∀ t, Steps p.tables e below (T160.setTop (mkF m 405 #[iv pi0, iv pi1, jv pj2, .second, jv pj3, .second, jv pj4, .second, jv pj5, .second, iv x2, iv x9, iv x16, iv x23, iv x30, iv x37, iv x43, iv x45, iv x48, iv x55, jv x61, .second, jv x63, .second, rv b65, jv (150000000 : Int64), .second, iv x43, iv x98, jv x110, .second, jv x113, .second, iv x120, iv (1 : Int32), jv x61, .second, jv x157, .second, .unset, .unset, .unset] [(.int (lcmpW pj3 (700000000 : Int64)))])) t → Steps p.tables e below (T160.setTop (mkF m 405 #[iv pi0, iv pi1, jv pj2, .second, jv pj3, .second, jv pj4, .second, jv pj5, .second, iv x2, iv x9, iv x16, iv x23, iv x30, iv x37, iv x43, iv x45, iv x48, iv x55, jv x61, .second, jv x63, .second, rv b65, jv (150000000 : Int64), .second, iv x43, iv x98, jv x110, .second, jv x113, .second, iv x120, iv (1 : Int32), jv x61, .second, jv x157, .second, .unset, .unset, .unset] [(.int (lcmpW pj3 (700000000 : Int64)))])) t := fun t kt => kt
        subst hx175
        by_cases hm405_177 : (700000000 : Int64) < pj3
        · have pre178 : ∀ t, Steps p.tables e below (T160.setTop (mkF m 417 #[iv pi0, iv pi1, jv pj2, .second, jv pj3, .second, jv pj4, .second, jv pj5, .second, iv x2, iv x9, iv x16, iv x23, iv x30, iv x37, iv x43, iv x45, iv x48, iv x55, jv x61, .second, jv x63, .second, rv b65, jv (150000000 : Int64), .second, iv x43, iv x98, jv x110, .second, jv x113, .second, iv x120, iv (1 : Int32), jv x61, .second, jv x157, .second, .unset, .unset, .unset] [(.long (150000000 : Int64))])) t → Steps p.tables e below (T160.setTop (mkF m 405 #[iv pi0, iv pi1, jv pj2, .second, jv pj3, .second, jv pj4, .second, jv pj5, .second, iv x2, iv x9, iv x16, iv x23, iv x30, iv x37, iv x43, iv x45, iv x48, iv x55, jv x61, .second, jv x63, .second, rv b65, jv (150000000 : Int64), .second, iv x43, iv x98, jv x110, .second, jv x113, .second, iv x120, iv (1 : Int32), jv x61, .second, jv x157, .second, .unset, .unset, .unset] [(.int (lcmpW pj3 (700000000 : Int64)))])) t := fun t kt => pre176_ t (by
              refine y_ifYes X160.here hx (hb hby at_405) ((if0 _ _).trans (tlt (lq_gt hm405_177)).2.2.1) (pc' := 414) (by decide) rfl ?_
              refine X160.ldc2Long hx hown (mvT hZ (hw _ (List.mem_of_getElem? (i := 28) rfl))) (g := (mkF m 414 #[iv pi0, iv pi1, jv pj2, .second, jv pj3, .second, jv pj4, .second, jv pj5, .second, iv x2, iv x9, iv x16, iv x23, iv x30, iv x37, iv x43, iv x45, iv x48, iv x55, jv x61, .second, jv x63, .second, rv b65, jv (150000000 : Int64), .second, iv x43, iv x98, jv x110, .second, jv x113, .second, iv x120, iv (1 : Int32), jv x61, .second, jv x157, .second, .unset, .unset, .unset] [])) rfl (hb hby at_414) _ ?_
              show Steps p.tables e below (T160.setTop (mkF m 417 #[iv pi0, iv pi1, jv pj2, .second, jv pj3, .second, jv pj4, .second, jv pj5, .second, iv x2, iv x9, iv x16, iv x23, iv x30, iv x37, iv x43, iv x45, iv x48, iv x55, jv x61, .second, jv x63, .second, rv b65, jv (150000000 : Int64), .second, iv x43, iv x98, jv x110, .second, jv x113, .second, iv x120, iv (1 : Int32), jv x61, .second, jv x157, .second, .unset, .unset, .unset] [(.long (150000000 : Int64))])) _
              exact kt)
          refine ⟨T160, ⟨X160, eh160.trans eh160.symm⟩, fun t kt => pre178 t ?_⟩
          (try simp only [if_pos hm405_177] at kt)
          exact kt
        · have pre179 : ∀ t, Steps p.tables e below (T160.setTop (mkF m 417 #[iv pi0, iv pi1, jv pj2, .second, jv pj3, .second, jv pj4, .second, jv pj5, .second, iv x2, iv x9, iv x16, iv x23, iv x30, iv x37, iv x43, iv x45, iv x48, iv x55, jv x61, .second, jv x63, .second, rv b65, jv (150000000 : Int64), .second, iv x43, iv x98, jv x110, .second, jv x113, .second, iv x120, iv (1 : Int32), jv x61, .second, jv x157, .second, .unset, .unset, .unset] [(.long (700000000 : Int64))])) t → Steps p.tables e below (T160.setTop (mkF m 405 #[iv pi0, iv pi1, jv pj2, .second, jv pj3, .second, jv pj4, .second, jv pj5, .second, iv x2, iv x9, iv x16, iv x23, iv x30, iv x37, iv x43, iv x45, iv x48, iv x55, jv x61, .second, jv x63, .second, rv b65, jv (150000000 : Int64), .second, iv x43, iv x98, jv x110, .second, jv x113, .second, iv x120, iv (1 : Int32), jv x61, .second, jv x157, .second, .unset, .unset, .unset] [(.int (lcmpW pj3 (700000000 : Int64)))])) t := fun t kt => pre176_ t (by
              refine y_ifNo X160.here hx (hb hby at_405) ((if0 _ _).trans (flt (lq_ngt hm405_177)).2.2.1) (pc' := 408) rfl ?_
              refine X160.ldc2Long hx hown (mvT hZ (hw _ (List.mem_of_getElem? (i := 46) rfl))) (g := (mkF m 408 #[iv pi0, iv pi1, jv pj2, .second, jv pj3, .second, jv pj4, .second, jv pj5, .second, iv x2, iv x9, iv x16, iv x23, iv x30, iv x37, iv x43, iv x45, iv x48, iv x55, jv x61, .second, jv x63, .second, rv b65, jv (150000000 : Int64), .second, iv x43, iv x98, jv x110, .second, jv x113, .second, iv x120, iv (1 : Int32), jv x61, .second, jv x157, .second, .unset, .unset, .unset] [])) rfl (hb hby at_408) _ ?_
              show Steps p.tables e below (T160.setTop (mkF m 411 #[iv pi0, iv pi1, jv pj2, .second, jv pj3, .second, jv pj4, .second, jv pj5, .second, iv x2, iv x9, iv x16, iv x23, iv x30, iv x37, iv x43, iv x45, iv x48, iv x55, jv x61, .second, jv x63, .second, rv b65, jv (150000000 : Int64), .second, iv x43, iv x98, jv x110, .second, jv x113, .second, iv x120, iv (1 : Int32), jv x61, .second, jv x157, .second, .unset, .unset, .unset] [(.long (700000000 : Int64))])) _
              refine y_goto X160.here hx (hb hby at_411) (pc' := 417) (by decide) rfl ?_
              exact kt)
          refine ⟨T160, ⟨X160, eh160.trans eh160.symm⟩, fun t kt => pre179 t ?_⟩
          (try simp only [if_neg hm405_177] at kt)
          exact kt
      have e176 : T176.heap = h160 := q176.trans eh160
      have pre180 : ∀ t, Steps p.tables e below (T176.setTop (mkF m 417 #[iv pi0, iv pi1, jv pj2, .second, jv pj3, .second, jv pj4, .second, jv pj5, .second, iv x2, iv x9, iv x16, iv x23, iv x30, iv x37, iv x43, iv x45, iv x48, iv x55, jv x61, .second, jv x63, .second, rv b65, jv (150000000 : Int64), .second, iv x43, iv x98, jv x110, .second, jv x113, .second, iv x120, iv (1 : Int32), jv x61, .second, jv x157, .second, .unset, .unset, .unset] [(.long x175)])) t → Go t := fun t kt => pre174 t (st176 t kt)
      have pre181 : ∀ t, Steps p.tables e below (T176.setTop (mkF m 423 #[iv pi0, iv pi1, jv pj2, .second, jv pj3, .second, jv pj4, .second, jv pj5, .second, iv x2, iv x9, iv x16, iv x23, iv x30, iv x37, iv x43, iv x45, iv x48, iv x55, jv x61, .second, jv x63, .second, rv b65, jv (150000000 : Int64), .second, iv x43, iv x98, jv x110, .second, jv x113, .second, iv x120, iv (1 : Int32), jv x61, .second, jv x157, .second, jv x175, .second, .unset] [(.long x157), (.ref b65)])) t → Go t := fun t kt => pre180 t (by
          refine y_lstore X176.here hx (hb hby at_417) (l' := #[iv pi0, iv pi1, jv pj2, .second, jv pj3, .second, jv pj4, .second, jv pj5, .second, iv x2, iv x9, iv x16, iv x23, iv x30, iv x37, iv x43, iv x45, iv x48, iv x55, jv x61, .second, jv x63, .second, rv b65, jv (150000000 : Int64), .second, iv x43, iv x98, jv x110, .second, jv x113, .second, iv x120, iv (1 : Int32), jv x61, .second, jv x157, .second, jv x175, .second, .unset]) rfl (pc' := 419) rfl ?_
          refine y_aload X176.here hx (hb hby at_419) rfl rfl (pc' := 421) rfl ?_
          refine y_lload X176.here hx (hb hby at_421) rfl (pc' := 423) rfl ?_
          exact kt)
      obtain ⟨cq182, kq182, q182a, q182b, q182c⟩ := isOf hZ e176 f163
      obtain ⟨v182, _, ⟨T182, L182, k182, n182⟩, -, X182, ⟨Lc182, hQ182, l182, y182, z182⟩, st182⟩ := X176.virtualBack hx (y := (⟨"com/example/roamd/roamd/net/DelayedAck", "waitNanos", "(J)J"⟩ : MethodName)) (z := (⟨"com/example/roamd/roamd/net/DelayedAck", "waitNanos", "(J)J"⟩ : MethodName)) hown (mvT hZ (hw _ (List.mem_of_getElem? (i := 29) rfl))) (mvT hZ (hw _ (List.mem_of_getElem? (i := 30) rfl))) (notFace_of_selects (args := #[]) (mvT hZ (hw _ (List.mem_of_getElem? (i := 32) rfl)))) (mvT hZ (hw _ (List.mem_of_getElem? (i := 32) rfl))) (mvT hZ (hw _ (List.mem_of_getElem? (i := 31) rfl))) (by decide) (backOf (W := 0) (rm4 l Z a0 hw [] b65 x157 x170 x157 x171 x172 h160 n0 O173 f163 p160_0 p160_1 p160_4 p160_5) hZ (hw _ (List.mem_of_getElem? (i := 33) rfl)) (hw _ (List.mem_of_getElem? (i := 2) rfl)) (by decide) (by decide)) q182a q182c (g := (mkF m 423 #[iv pi0, iv pi1, jv pj2, .second, jv pj3, .second, jv pj4, .second, jv pj5, .second, iv x2, iv x9, iv x16, iv x23, iv x30, iv x37, iv x43, iv x45, iv x48, iv x55, jv x61, .second, jv x63, .second, rv b65, jv (150000000 : Int64), .second, iv x43, iv x98, jv x110, .second, jv x113, .second, iv x120, iv (1 : Int32), jv x61, .second, jv x157, .second, jv x175, .second, .unset] [(.long x157), (.ref b65)])) rfl (by rw [hml]; rfl) (Steps.refl _) (argsL := [(.long x157)]) (rest := []) (lenOf pd__J_J rfl) rfl (by show 2 * 0 + _ ≤ _; exact Nat.le_of_eq rfl) (hb hby at_423) (fun _ _ => ⟨rfl, e176, (by decide : 1 + 0 ≤ _), (by decide : 6 + 0 ≤ _)⟩)
      dsimp only [Pt.U, Pt.locs, Pt.cells, Pt.slots] at X182 l182 y182 z182 st182 hQ182
      subst l182 y182 z182
      obtain ⟨hv182, N182q, e182q⟩ := hQ182
      have N183 := Fr.app N161 N182q
      have hw182 := hv182
      obtain ⟨x184, hx184⟩ : ∃ z : Int64, z = (if x170 = (0 : Int32) then (9223372036854775807 : Int64) else (if x172 = (0 : Int32) then ((x157 + x171) - x157) else (0 : Int64))) := ⟨_, rfl⟩
      rw [← hx184] at hw182
      subst hw182
      have pre185 : ∀ t, Steps p.tables e below (T182.setTop (mkF m 426 #[iv pi0, iv pi1, jv pj2, .second, jv pj3, .second, jv pj4, .second, jv pj5, .second, iv x2, iv x9, iv x16, iv x23, iv x30, iv x37, iv x43, iv x45, iv x48, iv x55, jv x61, .second, jv x63, .second, rv b65, jv (150000000 : Int64), .second, iv x43, iv x98, jv x110, .second, jv x113, .second, iv x120, iv (1 : Int32), jv x61, .second, jv x157, .second, jv x175, .second, .unset] [(.long x184)])) t → Go t := fun t kt => pre181 t (st182.trans kt)
      have pre187 : ∀ t, Steps p.tables e below (T182.setTop (mkF m 429 #[iv pi0, iv pi1, jv pj2, .second, jv pj3, .second, jv pj4, .second, jv pj5, .second, iv x2, iv x9, iv x16, iv x23, iv x30, iv x37, iv x43, iv x45, iv x48, iv x55, jv x61, .second, jv x63, .second, rv b65, jv (150000000 : Int64), .second, iv x43, iv x98, jv x110, .second, jv x113, .second, iv x120, iv (1 : Int32), jv x61, .second, jv x157, .second, jv x175, .second, .unset] [(.int (lcmpW x184 x175))])) t → Go t := fun t kt => pre185 t (by
          refine y_lload X182.here hx (hb hby at_426) rfl (pc' := 428) rfl ?_
          refine y_lcmp X182.here hx (hb hby at_428) (pc' := 429) rfl ?_
          exact kt)
      have hf429_186 : x184 = x175 := by
          exact law0_188 pj2 pj3 x2 x23 x43 x45 x61 x157 x170 x171 x172 x175 x184 hx157 hx170 hx171 hx172 hx175 hx184 hc155_79 hc187_96 B1 B2 A1
      have pre189 : ∀ t, Steps p.tables e below (T182.setTop (mkF m 436 #[iv pi0, iv pi1, jv pj2, .second, jv pj3, .second, jv pj4, .second, jv pj5, .second, iv x2, iv x9, iv x16, iv x23, iv x30, iv x37, iv x43, iv x45, iv x48, iv x55, jv x61, .second, jv x63, .second, rv b65, jv (150000000 : Int64), .second, iv x43, iv x98, jv x110, .second, jv x113, .second, iv x120, iv (1 : Int32), jv x61, .second, jv x157, .second, jv x175, .second, .unset] [(.long x157), (.ref b65)])) t → Go t := fun t kt => pre187 t (by
          refine y_ifNo X182.here hx (hb hby at_429) ((if0 _ _).trans (teq (lq_eq hf429_186)).2) (pc' := 432) rfl ?_
          refine y_aload X182.here hx (hb hby at_432) rfl rfl (pc' := 434) rfl ?_
          refine y_lload X182.here hx (hb hby at_434) rfl (pc' := 436) rfl ?_
          exact kt)
      obtain ⟨cq190, kq190, q190a, q190b, q190c⟩ := isOf hZ e182q f163
      obtain ⟨v190, _, ⟨T190, L190, k190, n190⟩, -, X190, ⟨Lc190, hQ190, l190, y190, z190⟩, st190⟩ := X182.virtualBack hx (y := (⟨"com/example/roamd/roamd/net/DelayedAck", "due", "(J)Z"⟩ : MethodName)) (z := (⟨"com/example/roamd/roamd/net/DelayedAck", "due", "(J)Z"⟩ : MethodName)) hown (mvT hZ (hw _ (List.mem_of_getElem? (i := 34) rfl))) (mvT hZ (hw _ (List.mem_of_getElem? (i := 35) rfl))) (notFace_of_selects (args := #[]) (mvT hZ (hw _ (List.mem_of_getElem? (i := 37) rfl)))) (mvT hZ (hw _ (List.mem_of_getElem? (i := 37) rfl))) (mvT hZ (hw _ (List.mem_of_getElem? (i := 36) rfl))) (by decide) (backOf (W := 0) (rm5 l Z a0 hw [] b65 x157 x170 x157 x171 x172 h160 n0 O173 f163 p160_0 p160_1 p160_4 p160_5) hZ (hw _ (List.mem_of_getElem? (i := 38) rfl)) (hw _ (List.mem_of_getElem? (i := 2) rfl)) (by decide) (by decide)) q190a q190c (g := (mkF m 436 #[iv pi0, iv pi1, jv pj2, .second, jv pj3, .second, jv pj4, .second, jv pj5, .second, iv x2, iv x9, iv x16, iv x23, iv x30, iv x37, iv x43, iv x45, iv x48, iv x55, jv x61, .second, jv x63, .second, rv b65, jv (150000000 : Int64), .second, iv x43, iv x98, jv x110, .second, jv x113, .second, iv x120, iv (1 : Int32), jv x61, .second, jv x157, .second, jv x175, .second, .unset] [(.long x157), (.ref b65)])) rfl (by rw [hml]; rfl) (Steps.refl _) (argsL := [(.long x157)]) (rest := []) (lenOf pd__J_Z rfl) rfl (by show 2 * 0 + _ ≤ _; exact Nat.le_of_eq rfl) (hb hby at_436) (fun _ _ => ⟨rfl, e182q, (by decide : 1 + 0 ≤ _), (by decide : 6 + 0 ≤ _)⟩)
      dsimp only [Pt.U, Pt.locs, Pt.cells, Pt.slots] at X190 l190 y190 z190 st190 hQ190
      subst l190 y190 z190
      obtain ⟨hv190, N190q, e190q⟩ := hQ190
      have N191 := Fr.app N183 N190q
      have hw190 := hv190
      obtain ⟨x192, hx192⟩ : ∃ z : Int32, z = (if x172 = (0 : Int32) then (if (0 : Int32) < x170 then (if (x157 - x157) < x171 then (0 : Int32) else (1 : Int32)) else (0 : Int32)) else (1 : Int32)) := ⟨_, rfl⟩
      rw [← hx192] at hw190
      subst hw190
      have pre193 : ∀ t, Steps p.tables e below (T190.setTop (mkF m 439 #[iv pi0, iv pi1, jv pj2, .second, jv pj3, .second, jv pj4, .second, jv pj5, .second, iv x2, iv x9, iv x16, iv x23, iv x30, iv x37, iv x43, iv x45, iv x48, iv x55, jv x61, .second, jv x63, .second, rv b65, jv (150000000 : Int64), .second, iv x43, iv x98, jv x110, .second, jv x113, .second, iv x120, iv (1 : Int32), jv x61, .second, jv x157, .second, jv x175, .second, .unset] [(.int x192)])) t → Go t := fun t kt => pre189 t (st190.trans kt)
      have hf439_194 : x192 = (0 : Int32) := by
          exact law0_195 pj2 pj3 x2 x23 x43 x45 x61 x157 x170 x171 x172 x192 hx157 hx170 hx171 hx172 hx192 hc155_79 hc187_96 B1 B2 A1
      have pre196 : ∀ t, Steps p.tables e below (T190.setTop (mkF m 464 #[iv pi0, iv pi1, jv pj2, .second, jv pj3, .second, jv pj4, .second, jv pj5, .second, iv x2, iv x9, iv x16, iv x23, iv x30, iv x37, iv x43, iv x45, iv x48, iv x55, jv x61, .second, jv x63, .second, rv b65, jv (150000000 : Int64), .second, iv x43, iv x98, jv x110, .second, jv x113, .second, iv x120, iv (1 : Int32), jv x61, .second, jv x157, .second, jv x175, .second, iv (1 : Int32)] [(.int (1 : Int32))])) t → Go t := fun t kt => pre193 t (by
          refine y_ifNo X190.here hx (hb hby at_439) ((if0 _ _).trans (teq hf439_194).2) (pc' := 442) rfl ?_
          refine y_iconst X190.here hx (hb hby at_442) (v := (1 : Int32)) rfl (pc' := 443) rfl ?_
          refine y_goto X190.here hx (hb hby at_443) (pc' := 447) (by decide) rfl ?_
          refine y_istore X190.here hx (hb hby at_447) (l' := #[iv pi0, iv pi1, jv pj2, .second, jv pj3, .second, jv pj4, .second, jv pj5, .second, iv x2, iv x9, iv x16, iv x23, iv x30, iv x37, iv x43, iv x45, iv x48, iv x55, jv x61, .second, jv x63, .second, rv b65, jv (150000000 : Int64), .second, iv x43, iv x98, jv x110, .second, jv x113, .second, iv x120, iv (1 : Int32), jv x61, .second, jv x157, .second, jv x175, .second, iv (1 : Int32)]) rfl (pc' := 449) rfl ?_
          refine y_iload X190.here hx (hb hby at_449) rfl (pc' := 451) rfl ?_
          refine y_ifNo X190.here hx (hb hby at_451) ((if0 _ _).trans (feq (by decide : ¬ ((1 : Int32) = (0 : Int32)))).1) (pc' := 454) rfl ?_
          refine y_iload X190.here hx (hb hby at_454) rfl (pc' := 456) rfl ?_
          refine y_ifNo X190.here hx (hb hby at_456) ((if0 _ _).trans (feq (by decide : ¬ ((1 : Int32) = (0 : Int32)))).1) (pc' := 459) rfl ?_
          refine y_iconst X190.here hx (hb hby at_459) (v := (1 : Int32)) rfl (pc' := 460) rfl ?_
          refine y_goto X190.here hx (hb hby at_460) (pc' := 464) (by decide) rfl ?_
          exact kt)
      obtain ⟨fs, hr, hrun, hended, hW, hsame⟩ := X190.leave (v := some (.int (1 : Int32))) (fun h => by rw [Bd.returns] at h; cases h)
      refine ⟨_, _, (hGo _).mp (pre196 _ ?_), hrun, hended, _, _, rfl, ?_, ⟨_, rfl⟩, hW, hsame.mono (by decide) (by decide)⟩
      · exact retN X190 hx (t := .boolean) Bd.returns (by simp) (hb hby at_464) hr
      · show Q0 Z pi0 pi1 pj2 pj3 pj4 pj5 h0 n0 _ T190.heap _
        rw [e190q]
        exact ⟨rfl, N191⟩
    · have pre197 : ∀ t, Steps p.tables e below (T81.setTop (mkF m 200 #[iv pi0, iv pi1, jv pj2, .second, jv pj3, .second, jv pj4, .second, jv pj5, .second, iv x2, iv x9, iv x16, iv x23, iv x30, iv x37, iv x43, iv x45, iv x48, iv x55, jv x61, .second, jv x63, .second, rv b65, .unset, .unset, .unset, .unset, .unset, .unset, .unset, .unset, .unset, .unset, .unset, .unset, .unset, .unset, .unset, .unset, .unset] [(.long x63), (.int x30), (.int x55), (.int x45), (.ref b65)])) t → Go t := fun t kt => pre95 t (by
          refine y_ifNo X81.here hx (hb hby at_187) ((if0 _ _).trans (feq hc187_96).1) (pc' := 190) rfl ?_
          refine y_aload X81.here hx (hb hby at_190) rfl rfl (pc' := 192) rfl ?_
          refine y_iload X81.here hx (hb hby at_192) rfl (pc' := 194) rfl ?_
          refine y_iload X81.here hx (hb hby at_194) rfl (pc' := 196) rfl ?_
          refine y_iload X81.here hx (hb hby at_196) rfl (pc' := 198) rfl ?_
          refine y_lload X81.here hx (hb hby at_198) rfl (pc' := 200) rfl ?_
          exact kt)
      obtain ⟨cq198, kq198, q198a, q198b, q198c⟩ := isOf hZ eh81 f84
      obtain ⟨v198, _, ⟨T198, L198, k198, n198⟩, -, X198, ⟨Lc198, hQ198, l198, y198, z198⟩, st198⟩ := X81.virtualBack hx (y := (⟨"com/example/roamd/roamd/net/DelayedAck", "arrived", "(IIZJ)V"⟩ : MethodName)) (z := (⟨"com/example/roamd/roamd/net/DelayedAck", "arrived", "(IIZJ)V"⟩ : MethodName)) hown (mvT hZ (hw _ (List.mem_of_getElem? (i := 9) rfl))) (mvT hZ (hw _ (List.mem_of_getElem? (i := 10) rfl))) (notFace_of_selects (args := #[]) (mvT hZ (hw _ (List.mem_of_getElem? (i := 12) rfl)))) (mvT hZ (hw _ (List.mem_of_getElem? (i := 12) rfl))) (mvT hZ (hw _ (List.mem_of_getElem? (i := 11) rfl))) (by decide) (backOf (W := 0) (rm3 l Z a0 hw [] b65 x45 x55 x30 x63 x91 x61 (1 : Int32) x61 x92 x93 h81 n0 O94 S_DELAY_NANOS S_ALONE_DELAY_NANOS f84 p81_0 p81_1 p81_2 p81_3 p81_4 p81_5 G67) hZ (hw _ (List.mem_of_getElem? (i := 13) rfl)) (hw _ (List.mem_of_getElem? (i := 2) rfl)) (by decide) (by decide)) q198a q198c (g := (mkF m 200 #[iv pi0, iv pi1, jv pj2, .second, jv pj3, .second, jv pj4, .second, jv pj5, .second, iv x2, iv x9, iv x16, iv x23, iv x30, iv x37, iv x43, iv x45, iv x48, iv x55, jv x61, .second, jv x63, .second, rv b65, .unset, .unset, .unset, .unset, .unset, .unset, .unset, .unset, .unset, .unset, .unset, .unset, .unset, .unset, .unset, .unset, .unset] [(.long x63), (.int x30), (.int x55), (.int x45), (.ref b65)])) rfl (by rw [hml]; rfl) (Steps.refl _) (argsL := [(.int x45), (.int x55), (.int x30), (.long x63)]) (rest := []) (lenOf pd__IIZJ_V rfl) rfl (by show 2 * 0 + _ ≤ _; exact Nat.le_of_eq rfl) (hb hby at_200) (fun _ _ => ⟨rfl, eh81, (by decide : 1 + 0 ≤ _), (by decide : 6 + 0 ≤ _)⟩)
      dsimp only [Pt.U, Pt.locs, Pt.cells, Pt.slots] at X198 l198 y198 z198 st198 hQ198
      subst l198 y198 z198
      obtain ⟨hv198, N198q, K198q, p198_0, p198_1, p198_2, p198_3, p198_4, p198_5⟩ := hQ198
      have N199 := Fr.app N82 N198q
      subst hv198
      have pre200 : ∀ t, Steps p.tables e below (T198.setTop (mkF m 203 #[iv pi0, iv pi1, jv pj2, .second, jv pj3, .second, jv pj4, .second, jv pj5, .second, iv x2, iv x9, iv x16, iv x23, iv x30, iv x37, iv x43, iv x45, iv x48, iv x55, jv x61, .second, jv x63, .second, rv b65, .unset, .unset, .unset, .unset, .unset, .unset, .unset, .unset, .unset, .unset, .unset, .unset, .unset, .unset, .unset, .unset, .unset] [])) t → Go t := fun t kt => pre197 t (st198.trans kt)
      obtain ⟨h198, eh198⟩ : ∃ z, T198.heap = z := ⟨_, rfl⟩
      rw [eh198] at K198q p198_0 p198_1 p198_2 p198_3 p198_4 p198_5
      have f201 : Exa Z h198 b65 "com/example/roamd/roamd/net/DelayedAck" := (f84.keep K198q)
      obtain ⟨x208, hx208⟩ : ∃ z : Int32, z = (x91 + x45) := ⟨_, rfl⟩
      rw [← hx208] at p198_0
      obtain ⟨x209, hx209⟩ : ∃ z : Int64, z = (if x91 = (0 : Int32) then x63 else x61) := ⟨_, rfl⟩
      rw [← hx209] at p198_1
      obtain ⟨x210, hx210⟩ : ∃ z : Int64, z = (if x91 = (0 : Int32) then (if (if (1 : Int32) = (0 : Int32) then (0 : Int32) else (if (700000000 : Int64) < (x63 - x61) then (0 : Int32) else (1 : Int32))) = (0 : Int32) then (150000000 : Int64) else (700000000 : Int64)) else x92) := ⟨_, rfl⟩
      rw [← hx210] at p198_4
      obtain ⟨x211, hx211⟩ : ∃ z : Int32, z = (nar .boolean (x93 ||| (if x55 = x45 then (if x30 = (0 : Int32) then (1 : Int32) else (if (x91 + x45) < (16 : Int32) then (0 : Int32) else (1 : Int32))) else (1 : Int32)))) := ⟨_, rfl⟩
      rw [← hx211] at p198_5
      have O212 := O94.keep K198q (allS G67 all0)
      obtain ⟨x213, hx213⟩ : ∃ z : Int32, z = (x43 + x45) := ⟨_, rfl⟩
      have pre214 : ∀ t, Steps p.tables e below (T198.setTop (mkF m 245 #[iv pi0, iv pi1, jv pj2, .second, jv pj3, .second, jv pj4, .second, jv pj5, .second, iv x2, iv x9, iv x16, iv x23, iv x30, iv x37, iv x43, iv x45, iv x48, iv x55, jv x61, .second, jv x63, .second, rv b65, jv (150000000 : Int64), .second, iv x213, .unset, .unset, .unset, .unset, .unset, .unset, .unset, .unset, .unset, .unset, .unset, .unset, .unset, .unset] [])) t → Go t := fun t kt => pre200 t (by
          subst hx213
          refine y_iload X198.here hx (hb hby at_203) rfl (pc' := 205) rfl ?_
          refine y_ifYes X198.here hx (hb hby at_205) ((if0 _ _).trans (teq hc155_79).1) (pc' := 223) (by decide) rfl ?_
          refine X198.ldc2Long hx hown (mvT hZ (hw _ (List.mem_of_getElem? (i := 28) rfl))) (g := (mkF m 223 #[iv pi0, iv pi1, jv pj2, .second, jv pj3, .second, jv pj4, .second, jv pj5, .second, iv x2, iv x9, iv x16, iv x23, iv x30, iv x37, iv x43, iv x45, iv x48, iv x55, jv x61, .second, jv x63, .second, rv b65, .unset, .unset, .unset, .unset, .unset, .unset, .unset, .unset, .unset, .unset, .unset, .unset, .unset, .unset, .unset, .unset, .unset] [])) rfl (hb hby at_223) _ ?_
          show Steps p.tables e below (T198.setTop (mkF m 226 #[iv pi0, iv pi1, jv pj2, .second, jv pj3, .second, jv pj4, .second, jv pj5, .second, iv x2, iv x9, iv x16, iv x23, iv x30, iv x37, iv x43, iv x45, iv x48, iv x55, jv x61, .second, jv x63, .second, rv b65, .unset, .unset, .unset, .unset, .unset, .unset, .unset, .unset, .unset, .unset, .unset, .unset, .unset, .unset, .unset, .unset, .unset] [(.long (150000000 : Int64))])) _
          refine y_lstore X198.here hx (hb hby at_226) (l' := #[iv pi0, iv pi1, jv pj2, .second, jv pj3, .second, jv pj4, .second, jv pj5, .second, iv x2, iv x9, iv x16, iv x23, iv x30, iv x37, iv x43, iv x45, iv x48, iv x55, jv x61, .second, jv x63, .second, rv b65, jv (150000000 : Int64), .second, .unset, .unset, .unset, .unset, .unset, .unset, .unset, .unset, .unset, .unset, .unset, .unset, .unset, .unset, .unset]) rfl (pc' := 228) rfl ?_
          refine y_iload X198.here hx (hb hby at_228) rfl (pc' := 230) rfl ?_
          refine y_ifNo X198.here hx (hb hby at_230) ((if0 _ _).trans (feq hc187_96).1) (pc' := 233) rfl ?_
          refine y_iload X198.here hx (hb hby at_233) rfl (pc' := 235) rfl ?_
          refine y_iload X198.here hx (hb hby at_235) rfl (pc' := 237) rfl ?_
          refine y_iadd X198.here hx (hb hby at_237) rfl (pc' := 238) rfl ?_
          refine y_goto X198.here hx (hb hby at_238) (pc' := 243) (by decide) rfl ?_
          refine y_istore X198.here hx (hb hby at_243) (l' := #[iv pi0, iv pi1, jv pj2, .second, jv pj3, .second, jv pj4, .second, jv pj5, .second, iv x2, iv x9, iv x16, iv x23, iv x30, iv x37, iv x43, iv x45, iv x48, iv x55, jv x61, .second, jv x63, .second, rv b65, jv (150000000 : Int64), .second, iv (x43 + x45), .unset, .unset, .unset, .unset, .unset, .unset, .unset, .unset, .unset, .unset, .unset, .unset, .unset, .unset]) rfl (pc' := 245) rfl ?_
          exact kt)
      have pre215 : ∀ t, Steps p.tables e below (T198.setTop (mkF m 249 #[iv pi0, iv pi1, jv pj2, .second, jv pj3, .second, jv pj4, .second, jv pj5, .second, iv x2, iv x9, iv x16, iv x23, iv x30, iv x37, iv x43, iv x45, iv x48, iv x55, jv x61, .second, jv x63, .second, rv b65, jv (150000000 : Int64), .second, iv x213, .unset, .unset, .unset, .unset, .unset, .unset, .unset, .unset, .unset, .unset, .unset, .unset, .unset, .unset] [(.int x43), (.int x48)])) t → Go t := fun t kt => pre214 t (by
          refine y_iload X198.here hx (hb hby at_245) rfl (pc' := 247) rfl ?_
          refine y_iload X198.here hx (hb hby at_247) rfl (pc' := 249) rfl ?_
          exact kt)
      obtain ⟨x216, hx216⟩ : ∃ z : Int32, z = (if x48 = x43 then (if x9 = (0 : Int32) then (1 : Int32) else (if x55 = x45 then (if x30 = (0 : Int32) then (1 : Int32) else (if x213 < (16 : Int32) then (0 : Int32) else (1 : Int32))) else (1 : Int32))) else (1 : Int32)) := ⟨_, rfl⟩
      obtain ⟨T217, ⟨X217, q217⟩, st217⟩ : ∃ T', Nx X198 T' ∧ ∀ t, Steps p.tables e below (T'.setTop (mkF m 286 #[iv pi0, iv pi1, jv pj2, .second, jv pj3, .second, jv pj4, .second, jv pj5, .second, iv x2, iv x9, iv x16, iv x23, iv x30, iv x37, iv x43, iv x45, iv x48, iv x55, jv x61, .second, jv x63, .second, rv b65, jv (150000000 : Int64), .second, iv x213, .unset, .unset, .unset, .unset, .unset, .unset, .unset, .unset, .unset, .unset, .unset, .unset, .unset, .unset] [(.int x216)])) t → Steps p.tables e below (T198.setTop (mkF m 249 #[iv pi0, iv pi1, jv pj2, .second, jv pj3, .second, jv pj4, .second, jv pj5, .second, iv x2, iv x9, iv x16, iv x23, iv x30, iv x37, iv x43, iv x45, iv x48, iv x55, jv x61, .second, jv x63, .second, rv b65, jv (150000000 : Int64), .second, iv x213, .unset, .unset, .unset, .unset, .unset, .unset, .unset, .unset, .unset, .unset, .unset, .unset, .unset, .unset] [(.int x43), (.int x48)])) t := by
        have pre217_ : ∀ t, Steps p.tables e below (T198.setTop (mkF m 249 #[iv pi0, iv pi1, jv pj2, .second, jv pj3, .second, jv pj4, .second, jv pj5, .second, iv x2, iv x9, iv x16, iv x23, iv x30, iv x37, iv x43, iv x45, iv x48, iv x55, jv x61, .second, jv x63, .second, rv b65, jv (150000000 : Int64), .second, iv x213, .unset, .unset, .unset, .unset, .unset, .unset, .unset, .unset, .unset, .unset, .unset, .unset, .unset, .unset] [(.int x43), (.int x48)])) t → Steps p.tables e below (T198.setTop (mkF m 249 #[iv pi0, iv pi1, jv pj2, .second, jv pj3, .second, jv pj4, .second, jv pj5, .second, iv x2, iv x9, iv x16, iv x23, iv x30, iv x37, iv x43, iv x45, iv x48, iv x55, jv x61, .second, jv x63, .second, rv b65, jv (150000000 : Int64), .second, iv x213, .unset, .unset, .unset, .unset, .unset, .unset, .unset, .unset, .unset, .unset, .unset, .unset, .unset, .unset] [(.int x43), (.int x48)])) t := fun t kt => kt
        subst hx216
        by_cases hm249_218 : x48 = x43
        · have pre219 : ∀ t, Steps p.tables e below (T198.setTop (mkF m 254 #[iv pi0, iv pi1, jv pj2, .second, jv pj3, .second, jv pj4, .second, jv pj5, .second, iv x2, iv x9, iv x16, iv x23, iv x30, iv x37, iv x43, iv x45, iv x48, iv x55, jv x61, .second, jv x63, .second, rv b65, jv (150000000 : Int64), .second, iv x213, .unset, .unset, .unset, .unset, .unset, .unset, .unset, .unset, .unset, .unset, .unset, .unset, .unset, .unset] [(.int x9)])) t → Steps p.tables e below (T198.setTop (mkF m 249 #[iv pi0, iv pi1, jv pj2, .second, jv pj3, .second, jv pj4, .second, jv pj5, .second, iv x2, iv x9, iv x16, iv x23, iv x30, iv x37, iv x43, iv x45, iv x48, iv x55, jv x61, .second, jv x63, .second, rv b65, jv (150000000 : Int64), .second, iv x213, .unset, .unset, .unset, .unset, .unset, .unset, .unset, .unset, .unset, .unset, .unset, .unset, .unset, .unset] [(.int x43), (.int x48)])) t := fun t kt => pre217_ t (by
              refine y_icmpNo X198.here hx (hb hby at_249) (teq hm249_218).2 (pc' := 252) rfl ?_
              refine y_iload X198.here hx (hb hby at_252) rfl (pc' := 254) rfl ?_
              exact kt)
          by_cases hm254_220 : x9 = (0 : Int32)
          · have pre221 : ∀ t, Steps p.tables e below (T198.setTop (mkF m 286 #[iv pi0, iv pi1, jv pj2, .second, jv pj3, .second, jv pj4, .second, jv pj5, .second, iv x2, iv x9, iv x16, iv x23, iv x30, iv x37, iv x43, iv x45, iv x48, iv x55, jv x61, .second, jv x63, .second, rv b65, jv (150000000 : Int64), .second, iv x213, .unset, .unset, .unset, .unset, .unset, .unset, .unset, .unset, .unset, .unset, .unset, .unset, .unset, .unset] [(.int (1 : Int32))])) t → Steps p.tables e below (T198.setTop (mkF m 249 #[iv pi0, iv pi1, jv pj2, .second, jv pj3, .second, jv pj4, .second, jv pj5, .second, iv x2, iv x9, iv x16, iv x23, iv x30, iv x37, iv x43, iv x45, iv x48, iv x55, jv x61, .second, jv x63, .second, rv b65, jv (150000000 : Int64), .second, iv x213, .unset, .unset, .unset, .unset, .unset, .unset, .unset, .unset, .unset, .unset, .unset, .unset, .unset, .unset] [(.int x43), (.int x48)])) t := fun t kt => pre219 t (by
                refine y_ifYes X198.here hx (hb hby at_254) ((if0 _ _).trans (teq hm254_220).1) (pc' := 281) (by decide) rfl ?_
                refine y_iconst X198.here hx (hb hby at_281) (v := (1 : Int32)) rfl (pc' := 282) rfl ?_
                refine y_goto X198.here hx (hb hby at_282) (pc' := 286) (by decide) rfl ?_
                exact kt)
            refine ⟨T198, ⟨X198, eh198.trans eh198.symm⟩, fun t kt => pre221 t ?_⟩
            (try simp only [if_pos hm249_218, if_pos hm254_220] at kt)
            exact kt
          · have pre222 : ∀ t, Steps p.tables e below (T198.setTop (mkF m 266 #[iv pi0, iv pi1, jv pj2, .second, jv pj3, .second, jv pj4, .second, jv pj5, .second, iv x2, iv x9, iv x16, iv x23, iv x30, iv x37, iv x43, iv x45, iv x48, iv x55, jv x61, .second, jv x63, .second, rv b65, jv (150000000 : Int64), .second, iv x213, .unset, .unset, .unset, .unset, .unset, .unset, .unset, .unset, .unset, .unset, .unset, .unset, .unset, .unset] [(.int x45), (.int x55)])) t → Steps p.tables e below (T198.setTop (mkF m 249 #[iv pi0, iv pi1, jv pj2, .second, jv pj3, .second, jv pj4, .second, jv pj5, .second, iv x2, iv x9, iv x16, iv x23, iv x30, iv x37, iv x43, iv x45, iv x48, iv x55, jv x61, .second, jv x63, .second, rv b65, jv (150000000 : Int64), .second, iv x213, .unset, .unset, .unset, .unset, .unset, .unset, .unset, .unset, .unset, .unset, .unset, .unset, .unset, .unset] [(.int x43), (.int x48)])) t := fun t kt => pre219 t (by
                refine y_ifNo X198.here hx (hb hby at_254) ((if0 _ _).trans (feq hm254_220).1) (pc' := 257) rfl ?_
                refine y_iload X198.here hx (hb hby at_257) rfl (pc' := 259) rfl ?_
                refine y_ifNo X198.here hx (hb hby at_259) ((if0 _ _).trans (feq hc187_96).1) (pc' := 262) rfl ?_
                refine y_iload X198.here hx (hb hby at_262) rfl (pc' := 264) rfl ?_
                refine y_iload X198.here hx (hb hby at_264) rfl (pc' := 266) rfl ?_
                exact kt)
            by_cases hm266_223 : x55 = x45
            · have pre224 : ∀ t, Steps p.tables e below (T198.setTop (mkF m 271 #[iv pi0, iv pi1, jv pj2, .second, jv pj3, .second, jv pj4, .second, jv pj5, .second, iv x2, iv x9, iv x16, iv x23, iv x30, iv x37, iv x43, iv x45, iv x48, iv x55, jv x61, .second, jv x63, .second, rv b65, jv (150000000 : Int64), .second, iv x213, .unset, .unset, .unset, .unset, .unset, .unset, .unset, .unset, .unset, .unset, .unset, .unset, .unset, .unset] [(.int x30)])) t → Steps p.tables e below (T198.setTop (mkF m 249 #[iv pi0, iv pi1, jv pj2, .second, jv pj3, .second, jv pj4, .second, jv pj5, .second, iv x2, iv x9, iv x16, iv x23, iv x30, iv x37, iv x43, iv x45, iv x48, iv x55, jv x61, .second, jv x63, .second, rv b65, jv (150000000 : Int64), .second, iv x213, .unset, .unset, .unset, .unset, .unset, .unset, .unset, .unset, .unset, .unset, .unset, .unset, .unset, .unset] [(.int x43), (.int x48)])) t := fun t kt => pre222 t (by
                  refine y_icmpNo X198.here hx (hb hby at_266) (teq hm266_223).2 (pc' := 269) rfl ?_
                  refine y_iload X198.here hx (hb hby at_269) rfl (pc' := 271) rfl ?_
                  exact kt)
              by_cases hm271_225 : x30 = (0 : Int32)
              · have pre226 : ∀ t, Steps p.tables e below (T198.setTop (mkF m 286 #[iv pi0, iv pi1, jv pj2, .second, jv pj3, .second, jv pj4, .second, jv pj5, .second, iv x2, iv x9, iv x16, iv x23, iv x30, iv x37, iv x43, iv x45, iv x48, iv x55, jv x61, .second, jv x63, .second, rv b65, jv (150000000 : Int64), .second, iv x213, .unset, .unset, .unset, .unset, .unset, .unset, .unset, .unset, .unset, .unset, .unset, .unset, .unset, .unset] [(.int (1 : Int32))])) t → Steps p.tables e below (T198.setTop (mkF m 249 #[iv pi0, iv pi1, jv pj2, .second, jv pj3, .second, jv pj4, .second, jv pj5, .second, iv x2, iv x9, iv x16, iv x23, iv x30, iv x37, iv x43, iv x45, iv x48, iv x55, jv x61, .second, jv x63, .second, rv b65, jv (150000000 : Int64), .second, iv x213, .unset, .unset, .unset, .unset, .unset, .unset, .unset, .unset, .unset, .unset, .unset, .unset, .unset, .unset] [(.int x43), (.int x48)])) t := fun t kt => pre224 t (by
                    refine y_ifYes X198.here hx (hb hby at_271) ((if0 _ _).trans (teq hm271_225).1) (pc' := 281) (by decide) rfl ?_
                    refine y_iconst X198.here hx (hb hby at_281) (v := (1 : Int32)) rfl (pc' := 282) rfl ?_
                    refine y_goto X198.here hx (hb hby at_282) (pc' := 286) (by decide) rfl ?_
                    exact kt)
                refine ⟨T198, ⟨X198, eh198.trans eh198.symm⟩, fun t kt => pre226 t ?_⟩
                (try simp only [if_pos hm249_218, if_neg hm254_220, if_pos hm266_223, if_pos hm271_225] at kt)
                exact kt
              · have pre227 : ∀ t, Steps p.tables e below (T198.setTop (mkF m 278 #[iv pi0, iv pi1, jv pj2, .second, jv pj3, .second, jv pj4, .second, jv pj5, .second, iv x2, iv x9, iv x16, iv x23, iv x30, iv x37, iv x43, iv x45, iv x48, iv x55, jv x61, .second, jv x63, .second, rv b65, jv (150000000 : Int64), .second, iv x213, .unset, .unset, .unset, .unset, .unset, .unset, .unset, .unset, .unset, .unset, .unset, .unset, .unset, .unset] [(.int (16 : Int32)), (.int x213)])) t → Steps p.tables e below (T198.setTop (mkF m 249 #[iv pi0, iv pi1, jv pj2, .second, jv pj3, .second, jv pj4, .second, jv pj5, .second, iv x2, iv x9, iv x16, iv x23, iv x30, iv x37, iv x43, iv x45, iv x48, iv x55, jv x61, .second, jv x63, .second, rv b65, jv (150000000 : Int64), .second, iv x213, .unset, .unset, .unset, .unset, .unset, .unset, .unset, .unset, .unset, .unset, .unset, .unset, .unset, .unset] [(.int x43), (.int x48)])) t := fun t kt => pre224 t (by
                    refine y_ifNo X198.here hx (hb hby at_271) ((if0 _ _).trans (feq hm271_225).1) (pc' := 274) rfl ?_
                    refine y_iload X198.here hx (hb hby at_274) rfl (pc' := 276) rfl ?_
                    refine y_bipush X198.here hx (hb hby at_276) (v := (16 : Int32)) rfl (pc' := 278) rfl ?_
                    exact kt)
                by_cases hm278_228 : x213 < (16 : Int32)
                · have pre229 : ∀ t, Steps p.tables e below (T198.setTop (mkF m 286 #[iv pi0, iv pi1, jv pj2, .second, jv pj3, .second, jv pj4, .second, jv pj5, .second, iv x2, iv x9, iv x16, iv x23, iv x30, iv x37, iv x43, iv x45, iv x48, iv x55, jv x61, .second, jv x63, .second, rv b65, jv (150000000 : Int64), .second, iv x213, .unset, .unset, .unset, .unset, .unset, .unset, .unset, .unset, .unset, .unset, .unset, .unset, .unset, .unset] [(.int (0 : Int32))])) t → Steps p.tables e below (T198.setTop (mkF m 249 #[iv pi0, iv pi1, jv pj2, .second, jv pj3, .second, jv pj4, .second, jv pj5, .second, iv x2, iv x9, iv x16, iv x23, iv x30, iv x37, iv x43, iv x45, iv x48, iv x55, jv x61, .second, jv x63, .second, rv b65, jv (150000000 : Int64), .second, iv x213, .unset, .unset, .unset, .unset, .unset, .unset, .unset, .unset, .unset, .unset, .unset, .unset, .unset, .unset] [(.int x43), (.int x48)])) t := fun t kt => pre227 t (by
                      refine y_icmpYes X198.here hx (hb hby at_278) (tlt hm278_228).1 (pc' := 285) (by decide) rfl ?_
                      refine y_iconst X198.here hx (hb hby at_285) (v := (0 : Int32)) rfl (pc' := 286) rfl ?_
                      exact kt)
                  refine ⟨T198, ⟨X198, eh198.trans eh198.symm⟩, fun t kt => pre229 t ?_⟩
                  (try simp only [if_pos hm249_218, if_neg hm254_220, if_pos hm266_223, if_neg hm271_225, if_pos hm278_228] at kt)
                  exact kt
                · have pre230 : ∀ t, Steps p.tables e below (T198.setTop (mkF m 286 #[iv pi0, iv pi1, jv pj2, .second, jv pj3, .second, jv pj4, .second, jv pj5, .second, iv x2, iv x9, iv x16, iv x23, iv x30, iv x37, iv x43, iv x45, iv x48, iv x55, jv x61, .second, jv x63, .second, rv b65, jv (150000000 : Int64), .second, iv x213, .unset, .unset, .unset, .unset, .unset, .unset, .unset, .unset, .unset, .unset, .unset, .unset, .unset, .unset] [(.int (1 : Int32))])) t → Steps p.tables e below (T198.setTop (mkF m 249 #[iv pi0, iv pi1, jv pj2, .second, jv pj3, .second, jv pj4, .second, jv pj5, .second, iv x2, iv x9, iv x16, iv x23, iv x30, iv x37, iv x43, iv x45, iv x48, iv x55, jv x61, .second, jv x63, .second, rv b65, jv (150000000 : Int64), .second, iv x213, .unset, .unset, .unset, .unset, .unset, .unset, .unset, .unset, .unset, .unset, .unset, .unset, .unset, .unset] [(.int x43), (.int x48)])) t := fun t kt => pre227 t (by
                      refine y_icmpNo X198.here hx (hb hby at_278) (flt hm278_228).1 (pc' := 281) rfl ?_
                      refine y_iconst X198.here hx (hb hby at_281) (v := (1 : Int32)) rfl (pc' := 282) rfl ?_
                      refine y_goto X198.here hx (hb hby at_282) (pc' := 286) (by decide) rfl ?_
                      exact kt)
                  refine ⟨T198, ⟨X198, eh198.trans eh198.symm⟩, fun t kt => pre230 t ?_⟩
                  (try simp only [if_pos hm249_218, if_neg hm254_220, if_pos hm266_223, if_neg hm271_225, if_neg hm278_228] at kt)
                  exact kt
            · have pre231 : ∀ t, Steps p.tables e below (T198.setTop (mkF m 286 #[iv pi0, iv pi1, jv pj2, .second, jv pj3, .second, jv pj4, .second, jv pj5, .second, iv x2, iv x9, iv x16, iv x23, iv x30, iv x37, iv x43, iv x45, iv x48, iv x55, jv x61, .second, jv x63, .second, rv b65, jv (150000000 : Int64), .second, iv x213, .unset, .unset, .unset, .unset, .unset, .unset, .unset, .unset, .unset, .unset, .unset, .unset, .unset, .unset] [(.int (1 : Int32))])) t → Steps p.tables e below (T198.setTop (mkF m 249 #[iv pi0, iv pi1, jv pj2, .second, jv pj3, .second, jv pj4, .second, jv pj5, .second, iv x2, iv x9, iv x16, iv x23, iv x30, iv x37, iv x43, iv x45, iv x48, iv x55, jv x61, .second, jv x63, .second, rv b65, jv (150000000 : Int64), .second, iv x213, .unset, .unset, .unset, .unset, .unset, .unset, .unset, .unset, .unset, .unset, .unset, .unset, .unset, .unset] [(.int x43), (.int x48)])) t := fun t kt => pre222 t (by
                  refine y_icmpYes X198.here hx (hb hby at_266) (feq hm266_223).2 (pc' := 281) (by decide) rfl ?_
                  refine y_iconst X198.here hx (hb hby at_281) (v := (1 : Int32)) rfl (pc' := 282) rfl ?_
                  refine y_goto X198.here hx (hb hby at_282) (pc' := 286) (by decide) rfl ?_
                  exact kt)
              refine ⟨T198, ⟨X198, eh198.trans eh198.symm⟩, fun t kt => pre231 t ?_⟩
              (try simp only [if_pos hm249_218, if_neg hm254_220, if_neg hm266_223] at kt)
              exact kt
        · have pre232 : ∀ t, Steps p.tables e below (T198.setTop (mkF m 286 #[iv pi0, iv pi1, jv pj2, .second, jv pj3, .second, jv pj4, .second, jv pj5, .second, iv x2, iv x9, iv x16, iv x23, iv x30, iv x37, iv x43, iv x45, iv x48, iv x55, jv x61, .second, jv x63, .second, rv b65, jv (150000000 : Int64), .second, iv x213, .unset, .unset, .unset, .unset, .unset, .unset, .unset, .unset, .unset, .unset, .unset, .unset, .unset, .unset] [(.int (1 : Int32))])) t → Steps p.tables e below (T198.setTop (mkF m 249 #[iv pi0, iv pi1, jv pj2, .second, jv pj3, .second, jv pj4, .second, jv pj5, .second, iv x2, iv x9, iv x16, iv x23, iv x30, iv x37, iv x43, iv x45, iv x48, iv x55, jv x61, .second, jv x63, .second, rv b65, jv (150000000 : Int64), .second, iv x213, .unset, .unset, .unset, .unset, .unset, .unset, .unset, .unset, .unset, .unset, .unset, .unset, .unset, .unset] [(.int x43), (.int x48)])) t := fun t kt => pre217_ t (by
              refine y_icmpYes X198.here hx (hb hby at_249) (feq hm249_218).2 (pc' := 281) (by decide) rfl ?_
              refine y_iconst X198.here hx (hb hby at_281) (v := (1 : Int32)) rfl (pc' := 282) rfl ?_
              refine y_goto X198.here hx (hb hby at_282) (pc' := 286) (by decide) rfl ?_
              exact kt)
          refine ⟨T198, ⟨X198, eh198.trans eh198.symm⟩, fun t kt => pre232 t ?_⟩
          (try simp only [if_neg hm249_218] at kt)
          exact kt
      have e217 : T217.heap = h198 := q217.trans eh198
      have pre233 : ∀ t, Steps p.tables e below (T217.setTop (mkF m 286 #[iv pi0, iv pi1, jv pj2, .second, jv pj3, .second, jv pj4, .second, jv pj5, .second, iv x2, iv x9, iv x16, iv x23, iv x30, iv x37, iv x43, iv x45, iv x48, iv x55, jv x61, .second, jv x63, .second, rv b65, jv (150000000 : Int64), .second, iv x213, .unset, .unset, .unset, .unset, .unset, .unset, .unset, .unset, .unset, .unset, .unset, .unset, .unset, .unset] [(.int x216)])) t → Go t := fun t kt => pre215 t (st217 t kt)
      obtain ⟨x234, hx234⟩ : ∃ z : Int64, z = (x61 + pj5) := ⟨_, rfl⟩
      have pre235 : ∀ t, Steps p.tables e below (T217.setTop (mkF m 295 #[iv pi0, iv pi1, jv pj2, .second, jv pj3, .second, jv pj4, .second, jv pj5, .second, iv x2, iv x9, iv x16, iv x23, iv x30, iv x37, iv x43, iv x45, iv x48, iv x55, jv x61, .second, jv x63, .second, rv b65, jv (150000000 : Int64), .second, iv x213, iv x216, jv x234, .second, .unset, .unset, .unset, .unset, .unset, .unset, .unset, .unset, .unset, .unset, .unset] [])) t → Go t := fun t kt => pre233 t (by
          subst hx234
          refine y_istore X217.here hx (hb hby at_286) (l' := #[iv pi0, iv pi1, jv pj2, .second, jv pj3, .second, jv pj4, .second, jv pj5, .second, iv x2, iv x9, iv x16, iv x23, iv x30, iv x37, iv x43, iv x45, iv x48, iv x55, jv x61, .second, jv x63, .second, rv b65, jv (150000000 : Int64), .second, iv x213, iv x216, .unset, .unset, .unset, .unset, .unset, .unset, .unset, .unset, .unset, .unset, .unset, .unset, .unset]) rfl (pc' := 288) rfl ?_
          refine y_lload X217.here hx (hb hby at_288) rfl (pc' := 290) rfl ?_
          refine y_lload X217.here hx (hb hby at_290) rfl (pc' := 292) rfl ?_
          refine y_ladd X217.here hx (hb hby at_292) rfl (pc' := 293) rfl ?_
          refine y_lstore X217.here hx (hb hby at_293) (l' := #[iv pi0, iv pi1, jv pj2, .second, jv pj3, .second, jv pj4, .second, jv pj5, .second, iv x2, iv x9, iv x16, iv x23, iv x30, iv x37, iv x43, iv x45, iv x48, iv x55, jv x61, .second, jv x63, .second, rv b65, jv (150000000 : Int64), .second, iv x213, iv x216, jv (x61 + pj5), .second, .unset, .unset, .unset, .unset, .unset, .unset, .unset, .unset, .unset, .unset, .unset]) rfl (pc' := 295) rfl ?_
          exact kt)
      have pre236 : ∀ t, Steps p.tables e below (T217.setTop (mkF m 297 #[iv pi0, iv pi1, jv pj2, .second, jv pj3, .second, jv pj4, .second, jv pj5, .second, iv x2, iv x9, iv x16, iv x23, iv x30, iv x37, iv x43, iv x45, iv x48, iv x55, jv x61, .second, jv x63, .second, rv b65, jv (150000000 : Int64), .second, iv x213, iv x216, jv x234, .second, .unset, .unset, .unset, .unset, .unset, .unset, .unset, .unset, .unset, .unset, .unset] [(.int x216)])) t → Go t := fun t kt => pre235 t (by
          refine y_iload X217.here hx (hb hby at_295) rfl (pc' := 297) rfl ?_
          exact kt)
      obtain ⟨x237, hx237⟩ : ∃ z : Int64, z = (if x216 = (0 : Int32) then ((150000000 : Int64) - pj5) else (0 : Int64)) := ⟨_, rfl⟩
      obtain ⟨T238, ⟨X238, q238⟩, st238⟩ : ∃ T', Nx X217 T' ∧ ∀ t, Steps p.tables e below (T'.setTop (mkF m 309 #[iv pi0, iv pi1, jv pj2, .second, jv pj3, .second, jv pj4, .second, jv pj5, .second, iv x2, iv x9, iv x16, iv x23, iv x30, iv x37, iv x43, iv x45, iv x48, iv x55, jv x61, .second, jv x63, .second, rv b65, jv (150000000 : Int64), .second, iv x213, iv x216, jv x234, .second, .unset, .unset, .unset, .unset, .unset, .unset, .unset, .unset, .unset, .unset, .unset] [(.long x237)])) t → Steps p.tables e below (T217.setTop (mkF m 297 #[iv pi0, iv pi1, jv pj2, .second, jv pj3, .second, jv pj4, .second, jv pj5, .second, iv x2, iv x9, iv x16, iv x23, iv x30, iv x37, iv x43, iv x45, iv x48, iv x55, jv x61, .second, jv x63, .second, rv b65, jv (150000000 : Int64), .second, iv x213, iv x216, jv x234, .second, .unset, .unset, .unset, .unset, .unset, .unset, .unset, .unset, .unset, .unset, .unset] [(.int x216)])) t := by
        have pre238_ : ∀ t, Steps p.tables e below (T217.setTop (mkF m 297 #[iv pi0, iv pi1, jv pj2, .second, jv pj3, .second, jv pj4, .second, jv pj5, .second, iv x2, iv x9, iv x16, iv x23, iv x30, iv x37, iv x43, iv x45, iv x48, iv x55, jv x61, .second, jv x63, .second, rv b65, jv (150000000 : Int64), .second, iv x213, iv x216, jv x234, .second, .unset, .unset, .unset, .unset, .unset, .unset, .unset, .unset, .unset, .unset, .unset] [(.int x216)])) t → Steps p.tables e below (T217.setTop (mkF m 297 #[iv pi0, iv pi1, jv pj2, .second, jv pj3, .second, jv pj4, .second, jv pj5, .second, iv x2, iv x9, iv x16, iv x23, iv x30, iv x37, iv x43, iv x45, iv x48, iv x55, jv x61, .second, jv x63, .second, rv b65, jv (150000000 : Int64), .second, iv x213, iv x216, jv x234, .second, .unset, .unset, .unset, .unset, .unset, .unset, .unset, .unset, .unset, .unset, .unset] [(.int x216)])) t := fun t kt => kt
        subst hx237
        by_cases hm297_239 : x216 = (0 : Int32)
        · have pre240 : ∀ t, Steps p.tables e below (T217.setTop (mkF m 309 #[iv pi0, iv pi1, jv pj2, .second, jv pj3, .second, jv pj4, .second, jv pj5, .second, iv x2, iv x9, iv x16, iv x23, iv x30, iv x37, iv x43, iv x45, iv x48, iv x55, jv x61, .second, jv x63, .second, rv b65, jv (150000000 : Int64), .second, iv x213, iv x216, jv x234, .second, .unset, .unset, .unset, .unset, .unset, .unset, .unset, .unset, .unset, .unset, .unset] [(.long ((150000000 : Int64) - pj5))])) t → Steps p.tables e below (T217.setTop (mkF m 297 #[iv pi0, iv pi1, jv pj2, .second, jv pj3, .second, jv pj4, .second, jv pj5, .second, iv x2, iv x9, iv x16, iv x23, iv x30, iv x37, iv x43, iv x45, iv x48, iv x55, jv x61, .second, jv x63, .second, rv b65, jv (150000000 : Int64), .second, iv x213, iv x216, jv x234, .second, .unset, .unset, .unset, .unset, .unset, .unset, .unset, .unset, .unset, .unset, .unset] [(.int x216)])) t := fun t kt => pre238_ t (by
              refine y_ifYes X217.here hx (hb hby at_297) ((if0 _ _).trans (teq hm297_239).1) (pc' := 304) (by decide) rfl ?_
              refine y_lload X217.here hx (hb hby at_304) rfl (pc' := 306) rfl ?_
              refine y_lload X217.here hx (hb hby at_306) rfl (pc' := 308) rfl ?_
              refine y_lsub X217.here hx (hb hby at_308) rfl (pc' := 309) rfl ?_
              exact kt)
          refine ⟨T217, ⟨X217, e217.trans e217.symm⟩, fun t kt => pre240 t ?_⟩
          (try simp only [if_pos hm297_239] at kt)
          exact kt
        · have pre241 : ∀ t, Steps p.tables e below (T217.setTop (mkF m 309 #[iv pi0, iv pi1, jv pj2, .second, jv pj3, .second, jv pj4, .second, jv pj5, .second, iv x2, iv x9, iv x16, iv x23, iv x30, iv x37, iv x43, iv x45, iv x48, iv x55, jv x61, .second, jv x63, .second, rv b65, jv (150000000 : Int64), .second, iv x213, iv x216, jv x234, .second, .unset, .unset, .unset, .unset, .unset, .unset, .unset, .unset, .unset, .unset, .unset] [(.long (0 : Int64))])) t → Steps p.tables e below (T217.setTop (mkF m 297 #[iv pi0, iv pi1, jv pj2, .second, jv pj3, .second, jv pj4, .second, jv pj5, .second, iv x2, iv x9, iv x16, iv x23, iv x30, iv x37, iv x43, iv x45, iv x48, iv x55, jv x61, .second, jv x63, .second, rv b65, jv (150000000 : Int64), .second, iv x213, iv x216, jv x234, .second, .unset, .unset, .unset, .unset, .unset, .unset, .unset, .unset, .unset, .unset, .unset] [(.int x216)])) t := fun t kt => pre238_ t (by
              refine y_ifNo X217.here hx (hb hby at_297) ((if0 _ _).trans (feq hm297_239).1) (pc' := 300) rfl ?_
              refine y_lconst X217.here hx (hb hby at_300) (v := (0 : Int64)) rfl (pc' := 301) rfl ?_
              refine y_goto X217.here hx (hb hby at_301) (pc' := 309) (by decide) rfl ?_
              exact kt)
          refine ⟨T217, ⟨X217, e217.trans e217.symm⟩, fun t kt => pre241 t ?_⟩
          (try simp only [if_neg hm297_239] at kt)
          exact kt
      have e238 : T238.heap = h198 := q238.trans e217
      have pre242 : ∀ t, Steps p.tables e below (T238.setTop (mkF m 309 #[iv pi0, iv pi1, jv pj2, .second, jv pj3, .second, jv pj4, .second, jv pj5, .second, iv x2, iv x9, iv x16, iv x23, iv x30, iv x37, iv x43, iv x45, iv x48, iv x55, jv x61, .second, jv x63, .second, rv b65, jv (150000000 : Int64), .second, iv x213, iv x216, jv x234, .second, .unset, .unset, .unset, .unset, .unset, .unset, .unset, .unset, .unset, .unset, .unset] [(.long x237)])) t → Go t := fun t kt => pre236 t (st238 t kt)
      have pre243 : ∀ t, Steps p.tables e below (T238.setTop (mkF m 313 #[iv pi0, iv pi1, jv pj2, .second, jv pj3, .second, jv pj4, .second, jv pj5, .second, iv x2, iv x9, iv x16, iv x23, iv x30, iv x37, iv x43, iv x45, iv x48, iv x55, jv x61, .second, jv x63, .second, rv b65, jv (150000000 : Int64), .second, iv x213, iv x216, jv x234, .second, jv x237, .second, .unset, .unset, .unset, .unset, .unset, .unset, .unset, .unset, .unset] [(.int x216)])) t → Go t := fun t kt => pre242 t (by
          refine y_lstore X238.here hx (hb hby at_309) (l' := #[iv pi0, iv pi1, jv pj2, .second, jv pj3, .second, jv pj4, .second, jv pj5, .second, iv x2, iv x9, iv x16, iv x23, iv x30, iv x37, iv x43, iv x45, iv x48, iv x55, jv x61, .second, jv x63, .second, rv b65, jv (150000000 : Int64), .second, iv x213, iv x216, jv x234, .second, jv x237, .second, .unset, .unset, .unset, .unset, .unset, .unset, .unset, .unset, .unset]) rfl (pc' := 311) rfl ?_
          refine y_iload X238.here hx (hb hby at_311) rfl (pc' := 313) rfl ?_
          exact kt)
      obtain ⟨x244, hx244⟩ : ∃ z : Int32, z = (if x216 = (0 : Int32) then (if pj5 < (150000000 : Int64) then (0 : Int32) else (1 : Int32)) else (1 : Int32)) := ⟨_, rfl⟩
      obtain ⟨T245, ⟨X245, q245⟩, st245⟩ : ∃ T', Nx X238 T' ∧ ∀ t, Steps p.tables e below (T'.setTop (mkF m 329 #[iv pi0, iv pi1, jv pj2, .second, jv pj3, .second, jv pj4, .second, jv pj5, .second, iv x2, iv x9, iv x16, iv x23, iv x30, iv x37, iv x43, iv x45, iv x48, iv x55, jv x61, .second, jv x63, .second, rv b65, jv (150000000 : Int64), .second, iv x213, iv x216, jv x234, .second, jv x237, .second, .unset, .unset, .unset, .unset, .unset, .unset, .unset, .unset, .unset] [(.int x244)])) t → Steps p.tables e below (T238.setTop (mkF m 313 #[iv pi0, iv pi1, jv pj2, .second, jv pj3, .second, jv pj4, .second, jv pj5, .second, iv x2, iv x9, iv x16, iv x23, iv x30, iv x37, iv x43, iv x45, iv x48, iv x55, jv x61, .second, jv x63, .second, rv b65, jv (150000000 : Int64), .second, iv x213, iv x216, jv x234, .second, jv x237, .second, .unset, .unset, .unset, .unset, .unset, .unset, .unset, .unset, .unset] [(.int x216)])) t := by
        have pre245_ : ∀ t, Steps p.tables e below (T238.setTop (mkF m 313 #[iv pi0, iv pi1, jv pj2, .second, jv pj3, .second, jv pj4, .second, jv pj5, .second, iv x2, iv x9, iv x16, iv x23, iv x30, iv x37, iv x43, iv x45, iv x48, iv x55, jv x61, .second, jv x63, .second, rv b65, jv (150000000 : Int64), .second, iv x213, iv x216, jv x234, .second, jv x237, .second, .unset, .unset, .unset, .unset, .unset, .unset, .unset, .unset, .unset] [(.int x216)])) t → Steps p.tables e below (T238.setTop (mkF m 313 #[iv pi0, iv pi1, jv pj2, .second, jv pj3, .second, jv pj4, .second, jv pj5, .second, iv x2, iv x9, iv x16, iv x23, iv x30, iv x37, iv x43, iv x45, iv x48, iv x55, jv x61, .second, jv x63, .second, rv b65, jv (150000000 : Int64), .second, iv x213, iv x216, jv x234, .second, jv x237, .second, .unset, .unset, .unset, .unset, .unset, .unset, .unset, .unset, .unset] [(.int x216)])) t := fun t kt => kt
        subst hx244
        by_cases hm313_246 : x216 = (0 : Int32)
        · have pre247 : ∀ t, Steps p.tables e below (T238.setTop (mkF m 321 #[iv pi0, iv pi1, jv pj2, .second, jv pj3, .second, jv pj4, .second, jv pj5, .second, iv x2, iv x9, iv x16, iv x23, iv x30, iv x37, iv x43, iv x45, iv x48, iv x55, jv x61, .second, jv x63, .second, rv b65, jv (150000000 : Int64), .second, iv x213, iv x216, jv x234, .second, jv x237, .second, .unset, .unset, .unset, .unset, .unset, .unset, .unset, .unset, .unset] [(.int (lcmpW pj5 (150000000 : Int64)))])) t → Steps p.tables e below (T238.setTop (mkF m 313 #[iv pi0, iv pi1, jv pj2, .second, jv pj3, .second, jv pj4, .second, jv pj5, .second, iv x2, iv x9, iv x16, iv x23, iv x30, iv x37, iv x43, iv x45, iv x48, iv x55, jv x61, .second, jv x63, .second, rv b65, jv (150000000 : Int64), .second, iv x213, iv x216, jv x234, .second, jv x237, .second, .unset, .unset, .unset, .unset, .unset, .unset, .unset, .unset, .unset] [(.int x216)])) t := fun t kt => pre245_ t (by
              refine y_ifNo X238.here hx (hb hby at_313) ((if0 _ _).trans (teq hm313_246).2) (pc' := 316) rfl ?_
              refine y_lload X238.here hx (hb hby at_316) rfl (pc' := 318) rfl ?_
              refine y_lload X238.here hx (hb hby at_318) rfl (pc' := 320) rfl ?_
              refine y_lcmp X238.here hx (hb hby at_320) (pc' := 321) rfl ?_
              exact kt)
          by_cases hm321_248 : pj5 < (150000000 : Int64)
          · have pre249 : ∀ t, Steps p.tables e below (T238.setTop (mkF m 329 #[iv pi0, iv pi1, jv pj2, .second, jv pj3, .second, jv pj4, .second, jv pj5, .second, iv x2, iv x9, iv x16, iv x23, iv x30, iv x37, iv x43, iv x45, iv x48, iv x55, jv x61, .second, jv x63, .second, rv b65, jv (150000000 : Int64), .second, iv x213, iv x216, jv x234, .second, jv x237, .second, .unset, .unset, .unset, .unset, .unset, .unset, .unset, .unset, .unset] [(.int (0 : Int32))])) t → Steps p.tables e below (T238.setTop (mkF m 313 #[iv pi0, iv pi1, jv pj2, .second, jv pj3, .second, jv pj4, .second, jv pj5, .second, iv x2, iv x9, iv x16, iv x23, iv x30, iv x37, iv x43, iv x45, iv x48, iv x55, jv x61, .second, jv x63, .second, rv b65, jv (150000000 : Int64), .second, iv x213, iv x216, jv x234, .second, jv x237, .second, .unset, .unset, .unset, .unset, .unset, .unset, .unset, .unset, .unset] [(.int x216)])) t := fun t kt => pre247 t (by
                refine y_ifYes X238.here hx (hb hby at_321) ((if0 _ _).trans (tlt (lq_lt hm321_248)).1) (pc' := 328) (by decide) rfl ?_
                refine y_iconst X238.here hx (hb hby at_328) (v := (0 : Int32)) rfl (pc' := 329) rfl ?_
                exact kt)
            refine ⟨T238, ⟨X238, e238.trans e238.symm⟩, fun t kt => pre249 t ?_⟩
            (try simp only [if_pos hm313_246, if_pos hm321_248] at kt)
            exact kt
          · have pre250 : ∀ t, Steps p.tables e below (T238.setTop (mkF m 329 #[iv pi0, iv pi1, jv pj2, .second, jv pj3, .second, jv pj4, .second, jv pj5, .second, iv x2, iv x9, iv x16, iv x23, iv x30, iv x37, iv x43, iv x45, iv x48, iv x55, jv x61, .second, jv x63, .second, rv b65, jv (150000000 : Int64), .second, iv x213, iv x216, jv x234, .second, jv x237, .second, .unset, .unset, .unset, .unset, .unset, .unset, .unset, .unset, .unset] [(.int (1 : Int32))])) t → Steps p.tables e below (T238.setTop (mkF m 313 #[iv pi0, iv pi1, jv pj2, .second, jv pj3, .second, jv pj4, .second, jv pj5, .second, iv x2, iv x9, iv x16, iv x23, iv x30, iv x37, iv x43, iv x45, iv x48, iv x55, jv x61, .second, jv x63, .second, rv b65, jv (150000000 : Int64), .second, iv x213, iv x216, jv x234, .second, jv x237, .second, .unset, .unset, .unset, .unset, .unset, .unset, .unset, .unset, .unset] [(.int x216)])) t := fun t kt => pre247 t (by
                refine y_ifNo X238.here hx (hb hby at_321) ((if0 _ _).trans (flt (lq_nlt hm321_248)).1) (pc' := 324) rfl ?_
                refine y_iconst X238.here hx (hb hby at_324) (v := (1 : Int32)) rfl (pc' := 325) rfl ?_
                refine y_goto X238.here hx (hb hby at_325) (pc' := 329) (by decide) rfl ?_
                exact kt)
            refine ⟨T238, ⟨X238, e238.trans e238.symm⟩, fun t kt => pre250 t ?_⟩
            (try simp only [if_pos hm313_246, if_neg hm321_248] at kt)
            exact kt
        · have pre251 : ∀ t, Steps p.tables e below (T238.setTop (mkF m 329 #[iv pi0, iv pi1, jv pj2, .second, jv pj3, .second, jv pj4, .second, jv pj5, .second, iv x2, iv x9, iv x16, iv x23, iv x30, iv x37, iv x43, iv x45, iv x48, iv x55, jv x61, .second, jv x63, .second, rv b65, jv (150000000 : Int64), .second, iv x213, iv x216, jv x234, .second, jv x237, .second, .unset, .unset, .unset, .unset, .unset, .unset, .unset, .unset, .unset] [(.int (1 : Int32))])) t → Steps p.tables e below (T238.setTop (mkF m 313 #[iv pi0, iv pi1, jv pj2, .second, jv pj3, .second, jv pj4, .second, jv pj5, .second, iv x2, iv x9, iv x16, iv x23, iv x30, iv x37, iv x43, iv x45, iv x48, iv x55, jv x61, .second, jv x63, .second, rv b65, jv (150000000 : Int64), .second, iv x213, iv x216, jv x234, .second, jv x237, .second, .unset, .unset, .unset, .unset, .unset, .unset, .unset, .unset, .unset] [(.int x216)])) t := fun t kt => pre245_ t (by
              refine y_ifYes X238.here hx (hb hby at_313) ((if0 _ _).trans (feq hm313_246).2) (pc' := 324) (by decide) rfl ?_
              refine y_iconst X238.here hx (hb hby at_324) (v := (1 : Int32)) rfl (pc' := 325) rfl ?_
              refine y_goto X238.here hx (hb hby at_325) (pc' := 329) (by decide) rfl ?_
              exact kt)
          refine ⟨T238, ⟨X238, e238.trans e238.symm⟩, fun t kt => pre251 t ?_⟩
          (try simp only [if_neg hm313_246] at kt)
          exact kt
      have e245 : T245.heap = h198 := q245.trans e238
      have pre252 : ∀ t, Steps p.tables e below (T245.setTop (mkF m 329 #[iv pi0, iv pi1, jv pj2, .second, jv pj3, .second, jv pj4, .second, jv pj5, .second, iv x2, iv x9, iv x16, iv x23, iv x30, iv x37, iv x43, iv x45, iv x48, iv x55, jv x61, .second, jv x63, .second, rv b65, jv (150000000 : Int64), .second, iv x213, iv x216, jv x234, .second, jv x237, .second, .unset, .unset, .unset, .unset, .unset, .unset, .unset, .unset, .unset] [(.int x244)])) t → Go t := fun t kt => pre243 t (st245 t kt)
      have pre253 : ∀ t, Steps p.tables e below (T245.setTop (mkF m 335 #[iv pi0, iv pi1, jv pj2, .second, jv pj3, .second, jv pj4, .second, jv pj5, .second, iv x2, iv x9, iv x16, iv x23, iv x30, iv x37, iv x43, iv x45, iv x48, iv x55, jv x61, .second, jv x63, .second, rv b65, jv (150000000 : Int64), .second, iv x213, iv x216, jv x234, .second, jv x237, .second, iv x244, .unset, .unset, .unset, .unset, .unset, .unset, .unset, .unset] [(.long x234), (.ref b65)])) t → Go t := fun t kt => pre252 t (by
          refine y_istore X245.here hx (hb hby at_329) (l' := #[iv pi0, iv pi1, jv pj2, .second, jv pj3, .second, jv pj4, .second, jv pj5, .second, iv x2, iv x9, iv x16, iv x23, iv x30, iv x37, iv x43, iv x45, iv x48, iv x55, jv x61, .second, jv x63, .second, rv b65, jv (150000000 : Int64), .second, iv x213, iv x216, jv x234, .second, jv x237, .second, iv x244, .unset, .unset, .unset, .unset, .unset, .unset, .unset, .unset]) rfl (pc' := 331) rfl ?_
          refine y_aload X245.here hx (hb hby at_331) rfl rfl (pc' := 333) rfl ?_
          refine y_lload X245.here hx (hb hby at_333) rfl (pc' := 335) rfl ?_
          exact kt)
      obtain ⟨cq254, kq254, q254a, q254b, q254c⟩ := isOf hZ e245 f201
      obtain ⟨v254, _, ⟨T254, L254, k254, n254⟩, -, X254, ⟨Lc254, hQ254, l254, y254, z254⟩, st254⟩ := X245.virtualBack hx (y := (⟨"com/example/roamd/roamd/net/DelayedAck", "waitNanos", "(J)J"⟩ : MethodName)) (z := (⟨"com/example/roamd/roamd/net/DelayedAck", "waitNanos", "(J)J"⟩ : MethodName)) hown (mvT hZ (hw _ (List.mem_of_getElem? (i := 29) rfl))) (mvT hZ (hw _ (List.mem_of_getElem? (i := 30) rfl))) (notFace_of_selects (args := #[]) (mvT hZ (hw _ (List.mem_of_getElem? (i := 32) rfl)))) (mvT hZ (hw _ (List.mem_of_getElem? (i := 32) rfl))) (mvT hZ (hw _ (List.mem_of_getElem? (i := 31) rfl))) (by decide) (backOf (W := 0) (rm4 l Z a0 hw [] b65 x234 x208 x209 x210 x211 h198 n0 O212 f201 p198_0 p198_1 p198_4 p198_5) hZ (hw _ (List.mem_of_getElem? (i := 33) rfl)) (hw _ (List.mem_of_getElem? (i := 2) rfl)) (by decide) (by decide)) q254a q254c (g := (mkF m 335 #[iv pi0, iv pi1, jv pj2, .second, jv pj3, .second, jv pj4, .second, jv pj5, .second, iv x2, iv x9, iv x16, iv x23, iv x30, iv x37, iv x43, iv x45, iv x48, iv x55, jv x61, .second, jv x63, .second, rv b65, jv (150000000 : Int64), .second, iv x213, iv x216, jv x234, .second, jv x237, .second, iv x244, .unset, .unset, .unset, .unset, .unset, .unset, .unset, .unset] [(.long x234), (.ref b65)])) rfl (by rw [hml]; rfl) (Steps.refl _) (argsL := [(.long x234)]) (rest := []) (lenOf pd__J_J rfl) rfl (by show 2 * 0 + _ ≤ _; exact Nat.le_of_eq rfl) (hb hby at_335) (fun _ _ => ⟨rfl, e245, (by decide : 1 + 0 ≤ _), (by decide : 6 + 0 ≤ _)⟩)
      dsimp only [Pt.U, Pt.locs, Pt.cells, Pt.slots] at X254 l254 y254 z254 st254 hQ254
      subst l254 y254 z254
      obtain ⟨hv254, N254q, e254q⟩ := hQ254
      have N255 := Fr.app N199 N254q
      have hw254 := hv254
      obtain ⟨x256, hx256⟩ : ∃ z : Int64, z = (if x208 = (0 : Int32) then (9223372036854775807 : Int64) else (if x211 = (0 : Int32) then ((x209 + x210) - x234) else (0 : Int64))) := ⟨_, rfl⟩
      rw [← hx256] at hw254
      subst hw254
      have pre257 : ∀ t, Steps p.tables e below (T254.setTop (mkF m 338 #[iv pi0, iv pi1, jv pj2, .second, jv pj3, .second, jv pj4, .second, jv pj5, .second, iv x2, iv x9, iv x16, iv x23, iv x30, iv x37, iv x43, iv x45, iv x48, iv x55, jv x61, .second, jv x63, .second, rv b65, jv (150000000 : Int64), .second, iv x213, iv x216, jv x234, .second, jv x237, .second, iv x244, .unset, .unset, .unset, .unset, .unset, .unset, .unset, .unset] [(.long x256)])) t → Go t := fun t kt => pre253 t (st254.trans kt)
      have pre259 : ∀ t, Steps p.tables e below (T254.setTop (mkF m 341 #[iv pi0, iv pi1, jv pj2, .second, jv pj3, .second, jv pj4, .second, jv pj5, .second, iv x2, iv x9, iv x16, iv x23, iv x30, iv x37, iv x43, iv x45, iv x48, iv x55, jv x61, .second, jv x63, .second, rv b65, jv (150000000 : Int64), .second, iv x213, iv x216, jv x234, .second, jv x237, .second, iv x244, .unset, .unset, .unset, .unset, .unset, .unset, .unset, .unset] [(.int (lcmpW x256 x237))])) t → Go t := fun t kt => pre257 t (by
          refine y_lload X254.here hx (hb hby at_338) rfl (pc' := 340) rfl ?_
          refine y_lcmp X254.here hx (hb hby at_340) (pc' := 341) rfl ?_
          exact kt)
      have hf341_258 : x256 = x237 := by
          exact law0_260 pj2 pj3 pj5 x2 x9 x23 x30 x43 x45 x48 x55 x61 x63 x91 x92 x93 x208 x209 x210 x211 x213 x216 x234 x237 x256 hx91 hx92 hx93 hx208 hx209 hx210 hx211 hx213 hx216 hx234 hx237 hx256 hc155_79 hc187_96 B1 B2 A1
      have pre261 : ∀ t, Steps p.tables e below (T254.setTop (mkF m 348 #[iv pi0, iv pi1, jv pj2, .second, jv pj3, .second, jv pj4, .second, jv pj5, .second, iv x2, iv x9, iv x16, iv x23, iv x30, iv x37, iv x43, iv x45, iv x48, iv x55, jv x61, .second, jv x63, .second, rv b65, jv (150000000 : Int64), .second, iv x213, iv x216, jv x234, .second, jv x237, .second, iv x244, .unset, .unset, .unset, .unset, .unset, .unset, .unset, .unset] [(.long x234), (.ref b65)])) t → Go t := fun t kt => pre259 t (by
          refine y_ifNo X254.here hx (hb hby at_341) ((if0 _ _).trans (teq (lq_eq hf341_258)).2) (pc' := 344) rfl ?_
          refine y_aload X254.here hx (hb hby at_344) rfl rfl (pc' := 346) rfl ?_
          refine y_lload X254.here hx (hb hby at_346) rfl (pc' := 348) rfl ?_
          exact kt)
      obtain ⟨cq262, kq262, q262a, q262b, q262c⟩ := isOf hZ e254q f201
      obtain ⟨v262, _, ⟨T262, L262, k262, n262⟩, -, X262, ⟨Lc262, hQ262, l262, y262, z262⟩, st262⟩ := X254.virtualBack hx (y := (⟨"com/example/roamd/roamd/net/DelayedAck", "due", "(J)Z"⟩ : MethodName)) (z := (⟨"com/example/roamd/roamd/net/DelayedAck", "due", "(J)Z"⟩ : MethodName)) hown (mvT hZ (hw _ (List.mem_of_getElem? (i := 34) rfl))) (mvT hZ (hw _ (List.mem_of_getElem? (i := 35) rfl))) (notFace_of_selects (args := #[]) (mvT hZ (hw _ (List.mem_of_getElem? (i := 37) rfl)))) (mvT hZ (hw _ (List.mem_of_getElem? (i := 37) rfl))) (mvT hZ (hw _ (List.mem_of_getElem? (i := 36) rfl))) (by decide) (backOf (W := 0) (rm5 l Z a0 hw [] b65 x234 x208 x209 x210 x211 h198 n0 O212 f201 p198_0 p198_1 p198_4 p198_5) hZ (hw _ (List.mem_of_getElem? (i := 38) rfl)) (hw _ (List.mem_of_getElem? (i := 2) rfl)) (by decide) (by decide)) q262a q262c (g := (mkF m 348 #[iv pi0, iv pi1, jv pj2, .second, jv pj3, .second, jv pj4, .second, jv pj5, .second, iv x2, iv x9, iv x16, iv x23, iv x30, iv x37, iv x43, iv x45, iv x48, iv x55, jv x61, .second, jv x63, .second, rv b65, jv (150000000 : Int64), .second, iv x213, iv x216, jv x234, .second, jv x237, .second, iv x244, .unset, .unset, .unset, .unset, .unset, .unset, .unset, .unset] [(.long x234), (.ref b65)])) rfl (by rw [hml]; rfl) (Steps.refl _) (argsL := [(.long x234)]) (rest := []) (lenOf pd__J_Z rfl) rfl (by show 2 * 0 + _ ≤ _; exact Nat.le_of_eq rfl) (hb hby at_348) (fun _ _ => ⟨rfl, e254q, (by decide : 1 + 0 ≤ _), (by decide : 6 + 0 ≤ _)⟩)
      dsimp only [Pt.U, Pt.locs, Pt.cells, Pt.slots] at X262 l262 y262 z262 st262 hQ262
      subst l262 y262 z262
      obtain ⟨hv262, N262q, e262q⟩ := hQ262
      have N263 := Fr.app N255 N262q
      have hw262 := hv262
      obtain ⟨x264, hx264⟩ : ∃ z : Int32, z = (if x211 = (0 : Int32) then (if (0 : Int32) < x208 then (if (x234 - x209) < x210 then (0 : Int32) else (1 : Int32)) else (0 : Int32)) else (1 : Int32)) := ⟨_, rfl⟩
      rw [← hx264] at hw262
      subst hw262
      have pre265 : ∀ t, Steps p.tables e below (T262.setTop (mkF m 351 #[iv pi0, iv pi1, jv pj2, .second, jv pj3, .second, jv pj4, .second, jv pj5, .second, iv x2, iv x9, iv x16, iv x23, iv x30, iv x37, iv x43, iv x45, iv x48, iv x55, jv x61, .second, jv x63, .second, rv b65, jv (150000000 : Int64), .second, iv x213, iv x216, jv x234, .second, jv x237, .second, iv x244, .unset, .unset, .unset, .unset, .unset, .unset, .unset, .unset] [(.int x264)])) t → Go t := fun t kt => pre261 t (st262.trans kt)
      have pre267 : ∀ t, Steps p.tables e below (T262.setTop (mkF m 353 #[iv pi0, iv pi1, jv pj2, .second, jv pj3, .second, jv pj4, .second, jv pj5, .second, iv x2, iv x9, iv x16, iv x23, iv x30, iv x37, iv x43, iv x45, iv x48, iv x55, jv x61, .second, jv x63, .second, rv b65, jv (150000000 : Int64), .second, iv x213, iv x216, jv x234, .second, jv x237, .second, iv x244, .unset, .unset, .unset, .unset, .unset, .unset, .unset, .unset] [(.int x244), (.int x264)])) t → Go t := fun t kt => pre265 t (by
          refine y_iload X262.here hx (hb hby at_351) rfl (pc' := 353) rfl ?_
          exact kt)
      have hf353_266 : x264 = x244 := by
          exact law0_268 pj2 pj3 pj5 x2 x9 x23 x30 x43 x45 x48 x55 x61 x63 x91 x92 x93 x208 x209 x210 x211 x213 x216 x234 x244 x264 hx91 hx92 hx93 hx208 hx209 hx210 hx211 hx213 hx216 hx234 hx244 hx264 hc155_79 hc187_96 B1 B2 A1
      have pre269 : ∀ t, Steps p.tables e below (T262.setTop (mkF m 379 #[iv pi0, iv pi1, jv pj2, .second, jv pj3, .second, jv pj4, .second, jv pj5, .second, iv x2, iv x9, iv x16, iv x23, iv x30, iv x37, iv x43, iv x45, iv x48, iv x55, jv x61, .second, jv x63, .second, rv b65, jv (150000000 : Int64), .second, iv x213, iv x216, jv x234, .second, jv x237, .second, iv x244, iv (1 : Int32), jv x63, .second, .unset, .unset, .unset, .unset, .unset] [(.ref b65)])) t → Go t := fun t kt => pre267 t (by
          refine y_icmpNo X262.here hx (hb hby at_353) (teq hf353_266).2 (pc' := 356) rfl ?_
          refine y_iconst X262.here hx (hb hby at_356) (v := (1 : Int32)) rfl (pc' := 357) rfl ?_
          refine y_goto X262.here hx (hb hby at_357) (pc' := 361) (by decide) rfl ?_
          refine y_istore X262.here hx (hb hby at_361) (l' := #[iv pi0, iv pi1, jv pj2, .second, jv pj3, .second, jv pj4, .second, jv pj5, .second, iv x2, iv x9, iv x16, iv x23, iv x30, iv x37, iv x43, iv x45, iv x48, iv x55, jv x61, .second, jv x63, .second, rv b65, jv (150000000 : Int64), .second, iv x213, iv x216, jv x234, .second, jv x237, .second, iv x244, iv (1 : Int32), .unset, .unset, .unset, .unset, .unset, .unset, .unset]) rfl (pc' := 363) rfl ?_
          refine y_iload X262.here hx (hb hby at_363) rfl (pc' := 365) rfl ?_
          refine y_ifNo X262.here hx (hb hby at_365) ((if0 _ _).trans (feq hc187_96).1) (pc' := 368) rfl ?_
          refine y_lload X262.here hx (hb hby at_368) rfl (pc' := 370) rfl ?_
          refine y_goto X262.here hx (hb hby at_370) (pc' := 375) (by decide) rfl ?_
          refine y_lstore X262.here hx (hb hby at_375) (l' := #[iv pi0, iv pi1, jv pj2, .second, jv pj3, .second, jv pj4, .second, jv pj5, .second, iv x2, iv x9, iv x16, iv x23, iv x30, iv x37, iv x43, iv x45, iv x48, iv x55, jv x61, .second, jv x63, .second, rv b65, jv (150000000 : Int64), .second, iv x213, iv x216, jv x234, .second, jv x237, .second, iv x244, iv (1 : Int32), jv x63, .second, .unset, .unset, .unset, .unset, .unset]) rfl (pc' := 377) rfl ?_
          refine y_aload X262.here hx (hb hby at_377) rfl rfl (pc' := 379) rfl ?_
          exact kt)
      obtain ⟨cq270, kq270, q270a, q270b, q270c⟩ := isOf hZ e262q f201
      obtain ⟨v270, _, ⟨T270, L270, k270, n270⟩, -, X270, ⟨Lc270, hQ270, l270, y270, z270⟩, st270⟩ := X262.virtualBack hx (y := (⟨"com/example/roamd/roamd/net/DelayedAck", "sent", "()V"⟩ : MethodName)) (z := (⟨"com/example/roamd/roamd/net/DelayedAck", "sent", "()V"⟩ : MethodName)) hown (mvT hZ (hw _ (List.mem_of_getElem? (i := 39) rfl))) (mvT hZ (hw _ (List.mem_of_getElem? (i := 40) rfl))) (notFace_of_selects (args := #[]) (mvT hZ (hw _ (List.mem_of_getElem? (i := 42) rfl)))) (mvT hZ (hw _ (List.mem_of_getElem? (i := 42) rfl))) (mvT hZ (hw _ (List.mem_of_getElem? (i := 41) rfl))) (by decide) (backOf (W := 0) (rm6 l Z a0 hw [] b65 x208 x209 (1 : Int32) x63 x210 x211 h198 n0 O212 f201 p198_0 p198_1 p198_2 p198_3 p198_4 p198_5 G67) hZ (hw _ (List.mem_of_getElem? (i := 43) rfl)) (hw _ (List.mem_of_getElem? (i := 2) rfl)) (by decide) (by decide)) q270a q270c (g := (mkF m 379 #[iv pi0, iv pi1, jv pj2, .second, jv pj3, .second, jv pj4, .second, jv pj5, .second, iv x2, iv x9, iv x16, iv x23, iv x30, iv x37, iv x43, iv x45, iv x48, iv x55, jv x61, .second, jv x63, .second, rv b65, jv (150000000 : Int64), .second, iv x213, iv x216, jv x234, .second, jv x237, .second, iv x244, iv (1 : Int32), jv x63, .second, .unset, .unset, .unset, .unset, .unset] [(.ref b65)])) rfl (by rw [hml]; rfl) (Steps.refl _) (argsL := []) (rest := []) (lenOf pd___V rfl) rfl (by show 2 * 0 + _ ≤ _; exact Nat.le_of_eq rfl) (hb hby at_379) (fun _ _ => ⟨rfl, e262q, (by decide : 1 + 0 ≤ _), (by decide : 6 + 0 ≤ _)⟩)
      dsimp only [Pt.U, Pt.locs, Pt.cells, Pt.slots] at X270 l270 y270 z270 st270 hQ270
      subst l270 y270 z270
      obtain ⟨hv270, N270q, K270q, p270_0, p270_1, p270_2, p270_3, p270_4, p270_5⟩ := hQ270
      have N271 := Fr.app N263 N270q
      subst hv270
      have pre272 : ∀ t, Steps p.tables e below (T270.setTop (mkF m 382 #[iv pi0, iv pi1, jv pj2, .second, jv pj3, .second, jv pj4, .second, jv pj5, .second, iv x2, iv x9, iv x16, iv x23, iv x30, iv x37, iv x43, iv x45, iv x48, iv x55, jv x61, .second, jv x63, .second, rv b65, jv (150000000 : Int64), .second, iv x213, iv x216, jv x234, .second, jv x237, .second, iv x244, iv (1 : Int32), jv x63, .second, .unset, .unset, .unset, .unset, .unset] [])) t → Go t := fun t kt => pre269 t (st270.trans kt)
      obtain ⟨h270, eh270⟩ : ∃ z, T270.heap = z := ⟨_, rfl⟩
      rw [eh270] at K270q p270_0 p270_1 p270_2 p270_3 p270_4 p270_5
      have f273 : Exa Z h270 b65 "com/example/roamd/roamd/net/DelayedAck" := (f201.keep K270q)
      have O280 := O212.keep K270q (allS G67 all0)
      obtain ⟨x281, hx281⟩ : ∃ z : Int64, z = (x63 + pj3) := ⟨_, rfl⟩
      have pre282 : ∀ t, Steps p.tables e below (T270.setTop (mkF m 389 #[iv pi0, iv pi1, jv pj2, .second, jv pj3, .second, jv pj4, .second, jv pj5, .second, iv x2, iv x9, iv x16, iv x23, iv x30, iv x37, iv x43, iv x45, iv x48, iv x55, jv x61, .second, jv x63, .second, rv b65, jv (150000000 : Int64), .second, iv x213, iv x216, jv x234, .second, jv x237, .second, iv x244, iv (1 : Int32), jv x63, .second, jv x281, .second, .unset, .unset, .unset] [])) t → Go t := fun t kt => pre272 t (by
          subst hx281
          refine y_lload X270.here hx (hb hby at_382) rfl (pc' := 384) rfl ?_
          refine y_lload X270.here hx (hb hby at_384) rfl (pc' := 386) rfl ?_
          refine y_ladd X270.here hx (hb hby at_386) rfl (pc' := 387) rfl ?_
          refine y_lstore X270.here hx (hb hby at_387) (l' := #[iv pi0, iv pi1, jv pj2, .second, jv pj3, .second, jv pj4, .second, jv pj5, .second, iv x2, iv x9, iv x16, iv x23, iv x30, iv x37, iv x43, iv x45, iv x48, iv x55, jv x61, .second, jv x63, .second, rv b65, jv (150000000 : Int64), .second, iv x213, iv x216, jv x234, .second, jv x237, .second, iv x244, iv (1 : Int32), jv x63, .second, jv (x63 + pj3), .second, .unset, .unset, .unset]) rfl (pc' := 389) rfl ?_
          exact kt)
      have pre283 : ∀ t, Steps p.tables e below (T270.setTop (mkF m 396 #[iv pi0, iv pi1, jv pj2, .second, jv pj3, .second, jv pj4, .second, jv pj5, .second, iv x2, iv x9, iv x16, iv x23, iv x30, iv x37, iv x43, iv x45, iv x48, iv x55, jv x61, .second, jv x63, .second, rv b65, jv (150000000 : Int64), .second, iv x213, iv x216, jv x234, .second, jv x237, .second, iv x244, iv (1 : Int32), jv x63, .second, jv x281, .second, .unset, .unset, .unset] [(.long x281), (.int (1 : Int32)), (.int (1 : Int32)), (.int (1 : Int32)), (.ref b65)])) t → Go t := fun t kt => pre282 t (by
          refine y_aload X270.here hx (hb hby at_389) rfl rfl (pc' := 391) rfl ?_
          refine y_iconst X270.here hx (hb hby at_391) (v := (1 : Int32)) rfl (pc' := 392) rfl ?_
          refine y_iconst X270.here hx (hb hby at_392) (v := (1 : Int32)) rfl (pc' := 393) rfl ?_
          refine y_iconst X270.here hx (hb hby at_393) (v := (1 : Int32)) rfl (pc' := 394) rfl ?_
          refine y_lload X270.here hx (hb hby at_394) rfl (pc' := 396) rfl ?_
          exact kt)
      obtain ⟨cq284, kq284, q284a, q284b, q284c⟩ := isOf hZ eh270 f273
      obtain ⟨v284, _, ⟨T284, L284, k284, n284⟩, -, X284, ⟨Lc284, hQ284, l284, y284, z284⟩, st284⟩ := X270.virtualBack hx (y := (⟨"com/example/roamd/roamd/net/DelayedAck", "arrived", "(IIZJ)V"⟩ : MethodName)) (z := (⟨"com/example/roamd/roamd/net/DelayedAck", "arrived", "(IIZJ)V"⟩ : MethodName)) hown (mvT hZ (hw _ (List.mem_of_getElem? (i := 9) rfl))) (mvT hZ (hw _ (List.mem_of_getElem? (i := 10) rfl))) (notFace_of_selects (args := #[]) (mvT hZ (hw _ (List.mem_of_getElem? (i := 12) rfl)))) (mvT hZ (hw _ (List.mem_of_getElem? (i := 12) rfl))) (mvT hZ (hw _ (List.mem_of_getElem? (i := 11) rfl))) (by decide) (backOf (W := 0) (rm3 l Z a0 hw [] b65 (1 : Int32) (1 : Int32) (1 : Int32) x281 (0 : Int32) x209 (1 : Int32) x63 x210 (0 : Int32) h270 n0 O280 S_DELAY_NANOS S_ALONE_DELAY_NANOS f273 p270_0 p270_1 p270_2 p270_3 p270_4 p270_5 G67) hZ (hw _ (List.mem_of_getElem? (i := 13) rfl)) (hw _ (List.mem_of_getElem? (i := 2) rfl)) (by decide) (by decide)) q284a q284c (g := (mkF m 396 #[iv pi0, iv pi1, jv pj2, .second, jv pj3, .second, jv pj4, .second, jv pj5, .second, iv x2, iv x9, iv x16, iv x23, iv x30, iv x37, iv x43, iv x45, iv x48, iv x55, jv x61, .second, jv x63, .second, rv b65, jv (150000000 : Int64), .second, iv x213, iv x216, jv x234, .second, jv x237, .second, iv x244, iv (1 : Int32), jv x63, .second, jv x281, .second, .unset, .unset, .unset] [(.long x281), (.int (1 : Int32)), (.int (1 : Int32)), (.int (1 : Int32)), (.ref b65)])) rfl (by rw [hml]; rfl) (Steps.refl _) (argsL := [(.int (1 : Int32)), (.int (1 : Int32)), (.int (1 : Int32)), (.long x281)]) (rest := []) (lenOf pd__IIZJ_V rfl) rfl (by show 2 * 0 + _ ≤ _; exact Nat.le_of_eq rfl) (hb hby at_396) (fun _ _ => ⟨rfl, eh270, (by decide : 1 + 0 ≤ _), (by decide : 6 + 0 ≤ _)⟩)
      dsimp only [Pt.U, Pt.locs, Pt.cells, Pt.slots] at X284 l284 y284 z284 st284 hQ284
      subst l284 y284 z284
      obtain ⟨hv284, N284q, K284q, p284_0, p284_1, p284_2, p284_3, p284_4, p284_5⟩ := hQ284
      have N285 := Fr.app N271 N284q
      subst hv284
      have pre286 : ∀ t, Steps p.tables e below (T284.setTop (mkF m 399 #[iv pi0, iv pi1, jv pj2, .second, jv pj3, .second, jv pj4, .second, jv pj5, .second, iv x2, iv x9, iv x16, iv x23, iv x30, iv x37, iv x43, iv x45, iv x48, iv x55, jv x61, .second, jv x63, .second, rv b65, jv (150000000 : Int64), .second, iv x213, iv x216, jv x234, .second, jv x237, .second, iv x244, iv (1 : Int32), jv x63, .second, jv x281, .second, .unset, .unset, .unset] [])) t → Go t := fun t kt => pre283 t (st284.trans kt)
      obtain ⟨h284, eh284⟩ : ∃ z, T284.heap = z := ⟨_, rfl⟩
      rw [eh284] at K284q p284_0 p284_1 p284_2 p284_3 p284_4 p284_5
      have f287 : Exa Z h284 b65 "com/example/roamd/roamd/net/DelayedAck" := (f273.keep K284q)
      obtain ⟨x294, hx294⟩ : ∃ z : Int32, z = ((0 : Int32) + (1 : Int32)) := ⟨_, rfl⟩
      rw [← hx294] at p284_0
      rw [if_pos (rfl : (0 : Int32) = (0 : Int32))] at p284_1
      rw [if_pos (rfl : (0 : Int32) = (0 : Int32))] at p284_4
      obtain ⟨x295, hx295⟩ : ∃ z : Int64, z = (if (if (1 : Int32) = (0 : Int32) then (0 : Int32) else (if (700000000 : Int64) < (x281 - x63) then (0 : Int32) else (1 : Int32))) = (0 : Int32) then (150000000 : Int64) else (700000000 : Int64)) := ⟨_, rfl⟩
      rw [← hx295] at p284_4
      obtain ⟨x296, hx296⟩ : ∃ z : Int32, z = (nar .boolean ((0 : Int32) ||| (if (1 : Int32) = (1 : Int32) then (if (1 : Int32) = (0 : Int32) then (1 : Int32) else (if ((0 : Int32) + (1 : Int32)) < (16 : Int32) then (0 : Int32) else (1 : Int32))) else (1 : Int32)))) := ⟨_, rfl⟩
      rw [← hx296] at p284_5
      have O297 := O280.keep K284q (allS G67 all0)
      have pre298 : ∀ t, Steps p.tables e below (T284.setTop (mkF m 405 #[iv pi0, iv pi1, jv pj2, .second, jv pj3, .second, jv pj4, .second, jv pj5, .second, iv x2, iv x9, iv x16, iv x23, iv x30, iv x37, iv x43, iv x45, iv x48, iv x55, jv x61, .second, jv x63, .second, rv b65, jv (150000000 : Int64), .second, iv x213, iv x216, jv x234, .second, jv x237, .second, iv x244, iv (1 : Int32), jv x63, .second, jv x281, .second, .unset, .unset, .unset] [(.int (lcmpW pj3 (700000000 : Int64)))])) t → Go t := fun t kt => pre286 t (by
          refine y_lload X284.here hx (hb hby at_399) rfl (pc' := 401) rfl ?_
          refine X284.ldc2Long hx hown (mvT hZ (hw _ (List.mem_of_getElem? (i := 46) rfl))) (g := (mkF m 401 #[iv pi0, iv pi1, jv pj2, .second, jv pj3, .second, jv pj4, .second, jv pj5, .second, iv x2, iv x9, iv x16, iv x23, iv x30, iv x37, iv x43, iv x45, iv x48, iv x55, jv x61, .second, jv x63, .second, rv b65, jv (150000000 : Int64), .second, iv x213, iv x216, jv x234, .second, jv x237, .second, iv x244, iv (1 : Int32), jv x63, .second, jv x281, .second, .unset, .unset, .unset] [(.long pj3)])) rfl (hb hby at_401) _ ?_
          show Steps p.tables e below (T284.setTop (mkF m 404 #[iv pi0, iv pi1, jv pj2, .second, jv pj3, .second, jv pj4, .second, jv pj5, .second, iv x2, iv x9, iv x16, iv x23, iv x30, iv x37, iv x43, iv x45, iv x48, iv x55, jv x61, .second, jv x63, .second, rv b65, jv (150000000 : Int64), .second, iv x213, iv x216, jv x234, .second, jv x237, .second, iv x244, iv (1 : Int32), jv x63, .second, jv x281, .second, .unset, .unset, .unset] [(.long (700000000 : Int64)), (.long pj3)])) _
          refine y_lcmp X284.here hx (hb hby at_404) (pc' := 405) rfl ?_
          exact kt)
      obtain ⟨x299, hx299⟩ : ∃ z : Int64, z = (if (700000000 : Int64) < pj3 then (150000000 : Int64) else (700000000 : Int64)) := ⟨_, rfl⟩
      obtain ⟨T300, ⟨X300, q300⟩, st300⟩ : ∃ T', Nx X284 T' ∧ ∀ t, Steps p.tables e below (T'.setTop (mkF m 417 #[iv pi0, iv pi1, jv pj2, .second, jv pj3, .second, jv pj4, .second, jv pj5, .second, iv x2, iv x9, iv x16, iv x23, iv x30, iv x37, iv x43, iv x45, iv x48, iv x55, jv x61, .second, jv x63, .second, rv b65, jv (150000000 : Int64), .second, iv x213, iv x216, jv x234, .second, jv x237, .second, iv x244, iv (1 : Int32), jv x63, .second, jv x281, .second, .unset, .unset, .unset] [(.long x299)])) t → Steps p.tables e below (T284.setTop (mkF m 405 #[iv pi0, iv pi1, jv pj2, .second, jv pj3, .second, jv pj4, .second, jv pj5, .second, iv x2, iv x9, iv x16, iv x23, iv x30, iv x37, iv x43, iv x45, iv x48, iv x55, jv x61, .second, jv x63, .second, rv b65, jv (150000000 : Int64), .second, iv x213, iv x216, jv x234, .second, jv x237, .second, iv x244, iv (1 : Int32), jv x63, .second, jv x281, .second, .unset, .unset, .unset] [(.int (lcmpW pj3 (700000000 : Int64)))])) t := by
        have pre300_ : ∀ t, Steps p.tables e below (T284.setTop (mkF m 405 #[iv pi0, iv pi1, jv pj2, .second, jv pj3, .second, jv pj4, .second, jv pj5, .second, iv x2, iv x9, iv x16, iv x23, iv x30, iv x37, iv x43, iv x45, iv x48, iv x55, jv x61, .second, jv x63, .second, rv b65, jv (150000000 : Int64), .second, iv x213, iv x216, jv x234, .second, jv x237, .second, iv x244, iv (1 : Int32), jv x63, .second, jv x281, .second, .unset, .unset, .unset] [(.int (lcmpW pj3 (700000000 : Int64)))])) t → Steps p.tables e below (T284.setTop (mkF m 405 #[iv pi0, iv pi1, jv pj2, .second, jv pj3, .second, jv pj4, .second, jv pj5, .second, iv x2, iv x9, iv x16, iv x23, iv x30, iv x37, iv x43, iv x45, iv x48, iv x55, jv x61, .second, jv x63, .second, rv b65, jv (150000000 : Int64), .second, iv x213, iv x216, jv x234, .second, jv x237, .second, iv x244, iv (1 : Int32), jv x63, .second, jv x281, .second, .unset, .unset, .unset] [(.int (lcmpW pj3 (700000000 : Int64)))])) t := fun t kt => kt
        subst hx299
        by_cases hm405_301 : (700000000 : Int64) < pj3
        · have pre302 : ∀ t, Steps p.tables e below (T284.setTop (mkF m 417 #[iv pi0, iv pi1, jv pj2, .second, jv pj3, .second, jv pj4, .second, jv pj5, .second, iv x2, iv x9, iv x16, iv x23, iv x30, iv x37, iv x43, iv x45, iv x48, iv x55, jv x61, .second, jv x63, .second, rv b65, jv (150000000 : Int64), .second, iv x213, iv x216, jv x234, .second, jv x237, .second, iv x244, iv (1 : Int32), jv x63, .second, jv x281, .second, .unset, .unset, .unset] [(.long (150000000 : Int64))])) t → Steps p.tables e below (T284.setTop (mkF m 405 #[iv pi0, iv pi1, jv pj2, .second, jv pj3, .second, jv pj4, .second, jv pj5, .second, iv x2, iv x9, iv x16, iv x23, iv x30, iv x37, iv x43, iv x45, iv x48, iv x55, jv x61, .second, jv x63, .second, rv b65, jv (150000000 : Int64), .second, iv x213, iv x216, jv x234, .second, jv x237, .second, iv x244, iv (1 : Int32), jv x63, .second, jv x281, .second, .unset, .unset, .unset] [(.int (lcmpW pj3 (700000000 : Int64)))])) t := fun t kt => pre300_ t (by
              refine y_ifYes X284.here hx (hb hby at_405) ((if0 _ _).trans (tlt (lq_gt hm405_301)).2.2.1) (pc' := 414) (by decide) rfl ?_
              refine X284.ldc2Long hx hown (mvT hZ (hw _ (List.mem_of_getElem? (i := 28) rfl))) (g := (mkF m 414 #[iv pi0, iv pi1, jv pj2, .second, jv pj3, .second, jv pj4, .second, jv pj5, .second, iv x2, iv x9, iv x16, iv x23, iv x30, iv x37, iv x43, iv x45, iv x48, iv x55, jv x61, .second, jv x63, .second, rv b65, jv (150000000 : Int64), .second, iv x213, iv x216, jv x234, .second, jv x237, .second, iv x244, iv (1 : Int32), jv x63, .second, jv x281, .second, .unset, .unset, .unset] [])) rfl (hb hby at_414) _ ?_
              show Steps p.tables e below (T284.setTop (mkF m 417 #[iv pi0, iv pi1, jv pj2, .second, jv pj3, .second, jv pj4, .second, jv pj5, .second, iv x2, iv x9, iv x16, iv x23, iv x30, iv x37, iv x43, iv x45, iv x48, iv x55, jv x61, .second, jv x63, .second, rv b65, jv (150000000 : Int64), .second, iv x213, iv x216, jv x234, .second, jv x237, .second, iv x244, iv (1 : Int32), jv x63, .second, jv x281, .second, .unset, .unset, .unset] [(.long (150000000 : Int64))])) _
              exact kt)
          refine ⟨T284, ⟨X284, eh284.trans eh284.symm⟩, fun t kt => pre302 t ?_⟩
          (try simp only [if_pos hm405_301] at kt)
          exact kt
        · have pre303 : ∀ t, Steps p.tables e below (T284.setTop (mkF m 417 #[iv pi0, iv pi1, jv pj2, .second, jv pj3, .second, jv pj4, .second, jv pj5, .second, iv x2, iv x9, iv x16, iv x23, iv x30, iv x37, iv x43, iv x45, iv x48, iv x55, jv x61, .second, jv x63, .second, rv b65, jv (150000000 : Int64), .second, iv x213, iv x216, jv x234, .second, jv x237, .second, iv x244, iv (1 : Int32), jv x63, .second, jv x281, .second, .unset, .unset, .unset] [(.long (700000000 : Int64))])) t → Steps p.tables e below (T284.setTop (mkF m 405 #[iv pi0, iv pi1, jv pj2, .second, jv pj3, .second, jv pj4, .second, jv pj5, .second, iv x2, iv x9, iv x16, iv x23, iv x30, iv x37, iv x43, iv x45, iv x48, iv x55, jv x61, .second, jv x63, .second, rv b65, jv (150000000 : Int64), .second, iv x213, iv x216, jv x234, .second, jv x237, .second, iv x244, iv (1 : Int32), jv x63, .second, jv x281, .second, .unset, .unset, .unset] [(.int (lcmpW pj3 (700000000 : Int64)))])) t := fun t kt => pre300_ t (by
              refine y_ifNo X284.here hx (hb hby at_405) ((if0 _ _).trans (flt (lq_ngt hm405_301)).2.2.1) (pc' := 408) rfl ?_
              refine X284.ldc2Long hx hown (mvT hZ (hw _ (List.mem_of_getElem? (i := 46) rfl))) (g := (mkF m 408 #[iv pi0, iv pi1, jv pj2, .second, jv pj3, .second, jv pj4, .second, jv pj5, .second, iv x2, iv x9, iv x16, iv x23, iv x30, iv x37, iv x43, iv x45, iv x48, iv x55, jv x61, .second, jv x63, .second, rv b65, jv (150000000 : Int64), .second, iv x213, iv x216, jv x234, .second, jv x237, .second, iv x244, iv (1 : Int32), jv x63, .second, jv x281, .second, .unset, .unset, .unset] [])) rfl (hb hby at_408) _ ?_
              show Steps p.tables e below (T284.setTop (mkF m 411 #[iv pi0, iv pi1, jv pj2, .second, jv pj3, .second, jv pj4, .second, jv pj5, .second, iv x2, iv x9, iv x16, iv x23, iv x30, iv x37, iv x43, iv x45, iv x48, iv x55, jv x61, .second, jv x63, .second, rv b65, jv (150000000 : Int64), .second, iv x213, iv x216, jv x234, .second, jv x237, .second, iv x244, iv (1 : Int32), jv x63, .second, jv x281, .second, .unset, .unset, .unset] [(.long (700000000 : Int64))])) _
              refine y_goto X284.here hx (hb hby at_411) (pc' := 417) (by decide) rfl ?_
              exact kt)
          refine ⟨T284, ⟨X284, eh284.trans eh284.symm⟩, fun t kt => pre303 t ?_⟩
          (try simp only [if_neg hm405_301] at kt)
          exact kt
      have e300 : T300.heap = h284 := q300.trans eh284
      have pre304 : ∀ t, Steps p.tables e below (T300.setTop (mkF m 417 #[iv pi0, iv pi1, jv pj2, .second, jv pj3, .second, jv pj4, .second, jv pj5, .second, iv x2, iv x9, iv x16, iv x23, iv x30, iv x37, iv x43, iv x45, iv x48, iv x55, jv x61, .second, jv x63, .second, rv b65, jv (150000000 : Int64), .second, iv x213, iv x216, jv x234, .second, jv x237, .second, iv x244, iv (1 : Int32), jv x63, .second, jv x281, .second, .unset, .unset, .unset] [(.long x299)])) t → Go t := fun t kt => pre298 t (st300 t kt)
      have pre305 : ∀ t, Steps p.tables e below (T300.setTop (mkF m 423 #[iv pi0, iv pi1, jv pj2, .second, jv pj3, .second, jv pj4, .second, jv pj5, .second, iv x2, iv x9, iv x16, iv x23, iv x30, iv x37, iv x43, iv x45, iv x48, iv x55, jv x61, .second, jv x63, .second, rv b65, jv (150000000 : Int64), .second, iv x213, iv x216, jv x234, .second, jv x237, .second, iv x244, iv (1 : Int32), jv x63, .second, jv x281, .second, jv x299, .second, .unset] [(.long x281), (.ref b65)])) t → Go t := fun t kt => pre304 t (by
          refine y_lstore X300.here hx (hb hby at_417) (l' := #[iv pi0, iv pi1, jv pj2, .second, jv pj3, .second, jv pj4, .second, jv pj5, .second, iv x2, iv x9, iv x16, iv x23, iv x30, iv x37, iv x43, iv x45, iv x48, iv x55, jv x61, .second, jv x63, .second, rv b65, jv (150000000 : Int64), .second, iv x213, iv x216, jv x234, .second, jv x237, .second, iv x244, iv (1 : Int32), jv x63, .second, jv x281, .second, jv x299, .second, .unset]) rfl (pc' := 419) rfl ?_
          refine y_aload X300.here hx (hb hby at_419) rfl rfl (pc' := 421) rfl ?_
          refine y_lload X300.here hx (hb hby at_421) rfl (pc' := 423) rfl ?_
          exact kt)
      obtain ⟨cq306, kq306, q306a, q306b, q306c⟩ := isOf hZ e300 f287
      obtain ⟨v306, _, ⟨T306, L306, k306, n306⟩, -, X306, ⟨Lc306, hQ306, l306, y306, z306⟩, st306⟩ := X300.virtualBack hx (y := (⟨"com/example/roamd/roamd/net/DelayedAck", "waitNanos", "(J)J"⟩ : MethodName)) (z := (⟨"com/example/roamd/roamd/net/DelayedAck", "waitNanos", "(J)J"⟩ : MethodName)) hown (mvT hZ (hw _ (List.mem_of_getElem? (i := 29) rfl))) (mvT hZ (hw _ (List.mem_of_getElem? (i := 30) rfl))) (notFace_of_selects (args := #[]) (mvT hZ (hw _ (List.mem_of_getElem? (i := 32) rfl)))) (mvT hZ (hw _ (List.mem_of_getElem? (i := 32) rfl))) (mvT hZ (hw _ (List.mem_of_getElem? (i := 31) rfl))) (by decide) (backOf (W := 0) (rm4 l Z a0 hw [] b65 x281 x294 x281 x295 x296 h284 n0 O297 f287 p284_0 p284_1 p284_4 p284_5) hZ (hw _ (List.mem_of_getElem? (i := 33) rfl)) (hw _ (List.mem_of_getElem? (i := 2) rfl)) (by decide) (by decide)) q306a q306c (g := (mkF m 423 #[iv pi0, iv pi1, jv pj2, .second, jv pj3, .second, jv pj4, .second, jv pj5, .second, iv x2, iv x9, iv x16, iv x23, iv x30, iv x37, iv x43, iv x45, iv x48, iv x55, jv x61, .second, jv x63, .second, rv b65, jv (150000000 : Int64), .second, iv x213, iv x216, jv x234, .second, jv x237, .second, iv x244, iv (1 : Int32), jv x63, .second, jv x281, .second, jv x299, .second, .unset] [(.long x281), (.ref b65)])) rfl (by rw [hml]; rfl) (Steps.refl _) (argsL := [(.long x281)]) (rest := []) (lenOf pd__J_J rfl) rfl (by show 2 * 0 + _ ≤ _; exact Nat.le_of_eq rfl) (hb hby at_423) (fun _ _ => ⟨rfl, e300, (by decide : 1 + 0 ≤ _), (by decide : 6 + 0 ≤ _)⟩)
      dsimp only [Pt.U, Pt.locs, Pt.cells, Pt.slots] at X306 l306 y306 z306 st306 hQ306
      subst l306 y306 z306
      obtain ⟨hv306, N306q, e306q⟩ := hQ306
      have N307 := Fr.app N285 N306q
      have hw306 := hv306
      obtain ⟨x308, hx308⟩ : ∃ z : Int64, z = (if x294 = (0 : Int32) then (9223372036854775807 : Int64) else (if x296 = (0 : Int32) then ((x281 + x295) - x281) else (0 : Int64))) := ⟨_, rfl⟩
      rw [← hx308] at hw306
      subst hw306
      have pre309 : ∀ t, Steps p.tables e below (T306.setTop (mkF m 426 #[iv pi0, iv pi1, jv pj2, .second, jv pj3, .second, jv pj4, .second, jv pj5, .second, iv x2, iv x9, iv x16, iv x23, iv x30, iv x37, iv x43, iv x45, iv x48, iv x55, jv x61, .second, jv x63, .second, rv b65, jv (150000000 : Int64), .second, iv x213, iv x216, jv x234, .second, jv x237, .second, iv x244, iv (1 : Int32), jv x63, .second, jv x281, .second, jv x299, .second, .unset] [(.long x308)])) t → Go t := fun t kt => pre305 t (st306.trans kt)
      have pre311 : ∀ t, Steps p.tables e below (T306.setTop (mkF m 429 #[iv pi0, iv pi1, jv pj2, .second, jv pj3, .second, jv pj4, .second, jv pj5, .second, iv x2, iv x9, iv x16, iv x23, iv x30, iv x37, iv x43, iv x45, iv x48, iv x55, jv x61, .second, jv x63, .second, rv b65, jv (150000000 : Int64), .second, iv x213, iv x216, jv x234, .second, jv x237, .second, iv x244, iv (1 : Int32), jv x63, .second, jv x281, .second, jv x299, .second, .unset] [(.int (lcmpW x308 x299))])) t → Go t := fun t kt => pre309 t (by
          refine y_lload X306.here hx (hb hby at_426) rfl (pc' := 428) rfl ?_
          refine y_lcmp X306.here hx (hb hby at_428) (pc' := 429) rfl ?_
          exact kt)
      have hf429_310 : x308 = x299 := by
          exact law0_312 pj2 pj3 x2 x23 x43 x45 x61 x63 x281 x294 x295 x296 x299 x308 hx281 hx294 hx295 hx296 hx299 hx308 hc155_79 hc187_96 B1 B2 A1
      have pre313 : ∀ t, Steps p.tables e below (T306.setTop (mkF m 436 #[iv pi0, iv pi1, jv pj2, .second, jv pj3, .second, jv pj4, .second, jv pj5, .second, iv x2, iv x9, iv x16, iv x23, iv x30, iv x37, iv x43, iv x45, iv x48, iv x55, jv x61, .second, jv x63, .second, rv b65, jv (150000000 : Int64), .second, iv x213, iv x216, jv x234, .second, jv x237, .second, iv x244, iv (1 : Int32), jv x63, .second, jv x281, .second, jv x299, .second, .unset] [(.long x281), (.ref b65)])) t → Go t := fun t kt => pre311 t (by
          refine y_ifNo X306.here hx (hb hby at_429) ((if0 _ _).trans (teq (lq_eq hf429_310)).2) (pc' := 432) rfl ?_
          refine y_aload X306.here hx (hb hby at_432) rfl rfl (pc' := 434) rfl ?_
          refine y_lload X306.here hx (hb hby at_434) rfl (pc' := 436) rfl ?_
          exact kt)
      obtain ⟨cq314, kq314, q314a, q314b, q314c⟩ := isOf hZ e306q f287
      obtain ⟨v314, _, ⟨T314, L314, k314, n314⟩, -, X314, ⟨Lc314, hQ314, l314, y314, z314⟩, st314⟩ := X306.virtualBack hx (y := (⟨"com/example/roamd/roamd/net/DelayedAck", "due", "(J)Z"⟩ : MethodName)) (z := (⟨"com/example/roamd/roamd/net/DelayedAck", "due", "(J)Z"⟩ : MethodName)) hown (mvT hZ (hw _ (List.mem_of_getElem? (i := 34) rfl))) (mvT hZ (hw _ (List.mem_of_getElem? (i := 35) rfl))) (notFace_of_selects (args := #[]) (mvT hZ (hw _ (List.mem_of_getElem? (i := 37) rfl)))) (mvT hZ (hw _ (List.mem_of_getElem? (i := 37) rfl))) (mvT hZ (hw _ (List.mem_of_getElem? (i := 36) rfl))) (by decide) (backOf (W := 0) (rm5 l Z a0 hw [] b65 x281 x294 x281 x295 x296 h284 n0 O297 f287 p284_0 p284_1 p284_4 p284_5) hZ (hw _ (List.mem_of_getElem? (i := 38) rfl)) (hw _ (List.mem_of_getElem? (i := 2) rfl)) (by decide) (by decide)) q314a q314c (g := (mkF m 436 #[iv pi0, iv pi1, jv pj2, .second, jv pj3, .second, jv pj4, .second, jv pj5, .second, iv x2, iv x9, iv x16, iv x23, iv x30, iv x37, iv x43, iv x45, iv x48, iv x55, jv x61, .second, jv x63, .second, rv b65, jv (150000000 : Int64), .second, iv x213, iv x216, jv x234, .second, jv x237, .second, iv x244, iv (1 : Int32), jv x63, .second, jv x281, .second, jv x299, .second, .unset] [(.long x281), (.ref b65)])) rfl (by rw [hml]; rfl) (Steps.refl _) (argsL := [(.long x281)]) (rest := []) (lenOf pd__J_Z rfl) rfl (by show 2 * 0 + _ ≤ _; exact Nat.le_of_eq rfl) (hb hby at_436) (fun _ _ => ⟨rfl, e306q, (by decide : 1 + 0 ≤ _), (by decide : 6 + 0 ≤ _)⟩)
      dsimp only [Pt.U, Pt.locs, Pt.cells, Pt.slots] at X314 l314 y314 z314 st314 hQ314
      subst l314 y314 z314
      obtain ⟨hv314, N314q, e314q⟩ := hQ314
      have N315 := Fr.app N307 N314q
      have hw314 := hv314
      obtain ⟨x316, hx316⟩ : ∃ z : Int32, z = (if x296 = (0 : Int32) then (if (0 : Int32) < x294 then (if (x281 - x281) < x295 then (0 : Int32) else (1 : Int32)) else (0 : Int32)) else (1 : Int32)) := ⟨_, rfl⟩
      rw [← hx316] at hw314
      subst hw314
      have pre317 : ∀ t, Steps p.tables e below (T314.setTop (mkF m 439 #[iv pi0, iv pi1, jv pj2, .second, jv pj3, .second, jv pj4, .second, jv pj5, .second, iv x2, iv x9, iv x16, iv x23, iv x30, iv x37, iv x43, iv x45, iv x48, iv x55, jv x61, .second, jv x63, .second, rv b65, jv (150000000 : Int64), .second, iv x213, iv x216, jv x234, .second, jv x237, .second, iv x244, iv (1 : Int32), jv x63, .second, jv x281, .second, jv x299, .second, .unset] [(.int x316)])) t → Go t := fun t kt => pre313 t (st314.trans kt)
      have hf439_318 : x316 = (0 : Int32) := by
          exact law0_319 pj2 pj3 x2 x23 x43 x45 x61 x63 x281 x294 x295 x296 x316 hx281 hx294 hx295 hx296 hx316 hc155_79 hc187_96 B1 B2 A1
      have pre320 : ∀ t, Steps p.tables e below (T314.setTop (mkF m 464 #[iv pi0, iv pi1, jv pj2, .second, jv pj3, .second, jv pj4, .second, jv pj5, .second, iv x2, iv x9, iv x16, iv x23, iv x30, iv x37, iv x43, iv x45, iv x48, iv x55, jv x61, .second, jv x63, .second, rv b65, jv (150000000 : Int64), .second, iv x213, iv x216, jv x234, .second, jv x237, .second, iv x244, iv (1 : Int32), jv x63, .second, jv x281, .second, jv x299, .second, iv (1 : Int32)] [(.int (1 : Int32))])) t → Go t := fun t kt => pre317 t (by
          refine y_ifNo X314.here hx (hb hby at_439) ((if0 _ _).trans (teq hf439_318).2) (pc' := 442) rfl ?_
          refine y_iconst X314.here hx (hb hby at_442) (v := (1 : Int32)) rfl (pc' := 443) rfl ?_
          refine y_goto X314.here hx (hb hby at_443) (pc' := 447) (by decide) rfl ?_
          refine y_istore X314.here hx (hb hby at_447) (l' := #[iv pi0, iv pi1, jv pj2, .second, jv pj3, .second, jv pj4, .second, jv pj5, .second, iv x2, iv x9, iv x16, iv x23, iv x30, iv x37, iv x43, iv x45, iv x48, iv x55, jv x61, .second, jv x63, .second, rv b65, jv (150000000 : Int64), .second, iv x213, iv x216, jv x234, .second, jv x237, .second, iv x244, iv (1 : Int32), jv x63, .second, jv x281, .second, jv x299, .second, iv (1 : Int32)]) rfl (pc' := 449) rfl ?_
          refine y_iload X314.here hx (hb hby at_449) rfl (pc' := 451) rfl ?_
          refine y_ifNo X314.here hx (hb hby at_451) ((if0 _ _).trans (feq (by decide : ¬ ((1 : Int32) = (0 : Int32)))).1) (pc' := 454) rfl ?_
          refine y_iload X314.here hx (hb hby at_454) rfl (pc' := 456) rfl ?_
          refine y_ifNo X314.here hx (hb hby at_456) ((if0 _ _).trans (feq (by decide : ¬ ((1 : Int32) = (0 : Int32)))).1) (pc' := 459) rfl ?_
          refine y_iconst X314.here hx (hb hby at_459) (v := (1 : Int32)) rfl (pc' := 460) rfl ?_
          refine y_goto X314.here hx (hb hby at_460) (pc' := 464) (by decide) rfl ?_
          exact kt)
      obtain ⟨fs, hr, hrun, hended, hW, hsame⟩ := X314.leave (v := some (.int (1 : Int32))) (fun h => by rw [Bd.returns] at h; cases h)
      refine ⟨_, _, (hGo _).mp (pre320 _ ?_), hrun, hended, _, _, rfl, ?_, ⟨_, rfl⟩, hW, hsame.mono (by decide) (by decide)⟩
      · exact retN X314 hx (t := .boolean) Bd.returns (by simp) (hb hby at_464) hr
      · show Q0 Z pi0 pi1 pj2 pj3 pj4 pj5 h0 n0 _ T314.heap _
        rw [e314q]
        exact ⟨rfl, N315⟩
  · have pre321 : ∀ t, Steps p.tables e below (T75.setTop (mkF m 164 #[iv pi0, iv pi1, jv pj2, .second, jv pj3, .second, jv pj4, .second, jv pj5, .second, iv x2, iv x9, iv x16, iv x23, iv x30, iv x37, iv x43, iv x45, iv x48, iv x55, jv x61, .second, jv x63, .second, rv b65, .unset, .unset, .unset, .unset, .unset, .unset, .unset, .unset, .unset, .unset, .unset, .unset, .unset, .unset, .unset, .unset, .unset] [(.long pj2), (.int (1 : Int32)), (.int (1 : Int32)), (.int (1 : Int32)), (.ref b65)])) t → Go t := fun t kt => pre78 t (by
        refine y_ifNo X75.here hx (hb hby at_155) ((if0 _ _).trans (feq hc155_79).1) (pc' := 158) rfl ?_
        refine y_aload X75.here hx (hb hby at_158) rfl rfl (pc' := 160) rfl ?_
        refine y_iconst X75.here hx (hb hby at_160) (v := (1 : Int32)) rfl (pc' := 161) rfl ?_
        refine y_iconst X75.here hx (hb hby at_161) (v := (1 : Int32)) rfl (pc' := 162) rfl ?_
        refine y_iconst X75.here hx (hb hby at_162) (v := (1 : Int32)) rfl (pc' := 163) rfl ?_
        refine y_lloadN X75.here hx (hb hby at_163) rfl (pc' := 164) rfl ?_
        exact kt)
    obtain ⟨cq322, kq322, q322a, q322b, q322c⟩ := isOf hZ e75q A65
    obtain ⟨v322, _, ⟨T322, L322, k322, n322⟩, -, X322, ⟨Lc322, hQ322, l322, y322, z322⟩, st322⟩ := X75.virtualBack hx (y := (⟨"com/example/roamd/roamd/net/DelayedAck", "arrived", "(IIZJ)V"⟩ : MethodName)) (z := (⟨"com/example/roamd/roamd/net/DelayedAck", "arrived", "(IIZJ)V"⟩ : MethodName)) hown (mvT hZ (hw _ (List.mem_of_getElem? (i := 9) rfl))) (mvT hZ (hw _ (List.mem_of_getElem? (i := 10) rfl))) (notFace_of_selects (args := #[]) (mvT hZ (hw _ (List.mem_of_getElem? (i := 12) rfl)))) (mvT hZ (hw _ (List.mem_of_getElem? (i := 12) rfl))) (mvT hZ (hw _ (List.mem_of_getElem? (i := 11) rfl))) (by decide) (backOf (W := 0) (rm3 l Z a0 hw [] b65 (1 : Int32) (1 : Int32) (1 : Int32) pj2 (0 : Int32) (0 : Int64) (0 : Int32) (0 : Int64) (0 : Int64) (0 : Int32) h65 n0 O67 S_DELAY_NANOS S_ALONE_DELAY_NANOS A65 f68 f69 f70 f72 f71 f73 G67) hZ (hw _ (List.mem_of_getElem? (i := 13) rfl)) (hw _ (List.mem_of_getElem? (i := 2) rfl)) (by decide) (by decide)) q322a q322c (g := (mkF m 164 #[iv pi0, iv pi1, jv pj2, .second, jv pj3, .second, jv pj4, .second, jv pj5, .second, iv x2, iv x9, iv x16, iv x23, iv x30, iv x37, iv x43, iv x45, iv x48, iv x55, jv x61, .second, jv x63, .second, rv b65, .unset, .unset, .unset, .unset, .unset, .unset, .unset, .unset, .unset, .unset, .unset, .unset, .unset, .unset, .unset, .unset, .unset] [(.long pj2), (.int (1 : Int32)), (.int (1 : Int32)), (.int (1 : Int32)), (.ref b65)])) rfl (by rw [hml]; rfl) (Steps.refl _) (argsL := [(.int (1 : Int32)), (.int (1 : Int32)), (.int (1 : Int32)), (.long pj2)]) (rest := []) (lenOf pd__IIZJ_V rfl) rfl (by show 2 * 0 + _ ≤ _; exact Nat.le_of_eq rfl) (hb hby at_164) (fun _ _ => ⟨rfl, e75q, (by decide : 1 + 0 ≤ _), (by decide : 6 + 0 ≤ _)⟩)
    dsimp only [Pt.U, Pt.locs, Pt.cells, Pt.slots] at X322 l322 y322 z322 st322 hQ322
    subst l322 y322 z322
    obtain ⟨hv322, N322q, K322q, p322_0, p322_1, p322_2, p322_3, p322_4, p322_5⟩ := hQ322
    have N323 := Fr.app N76 N322q
    subst hv322
    have pre324 : ∀ t, Steps p.tables e below (T322.setTop (mkF m 167 #[iv pi0, iv pi1, jv pj2, .second, jv pj3, .second, jv pj4, .second, jv pj5, .second, iv x2, iv x9, iv x16, iv x23, iv x30, iv x37, iv x43, iv x45, iv x48, iv x55, jv x61, .second, jv x63, .second, rv b65, .unset, .unset, .unset, .unset, .unset, .unset, .unset, .unset, .unset, .unset, .unset, .unset, .unset, .unset, .unset, .unset, .unset] [])) t → Go t := fun t kt => pre321 t (st322.trans kt)
    obtain ⟨h322, eh322⟩ : ∃ z, T322.heap = z := ⟨_, rfl⟩
    rw [eh322] at K322q p322_0 p322_1 p322_2 p322_3 p322_4 p322_5
    have f325 : Exa Z h322 b65 "com/example/roamd/roamd/net/DelayedAck" := (A65.keep K322q)
    obtain ⟨x332, hx332⟩ : ∃ z : Int32, z = ((0 : Int32) + (1 : Int32)) := ⟨_, rfl⟩
    rw [← hx332] at p322_0
    rw [if_pos (rfl : (0 : Int32) = (0 : Int32))] at p322_1
    rw [if_pos (rfl : (0 : Int32) = (0 : Int32))] at p322_4
    obtain ⟨x333, hx333⟩ : ∃ z : Int64, z = (if (if (0 : Int32) = (0 : Int32) then (0 : Int32) else (if (700000000 : Int64) < (pj2 - (0 : Int64)) then (0 : Int32) else (1 : Int32))) = (0 : Int32) then (150000000 : Int64) else (700000000 : Int64)) := ⟨_, rfl⟩
    rw [← hx333] at p322_4
    obtain ⟨x334, hx334⟩ : ∃ z : Int32, z = (nar .boolean ((0 : Int32) ||| (if (1 : Int32) = (1 : Int32) then (if (1 : Int32) = (0 : Int32) then (1 : Int32) else (if ((0 : Int32) + (1 : Int32)) < (16 : Int32) then (0 : Int32) else (1 : Int32))) else (1 : Int32)))) := ⟨_, rfl⟩
    rw [← hx334] at p322_5
    have O335 := O67.keep K322q (allS G67 all0)
    have pre336 : ∀ t, Steps p.tables e below (T322.setTop (mkF m 169 #[iv pi0, iv pi1, jv pj2, .second, jv pj3, .second, jv pj4, .second, jv pj5, .second, iv x2, iv x9, iv x16, iv x23, iv x30, iv x37, iv x43, iv x45, iv x48, iv x55, jv x61, .second, jv x63, .second, rv b65, .unset, .unset, .unset, .unset, .unset, .unset, .unset, .unset, .unset, .unset, .unset, .unset, .unset, .unset, .unset, .unset, .unset] [(.ref b65)])) t → Go t := fun t kt => pre324 t (by
        refine y_aload X322.here hx (hb hby at_167) rfl rfl (pc' := 169) rfl ?_
        exact kt)
    obtain ⟨cq337, kq337, q337a, q337b, q337c⟩ := isOf hZ eh322 f325
    obtain ⟨v337, _, ⟨T337, L337, k337, n337⟩, -, X337, ⟨Lc337, hQ337, l337, y337, z337⟩, st337⟩ := X322.virtualBack hx (y := (⟨"com/example/roamd/roamd/net/DelayedAck", "sent", "()V"⟩ : MethodName)) (z := (⟨"com/example/roamd/roamd/net/DelayedAck", "sent", "()V"⟩ : MethodName)) hown (mvT hZ (hw _ (List.mem_of_getElem? (i := 39) rfl))) (mvT hZ (hw _ (List.mem_of_getElem? (i := 40) rfl))) (notFace_of_selects (args := #[]) (mvT hZ (hw _ (List.mem_of_getElem? (i := 42) rfl)))) (mvT hZ (hw _ (List.mem_of_getElem? (i := 42) rfl))) (mvT hZ (hw _ (List.mem_of_getElem? (i := 41) rfl))) (by decide) (backOf (W := 0) (rm6 l Z a0 hw [] b65 x332 pj2 (1 : Int32) pj2 x333 x334 h322 n0 O335 f325 p322_0 p322_1 p322_2 p322_3 p322_4 p322_5 G67) hZ (hw _ (List.mem_of_getElem? (i := 43) rfl)) (hw _ (List.mem_of_getElem? (i := 2) rfl)) (by decide) (by decide)) q337a q337c (g := (mkF m 169 #[iv pi0, iv pi1, jv pj2, .second, jv pj3, .second, jv pj4, .second, jv pj5, .second, iv x2, iv x9, iv x16, iv x23, iv x30, iv x37, iv x43, iv x45, iv x48, iv x55, jv x61, .second, jv x63, .second, rv b65, .unset, .unset, .unset, .unset, .unset, .unset, .unset, .unset, .unset, .unset, .unset, .unset, .unset, .unset, .unset, .unset, .unset] [(.ref b65)])) rfl (by rw [hml]; rfl) (Steps.refl _) (argsL := []) (rest := []) (lenOf pd___V rfl) rfl (by show 2 * 0 + _ ≤ _; exact Nat.le_of_eq rfl) (hb hby at_169) (fun _ _ => ⟨rfl, eh322, (by decide : 1 + 0 ≤ _), (by decide : 6 + 0 ≤ _)⟩)
    dsimp only [Pt.U, Pt.locs, Pt.cells, Pt.slots] at X337 l337 y337 z337 st337 hQ337
    subst l337 y337 z337
    obtain ⟨hv337, N337q, K337q, p337_0, p337_1, p337_2, p337_3, p337_4, p337_5⟩ := hQ337
    have N338 := Fr.app N323 N337q
    subst hv337
    have pre339 : ∀ t, Steps p.tables e below (T337.setTop (mkF m 172 #[iv pi0, iv pi1, jv pj2, .second, jv pj3, .second, jv pj4, .second, jv pj5, .second, iv x2, iv x9, iv x16, iv x23, iv x30, iv x37, iv x43, iv x45, iv x48, iv x55, jv x61, .second, jv x63, .second, rv b65, .unset, .unset, .unset, .unset, .unset, .unset, .unset, .unset, .unset, .unset, .unset, .unset, .unset, .unset, .unset, .unset, .unset] [])) t → Go t := fun t kt => pre336 t (st337.trans kt)
    obtain ⟨h337, eh337⟩ : ∃ z, T337.heap = z := ⟨_, rfl⟩
    rw [eh337] at K337q p337_0 p337_1 p337_2 p337_3 p337_4 p337_5
    have f340 : Exa Z h337 b65 "com/example/roamd/roamd/net/DelayedAck" := (f325.keep K337q)
    have O347 := O335.keep K337q (allS G67 all0)
    have pre348 : ∀ t, Steps p.tables e below (T337.setTop (mkF m 182 #[iv pi0, iv pi1, jv pj2, .second, jv pj3, .second, jv pj4, .second, jv pj5, .second, iv x2, iv x9, iv x16, iv x23, iv x30, iv x37, iv x43, iv x45, iv x48, iv x55, jv x61, .second, jv x63, .second, rv b65, .unset, .unset, .unset, .unset, .unset, .unset, .unset, .unset, .unset, .unset, .unset, .unset, .unset, .unset, .unset, .unset, .unset] [(.long x61), (.int x9), (.int x48), (.int x43), (.ref b65)])) t → Go t := fun t kt => pre339 t (by
        refine y_aload X337.here hx (hb hby at_172) rfl rfl (pc' := 174) rfl ?_
        refine y_iload X337.here hx (hb hby at_174) rfl (pc' := 176) rfl ?_
        refine y_iload X337.here hx (hb hby at_176) rfl (pc' := 178) rfl ?_
        refine y_iload X337.here hx (hb hby at_178) rfl (pc' := 180) rfl ?_
        refine y_lload X337.here hx (hb hby at_180) rfl (pc' := 182) rfl ?_
        exact kt)
    obtain ⟨cq349, kq349, q349a, q349b, q349c⟩ := isOf hZ eh337 f340
    obtain ⟨v349, _, ⟨T349, L349, k349, n349⟩, -, X349, ⟨Lc349, hQ349, l349, y349, z349⟩, st349⟩ := X337.virtualBack hx (y := (⟨"com/example/roamd/roamd/net/DelayedAck", "arrived", "(IIZJ)V"⟩ : MethodName)) (z := (⟨"com/example/roamd/roamd/net/DelayedAck", "arrived", "(IIZJ)V"⟩ : MethodName)) hown (mvT hZ (hw _ (List.mem_of_getElem? (i := 9) rfl))) (mvT hZ (hw _ (List.mem_of_getElem? (i := 10) rfl))) (notFace_of_selects (args := #[]) (mvT hZ (hw _ (List.mem_of_getElem? (i := 12) rfl)))) (mvT hZ (hw _ (List.mem_of_getElem? (i := 12) rfl))) (mvT hZ (hw _ (List.mem_of_getElem? (i := 11) rfl))) (by decide) (backOf (W := 0) (rm3 l Z a0 hw [] b65 x43 x48 x9 x61 (0 : Int32) pj2 (1 : Int32) pj2 x333 (0 : Int32) h337 n0 O347 S_DELAY_NANOS S_ALONE_DELAY_NANOS f340 p337_0 p337_1 p337_2 p337_3 p337_4 p337_5 G67) hZ (hw _ (List.mem_of_getElem? (i := 13) rfl)) (hw _ (List.mem_of_getElem? (i := 2) rfl)) (by decide) (by decide)) q349a q349c (g := (mkF m 182 #[iv pi0, iv pi1, jv pj2, .second, jv pj3, .second, jv pj4, .second, jv pj5, .second, iv x2, iv x9, iv x16, iv x23, iv x30, iv x37, iv x43, iv x45, iv x48, iv x55, jv x61, .second, jv x63, .second, rv b65, .unset, .unset, .unset, .unset, .unset, .unset, .unset, .unset, .unset, .unset, .unset, .unset, .unset, .unset, .unset, .unset, .unset] [(.long x61), (.int x9), (.int x48), (.int x43), (.ref b65)])) rfl (by rw [hml]; rfl) (Steps.refl _) (argsL := [(.int x43), (.int x48), (.int x9), (.long x61)]) (rest := []) (lenOf pd__IIZJ_V rfl) rfl (by show 2 * 0 + _ ≤ _; exact Nat.le_of_eq rfl) (hb hby at_182) (fun _ _ => ⟨rfl, eh337, (by decide : 1 + 0 ≤ _), (by decide : 6 + 0 ≤ _)⟩)
    dsimp only [Pt.U, Pt.locs, Pt.cells, Pt.slots] at X349 l349 y349 z349 st349 hQ349
    subst l349 y349 z349
    obtain ⟨hv349, N349q, K349q, p349_0, p349_1, p349_2, p349_3, p349_4, p349_5⟩ := hQ349
    have N350 := Fr.app N338 N349q
    subst hv349
    have pre351 : ∀ t, Steps p.tables e below (T349.setTop (mkF m 185 #[iv pi0, iv pi1, jv pj2, .second, jv pj3, .second, jv pj4, .second, jv pj5, .second, iv x2, iv x9, iv x16, iv x23, iv x30, iv x37, iv x43, iv x45, iv x48, iv x55, jv x61, .second, jv x63, .second, rv b65, .unset, .unset, .unset, .unset, .unset, .unset, .unset, .unset, .unset, .unset, .unset, .unset, .unset, .unset, .unset, .unset, .unset] [])) t → Go t := fun t kt => pre348 t (st349.trans kt)
    obtain ⟨h349, eh349⟩ : ∃ z, T349.heap = z := ⟨_, rfl⟩
    rw [eh349] at K349q p349_0 p349_1 p349_2 p349_3 p349_4 p349_5
    have f352 : Exa Z h349 b65 "com/example/roamd/roamd/net/DelayedAck" := (f340.keep K349q)
    obtain ⟨x359, hx359⟩ : ∃ z : Int32, z = ((0 : Int32) + x43) := ⟨_, rfl⟩
    rw [← hx359] at p349_0
    rw [if_pos (rfl : (0 : Int32) = (0 : Int32))] at p349_1
    rw [if_pos (rfl : (0 : Int32) = (0 : Int32))] at p349_4
    obtain ⟨x360, hx360⟩ : ∃ z : Int64, z = (if (if (1 : Int32) = (0 : Int32) then (0 : Int32) else (if (700000000 : Int64) < (x61 - pj2) then (0 : Int32) else (1 : Int32))) = (0 : Int32) then (150000000 : Int64) else (700000000 : Int64)) := ⟨_, rfl⟩
    rw [← hx360] at p349_4
    obtain ⟨x361, hx361⟩ : ∃ z : Int32, z = (nar .boolean ((0 : Int32) ||| (if x48 = x43 then (if x9 = (0 : Int32) then (1 : Int32) else (if ((0 : Int32) + x43) < (16 : Int32) then (0 : Int32) else (1 : Int32))) else (1 : Int32)))) := ⟨_, rfl⟩
    rw [← hx361] at p349_5
    have O362 := O347.keep K349q (allS G67 all0)
    have pre363 : ∀ t, Steps p.tables e below (T349.setTop (mkF m 187 #[iv pi0, iv pi1, jv pj2, .second, jv pj3, .second, jv pj4, .second, jv pj5, .second, iv x2, iv x9, iv x16, iv x23, iv x30, iv x37, iv x43, iv x45, iv x48, iv x55, jv x61, .second, jv x63, .second, rv b65, .unset, .unset, .unset, .unset, .unset, .unset, .unset, .unset, .unset, .unset, .unset, .unset, .unset, .unset, .unset, .unset, .unset] [(.int x23)])) t → Go t := fun t kt => pre351 t (by
        refine y_iload X349.here hx (hb hby at_185) rfl (pc' := 187) rfl ?_
        exact kt)
    by_cases hc187_364 : x23 = (0 : Int32)
    · have pre365 : ∀ t, Steps p.tables e below (T349.setTop (mkF m 214 #[iv pi0, iv pi1, jv pj2, .second, jv pj3, .second, jv pj4, .second, jv pj5, .second, iv x2, iv x9, iv x16, iv x23, iv x30, iv x37, iv x43, iv x45, iv x48, iv x55, jv x61, .second, jv x63, .second, rv b65, .unset, .unset, .unset, .unset, .unset, .unset, .unset, .unset, .unset, .unset, .unset, .unset, .unset, .unset, .unset, .unset, .unset] [(.int (lcmpW pj3 (700000000 : Int64)))])) t → Go t := fun t kt => pre363 t (by
          refine y_ifYes X349.here hx (hb hby at_187) ((if0 _ _).trans (teq hc187_364).1) (pc' := 203) (by decide) rfl ?_
          refine y_iload X349.here hx (hb hby at_203) rfl (pc' := 205) rfl ?_
          refine y_ifNo X349.here hx (hb hby at_205) ((if0 _ _).trans (feq hc155_79).1) (pc' := 208) rfl ?_
          refine y_lload X349.here hx (hb hby at_208) rfl (pc' := 210) rfl ?_
          refine X349.ldc2Long hx hown (mvT hZ (hw _ (List.mem_of_getElem? (i := 46) rfl))) (g := (mkF m 210 #[iv pi0, iv pi1, jv pj2, .second, jv pj3, .second, jv pj4, .second, jv pj5, .second, iv x2, iv x9, iv x16, iv x23, iv x30, iv x37, iv x43, iv x45, iv x48, iv x55, jv x61, .second, jv x63, .second, rv b65, .unset, .unset, .unset, .unset, .unset, .unset, .unset, .unset, .unset, .unset, .unset, .unset, .unset, .unset, .unset, .unset, .unset] [(.long pj3)])) rfl (hb hby at_210) _ ?_
          show Steps p.tables e below (T349.setTop (mkF m 213 #[iv pi0, iv pi1, jv pj2, .second, jv pj3, .second, jv pj4, .second, jv pj5, .second, iv x2, iv x9, iv x16, iv x23, iv x30, iv x37, iv x43, iv x45, iv x48, iv x55, jv x61, .second, jv x63, .second, rv b65, .unset, .unset, .unset, .unset, .unset, .unset, .unset, .unset, .unset, .unset, .unset, .unset, .unset, .unset, .unset, .unset, .unset] [(.long (700000000 : Int64)), (.long pj3)])) _
          refine y_lcmp X349.here hx (hb hby at_213) (pc' := 214) rfl ?_
          exact kt)
      obtain ⟨x366, hx366⟩ : ∃ z : Int64, z = (if (700000000 : Int64) < pj3 then (150000000 : Int64) else (700000000 : Int64)) := ⟨_, rfl⟩
      obtain ⟨T367, ⟨X367, q367⟩, st367⟩ : ∃ T', Nx X349 T' ∧ ∀ t, Steps p.tables e below (T'.setTop (mkF m 226 #[iv pi0, iv pi1, jv pj2, .second, jv pj3, .second, jv pj4, .second, jv pj5, .second, iv x2, iv x9, iv x16, iv x23, iv x30, iv x37, iv x43, iv x45, iv x48, iv x55, jv x61, .second, jv x63, .second, rv b65, .unset, .unset, .unset, .unset, .unset, .unset, .unset, .unset, .unset, .unset, .unset, .unset, .unset, .unset, .unset, .unset, .unset] [(.long x366)])) t → Steps p.tables e below (T349.setTop (mkF m 214 #[iv pi0, iv pi1, jv pj2, .second, jv pj3, .second, jv pj4, .second, jv pj5, .second, iv x2, iv x9, iv x16, iv x23, iv x30, iv x37, iv x43, iv x45, iv x48, iv x55, jv x61, .second, jv x63, .second, rv b65, .unset, .unset, .unset, .unset, .unset, .unset, .unset, .unset, .unset, .unset, .unset, .unset, .unset, .unset, .unset, .unset, .unset] [(.int (lcmpW pj3 (700000000 : Int64)))])) t := by
        have pre367_ : ∀ t, Steps p.tables e below (T349.setTop (mkF m 214 #[iv pi0, iv pi1, jv pj2, .second, jv pj3, .second, jv pj4, .second, jv pj5, .second, iv x2, iv x9, iv x16, iv x23, iv x30, iv x37, iv x43, iv x45, iv x48, iv x55, jv x61, .second, jv x63, .second, rv b65, .unset, .unset, .unset, .unset, .unset, .unset, .unset, .unset, .unset, .unset, .unset, .unset, .unset, .unset, .unset, .unset, .unset] [(.int (lcmpW pj3 (700000000 : Int64)))])) t → Steps p.tables e below (T349.setTop (mkF m 214 #[iv pi0, iv pi1, jv pj2, .second, jv pj3, .second, jv pj4, .second, jv pj5, .second, iv x2, iv x9, iv x16, iv x23, iv x30, iv x37, iv x43, iv x45, iv x48, iv x55, jv x61, .second, jv x63, .second, rv b65, .unset, .unset, .unset, .unset, .unset, .unset, .unset, .unset, .unset, .unset, .unset, .unset, .unset, .unset, .unset, .unset, .unset] [(.int (lcmpW pj3 (700000000 : Int64)))])) t := fun t kt => kt
        subst hx366
        by_cases hm214_368 : (700000000 : Int64) < pj3
        · have pre369 : ∀ t, Steps p.tables e below (T349.setTop (mkF m 226 #[iv pi0, iv pi1, jv pj2, .second, jv pj3, .second, jv pj4, .second, jv pj5, .second, iv x2, iv x9, iv x16, iv x23, iv x30, iv x37, iv x43, iv x45, iv x48, iv x55, jv x61, .second, jv x63, .second, rv b65, .unset, .unset, .unset, .unset, .unset, .unset, .unset, .unset, .unset, .unset, .unset, .unset, .unset, .unset, .unset, .unset, .unset] [(.long (150000000 : Int64))])) t → Steps p.tables e below (T349.setTop (mkF m 214 #[iv pi0, iv pi1, jv pj2, .second, jv pj3, .second, jv pj4, .second, jv pj5, .second, iv x2, iv x9, iv x16, iv x23, iv x30, iv x37, iv x43, iv x45, iv x48, iv x55, jv x61, .second, jv x63, .second, rv b65, .unset, .unset, .unset, .unset, .unset, .unset, .unset, .unset, .unset, .unset, .unset, .unset, .unset, .unset, .unset, .unset, .unset] [(.int (lcmpW pj3 (700000000 : Int64)))])) t := fun t kt => pre367_ t (by
              refine y_ifYes X349.here hx (hb hby at_214) ((if0 _ _).trans (tlt (lq_gt hm214_368)).2.2.1) (pc' := 223) (by decide) rfl ?_
              refine X349.ldc2Long hx hown (mvT hZ (hw _ (List.mem_of_getElem? (i := 28) rfl))) (g := (mkF m 223 #[iv pi0, iv pi1, jv pj2, .second, jv pj3, .second, jv pj4, .second, jv pj5, .second, iv x2, iv x9, iv x16, iv x23, iv x30, iv x37, iv x43, iv x45, iv x48, iv x55, jv x61, .second, jv x63, .second, rv b65, .unset, .unset, .unset, .unset, .unset, .unset, .unset, .unset, .unset, .unset, .unset, .unset, .unset, .unset, .unset, .unset, .unset] [])) rfl (hb hby at_223) _ ?_
              show Steps p.tables e below (T349.setTop (mkF m 226 #[iv pi0, iv pi1, jv pj2, .second, jv pj3, .second, jv pj4, .second, jv pj5, .second, iv x2, iv x9, iv x16, iv x23, iv x30, iv x37, iv x43, iv x45, iv x48, iv x55, jv x61, .second, jv x63, .second, rv b65, .unset, .unset, .unset, .unset, .unset, .unset, .unset, .unset, .unset, .unset, .unset, .unset, .unset, .unset, .unset, .unset, .unset] [(.long (150000000 : Int64))])) _
              exact kt)
          refine ⟨T349, ⟨X349, eh349.trans eh349.symm⟩, fun t kt => pre369 t ?_⟩
          (try simp only [if_pos hm214_368] at kt)
          exact kt
        · have pre370 : ∀ t, Steps p.tables e below (T349.setTop (mkF m 226 #[iv pi0, iv pi1, jv pj2, .second, jv pj3, .second, jv pj4, .second, jv pj5, .second, iv x2, iv x9, iv x16, iv x23, iv x30, iv x37, iv x43, iv x45, iv x48, iv x55, jv x61, .second, jv x63, .second, rv b65, .unset, .unset, .unset, .unset, .unset, .unset, .unset, .unset, .unset, .unset, .unset, .unset, .unset, .unset, .unset, .unset, .unset] [(.long (700000000 : Int64))])) t → Steps p.tables e below (T349.setTop (mkF m 214 #[iv pi0, iv pi1, jv pj2, .second, jv pj3, .second, jv pj4, .second, jv pj5, .second, iv x2, iv x9, iv x16, iv x23, iv x30, iv x37, iv x43, iv x45, iv x48, iv x55, jv x61, .second, jv x63, .second, rv b65, .unset, .unset, .unset, .unset, .unset, .unset, .unset, .unset, .unset, .unset, .unset, .unset, .unset, .unset, .unset, .unset, .unset] [(.int (lcmpW pj3 (700000000 : Int64)))])) t := fun t kt => pre367_ t (by
              refine y_ifNo X349.here hx (hb hby at_214) ((if0 _ _).trans (flt (lq_ngt hm214_368)).2.2.1) (pc' := 217) rfl ?_
              refine X349.ldc2Long hx hown (mvT hZ (hw _ (List.mem_of_getElem? (i := 46) rfl))) (g := (mkF m 217 #[iv pi0, iv pi1, jv pj2, .second, jv pj3, .second, jv pj4, .second, jv pj5, .second, iv x2, iv x9, iv x16, iv x23, iv x30, iv x37, iv x43, iv x45, iv x48, iv x55, jv x61, .second, jv x63, .second, rv b65, .unset, .unset, .unset, .unset, .unset, .unset, .unset, .unset, .unset, .unset, .unset, .unset, .unset, .unset, .unset, .unset, .unset] [])) rfl (hb hby at_217) _ ?_
              show Steps p.tables e below (T349.setTop (mkF m 220 #[iv pi0, iv pi1, jv pj2, .second, jv pj3, .second, jv pj4, .second, jv pj5, .second, iv x2, iv x9, iv x16, iv x23, iv x30, iv x37, iv x43, iv x45, iv x48, iv x55, jv x61, .second, jv x63, .second, rv b65, .unset, .unset, .unset, .unset, .unset, .unset, .unset, .unset, .unset, .unset, .unset, .unset, .unset, .unset, .unset, .unset, .unset] [(.long (700000000 : Int64))])) _
              refine y_goto X349.here hx (hb hby at_220) (pc' := 226) (by decide) rfl ?_
              exact kt)
          refine ⟨T349, ⟨X349, eh349.trans eh349.symm⟩, fun t kt => pre370 t ?_⟩
          (try simp only [if_neg hm214_368] at kt)
          exact kt
      have e367 : T367.heap = h349 := q367.trans eh349
      have pre371 : ∀ t, Steps p.tables e below (T367.setTop (mkF m 226 #[iv pi0, iv pi1, jv pj2, .second, jv pj3, .second, jv pj4, .second, jv pj5, .second, iv x2, iv x9, iv x16, iv x23, iv x30, iv x37, iv x43, iv x45, iv x48, iv x55, jv x61, .second, jv x63, .second, rv b65, .unset, .unset, .unset, .unset, .unset, .unset, .unset, .unset, .unset, .unset, .unset, .unset, .unset, .unset, .unset, .unset, .unset] [(.long x366)])) t → Go t := fun t kt => pre365 t (st367 t kt)
      have pre372 : ∀ t, Steps p.tables e below (T367.setTop (mkF m 249 #[iv pi0, iv pi1, jv pj2, .second, jv pj3, .second, jv pj4, .second, jv pj5, .second, iv x2, iv x9, iv x16, iv x23, iv x30, iv x37, iv x43, iv x45, iv x48, iv x55, jv x61, .second, jv x63, .second, rv b65, jv x366, .second, iv x43, .unset, .unset, .unset, .unset, .unset, .unset, .unset, .unset, .unset, .unset, .unset, .unset, .unset, .unset] [(.int x43), (.int x48)])) t → Go t := fun t kt => pre371 t (by
          refine y_lstore X367.here hx (hb hby at_226) (l' := #[iv pi0, iv pi1, jv pj2, .second, jv pj3, .second, jv pj4, .second, jv pj5, .second, iv x2, iv x9, iv x16, iv x23, iv x30, iv x37, iv x43, iv x45, iv x48, iv x55, jv x61, .second, jv x63, .second, rv b65, jv x366, .second, .unset, .unset, .unset, .unset, .unset, .unset, .unset, .unset, .unset, .unset, .unset, .unset, .unset, .unset, .unset]) rfl (pc' := 228) rfl ?_
          refine y_iload X367.here hx (hb hby at_228) rfl (pc' := 230) rfl ?_
          refine y_ifYes X367.here hx (hb hby at_230) ((if0 _ _).trans (teq hc187_364).1) (pc' := 241) (by decide) rfl ?_
          refine y_iload X367.here hx (hb hby at_241) rfl (pc' := 243) rfl ?_
          refine y_istore X367.here hx (hb hby at_243) (l' := #[iv pi0, iv pi1, jv pj2, .second, jv pj3, .second, jv pj4, .second, jv pj5, .second, iv x2, iv x9, iv x16, iv x23, iv x30, iv x37, iv x43, iv x45, iv x48, iv x55, jv x61, .second, jv x63, .second, rv b65, jv x366, .second, iv x43, .unset, .unset, .unset, .unset, .unset, .unset, .unset, .unset, .unset, .unset, .unset, .unset, .unset, .unset]) rfl (pc' := 245) rfl ?_
          refine y_iload X367.here hx (hb hby at_245) rfl (pc' := 247) rfl ?_
          refine y_iload X367.here hx (hb hby at_247) rfl (pc' := 249) rfl ?_
          exact kt)
      obtain ⟨x373, hx373⟩ : ∃ z : Int32, z = (if x48 = x43 then (if x9 = (0 : Int32) then (1 : Int32) else (if x43 < (16 : Int32) then (0 : Int32) else (1 : Int32))) else (1 : Int32)) := ⟨_, rfl⟩
      obtain ⟨T374, ⟨X374, q374⟩, st374⟩ : ∃ T', Nx X367 T' ∧ ∀ t, Steps p.tables e below (T'.setTop (mkF m 286 #[iv pi0, iv pi1, jv pj2, .second, jv pj3, .second, jv pj4, .second, jv pj5, .second, iv x2, iv x9, iv x16, iv x23, iv x30, iv x37, iv x43, iv x45, iv x48, iv x55, jv x61, .second, jv x63, .second, rv b65, jv x366, .second, iv x43, .unset, .unset, .unset, .unset, .unset, .unset, .unset, .unset, .unset, .unset, .unset, .unset, .unset, .unset] [(.int x373)])) t → Steps p.tables e below (T367.setTop (mkF m 249 #[iv pi0, iv pi1, jv pj2, .second, jv pj3, .second, jv pj4, .second, jv pj5, .second, iv x2, iv x9, iv x16, iv x23, iv x30, iv x37, iv x43, iv x45, iv x48, iv x55, jv x61, .second, jv x63, .second, rv b65, jv x366, .second, iv x43, .unset, .unset, .unset, .unset, .unset, .unset, .unset, .unset, .unset, .unset, .unset, .unset, .unset, .unset] [(.int x43), (.int x48)])) t := by
        have pre374_ : ∀ t, Steps p.tables e below (T367.setTop (mkF m 249 #[iv pi0, iv pi1, jv pj2, .second, jv pj3, .second, jv pj4, .second, jv pj5, .second, iv x2, iv x9, iv x16, iv x23, iv x30, iv x37, iv x43, iv x45, iv x48, iv x55, jv x61, .second, jv x63, .second, rv b65, jv x366, .second, iv x43, .unset, .unset, .unset, .unset, .unset, .unset, .unset, .unset, .unset, .unset, .unset, .unset, .unset, .unset] [(.int x43), (.int x48)])) t → Steps p.tables e below (T367.setTop (mkF m 249 #[iv pi0, iv pi1, jv pj2, .second, jv pj3, .second, jv pj4, .second, jv pj5, .second, iv x2, iv x9, iv x16, iv x23, iv x30, iv x37, iv x43, iv x45, iv x48, iv x55, jv x61, .second, jv x63, .second, rv b65, jv x366, .second, iv x43, .unset, .unset, .unset, .unset, .unset, .unset, .unset, .unset, .unset, .unset, .unset, .unset, .unset, .unset] [(.int x43), (.int x48)])) t := fun t kt => kt
        subst hx373
        by_cases hm249_375 : x48 = x43
        · have pre376 : ∀ t, Steps p.tables e below (T367.setTop (mkF m 254 #[iv pi0, iv pi1, jv pj2, .second, jv pj3, .second, jv pj4, .second, jv pj5, .second, iv x2, iv x9, iv x16, iv x23, iv x30, iv x37, iv x43, iv x45, iv x48, iv x55, jv x61, .second, jv x63, .second, rv b65, jv x366, .second, iv x43, .unset, .unset, .unset, .unset, .unset, .unset, .unset, .unset, .unset, .unset, .unset, .unset, .unset, .unset] [(.int x9)])) t → Steps p.tables e below (T367.setTop (mkF m 249 #[iv pi0, iv pi1, jv pj2, .second, jv pj3, .second, jv pj4, .second, jv pj5, .second, iv x2, iv x9, iv x16, iv x23, iv x30, iv x37, iv x43, iv x45, iv x48, iv x55, jv x61, .second, jv x63, .second, rv b65, jv x366, .second, iv x43, .unset, .unset, .unset, .unset, .unset, .unset, .unset, .unset, .unset, .unset, .unset, .unset, .unset, .unset] [(.int x43), (.int x48)])) t := fun t kt => pre374_ t (by
              refine y_icmpNo X367.here hx (hb hby at_249) (teq hm249_375).2 (pc' := 252) rfl ?_
              refine y_iload X367.here hx (hb hby at_252) rfl (pc' := 254) rfl ?_
              exact kt)
          by_cases hm254_377 : x9 = (0 : Int32)
          · have pre378 : ∀ t, Steps p.tables e below (T367.setTop (mkF m 286 #[iv pi0, iv pi1, jv pj2, .second, jv pj3, .second, jv pj4, .second, jv pj5, .second, iv x2, iv x9, iv x16, iv x23, iv x30, iv x37, iv x43, iv x45, iv x48, iv x55, jv x61, .second, jv x63, .second, rv b65, jv x366, .second, iv x43, .unset, .unset, .unset, .unset, .unset, .unset, .unset, .unset, .unset, .unset, .unset, .unset, .unset, .unset] [(.int (1 : Int32))])) t → Steps p.tables e below (T367.setTop (mkF m 249 #[iv pi0, iv pi1, jv pj2, .second, jv pj3, .second, jv pj4, .second, jv pj5, .second, iv x2, iv x9, iv x16, iv x23, iv x30, iv x37, iv x43, iv x45, iv x48, iv x55, jv x61, .second, jv x63, .second, rv b65, jv x366, .second, iv x43, .unset, .unset, .unset, .unset, .unset, .unset, .unset, .unset, .unset, .unset, .unset, .unset, .unset, .unset] [(.int x43), (.int x48)])) t := fun t kt => pre376 t (by
                refine y_ifYes X367.here hx (hb hby at_254) ((if0 _ _).trans (teq hm254_377).1) (pc' := 281) (by decide) rfl ?_
                refine y_iconst X367.here hx (hb hby at_281) (v := (1 : Int32)) rfl (pc' := 282) rfl ?_
                refine y_goto X367.here hx (hb hby at_282) (pc' := 286) (by decide) rfl ?_
                exact kt)
            refine ⟨T367, ⟨X367, e367.trans e367.symm⟩, fun t kt => pre378 t ?_⟩
            (try simp only [if_pos hm249_375, if_pos hm254_377] at kt)
            exact kt
          · have pre379 : ∀ t, Steps p.tables e below (T367.setTop (mkF m 278 #[iv pi0, iv pi1, jv pj2, .second, jv pj3, .second, jv pj4, .second, jv pj5, .second, iv x2, iv x9, iv x16, iv x23, iv x30, iv x37, iv x43, iv x45, iv x48, iv x55, jv x61, .second, jv x63, .second, rv b65, jv x366, .second, iv x43, .unset, .unset, .unset, .unset, .unset, .unset, .unset, .unset, .unset, .unset, .unset, .unset, .unset, .unset] [(.int (16 : Int32)), (.int x43)])) t → Steps p.tables e below (T367.setTop (mkF m 249 #[iv pi0, iv pi1, jv pj2, .second, jv pj3, .second, jv pj4, .second, jv pj5, .second, iv x2, iv x9, iv x16, iv x23, iv x30, iv x37, iv x43, iv x45, iv x48, iv x55, jv x61, .second, jv x63, .second, rv b65, jv x366, .second, iv x43, .unset, .unset, .unset, .unset, .unset, .unset, .unset, .unset, .unset, .unset, .unset, .unset, .unset, .unset] [(.int x43), (.int x48)])) t := fun t kt => pre376 t (by
                refine y_ifNo X367.here hx (hb hby at_254) ((if0 _ _).trans (feq hm254_377).1) (pc' := 257) rfl ?_
                refine y_iload X367.here hx (hb hby at_257) rfl (pc' := 259) rfl ?_
                refine y_ifYes X367.here hx (hb hby at_259) ((if0 _ _).trans (teq hc187_364).1) (pc' := 274) (by decide) rfl ?_
                refine y_iload X367.here hx (hb hby at_274) rfl (pc' := 276) rfl ?_
                refine y_bipush X367.here hx (hb hby at_276) (v := (16 : Int32)) rfl (pc' := 278) rfl ?_
                exact kt)
            by_cases hm278_380 : x43 < (16 : Int32)
            · have pre381 : ∀ t, Steps p.tables e below (T367.setTop (mkF m 286 #[iv pi0, iv pi1, jv pj2, .second, jv pj3, .second, jv pj4, .second, jv pj5, .second, iv x2, iv x9, iv x16, iv x23, iv x30, iv x37, iv x43, iv x45, iv x48, iv x55, jv x61, .second, jv x63, .second, rv b65, jv x366, .second, iv x43, .unset, .unset, .unset, .unset, .unset, .unset, .unset, .unset, .unset, .unset, .unset, .unset, .unset, .unset] [(.int (0 : Int32))])) t → Steps p.tables e below (T367.setTop (mkF m 249 #[iv pi0, iv pi1, jv pj2, .second, jv pj3, .second, jv pj4, .second, jv pj5, .second, iv x2, iv x9, iv x16, iv x23, iv x30, iv x37, iv x43, iv x45, iv x48, iv x55, jv x61, .second, jv x63, .second, rv b65, jv x366, .second, iv x43, .unset, .unset, .unset, .unset, .unset, .unset, .unset, .unset, .unset, .unset, .unset, .unset, .unset, .unset] [(.int x43), (.int x48)])) t := fun t kt => pre379 t (by
                  refine y_icmpYes X367.here hx (hb hby at_278) (tlt hm278_380).1 (pc' := 285) (by decide) rfl ?_
                  refine y_iconst X367.here hx (hb hby at_285) (v := (0 : Int32)) rfl (pc' := 286) rfl ?_
                  exact kt)
              refine ⟨T367, ⟨X367, e367.trans e367.symm⟩, fun t kt => pre381 t ?_⟩
              (try simp only [if_pos hm249_375, if_neg hm254_377, if_pos hm278_380] at kt)
              exact kt
            · have pre382 : ∀ t, Steps p.tables e below (T367.setTop (mkF m 286 #[iv pi0, iv pi1, jv pj2, .second, jv pj3, .second, jv pj4, .second, jv pj5, .second, iv x2, iv x9, iv x16, iv x23, iv x30, iv x37, iv x43, iv x45, iv x48, iv x55, jv x61, .second, jv x63, .second, rv b65, jv x366, .second, iv x43, .unset, .unset, .unset, .unset, .unset, .unset, .unset, .unset, .unset, .unset, .unset, .unset, .unset, .unset] [(.int (1 : Int32))])) t → Steps p.tables e below (T367.setTop (mkF m 249 #[iv pi0, iv pi1, jv pj2, .second, jv pj3, .second, jv pj4, .second, jv pj5, .second, iv x2, iv x9, iv x16, iv x23, iv x30, iv x37, iv x43, iv x45, iv x48, iv x55, jv x61, .second, jv x63, .second, rv b65, jv x366, .second, iv x43, .unset, .unset, .unset, .unset, .unset, .unset, .unset, .unset, .unset, .unset, .unset, .unset, .unset, .unset] [(.int x43), (.int x48)])) t := fun t kt => pre379 t (by
                  refine y_icmpNo X367.here hx (hb hby at_278) (flt hm278_380).1 (pc' := 281) rfl ?_
                  refine y_iconst X367.here hx (hb hby at_281) (v := (1 : Int32)) rfl (pc' := 282) rfl ?_
                  refine y_goto X367.here hx (hb hby at_282) (pc' := 286) (by decide) rfl ?_
                  exact kt)
              refine ⟨T367, ⟨X367, e367.trans e367.symm⟩, fun t kt => pre382 t ?_⟩
              (try simp only [if_pos hm249_375, if_neg hm254_377, if_neg hm278_380] at kt)
              exact kt
        · have pre383 : ∀ t, Steps p.tables e below (T367.setTop (mkF m 286 #[iv pi0, iv pi1, jv pj2, .second, jv pj3, .second, jv pj4, .second, jv pj5, .second, iv x2, iv x9, iv x16, iv x23, iv x30, iv x37, iv x43, iv x45, iv x48, iv x55, jv x61, .second, jv x63, .second, rv b65, jv x366, .second, iv x43, .unset, .unset, .unset, .unset, .unset, .unset, .unset, .unset, .unset, .unset, .unset, .unset, .unset, .unset] [(.int (1 : Int32))])) t → Steps p.tables e below (T367.setTop (mkF m 249 #[iv pi0, iv pi1, jv pj2, .second, jv pj3, .second, jv pj4, .second, jv pj5, .second, iv x2, iv x9, iv x16, iv x23, iv x30, iv x37, iv x43, iv x45, iv x48, iv x55, jv x61, .second, jv x63, .second, rv b65, jv x366, .second, iv x43, .unset, .unset, .unset, .unset, .unset, .unset, .unset, .unset, .unset, .unset, .unset, .unset, .unset, .unset] [(.int x43), (.int x48)])) t := fun t kt => pre374_ t (by
              refine y_icmpYes X367.here hx (hb hby at_249) (feq hm249_375).2 (pc' := 281) (by decide) rfl ?_
              refine y_iconst X367.here hx (hb hby at_281) (v := (1 : Int32)) rfl (pc' := 282) rfl ?_
              refine y_goto X367.here hx (hb hby at_282) (pc' := 286) (by decide) rfl ?_
              exact kt)
          refine ⟨T367, ⟨X367, e367.trans e367.symm⟩, fun t kt => pre383 t ?_⟩
          (try simp only [if_neg hm249_375] at kt)
          exact kt
      have e374 : T374.heap = h349 := q374.trans e367
      have pre384 : ∀ t, Steps p.tables e below (T374.setTop (mkF m 286 #[iv pi0, iv pi1, jv pj2, .second, jv pj3, .second, jv pj4, .second, jv pj5, .second, iv x2, iv x9, iv x16, iv x23, iv x30, iv x37, iv x43, iv x45, iv x48, iv x55, jv x61, .second, jv x63, .second, rv b65, jv x366, .second, iv x43, .unset, .unset, .unset, .unset, .unset, .unset, .unset, .unset, .unset, .unset, .unset, .unset, .unset, .unset] [(.int x373)])) t → Go t := fun t kt => pre372 t (st374 t kt)
      obtain ⟨x385, hx385⟩ : ∃ z : Int64, z = (x61 + pj5) := ⟨_, rfl⟩
      have pre386 : ∀ t, Steps p.tables e below (T374.setTop (mkF m 295 #[iv pi0, iv pi1, jv pj2, .second, jv pj3, .second, jv pj4, .second, jv pj5, .second, iv x2, iv x9, iv x16, iv x23, iv x30, iv x37, iv x43, iv x45, iv x48, iv x55, jv x61, .second, jv x63, .second, rv b65, jv x366, .second, iv x43, iv x373, jv x385, .second, .unset, .unset, .unset, .unset, .unset, .unset, .unset, .unset, .unset, .unset, .unset] [])) t → Go t := fun t kt => pre384 t (by
          subst hx385
          refine y_istore X374.here hx (hb hby at_286) (l' := #[iv pi0, iv pi1, jv pj2, .second, jv pj3, .second, jv pj4, .second, jv pj5, .second, iv x2, iv x9, iv x16, iv x23, iv x30, iv x37, iv x43, iv x45, iv x48, iv x55, jv x61, .second, jv x63, .second, rv b65, jv x366, .second, iv x43, iv x373, .unset, .unset, .unset, .unset, .unset, .unset, .unset, .unset, .unset, .unset, .unset, .unset, .unset]) rfl (pc' := 288) rfl ?_
          refine y_lload X374.here hx (hb hby at_288) rfl (pc' := 290) rfl ?_
          refine y_lload X374.here hx (hb hby at_290) rfl (pc' := 292) rfl ?_
          refine y_ladd X374.here hx (hb hby at_292) rfl (pc' := 293) rfl ?_
          refine y_lstore X374.here hx (hb hby at_293) (l' := #[iv pi0, iv pi1, jv pj2, .second, jv pj3, .second, jv pj4, .second, jv pj5, .second, iv x2, iv x9, iv x16, iv x23, iv x30, iv x37, iv x43, iv x45, iv x48, iv x55, jv x61, .second, jv x63, .second, rv b65, jv x366, .second, iv x43, iv x373, jv (x61 + pj5), .second, .unset, .unset, .unset, .unset, .unset, .unset, .unset, .unset, .unset, .unset, .unset]) rfl (pc' := 295) rfl ?_
          exact kt)
      have pre387 : ∀ t, Steps p.tables e below (T374.setTop (mkF m 297 #[iv pi0, iv pi1, jv pj2, .second, jv pj3, .second, jv pj4, .second, jv pj5, .second, iv x2, iv x9, iv x16, iv x23, iv x30, iv x37, iv x43, iv x45, iv x48, iv x55, jv x61, .second, jv x63, .second, rv b65, jv x366, .second, iv x43, iv x373, jv x385, .second, .unset, .unset, .unset, .unset, .unset, .unset, .unset, .unset, .unset, .unset, .unset] [(.int x373)])) t → Go t := fun t kt => pre386 t (by
          refine y_iload X374.here hx (hb hby at_295) rfl (pc' := 297) rfl ?_
          exact kt)
      obtain ⟨x388, hx388⟩ : ∃ z : Int64, z = (if x373 = (0 : Int32) then (x366 - pj5) else (0 : Int64)) := ⟨_, rfl⟩
      obtain ⟨T389, ⟨X389, q389⟩, st389⟩ : ∃ T', Nx X374 T' ∧ ∀ t, Steps p.tables e below (T'.setTop (mkF m 309 #[iv pi0, iv pi1, jv pj2, .second, jv pj3, .second, jv pj4, .second, jv pj5, .second, iv x2, iv x9, iv x16, iv x23, iv x30, iv x37, iv x43, iv x45, iv x48, iv x55, jv x61, .second, jv x63, .second, rv b65, jv x366, .second, iv x43, iv x373, jv x385, .second, .unset, .unset, .unset, .unset, .unset, .unset, .unset, .unset, .unset, .unset, .unset] [(.long x388)])) t → Steps p.tables e below (T374.setTop (mkF m 297 #[iv pi0, iv pi1, jv pj2, .second, jv pj3, .second, jv pj4, .second, jv pj5, .second, iv x2, iv x9, iv x16, iv x23, iv x30, iv x37, iv x43, iv x45, iv x48, iv x55, jv x61, .second, jv x63, .second, rv b65, jv x366, .second, iv x43, iv x373, jv x385, .second, .unset, .unset, .unset, .unset, .unset, .unset, .unset, .unset, .unset, .unset, .unset] [(.int x373)])) t := by
        have pre389_ : ∀ t, Steps p.tables e below (T374.setTop (mkF m 297 #[iv pi0, iv pi1, jv pj2, .second, jv pj3, .second, jv pj4, .second, jv pj5, .second, iv x2, iv x9, iv x16, iv x23, iv x30, iv x37, iv x43, iv x45, iv x48, iv x55, jv x61, .second, jv x63, .second, rv b65, jv x366, .second, iv x43, iv x373, jv x385, .second, .unset, .unset, .unset, .unset, .unset, .unset, .unset, .unset, .unset, .unset, .unset] [(.int x373)])) t → Steps p.tables e below (T374.setTop (mkF m 297 #[iv pi0, iv pi1, jv pj2, .second, jv pj3, .second, jv pj4, .second, jv pj5, .second, iv x2, iv x9, iv x16, iv x23, iv x30, iv x37, iv x43, iv x45, iv x48, iv x55, jv x61, .second, jv x63, .second, rv b65, jv x366, .second, iv x43, iv x373, jv x385, .second, .unset, .unset, .unset, .unset, .unset, .unset, .unset, .unset, .unset, .unset, .unset] [(.int x373)])) t := fun t kt => kt
        subst hx388
        by_cases hm297_390 : x373 = (0 : Int32)
        · have pre391 : ∀ t, Steps p.tables e below (T374.setTop (mkF m 309 #[iv pi0, iv pi1, jv pj2, .second, jv pj3, .second, jv pj4, .second, jv pj5, .second, iv x2, iv x9, iv x16, iv x23, iv x30, iv x37, iv x43, iv x45, iv x48, iv x55, jv x61, .second, jv x63, .second, rv b65, jv x366, .second, iv x43, iv x373, jv x385, .second, .unset, .unset, .unset, .unset, .unset, .unset, .unset, .unset, .unset, .unset, .unset] [(.long (x366 - pj5))])) t → Steps p.tables e below (T374.setTop (mkF m 297 #[iv pi0, iv pi1, jv pj2, .second, jv pj3, .second, jv pj4, .second, jv pj5, .second, iv x2, iv x9, iv x16, iv x23, iv x30, iv x37, iv x43, iv x45, iv x48, iv x55, jv x61, .second, jv x63, .second, rv b65, jv x366, .second, iv x43, iv x373, jv x385, .second, .unset, .unset, .unset, .unset, .unset, .unset, .unset, .unset, .unset, .unset, .unset] [(.int x373)])) t := fun t kt => pre389_ t (by
              refine y_ifYes X374.here hx (hb hby at_297) ((if0 _ _).trans (teq hm297_390).1) (pc' := 304) (by decide) rfl ?_
              refine y_lload X374.here hx (hb hby at_304) rfl (pc' := 306) rfl ?_
              refine y_lload X374.here hx (hb hby at_306) rfl (pc' := 308) rfl ?_
              refine y_lsub X374.here hx (hb hby at_308) rfl (pc' := 309) rfl ?_
              exact kt)
          refine ⟨T374, ⟨X374, e374.trans e374.symm⟩, fun t kt => pre391 t ?_⟩
          (try simp only [if_pos hm297_390] at kt)
          exact kt
        · have pre392 : ∀ t, Steps p.tables e below (T374.setTop (mkF m 309 #[iv pi0, iv pi1, jv pj2, .second, jv pj3, .second, jv pj4, .second, jv pj5, .second, iv x2, iv x9, iv x16, iv x23, iv x30, iv x37, iv x43, iv x45, iv x48, iv x55, jv x61, .second, jv x63, .second, rv b65, jv x366, .second, iv x43, iv x373, jv x385, .second, .unset, .unset, .unset, .unset, .unset, .unset, .unset, .unset, .unset, .unset, .unset] [(.long (0 : Int64))])) t → Steps p.tables e below (T374.setTop (mkF m 297 #[iv pi0, iv pi1, jv pj2, .second, jv pj3, .second, jv pj4, .second, jv pj5, .second, iv x2, iv x9, iv x16, iv x23, iv x30, iv x37, iv x43, iv x45, iv x48, iv x55, jv x61, .second, jv x63, .second, rv b65, jv x366, .second, iv x43, iv x373, jv x385, .second, .unset, .unset, .unset, .unset, .unset, .unset, .unset, .unset, .unset, .unset, .unset] [(.int x373)])) t := fun t kt => pre389_ t (by
              refine y_ifNo X374.here hx (hb hby at_297) ((if0 _ _).trans (feq hm297_390).1) (pc' := 300) rfl ?_
              refine y_lconst X374.here hx (hb hby at_300) (v := (0 : Int64)) rfl (pc' := 301) rfl ?_
              refine y_goto X374.here hx (hb hby at_301) (pc' := 309) (by decide) rfl ?_
              exact kt)
          refine ⟨T374, ⟨X374, e374.trans e374.symm⟩, fun t kt => pre392 t ?_⟩
          (try simp only [if_neg hm297_390] at kt)
          exact kt
      have e389 : T389.heap = h349 := q389.trans e374
      have pre393 : ∀ t, Steps p.tables e below (T389.setTop (mkF m 309 #[iv pi0, iv pi1, jv pj2, .second, jv pj3, .second, jv pj4, .second, jv pj5, .second, iv x2, iv x9, iv x16, iv x23, iv x30, iv x37, iv x43, iv x45, iv x48, iv x55, jv x61, .second, jv x63, .second, rv b65, jv x366, .second, iv x43, iv x373, jv x385, .second, .unset, .unset, .unset, .unset, .unset, .unset, .unset, .unset, .unset, .unset, .unset] [(.long x388)])) t → Go t := fun t kt => pre387 t (st389 t kt)
      have pre394 : ∀ t, Steps p.tables e below (T389.setTop (mkF m 313 #[iv pi0, iv pi1, jv pj2, .second, jv pj3, .second, jv pj4, .second, jv pj5, .second, iv x2, iv x9, iv x16, iv x23, iv x30, iv x37, iv x43, iv x45, iv x48, iv x55, jv x61, .second, jv x63, .second, rv b65, jv x366, .second, iv x43, iv x373, jv x385, .second, jv x388, .second, .unset, .unset, .unset, .unset, .unset, .unset, .unset, .unset, .unset] [(.int x373)])) t → Go t := fun t kt => pre393 t (by
          refine y_lstore X389.here hx (hb hby at_309) (l' := #[iv pi0, iv pi1, jv pj2, .second, jv pj3, .second, jv pj4, .second, jv pj5, .second, iv x2, iv x9, iv x16, iv x23, iv x30, iv x37, iv x43, iv x45, iv x48, iv x55, jv x61, .second, jv x63, .second, rv b65, jv x366, .second, iv x43, iv x373, jv x385, .second, jv x388, .second, .unset, .unset, .unset, .unset, .unset, .unset, .unset, .unset, .unset]) rfl (pc' := 311) rfl ?_
          refine y_iload X389.here hx (hb hby at_311) rfl (pc' := 313) rfl ?_
          exact kt)
      obtain ⟨x395, hx395⟩ : ∃ z : Int32, z = (if x373 = (0 : Int32) then (if pj5 < x366 then (0 : Int32) else (1 : Int32)) else (1 : Int32)) := ⟨_, rfl⟩
      obtain ⟨T396, ⟨X396, q396⟩, st396⟩ : ∃ T', Nx X389 T' ∧ ∀ t, Steps p.tables e below (T'.setTop (mkF m 329 #[iv pi0, iv pi1, jv pj2, .second, jv pj3, .second, jv pj4, .second, jv pj5, .second, iv x2, iv x9, iv x16, iv x23, iv x30, iv x37, iv x43, iv x45, iv x48, iv x55, jv x61, .second, jv x63, .second, rv b65, jv x366, .second, iv x43, iv x373, jv x385, .second, jv x388, .second, .unset, .unset, .unset, .unset, .unset, .unset, .unset, .unset, .unset] [(.int x395)])) t → Steps p.tables e below (T389.setTop (mkF m 313 #[iv pi0, iv pi1, jv pj2, .second, jv pj3, .second, jv pj4, .second, jv pj5, .second, iv x2, iv x9, iv x16, iv x23, iv x30, iv x37, iv x43, iv x45, iv x48, iv x55, jv x61, .second, jv x63, .second, rv b65, jv x366, .second, iv x43, iv x373, jv x385, .second, jv x388, .second, .unset, .unset, .unset, .unset, .unset, .unset, .unset, .unset, .unset] [(.int x373)])) t := by
        have pre396_ : ∀ t, Steps p.tables e below (T389.setTop (mkF m 313 #[iv pi0, iv pi1, jv pj2, .second, jv pj3, .second, jv pj4, .second, jv pj5, .second, iv x2, iv x9, iv x16, iv x23, iv x30, iv x37, iv x43, iv x45, iv x48, iv x55, jv x61, .second, jv x63, .second, rv b65, jv x366, .second, iv x43, iv x373, jv x385, .second, jv x388, .second, .unset, .unset, .unset, .unset, .unset, .unset, .unset, .unset, .unset] [(.int x373)])) t → Steps p.tables e below (T389.setTop (mkF m 313 #[iv pi0, iv pi1, jv pj2, .second, jv pj3, .second, jv pj4, .second, jv pj5, .second, iv x2, iv x9, iv x16, iv x23, iv x30, iv x37, iv x43, iv x45, iv x48, iv x55, jv x61, .second, jv x63, .second, rv b65, jv x366, .second, iv x43, iv x373, jv x385, .second, jv x388, .second, .unset, .unset, .unset, .unset, .unset, .unset, .unset, .unset, .unset] [(.int x373)])) t := fun t kt => kt
        subst hx395
        by_cases hm313_397 : x373 = (0 : Int32)
        · have pre398 : ∀ t, Steps p.tables e below (T389.setTop (mkF m 321 #[iv pi0, iv pi1, jv pj2, .second, jv pj3, .second, jv pj4, .second, jv pj5, .second, iv x2, iv x9, iv x16, iv x23, iv x30, iv x37, iv x43, iv x45, iv x48, iv x55, jv x61, .second, jv x63, .second, rv b65, jv x366, .second, iv x43, iv x373, jv x385, .second, jv x388, .second, .unset, .unset, .unset, .unset, .unset, .unset, .unset, .unset, .unset] [(.int (lcmpW pj5 x366))])) t → Steps p.tables e below (T389.setTop (mkF m 313 #[iv pi0, iv pi1, jv pj2, .second, jv pj3, .second, jv pj4, .second, jv pj5, .second, iv x2, iv x9, iv x16, iv x23, iv x30, iv x37, iv x43, iv x45, iv x48, iv x55, jv x61, .second, jv x63, .second, rv b65, jv x366, .second, iv x43, iv x373, jv x385, .second, jv x388, .second, .unset, .unset, .unset, .unset, .unset, .unset, .unset, .unset, .unset] [(.int x373)])) t := fun t kt => pre396_ t (by
              refine y_ifNo X389.here hx (hb hby at_313) ((if0 _ _).trans (teq hm313_397).2) (pc' := 316) rfl ?_
              refine y_lload X389.here hx (hb hby at_316) rfl (pc' := 318) rfl ?_
              refine y_lload X389.here hx (hb hby at_318) rfl (pc' := 320) rfl ?_
              refine y_lcmp X389.here hx (hb hby at_320) (pc' := 321) rfl ?_
              exact kt)
          by_cases hm321_399 : pj5 < x366
          · have pre400 : ∀ t, Steps p.tables e below (T389.setTop (mkF m 329 #[iv pi0, iv pi1, jv pj2, .second, jv pj3, .second, jv pj4, .second, jv pj5, .second, iv x2, iv x9, iv x16, iv x23, iv x30, iv x37, iv x43, iv x45, iv x48, iv x55, jv x61, .second, jv x63, .second, rv b65, jv x366, .second, iv x43, iv x373, jv x385, .second, jv x388, .second, .unset, .unset, .unset, .unset, .unset, .unset, .unset, .unset, .unset] [(.int (0 : Int32))])) t → Steps p.tables e below (T389.setTop (mkF m 313 #[iv pi0, iv pi1, jv pj2, .second, jv pj3, .second, jv pj4, .second, jv pj5, .second, iv x2, iv x9, iv x16, iv x23, iv x30, iv x37, iv x43, iv x45, iv x48, iv x55, jv x61, .second, jv x63, .second, rv b65, jv x366, .second, iv x43, iv x373, jv x385, .second, jv x388, .second, .unset, .unset, .unset, .unset, .unset, .unset, .unset, .unset, .unset] [(.int x373)])) t := fun t kt => pre398 t (by
                refine y_ifYes X389.here hx (hb hby at_321) ((if0 _ _).trans (tlt (lq_lt hm321_399)).1) (pc' := 328) (by decide) rfl ?_
                refine y_iconst X389.here hx (hb hby at_328) (v := (0 : Int32)) rfl (pc' := 329) rfl ?_
                exact kt)
            refine ⟨T389, ⟨X389, e389.trans e389.symm⟩, fun t kt => pre400 t ?_⟩
            (try simp only [if_pos hm313_397, if_pos hm321_399] at kt)
            exact kt
          · have pre401 : ∀ t, Steps p.tables e below (T389.setTop (mkF m 329 #[iv pi0, iv pi1, jv pj2, .second, jv pj3, .second, jv pj4, .second, jv pj5, .second, iv x2, iv x9, iv x16, iv x23, iv x30, iv x37, iv x43, iv x45, iv x48, iv x55, jv x61, .second, jv x63, .second, rv b65, jv x366, .second, iv x43, iv x373, jv x385, .second, jv x388, .second, .unset, .unset, .unset, .unset, .unset, .unset, .unset, .unset, .unset] [(.int (1 : Int32))])) t → Steps p.tables e below (T389.setTop (mkF m 313 #[iv pi0, iv pi1, jv pj2, .second, jv pj3, .second, jv pj4, .second, jv pj5, .second, iv x2, iv x9, iv x16, iv x23, iv x30, iv x37, iv x43, iv x45, iv x48, iv x55, jv x61, .second, jv x63, .second, rv b65, jv x366, .second, iv x43, iv x373, jv x385, .second, jv x388, .second, .unset, .unset, .unset, .unset, .unset, .unset, .unset, .unset, .unset] [(.int x373)])) t := fun t kt => pre398 t (by
                refine y_ifNo X389.here hx (hb hby at_321) ((if0 _ _).trans (flt (lq_nlt hm321_399)).1) (pc' := 324) rfl ?_
                refine y_iconst X389.here hx (hb hby at_324) (v := (1 : Int32)) rfl (pc' := 325) rfl ?_
                refine y_goto X389.here hx (hb hby at_325) (pc' := 329) (by decide) rfl ?_
                exact kt)
            refine ⟨T389, ⟨X389, e389.trans e389.symm⟩, fun t kt => pre401 t ?_⟩
            (try simp only [if_pos hm313_397, if_neg hm321_399] at kt)
            exact kt
        · have pre402 : ∀ t, Steps p.tables e below (T389.setTop (mkF m 329 #[iv pi0, iv pi1, jv pj2, .second, jv pj3, .second, jv pj4, .second, jv pj5, .second, iv x2, iv x9, iv x16, iv x23, iv x30, iv x37, iv x43, iv x45, iv x48, iv x55, jv x61, .second, jv x63, .second, rv b65, jv x366, .second, iv x43, iv x373, jv x385, .second, jv x388, .second, .unset, .unset, .unset, .unset, .unset, .unset, .unset, .unset, .unset] [(.int (1 : Int32))])) t → Steps p.tables e below (T389.setTop (mkF m 313 #[iv pi0, iv pi1, jv pj2, .second, jv pj3, .second, jv pj4, .second, jv pj5, .second, iv x2, iv x9, iv x16, iv x23, iv x30, iv x37, iv x43, iv x45, iv x48, iv x55, jv x61, .second, jv x63, .second, rv b65, jv x366, .second, iv x43, iv x373, jv x385, .second, jv x388, .second, .unset, .unset, .unset, .unset, .unset, .unset, .unset, .unset, .unset] [(.int x373)])) t := fun t kt => pre396_ t (by
              refine y_ifYes X389.here hx (hb hby at_313) ((if0 _ _).trans (feq hm313_397).2) (pc' := 324) (by decide) rfl ?_
              refine y_iconst X389.here hx (hb hby at_324) (v := (1 : Int32)) rfl (pc' := 325) rfl ?_
              refine y_goto X389.here hx (hb hby at_325) (pc' := 329) (by decide) rfl ?_
              exact kt)
          refine ⟨T389, ⟨X389, e389.trans e389.symm⟩, fun t kt => pre402 t ?_⟩
          (try simp only [if_neg hm313_397] at kt)
          exact kt
      have e396 : T396.heap = h349 := q396.trans e389
      have pre403 : ∀ t, Steps p.tables e below (T396.setTop (mkF m 329 #[iv pi0, iv pi1, jv pj2, .second, jv pj3, .second, jv pj4, .second, jv pj5, .second, iv x2, iv x9, iv x16, iv x23, iv x30, iv x37, iv x43, iv x45, iv x48, iv x55, jv x61, .second, jv x63, .second, rv b65, jv x366, .second, iv x43, iv x373, jv x385, .second, jv x388, .second, .unset, .unset, .unset, .unset, .unset, .unset, .unset, .unset, .unset] [(.int x395)])) t → Go t := fun t kt => pre394 t (st396 t kt)
      have pre404 : ∀ t, Steps p.tables e below (T396.setTop (mkF m 335 #[iv pi0, iv pi1, jv pj2, .second, jv pj3, .second, jv pj4, .second, jv pj5, .second, iv x2, iv x9, iv x16, iv x23, iv x30, iv x37, iv x43, iv x45, iv x48, iv x55, jv x61, .second, jv x63, .second, rv b65, jv x366, .second, iv x43, iv x373, jv x385, .second, jv x388, .second, iv x395, .unset, .unset, .unset, .unset, .unset, .unset, .unset, .unset] [(.long x385), (.ref b65)])) t → Go t := fun t kt => pre403 t (by
          refine y_istore X396.here hx (hb hby at_329) (l' := #[iv pi0, iv pi1, jv pj2, .second, jv pj3, .second, jv pj4, .second, jv pj5, .second, iv x2, iv x9, iv x16, iv x23, iv x30, iv x37, iv x43, iv x45, iv x48, iv x55, jv x61, .second, jv x63, .second, rv b65, jv x366, .second, iv x43, iv x373, jv x385, .second, jv x388, .second, iv x395, .unset, .unset, .unset, .unset, .unset, .unset, .unset, .unset]) rfl (pc' := 331) rfl ?_
          refine y_aload X396.here hx (hb hby at_331) rfl rfl (pc' := 333) rfl ?_
          refine y_lload X396.here hx (hb hby at_333) rfl (pc' := 335) rfl ?_
          exact kt)
      obtain ⟨cq405, kq405, q405a, q405b, q405c⟩ := isOf hZ e396 f352
      obtain ⟨v405, _, ⟨T405, L405, k405, n405⟩, -, X405, ⟨Lc405, hQ405, l405, y405, z405⟩, st405⟩ := X396.virtualBack hx (y := (⟨"com/example/roamd/roamd/net/DelayedAck", "waitNanos", "(J)J"⟩ : MethodName)) (z := (⟨"com/example/roamd/roamd/net/DelayedAck", "waitNanos", "(J)J"⟩ : MethodName)) hown (mvT hZ (hw _ (List.mem_of_getElem? (i := 29) rfl))) (mvT hZ (hw _ (List.mem_of_getElem? (i := 30) rfl))) (notFace_of_selects (args := #[]) (mvT hZ (hw _ (List.mem_of_getElem? (i := 32) rfl)))) (mvT hZ (hw _ (List.mem_of_getElem? (i := 32) rfl))) (mvT hZ (hw _ (List.mem_of_getElem? (i := 31) rfl))) (by decide) (backOf (W := 0) (rm4 l Z a0 hw [] b65 x385 x359 x61 x360 x361 h349 n0 O362 f352 p349_0 p349_1 p349_4 p349_5) hZ (hw _ (List.mem_of_getElem? (i := 33) rfl)) (hw _ (List.mem_of_getElem? (i := 2) rfl)) (by decide) (by decide)) q405a q405c (g := (mkF m 335 #[iv pi0, iv pi1, jv pj2, .second, jv pj3, .second, jv pj4, .second, jv pj5, .second, iv x2, iv x9, iv x16, iv x23, iv x30, iv x37, iv x43, iv x45, iv x48, iv x55, jv x61, .second, jv x63, .second, rv b65, jv x366, .second, iv x43, iv x373, jv x385, .second, jv x388, .second, iv x395, .unset, .unset, .unset, .unset, .unset, .unset, .unset, .unset] [(.long x385), (.ref b65)])) rfl (by rw [hml]; rfl) (Steps.refl _) (argsL := [(.long x385)]) (rest := []) (lenOf pd__J_J rfl) rfl (by show 2 * 0 + _ ≤ _; exact Nat.le_of_eq rfl) (hb hby at_335) (fun _ _ => ⟨rfl, e396, (by decide : 1 + 0 ≤ _), (by decide : 6 + 0 ≤ _)⟩)
      dsimp only [Pt.U, Pt.locs, Pt.cells, Pt.slots] at X405 l405 y405 z405 st405 hQ405
      subst l405 y405 z405
      obtain ⟨hv405, N405q, e405q⟩ := hQ405
      have N406 := Fr.app N350 N405q
      have hw405 := hv405
      obtain ⟨x407, hx407⟩ : ∃ z : Int64, z = (if x359 = (0 : Int32) then (9223372036854775807 : Int64) else (if x361 = (0 : Int32) then ((x61 + x360) - x385) else (0 : Int64))) := ⟨_, rfl⟩
      rw [← hx407] at hw405
      subst hw405
      have pre408 : ∀ t, Steps p.tables e below (T405.setTop (mkF m 338 #[iv pi0, iv pi1, jv pj2, .second, jv pj3, .second, jv pj4, .second, jv pj5, .second, iv x2, iv x9, iv x16, iv x23, iv x30, iv x37, iv x43, iv x45, iv x48, iv x55, jv x61, .second, jv x63, .second, rv b65, jv x366, .second, iv x43, iv x373, jv x385, .second, jv x388, .second, iv x395, .unset, .unset, .unset, .unset, .unset, .unset, .unset, .unset] [(.long x407)])) t → Go t := fun t kt => pre404 t (st405.trans kt)
      have pre410 : ∀ t, Steps p.tables e below (T405.setTop (mkF m 341 #[iv pi0, iv pi1, jv pj2, .second, jv pj3, .second, jv pj4, .second, jv pj5, .second, iv x2, iv x9, iv x16, iv x23, iv x30, iv x37, iv x43, iv x45, iv x48, iv x55, jv x61, .second, jv x63, .second, rv b65, jv x366, .second, iv x43, iv x373, jv x385, .second, jv x388, .second, iv x395, .unset, .unset, .unset, .unset, .unset, .unset, .unset, .unset] [(.int (lcmpW x407 x388))])) t → Go t := fun t kt => pre408 t (by
          refine y_lload X405.here hx (hb hby at_338) rfl (pc' := 340) rfl ?_
          refine y_lcmp X405.here hx (hb hby at_340) (pc' := 341) rfl ?_
          exact kt)
      have hf341_409 : x407 = x388 := by
          exact law0_411 pj2 pj3 pj5 x2 x9 x23 x43 x45 x48 x61 x359 x360 x361 x366 x373 x385 x388 x407 hx359 hx360 hx361 hx366 hx373 hx385 hx388 hx407 hc155_79 hc187_364 B1 B2 A1
      have pre412 : ∀ t, Steps p.tables e below (T405.setTop (mkF m 348 #[iv pi0, iv pi1, jv pj2, .second, jv pj3, .second, jv pj4, .second, jv pj5, .second, iv x2, iv x9, iv x16, iv x23, iv x30, iv x37, iv x43, iv x45, iv x48, iv x55, jv x61, .second, jv x63, .second, rv b65, jv x366, .second, iv x43, iv x373, jv x385, .second, jv x388, .second, iv x395, .unset, .unset, .unset, .unset, .unset, .unset, .unset, .unset] [(.long x385), (.ref b65)])) t → Go t := fun t kt => pre410 t (by
          refine y_ifNo X405.here hx (hb hby at_341) ((if0 _ _).trans (teq (lq_eq hf341_409)).2) (pc' := 344) rfl ?_
          refine y_aload X405.here hx (hb hby at_344) rfl rfl (pc' := 346) rfl ?_
          refine y_lload X405.here hx (hb hby at_346) rfl (pc' := 348) rfl ?_
          exact kt)
      obtain ⟨cq413, kq413, q413a, q413b, q413c⟩ := isOf hZ e405q f352
      obtain ⟨v413, _, ⟨T413, L413, k413, n413⟩, -, X413, ⟨Lc413, hQ413, l413, y413, z413⟩, st413⟩ := X405.virtualBack hx (y := (⟨"com/example/roamd/roamd/net/DelayedAck", "due", "(J)Z"⟩ : MethodName)) (z := (⟨"com/example/roamd/roamd/net/DelayedAck", "due", "(J)Z"⟩ : MethodName)) hown (mvT hZ (hw _ (List.mem_of_getElem? (i := 34) rfl))) (mvT hZ (hw _ (List.mem_of_getElem? (i := 35) rfl))) (notFace_of_selects (args := #[]) (mvT hZ (hw _ (List.mem_of_getElem? (i := 37) rfl)))) (mvT hZ (hw _ (List.mem_of_getElem? (i := 37) rfl))) (mvT hZ (hw _ (List.mem_of_getElem? (i := 36) rfl))) (by decide) (backOf (W := 0) (rm5 l Z a0 hw [] b65 x385 x359 x61 x360 x361 h349 n0 O362 f352 p349_0 p349_1 p349_4 p349_5) hZ (hw _ (List.mem_of_getElem? (i := 38) rfl)) (hw _ (List.mem_of_getElem? (i := 2) rfl)) (by decide) (by decide)) q413a q413c (g := (mkF m 348 #[iv pi0, iv pi1, jv pj2, .second, jv pj3, .second, jv pj4, .second, jv pj5, .second, iv x2, iv x9, iv x16, iv x23, iv x30, iv x37, iv x43, iv x45, iv x48, iv x55, jv x61, .second, jv x63, .second, rv b65, jv x366, .second, iv x43, iv x373, jv x385, .second, jv x388, .second, iv x395, .unset, .unset, .unset, .unset, .unset, .unset, .unset, .unset] [(.long x385), (.ref b65)])) rfl (by rw [hml]; rfl) (Steps.refl _) (argsL := [(.long x385)]) (rest := []) (lenOf pd__J_Z rfl) rfl (by show 2 * 0 + _ ≤ _; exact Nat.le_of_eq rfl) (hb hby at_348) (fun _ _ => ⟨rfl, e405q, (by decide : 1 + 0 ≤ _), (by decide : 6 + 0 ≤ _)⟩)
      dsimp only [Pt.U, Pt.locs, Pt.cells, Pt.slots] at X413 l413 y413 z413 st413 hQ413
      subst l413 y413 z413
      obtain ⟨hv413, N413q, e413q⟩ := hQ413
      have N414 := Fr.app N406 N413q
      have hw413 := hv413
      obtain ⟨x415, hx415⟩ : ∃ z : Int32, z = (if x361 = (0 : Int32) then (if (0 : Int32) < x359 then (if (x385 - x61) < x360 then (0 : Int32) else (1 : Int32)) else (0 : Int32)) else (1 : Int32)) := ⟨_, rfl⟩
      rw [← hx415] at hw413
      subst hw413
      have pre416 : ∀ t, Steps p.tables e below (T413.setTop (mkF m 351 #[iv pi0, iv pi1, jv pj2, .second, jv pj3, .second, jv pj4, .second, jv pj5, .second, iv x2, iv x9, iv x16, iv x23, iv x30, iv x37, iv x43, iv x45, iv x48, iv x55, jv x61, .second, jv x63, .second, rv b65, jv x366, .second, iv x43, iv x373, jv x385, .second, jv x388, .second, iv x395, .unset, .unset, .unset, .unset, .unset, .unset, .unset, .unset] [(.int x415)])) t → Go t := fun t kt => pre412 t (st413.trans kt)
      have pre418 : ∀ t, Steps p.tables e below (T413.setTop (mkF m 353 #[iv pi0, iv pi1, jv pj2, .second, jv pj3, .second, jv pj4, .second, jv pj5, .second, iv x2, iv x9, iv x16, iv x23, iv x30, iv x37, iv x43, iv x45, iv x48, iv x55, jv x61, .second, jv x63, .second, rv b65, jv x366, .second, iv x43, iv x373, jv x385, .second, jv x388, .second, iv x395, .unset, .unset, .unset, .unset, .unset, .unset, .unset, .unset] [(.int x395), (.int x415)])) t → Go t := fun t kt => pre416 t (by
          refine y_iload X413.here hx (hb hby at_351) rfl (pc' := 353) rfl ?_
          exact kt)
      have hf353_417 : x415 = x395 := by
          exact law0_419 pj2 pj3 pj5 x2 x9 x23 x43 x45 x48 x61 x359 x360 x361 x366 x373 x385 x395 x415 hx359 hx360 hx361 hx366 hx373 hx385 hx395 hx415 hc155_79 hc187_364 B1 B2 A1
      have pre420 : ∀ t, Steps p.tables e below (T413.setTop (mkF m 379 #[iv pi0, iv pi1, jv pj2, .second, jv pj3, .second, jv pj4, .second, jv pj5, .second, iv x2, iv x9, iv x16, iv x23, iv x30, iv x37, iv x43, iv x45, iv x48, iv x55, jv x61, .second, jv x63, .second, rv b65, jv x366, .second, iv x43, iv x373, jv x385, .second, jv x388, .second, iv x395, iv (1 : Int32), jv x61, .second, .unset, .unset, .unset, .unset, .unset] [(.ref b65)])) t → Go t := fun t kt => pre418 t (by
          refine y_icmpNo X413.here hx (hb hby at_353) (teq hf353_417).2 (pc' := 356) rfl ?_
          refine y_iconst X413.here hx (hb hby at_356) (v := (1 : Int32)) rfl (pc' := 357) rfl ?_
          refine y_goto X413.here hx (hb hby at_357) (pc' := 361) (by decide) rfl ?_
          refine y_istore X413.here hx (hb hby at_361) (l' := #[iv pi0, iv pi1, jv pj2, .second, jv pj3, .second, jv pj4, .second, jv pj5, .second, iv x2, iv x9, iv x16, iv x23, iv x30, iv x37, iv x43, iv x45, iv x48, iv x55, jv x61, .second, jv x63, .second, rv b65, jv x366, .second, iv x43, iv x373, jv x385, .second, jv x388, .second, iv x395, iv (1 : Int32), .unset, .unset, .unset, .unset, .unset, .unset, .unset]) rfl (pc' := 363) rfl ?_
          refine y_iload X413.here hx (hb hby at_363) rfl (pc' := 365) rfl ?_
          refine y_ifYes X413.here hx (hb hby at_365) ((if0 _ _).trans (teq hc187_364).1) (pc' := 373) (by decide) rfl ?_
          refine y_lload X413.here hx (hb hby at_373) rfl (pc' := 375) rfl ?_
          refine y_lstore X413.here hx (hb hby at_375) (l' := #[iv pi0, iv pi1, jv pj2, .second, jv pj3, .second, jv pj4, .second, jv pj5, .second, iv x2, iv x9, iv x16, iv x23, iv x30, iv x37, iv x43, iv x45, iv x48, iv x55, jv x61, .second, jv x63, .second, rv b65, jv x366, .second, iv x43, iv x373, jv x385, .second, jv x388, .second, iv x395, iv (1 : Int32), jv x61, .second, .unset, .unset, .unset, .unset, .unset]) rfl (pc' := 377) rfl ?_
          refine y_aload X413.here hx (hb hby at_377) rfl rfl (pc' := 379) rfl ?_
          exact kt)
      obtain ⟨cq421, kq421, q421a, q421b, q421c⟩ := isOf hZ e413q f352
      obtain ⟨v421, _, ⟨T421, L421, k421, n421⟩, -, X421, ⟨Lc421, hQ421, l421, y421, z421⟩, st421⟩ := X413.virtualBack hx (y := (⟨"com/example/roamd/roamd/net/DelayedAck", "sent", "()V"⟩ : MethodName)) (z := (⟨"com/example/roamd/roamd/net/DelayedAck", "sent", "()V"⟩ : MethodName)) hown (mvT hZ (hw _ (List.mem_of_getElem? (i := 39) rfl))) (mvT hZ (hw _ (List.mem_of_getElem? (i := 40) rfl))) (notFace_of_selects (args := #[]) (mvT hZ (hw _ (List.mem_of_getElem? (i := 42) rfl)))) (mvT hZ (hw _ (List.mem_of_getElem? (i := 42) rfl))) (mvT hZ (hw _ (List.mem_of_getElem? (i := 41) rfl))) (by decide) (backOf (W := 0) (rm6 l Z a0 hw [] b65 x359 x61 (1 : Int32) x61 x360 x361 h349 n0 O362 f352 p349_0 p349_1 p349_2 p349_3 p349_4 p349_5 G67) hZ (hw _ (List.mem_of_getElem? (i := 43) rfl)) (hw _ (List.mem_of_getElem? (i := 2) rfl)) (by decide) (by decide)) q421a q421c (g := (mkF m 379 #[iv pi0, iv pi1, jv pj2, .second, jv pj3, .second, jv pj4, .second, jv pj5, .second, iv x2, iv x9, iv x16, iv x23, iv x30, iv x37, iv x43, iv x45, iv x48, iv x55, jv x61, .second, jv x63, .second, rv b65, jv x366, .second, iv x43, iv x373, jv x385, .second, jv x388, .second, iv x395, iv (1 : Int32), jv x61, .second, .unset, .unset, .unset, .unset, .unset] [(.ref b65)])) rfl (by rw [hml]; rfl) (Steps.refl _) (argsL := []) (rest := []) (lenOf pd___V rfl) rfl (by show 2 * 0 + _ ≤ _; exact Nat.le_of_eq rfl) (hb hby at_379) (fun _ _ => ⟨rfl, e413q, (by decide : 1 + 0 ≤ _), (by decide : 6 + 0 ≤ _)⟩)
      dsimp only [Pt.U, Pt.locs, Pt.cells, Pt.slots] at X421 l421 y421 z421 st421 hQ421
      subst l421 y421 z421
      obtain ⟨hv421, N421q, K421q, p421_0, p421_1, p421_2, p421_3, p421_4, p421_5⟩ := hQ421
      have N422 := Fr.app N414 N421q
      subst hv421
      have pre423 : ∀ t, Steps p.tables e below (T421.setTop (mkF m 382 #[iv pi0, iv pi1, jv pj2, .second, jv pj3, .second, jv pj4, .second, jv pj5, .second, iv x2, iv x9, iv x16, iv x23, iv x30, iv x37, iv x43, iv x45, iv x48, iv x55, jv x61, .second, jv x63, .second, rv b65, jv x366, .second, iv x43, iv x373, jv x385, .second, jv x388, .second, iv x395, iv (1 : Int32), jv x61, .second, .unset, .unset, .unset, .unset, .unset] [])) t → Go t := fun t kt => pre420 t (st421.trans kt)
      obtain ⟨h421, eh421⟩ : ∃ z, T421.heap = z := ⟨_, rfl⟩
      rw [eh421] at K421q p421_0 p421_1 p421_2 p421_3 p421_4 p421_5
      have f424 : Exa Z h421 b65 "com/example/roamd/roamd/net/DelayedAck" := (f352.keep K421q)
      have O431 := O362.keep K421q (allS G67 all0)
      obtain ⟨x432, hx432⟩ : ∃ z : Int64, z = (x61 + pj3) := ⟨_, rfl⟩
      have pre433 : ∀ t, Steps p.tables e below (T421.setTop (mkF m 389 #[iv pi0, iv pi1, jv pj2, .second, jv pj3, .second, jv pj4, .second, jv pj5, .second, iv x2, iv x9, iv x16, iv x23, iv x30, iv x37, iv x43, iv x45, iv x48, iv x55, jv x61, .second, jv x63, .second, rv b65, jv x366, .second, iv x43, iv x373, jv x385, .second, jv x388, .second, iv x395, iv (1 : Int32), jv x61, .second, jv x432, .second, .unset, .unset, .unset] [])) t → Go t := fun t kt => pre423 t (by
          subst hx432
          refine y_lload X421.here hx (hb hby at_382) rfl (pc' := 384) rfl ?_
          refine y_lload X421.here hx (hb hby at_384) rfl (pc' := 386) rfl ?_
          refine y_ladd X421.here hx (hb hby at_386) rfl (pc' := 387) rfl ?_
          refine y_lstore X421.here hx (hb hby at_387) (l' := #[iv pi0, iv pi1, jv pj2, .second, jv pj3, .second, jv pj4, .second, jv pj5, .second, iv x2, iv x9, iv x16, iv x23, iv x30, iv x37, iv x43, iv x45, iv x48, iv x55, jv x61, .second, jv x63, .second, rv b65, jv x366, .second, iv x43, iv x373, jv x385, .second, jv x388, .second, iv x395, iv (1 : Int32), jv x61, .second, jv (x61 + pj3), .second, .unset, .unset, .unset]) rfl (pc' := 389) rfl ?_
          exact kt)
      have pre434 : ∀ t, Steps p.tables e below (T421.setTop (mkF m 396 #[iv pi0, iv pi1, jv pj2, .second, jv pj3, .second, jv pj4, .second, jv pj5, .second, iv x2, iv x9, iv x16, iv x23, iv x30, iv x37, iv x43, iv x45, iv x48, iv x55, jv x61, .second, jv x63, .second, rv b65, jv x366, .second, iv x43, iv x373, jv x385, .second, jv x388, .second, iv x395, iv (1 : Int32), jv x61, .second, jv x432, .second, .unset, .unset, .unset] [(.long x432), (.int (1 : Int32)), (.int (1 : Int32)), (.int (1 : Int32)), (.ref b65)])) t → Go t := fun t kt => pre433 t (by
          refine y_aload X421.here hx (hb hby at_389) rfl rfl (pc' := 391) rfl ?_
          refine y_iconst X421.here hx (hb hby at_391) (v := (1 : Int32)) rfl (pc' := 392) rfl ?_
          refine y_iconst X421.here hx (hb hby at_392) (v := (1 : Int32)) rfl (pc' := 393) rfl ?_
          refine y_iconst X421.here hx (hb hby at_393) (v := (1 : Int32)) rfl (pc' := 394) rfl ?_
          refine y_lload X421.here hx (hb hby at_394) rfl (pc' := 396) rfl ?_
          exact kt)
      obtain ⟨cq435, kq435, q435a, q435b, q435c⟩ := isOf hZ eh421 f424
      obtain ⟨v435, _, ⟨T435, L435, k435, n435⟩, -, X435, ⟨Lc435, hQ435, l435, y435, z435⟩, st435⟩ := X421.virtualBack hx (y := (⟨"com/example/roamd/roamd/net/DelayedAck", "arrived", "(IIZJ)V"⟩ : MethodName)) (z := (⟨"com/example/roamd/roamd/net/DelayedAck", "arrived", "(IIZJ)V"⟩ : MethodName)) hown (mvT hZ (hw _ (List.mem_of_getElem? (i := 9) rfl))) (mvT hZ (hw _ (List.mem_of_getElem? (i := 10) rfl))) (notFace_of_selects (args := #[]) (mvT hZ (hw _ (List.mem_of_getElem? (i := 12) rfl)))) (mvT hZ (hw _ (List.mem_of_getElem? (i := 12) rfl))) (mvT hZ (hw _ (List.mem_of_getElem? (i := 11) rfl))) (by decide) (backOf (W := 0) (rm3 l Z a0 hw [] b65 (1 : Int32) (1 : Int32) (1 : Int32) x432 (0 : Int32) x61 (1 : Int32) x61 x360 (0 : Int32) h421 n0 O431 S_DELAY_NANOS S_ALONE_DELAY_NANOS f424 p421_0 p421_1 p421_2 p421_3 p421_4 p421_5 G67) hZ (hw _ (List.mem_of_getElem? (i := 13) rfl)) (hw _ (List.mem_of_getElem? (i := 2) rfl)) (by decide) (by decide)) q435a q435c (g := (mkF m 396 #[iv pi0, iv pi1, jv pj2, .second, jv pj3, .second, jv pj4, .second, jv pj5, .second, iv x2, iv x9, iv x16, iv x23, iv x30, iv x37, iv x43, iv x45, iv x48, iv x55, jv x61, .second, jv x63, .second, rv b65, jv x366, .second, iv x43, iv x373, jv x385, .second, jv x388, .second, iv x395, iv (1 : Int32), jv x61, .second, jv x432, .second, .unset, .unset, .unset] [(.long x432), (.int (1 : Int32)), (.int (1 : Int32)), (.int (1 : Int32)), (.ref b65)])) rfl (by rw [hml]; rfl) (Steps.refl _) (argsL := [(.int (1 : Int32)), (.int (1 : Int32)), (.int (1 : Int32)), (.long x432)]) (rest := []) (lenOf pd__IIZJ_V rfl) rfl (by show 2 * 0 + _ ≤ _; exact Nat.le_of_eq rfl) (hb hby at_396) (fun _ _ => ⟨rfl, eh421, (by decide : 1 + 0 ≤ _), (by decide : 6 + 0 ≤ _)⟩)
      dsimp only [Pt.U, Pt.locs, Pt.cells, Pt.slots] at X435 l435 y435 z435 st435 hQ435
      subst l435 y435 z435
      obtain ⟨hv435, N435q, K435q, p435_0, p435_1, p435_2, p435_3, p435_4, p435_5⟩ := hQ435
      have N436 := Fr.app N422 N435q
      subst hv435
      have pre437 : ∀ t, Steps p.tables e below (T435.setTop (mkF m 399 #[iv pi0, iv pi1, jv pj2, .second, jv pj3, .second, jv pj4, .second, jv pj5, .second, iv x2, iv x9, iv x16, iv x23, iv x30, iv x37, iv x43, iv x45, iv x48, iv x55, jv x61, .second, jv x63, .second, rv b65, jv x366, .second, iv x43, iv x373, jv x385, .second, jv x388, .second, iv x395, iv (1 : Int32), jv x61, .second, jv x432, .second, .unset, .unset, .unset] [])) t → Go t := fun t kt => pre434 t (st435.trans kt)
      obtain ⟨h435, eh435⟩ : ∃ z, T435.heap = z := ⟨_, rfl⟩
      rw [eh435] at K435q p435_0 p435_1 p435_2 p435_3 p435_4 p435_5
      have f438 : Exa Z h435 b65 "com/example/roamd/roamd/net/DelayedAck" := (f424.keep K435q)
      obtain ⟨x445, hx445⟩ : ∃ z : Int32, z = ((0 : Int32) + (1 : Int32)) := ⟨_, rfl⟩
      rw [← hx445] at p435_0
      rw [if_pos (rfl : (0 : Int32) = (0 : Int32))] at p435_1
      rw [if_pos (rfl : (0 : Int32) = (0 : Int32))] at p435_4
      obtain ⟨x446, hx446⟩ : ∃ z : Int64, z = (if (if (1 : Int32) = (0 : Int32) then (0 : Int32) else (if (700000000 : Int64) < (x432 - x61) then (0 : Int32) else (1 : Int32))) = (0 : Int32) then (150000000 : Int64) else (700000000 : Int64)) := ⟨_, rfl⟩
      rw [← hx446] at p435_4
      obtain ⟨x447, hx447⟩ : ∃ z : Int32, z = (nar .boolean ((0 : Int32) ||| (if (1 : Int32) = (1 : Int32) then (if (1 : Int32) = (0 : Int32) then (1 : Int32) else (if ((0 : Int32) + (1 : Int32)) < (16 : Int32) then (0 : Int32) else (1 : Int32))) else (1 : Int32)))) := ⟨_, rfl⟩
      rw [← hx447] at p435_5
      have O448 := O431.keep K435q (allS G67 all0)
      have pre449 : ∀ t, Steps p.tables e below (T435.setTop (mkF m 405 #[iv pi0, iv pi1, jv pj2, .second, jv pj3, .second, jv pj4, .second, jv pj5, .second, iv x2, iv x9, iv x16, iv x23, iv x30, iv x37, iv x43, iv x45, iv x48, iv x55, jv x61, .second, jv x63, .second, rv b65, jv x366, .second, iv x43, iv x373, jv x385, .second, jv x388, .second, iv x395, iv (1 : Int32), jv x61, .second, jv x432, .second, .unset, .unset, .unset] [(.int (lcmpW pj3 (700000000 : Int64)))])) t → Go t := fun t kt => pre437 t (by
          refine y_lload X435.here hx (hb hby at_399) rfl (pc' := 401) rfl ?_
          refine X435.ldc2Long hx hown (mvT hZ (hw _ (List.mem_of_getElem? (i := 46) rfl))) (g := (mkF m 401 #[iv pi0, iv pi1, jv pj2, .second, jv pj3, .second, jv pj4, .second, jv pj5, .second, iv x2, iv x9, iv x16, iv x23, iv x30, iv x37, iv x43, iv x45, iv x48, iv x55, jv x61, .second, jv x63, .second, rv b65, jv x366, .second, iv x43, iv x373, jv x385, .second, jv x388, .second, iv x395, iv (1 : Int32), jv x61, .second, jv x432, .second, .unset, .unset, .unset] [(.long pj3)])) rfl (hb hby at_401) _ ?_
          show Steps p.tables e below (T435.setTop (mkF m 404 #[iv pi0, iv pi1, jv pj2, .second, jv pj3, .second, jv pj4, .second, jv pj5, .second, iv x2, iv x9, iv x16, iv x23, iv x30, iv x37, iv x43, iv x45, iv x48, iv x55, jv x61, .second, jv x63, .second, rv b65, jv x366, .second, iv x43, iv x373, jv x385, .second, jv x388, .second, iv x395, iv (1 : Int32), jv x61, .second, jv x432, .second, .unset, .unset, .unset] [(.long (700000000 : Int64)), (.long pj3)])) _
          refine y_lcmp X435.here hx (hb hby at_404) (pc' := 405) rfl ?_
          exact kt)
      obtain ⟨x450, hx450⟩ : ∃ z : Int64, z = (if (700000000 : Int64) < pj3 then (150000000 : Int64) else (700000000 : Int64)) := ⟨_, rfl⟩
      obtain ⟨T451, ⟨X451, q451⟩, st451⟩ : ∃ T', Nx X435 T' ∧ ∀ t, Steps p.tables e below (T'.setTop (mkF m 417 #[iv pi0, iv pi1, jv pj2, .second, jv pj3, .second, jv pj4, .second, jv pj5, .second, iv x2, iv x9, iv x16, iv x23, iv x30, iv x37, iv x43, iv x45, iv x48, iv x55, jv x61, .second, jv x63, .second, rv b65, jv x366, .second, iv x43, iv x373, jv x385, .second, jv x388, .second, iv x395, iv (1 : Int32), jv x61, .second, jv x432, .second, .unset, .unset, .unset] [(.long x450)])) t → Steps p.tables e below (T435.setTop (mkF m 405 #[iv pi0, iv pi1, jv pj2, .second, jv pj3, .second, jv pj4, .second, jv pj5, .second, iv x2, iv x9, iv x16, iv x23, iv x30, iv x37, iv x43, iv x45, iv x48, iv x55, jv x61, .second, jv x63, .second, rv b65, jv x366, .second, iv x43, iv x373, jv x385, .second, jv x388, .second, iv x395, iv (1 : Int32), jv x61, .second, jv x432, .second, .unset, .unset, .unset] [(.int (lcmpW pj3 (700000000 : Int64)))])) t := by
        have pre451_ : ∀ t, Steps p.tables e below (T435.setTop (mkF m 405 #[iv pi0, iv pi1, jv pj2, .second, jv pj3, .second, jv pj4, .second, jv pj5, .second, iv x2, iv x9, iv x16, iv x23, iv x30, iv x37, iv x43, iv x45, iv x48, iv x55, jv x61, .second, jv x63, .second, rv b65, jv x366, .second, iv x43, iv x373, jv x385, .second, jv x388, .second, iv x395, iv (1 : Int32), jv x61, .second, jv x432, .second, .unset, .unset, .unset] [(.int (lcmpW pj3 (700000000 : Int64)))])) t → Steps p.tables e below (T435.setTop (mkF m 405 #[iv pi0, iv pi1, jv pj2, .second, jv pj3, .second, jv pj4, .second, jv pj5, .second, iv x2, iv x9, iv x16, iv x23, iv x30, iv x37, iv x43, iv x45, iv x48, iv x55, jv x61, .second, jv x63, .second, rv b65, jv x366, .second, iv x43, iv x373, jv x385, .second, jv x388, .second, iv x395, iv (1 : Int32), jv x61, .second, jv x432, .second, .unset, .unset, .unset] [(.int (lcmpW pj3 (700000000 : Int64)))])) t := fun t kt => kt
        subst hx450
        by_cases hm405_452 : (700000000 : Int64) < pj3
        · have pre453 : ∀ t, Steps p.tables e below (T435.setTop (mkF m 417 #[iv pi0, iv pi1, jv pj2, .second, jv pj3, .second, jv pj4, .second, jv pj5, .second, iv x2, iv x9, iv x16, iv x23, iv x30, iv x37, iv x43, iv x45, iv x48, iv x55, jv x61, .second, jv x63, .second, rv b65, jv x366, .second, iv x43, iv x373, jv x385, .second, jv x388, .second, iv x395, iv (1 : Int32), jv x61, .second, jv x432, .second, .unset, .unset, .unset] [(.long (150000000 : Int64))])) t → Steps p.tables e below (T435.setTop (mkF m 405 #[iv pi0, iv pi1, jv pj2, .second, jv pj3, .second, jv pj4, .second, jv pj5, .second, iv x2, iv x9, iv x16, iv x23, iv x30, iv x37, iv x43, iv x45, iv x48, iv x55, jv x61, .second, jv x63, .second, rv b65, jv x366, .second, iv x43, iv x373, jv x385, .second, jv x388, .second, iv x395, iv (1 : Int32), jv x61, .second, jv x432, .second, .unset, .unset, .unset] [(.int (lcmpW pj3 (700000000 : Int64)))])) t := fun t kt => pre451_ t (by
              refine y_ifYes X435.here hx (hb hby at_405) ((if0 _ _).trans (tlt (lq_gt hm405_452)).2.2.1) (pc' := 414) (by decide) rfl ?_
              refine X435.ldc2Long hx hown (mvT hZ (hw _ (List.mem_of_getElem? (i := 28) rfl))) (g := (mkF m 414 #[iv pi0, iv pi1, jv pj2, .second, jv pj3, .second, jv pj4, .second, jv pj5, .second, iv x2, iv x9, iv x16, iv x23, iv x30, iv x37, iv x43, iv x45, iv x48, iv x55, jv x61, .second, jv x63, .second, rv b65, jv x366, .second, iv x43, iv x373, jv x385, .second, jv x388, .second, iv x395, iv (1 : Int32), jv x61, .second, jv x432, .second, .unset, .unset, .unset] [])) rfl (hb hby at_414) _ ?_
              show Steps p.tables e below (T435.setTop (mkF m 417 #[iv pi0, iv pi1, jv pj2, .second, jv pj3, .second, jv pj4, .second, jv pj5, .second, iv x2, iv x9, iv x16, iv x23, iv x30, iv x37, iv x43, iv x45, iv x48, iv x55, jv x61, .second, jv x63, .second, rv b65, jv x366, .second, iv x43, iv x373, jv x385, .second, jv x388, .second, iv x395, iv (1 : Int32), jv x61, .second, jv x432, .second, .unset, .unset, .unset] [(.long (150000000 : Int64))])) _
              exact kt)
          refine ⟨T435, ⟨X435, eh435.trans eh435.symm⟩, fun t kt => pre453 t ?_⟩
          (try simp only [if_pos hm405_452] at kt)
          exact kt
        · have pre454 : ∀ t, Steps p.tables e below (T435.setTop (mkF m 417 #[iv pi0, iv pi1, jv pj2, .second, jv pj3, .second, jv pj4, .second, jv pj5, .second, iv x2, iv x9, iv x16, iv x23, iv x30, iv x37, iv x43, iv x45, iv x48, iv x55, jv x61, .second, jv x63, .second, rv b65, jv x366, .second, iv x43, iv x373, jv x385, .second, jv x388, .second, iv x395, iv (1 : Int32), jv x61, .second, jv x432, .second, .unset, .unset, .unset] [(.long (700000000 : Int64))])) t → Steps p.tables e below (T435.setTop (mkF m 405 #[iv pi0, iv pi1, jv pj2, .second, jv pj3, .second, jv pj4, .second, jv pj5, .second, iv x2, iv x9, iv x16, iv x23, iv x30, iv x37, iv x43, iv x45, iv x48, iv x55, jv x61, .second, jv x63, .second, rv b65, jv x366, .second, iv x43, iv x373, jv x385, .second, jv x388, .second, iv x395, iv (1 : Int32), jv x61, .second, jv x432, .second, .unset, .unset, .unset] [(.int (lcmpW pj3 (700000000 : Int64)))])) t := fun t kt => pre451_ t (by
              refine y_ifNo X435.here hx (hb hby at_405) ((if0 _ _).trans (flt (lq_ngt hm405_452)).2.2.1) (pc' := 408) rfl ?_
              refine X435.ldc2Long hx hown (mvT hZ (hw _ (List.mem_of_getElem? (i := 46) rfl))) (g := (mkF m 408 #[iv pi0, iv pi1, jv pj2, .second, jv pj3, .second, jv pj4, .second, jv pj5, .second, iv x2, iv x9, iv x16, iv x23, iv x30, iv x37, iv x43, iv x45, iv x48, iv x55, jv x61, .second, jv x63, .second, rv b65, jv x366, .second, iv x43, iv x373, jv x385, .second, jv x388, .second, iv x395, iv (1 : Int32), jv x61, .second, jv x432, .second, .unset, .unset, .unset] [])) rfl (hb hby at_408) _ ?_
              show Steps p.tables e below (T435.setTop (mkF m 411 #[iv pi0, iv pi1, jv pj2, .second, jv pj3, .second, jv pj4, .second, jv pj5, .second, iv x2, iv x9, iv x16, iv x23, iv x30, iv x37, iv x43, iv x45, iv x48, iv x55, jv x61, .second, jv x63, .second, rv b65, jv x366, .second, iv x43, iv x373, jv x385, .second, jv x388, .second, iv x395, iv (1 : Int32), jv x61, .second, jv x432, .second, .unset, .unset, .unset] [(.long (700000000 : Int64))])) _
              refine y_goto X435.here hx (hb hby at_411) (pc' := 417) (by decide) rfl ?_
              exact kt)
          refine ⟨T435, ⟨X435, eh435.trans eh435.symm⟩, fun t kt => pre454 t ?_⟩
          (try simp only [if_neg hm405_452] at kt)
          exact kt
      have e451 : T451.heap = h435 := q451.trans eh435
      have pre455 : ∀ t, Steps p.tables e below (T451.setTop (mkF m 417 #[iv pi0, iv pi1, jv pj2, .second, jv pj3, .second, jv pj4, .second, jv pj5, .second, iv x2, iv x9, iv x16, iv x23, iv x30, iv x37, iv x43, iv x45, iv x48, iv x55, jv x61, .second, jv x63, .second, rv b65, jv x366, .second, iv x43, iv x373, jv x385, .second, jv x388, .second, iv x395, iv (1 : Int32), jv x61, .second, jv x432, .second, .unset, .unset, .unset] [(.long x450)])) t → Go t := fun t kt => pre449 t (st451 t kt)
      have pre456 : ∀ t, Steps p.tables e below (T451.setTop (mkF m 423 #[iv pi0, iv pi1, jv pj2, .second, jv pj3, .second, jv pj4, .second, jv pj5, .second, iv x2, iv x9, iv x16, iv x23, iv x30, iv x37, iv x43, iv x45, iv x48, iv x55, jv x61, .second, jv x63, .second, rv b65, jv x366, .second, iv x43, iv x373, jv x385, .second, jv x388, .second, iv x395, iv (1 : Int32), jv x61, .second, jv x432, .second, jv x450, .second, .unset] [(.long x432), (.ref b65)])) t → Go t := fun t kt => pre455 t (by
          refine y_lstore X451.here hx (hb hby at_417) (l' := #[iv pi0, iv pi1, jv pj2, .second, jv pj3, .second, jv pj4, .second, jv pj5, .second, iv x2, iv x9, iv x16, iv x23, iv x30, iv x37, iv x43, iv x45, iv x48, iv x55, jv x61, .second, jv x63, .second, rv b65, jv x366, .second, iv x43, iv x373, jv x385, .second, jv x388, .second, iv x395, iv (1 : Int32), jv x61, .second, jv x432, .second, jv x450, .second, .unset]) rfl (pc' := 419) rfl ?_
          refine y_aload X451.here hx (hb hby at_419) rfl rfl (pc' := 421) rfl ?_
          refine y_lload X451.here hx (hb hby at_421) rfl (pc' := 423) rfl ?_
          exact kt)
      obtain ⟨cq457, kq457, q457a, q457b, q457c⟩ := isOf hZ e451 f438
      obtain ⟨v457, _, ⟨T457, L457, k457, n457⟩, -, X457, ⟨Lc457, hQ457, l457, y457, z457⟩, st457⟩ := X451.virtualBack hx (y := (⟨"com/example/roamd/roamd/net/DelayedAck", "waitNanos", "(J)J"⟩ : MethodName)) (z := (⟨"com/example/roamd/roamd/net/DelayedAck", "waitNanos", "(J)J"⟩ : MethodName)) hown (mvT hZ (hw _ (List.mem_of_getElem? (i := 29) rfl))) (mvT hZ (hw _ (List.mem_of_getElem? (i := 30) rfl))) (notFace_of_selects (args := #[]) (mvT hZ (hw _ (List.mem_of_getElem? (i := 32) rfl)))) (mvT hZ (hw _ (List.mem_of_getElem? (i := 32) rfl))) (mvT hZ (hw _ (List.mem_of_getElem? (i := 31) rfl))) (by decide) (backOf (W := 0) (rm4 l Z a0 hw [] b65 x432 x445 x432 x446 x447 h435 n0 O448 f438 p435_0 p435_1 p435_4 p435_5) hZ (hw _ (List.mem_of_getElem? (i := 33) rfl)) (hw _ (List.mem_of_getElem? (i := 2) rfl)) (by decide) (by decide)) q457a q457c (g := (mkF m 423 #[iv pi0, iv pi1, jv pj2, .second, jv pj3, .second, jv pj4, .second, jv pj5, .second, iv x2, iv x9, iv x16, iv x23, iv x30, iv x37, iv x43, iv x45, iv x48, iv x55, jv x61, .second, jv x63, .second, rv b65, jv x366, .second, iv x43, iv x373, jv x385, .second, jv x388, .second, iv x395, iv (1 : Int32), jv x61, .second, jv x432, .second, jv x450, .second, .unset] [(.long x432), (.ref b65)])) rfl (by rw [hml]; rfl) (Steps.refl _) (argsL := [(.long x432)]) (rest := []) (lenOf pd__J_J rfl) rfl (by show 2 * 0 + _ ≤ _; exact Nat.le_of_eq rfl) (hb hby at_423) (fun _ _ => ⟨rfl, e451, (by decide : 1 + 0 ≤ _), (by decide : 6 + 0 ≤ _)⟩)
      dsimp only [Pt.U, Pt.locs, Pt.cells, Pt.slots] at X457 l457 y457 z457 st457 hQ457
      subst l457 y457 z457
      obtain ⟨hv457, N457q, e457q⟩ := hQ457
      have N458 := Fr.app N436 N457q
      have hw457 := hv457
      obtain ⟨x459, hx459⟩ : ∃ z : Int64, z = (if x445 = (0 : Int32) then (9223372036854775807 : Int64) else (if x447 = (0 : Int32) then ((x432 + x446) - x432) else (0 : Int64))) := ⟨_, rfl⟩
      rw [← hx459] at hw457
      subst hw457
      have pre460 : ∀ t, Steps p.tables e below (T457.setTop (mkF m 426 #[iv pi0, iv pi1, jv pj2, .second, jv pj3, .second, jv pj4, .second, jv pj5, .second, iv x2, iv x9, iv x16, iv x23, iv x30, iv x37, iv x43, iv x45, iv x48, iv x55, jv x61, .second, jv x63, .second, rv b65, jv x366, .second, iv x43, iv x373, jv x385, .second, jv x388, .second, iv x395, iv (1 : Int32), jv x61, .second, jv x432, .second, jv x450, .second, .unset] [(.long x459)])) t → Go t := fun t kt => pre456 t (st457.trans kt)
      have pre462 : ∀ t, Steps p.tables e below (T457.setTop (mkF m 429 #[iv pi0, iv pi1, jv pj2, .second, jv pj3, .second, jv pj4, .second, jv pj5, .second, iv x2, iv x9, iv x16, iv x23, iv x30, iv x37, iv x43, iv x45, iv x48, iv x55, jv x61, .second, jv x63, .second, rv b65, jv x366, .second, iv x43, iv x373, jv x385, .second, jv x388, .second, iv x395, iv (1 : Int32), jv x61, .second, jv x432, .second, jv x450, .second, .unset] [(.int (lcmpW x459 x450))])) t → Go t := fun t kt => pre460 t (by
          refine y_lload X457.here hx (hb hby at_426) rfl (pc' := 428) rfl ?_
          refine y_lcmp X457.here hx (hb hby at_428) (pc' := 429) rfl ?_
          exact kt)
      have hf429_461 : x459 = x450 := by
          exact law0_463 pj2 pj3 x2 x23 x43 x45 x61 x432 x445 x446 x447 x450 x459 hx432 hx445 hx446 hx447 hx450 hx459 hc155_79 hc187_364 B1 B2 A1
      have pre464 : ∀ t, Steps p.tables e below (T457.setTop (mkF m 436 #[iv pi0, iv pi1, jv pj2, .second, jv pj3, .second, jv pj4, .second, jv pj5, .second, iv x2, iv x9, iv x16, iv x23, iv x30, iv x37, iv x43, iv x45, iv x48, iv x55, jv x61, .second, jv x63, .second, rv b65, jv x366, .second, iv x43, iv x373, jv x385, .second, jv x388, .second, iv x395, iv (1 : Int32), jv x61, .second, jv x432, .second, jv x450, .second, .unset] [(.long x432), (.ref b65)])) t → Go t := fun t kt => pre462 t (by
          refine y_ifNo X457.here hx (hb hby at_429) ((if0 _ _).trans (teq (lq_eq hf429_461)).2) (pc' := 432) rfl ?_
          refine y_aload X457.here hx (hb hby at_432) rfl rfl (pc' := 434) rfl ?_
          refine y_lload X457.here hx (hb hby at_434) rfl (pc' := 436) rfl ?_
          exact kt)
      obtain ⟨cq465, kq465, q465a, q465b, q465c⟩ := isOf hZ e457q f438
      obtain ⟨v465, _, ⟨T465, L465, k465, n465⟩, -, X465, ⟨Lc465, hQ465, l465, y465, z465⟩, st465⟩ := X457.virtualBack hx (y := (⟨"com/example/roamd/roamd/net/DelayedAck", "due", "(J)Z"⟩ : MethodName)) (z := (⟨"com/example/roamd/roamd/net/DelayedAck", "due", "(J)Z"⟩ : MethodName)) hown (mvT hZ (hw _ (List.mem_of_getElem? (i := 34) rfl))) (mvT hZ (hw _ (List.mem_of_getElem? (i := 35) rfl))) (notFace_of_selects (args := #[]) (mvT hZ (hw _ (List.mem_of_getElem? (i := 37) rfl)))) (mvT hZ (hw _ (List.mem_of_getElem? (i := 37) rfl))) (mvT hZ (hw _ (List.mem_of_getElem? (i := 36) rfl))) (by decide) (backOf (W := 0) (rm5 l Z a0 hw [] b65 x432 x445 x432 x446 x447 h435 n0 O448 f438 p435_0 p435_1 p435_4 p435_5) hZ (hw _ (List.mem_of_getElem? (i := 38) rfl)) (hw _ (List.mem_of_getElem? (i := 2) rfl)) (by decide) (by decide)) q465a q465c (g := (mkF m 436 #[iv pi0, iv pi1, jv pj2, .second, jv pj3, .second, jv pj4, .second, jv pj5, .second, iv x2, iv x9, iv x16, iv x23, iv x30, iv x37, iv x43, iv x45, iv x48, iv x55, jv x61, .second, jv x63, .second, rv b65, jv x366, .second, iv x43, iv x373, jv x385, .second, jv x388, .second, iv x395, iv (1 : Int32), jv x61, .second, jv x432, .second, jv x450, .second, .unset] [(.long x432), (.ref b65)])) rfl (by rw [hml]; rfl) (Steps.refl _) (argsL := [(.long x432)]) (rest := []) (lenOf pd__J_Z rfl) rfl (by show 2 * 0 + _ ≤ _; exact Nat.le_of_eq rfl) (hb hby at_436) (fun _ _ => ⟨rfl, e457q, (by decide : 1 + 0 ≤ _), (by decide : 6 + 0 ≤ _)⟩)
      dsimp only [Pt.U, Pt.locs, Pt.cells, Pt.slots] at X465 l465 y465 z465 st465 hQ465
      subst l465 y465 z465
      obtain ⟨hv465, N465q, e465q⟩ := hQ465
      have N466 := Fr.app N458 N465q
      have hw465 := hv465
      obtain ⟨x467, hx467⟩ : ∃ z : Int32, z = (if x447 = (0 : Int32) then (if (0 : Int32) < x445 then (if (x432 - x432) < x446 then (0 : Int32) else (1 : Int32)) else (0 : Int32)) else (1 : Int32)) := ⟨_, rfl⟩
      rw [← hx467] at hw465
      subst hw465
      have pre468 : ∀ t, Steps p.tables e below (T465.setTop (mkF m 439 #[iv pi0, iv pi1, jv pj2, .second, jv pj3, .second, jv pj4, .second, jv pj5, .second, iv x2, iv x9, iv x16, iv x23, iv x30, iv x37, iv x43, iv x45, iv x48, iv x55, jv x61, .second, jv x63, .second, rv b65, jv x366, .second, iv x43, iv x373, jv x385, .second, jv x388, .second, iv x395, iv (1 : Int32), jv x61, .second, jv x432, .second, jv x450, .second, .unset] [(.int x467)])) t → Go t := fun t kt => pre464 t (st465.trans kt)
      have hf439_469 : x467 = (0 : Int32) := by
          exact law0_470 pj2 pj3 x2 x23 x43 x45 x61 x432 x445 x446 x447 x467 hx432 hx445 hx446 hx447 hx467 hc155_79 hc187_364 B1 B2 A1
      have pre471 : ∀ t, Steps p.tables e below (T465.setTop (mkF m 464 #[iv pi0, iv pi1, jv pj2, .second, jv pj3, .second, jv pj4, .second, jv pj5, .second, iv x2, iv x9, iv x16, iv x23, iv x30, iv x37, iv x43, iv x45, iv x48, iv x55, jv x61, .second, jv x63, .second, rv b65, jv x366, .second, iv x43, iv x373, jv x385, .second, jv x388, .second, iv x395, iv (1 : Int32), jv x61, .second, jv x432, .second, jv x450, .second, iv (1 : Int32)] [(.int (1 : Int32))])) t → Go t := fun t kt => pre468 t (by
          refine y_ifNo X465.here hx (hb hby at_439) ((if0 _ _).trans (teq hf439_469).2) (pc' := 442) rfl ?_
          refine y_iconst X465.here hx (hb hby at_442) (v := (1 : Int32)) rfl (pc' := 443) rfl ?_
          refine y_goto X465.here hx (hb hby at_443) (pc' := 447) (by decide) rfl ?_
          refine y_istore X465.here hx (hb hby at_447) (l' := #[iv pi0, iv pi1, jv pj2, .second, jv pj3, .second, jv pj4, .second, jv pj5, .second, iv x2, iv x9, iv x16, iv x23, iv x30, iv x37, iv x43, iv x45, iv x48, iv x55, jv x61, .second, jv x63, .second, rv b65, jv x366, .second, iv x43, iv x373, jv x385, .second, jv x388, .second, iv x395, iv (1 : Int32), jv x61, .second, jv x432, .second, jv x450, .second, iv (1 : Int32)]) rfl (pc' := 449) rfl ?_
          refine y_iload X465.here hx (hb hby at_449) rfl (pc' := 451) rfl ?_
          refine y_ifNo X465.here hx (hb hby at_451) ((if0 _ _).trans (feq (by decide : ¬ ((1 : Int32) = (0 : Int32)))).1) (pc' := 454) rfl ?_
          refine y_iload X465.here hx (hb hby at_454) rfl (pc' := 456) rfl ?_
          refine y_ifNo X465.here hx (hb hby at_456) ((if0 _ _).trans (feq (by decide : ¬ ((1 : Int32) = (0 : Int32)))).1) (pc' := 459) rfl ?_
          refine y_iconst X465.here hx (hb hby at_459) (v := (1 : Int32)) rfl (pc' := 460) rfl ?_
          refine y_goto X465.here hx (hb hby at_460) (pc' := 464) (by decide) rfl ?_
          exact kt)
      obtain ⟨fs, hr, hrun, hended, hW, hsame⟩ := X465.leave (v := some (.int (1 : Int32))) (fun h => by rw [Bd.returns] at h; cases h)
      refine ⟨_, _, (hGo _).mp (pre471 _ ?_), hrun, hended, _, _, rfl, ?_, ⟨_, rfl⟩, hW, hsame.mono (by decide) (by decide)⟩
      · exact retN X465 hx (t := .boolean) Bd.returns (by simp) (hb hby at_464) hr
      · show Q0 Z pi0 pi1 pj2 pj3 pj4 pj5 h0 n0 _ T465.heap _
        rw [e465q]
        exact ⟨rfl, N466⟩
    · have pre472 : ∀ t, Steps p.tables e below (T349.setTop (mkF m 200 #[iv pi0, iv pi1, jv pj2, .second, jv pj3, .second, jv pj4, .second, jv pj5, .second, iv x2, iv x9, iv x16, iv x23, iv x30, iv x37, iv x43, iv x45, iv x48, iv x55, jv x61, .second, jv x63, .second, rv b65, .unset, .unset, .unset, .unset, .unset, .unset, .unset, .unset, .unset, .unset, .unset, .unset, .unset, .unset, .unset, .unset, .unset] [(.long x63), (.int x30), (.int x55), (.int x45), (.ref b65)])) t → Go t := fun t kt => pre363 t (by
          refine y_ifNo X349.here hx (hb hby at_187) ((if0 _ _).trans (feq hc187_364).1) (pc' := 190) rfl ?_
          refine y_aload X349.here hx (hb hby at_190) rfl rfl (pc' := 192) rfl ?_
          refine y_iload X349.here hx (hb hby at_192) rfl (pc' := 194) rfl ?_
          refine y_iload X349.here hx (hb hby at_194) rfl (pc' := 196) rfl ?_
          refine y_iload X349.here hx (hb hby at_196) rfl (pc' := 198) rfl ?_
          refine y_lload X349.here hx (hb hby at_198) rfl (pc' := 200) rfl ?_
          exact kt)
      obtain ⟨cq473, kq473, q473a, q473b, q473c⟩ := isOf hZ eh349 f352
      obtain ⟨v473, _, ⟨T473, L473, k473, n473⟩, -, X473, ⟨Lc473, hQ473, l473, y473, z473⟩, st473⟩ := X349.virtualBack hx (y := (⟨"com/example/roamd/roamd/net/DelayedAck", "arrived", "(IIZJ)V"⟩ : MethodName)) (z := (⟨"com/example/roamd/roamd/net/DelayedAck", "arrived", "(IIZJ)V"⟩ : MethodName)) hown (mvT hZ (hw _ (List.mem_of_getElem? (i := 9) rfl))) (mvT hZ (hw _ (List.mem_of_getElem? (i := 10) rfl))) (notFace_of_selects (args := #[]) (mvT hZ (hw _ (List.mem_of_getElem? (i := 12) rfl)))) (mvT hZ (hw _ (List.mem_of_getElem? (i := 12) rfl))) (mvT hZ (hw _ (List.mem_of_getElem? (i := 11) rfl))) (by decide) (backOf (W := 0) (rm3 l Z a0 hw [] b65 x45 x55 x30 x63 x359 x61 (1 : Int32) x61 x360 x361 h349 n0 O362 S_DELAY_NANOS S_ALONE_DELAY_NANOS f352 p349_0 p349_1 p349_2 p349_3 p349_4 p349_5 G67) hZ (hw _ (List.mem_of_getElem? (i := 13) rfl)) (hw _ (List.mem_of_getElem? (i := 2) rfl)) (by decide) (by decide)) q473a q473c (g := (mkF m 200 #[iv pi0, iv pi1, jv pj2, .second, jv pj3, .second, jv pj4, .second, jv pj5, .second, iv x2, iv x9, iv x16, iv x23, iv x30, iv x37, iv x43, iv x45, iv x48, iv x55, jv x61, .second, jv x63, .second, rv b65, .unset, .unset, .unset, .unset, .unset, .unset, .unset, .unset, .unset, .unset, .unset, .unset, .unset, .unset, .unset, .unset, .unset] [(.long x63), (.int x30), (.int x55), (.int x45), (.ref b65)])) rfl (by rw [hml]; rfl) (Steps.refl _) (argsL := [(.int x45), (.int x55), (.int x30), (.long x63)]) (rest := []) (lenOf pd__IIZJ_V rfl) rfl (by show 2 * 0 + _ ≤ _; exact Nat.le_of_eq rfl) (hb hby at_200) (fun _ _ => ⟨rfl, eh349, (by decide : 1 + 0 ≤ _), (by decide : 6 + 0 ≤ _)⟩)
      dsimp only [Pt.U, Pt.locs, Pt.cells, Pt.slots] at X473 l473 y473 z473 st473 hQ473
      subst l473 y473 z473
      obtain ⟨hv473, N473q, K473q, p473_0, p473_1, p473_2, p473_3, p473_4, p473_5⟩ := hQ473
      have N474 := Fr.app N350 N473q
      subst hv473
      have pre475 : ∀ t, Steps p.tables e below (T473.setTop (mkF m 203 #[iv pi0, iv pi1, jv pj2, .second, jv pj3, .second, jv pj4, .second, jv pj5, .second, iv x2, iv x9, iv x16, iv x23, iv x30, iv x37, iv x43, iv x45, iv x48, iv x55, jv x61, .second, jv x63, .second, rv b65, .unset, .unset, .unset, .unset, .unset, .unset, .unset, .unset, .unset, .unset, .unset, .unset, .unset, .unset, .unset, .unset, .unset] [])) t → Go t := fun t kt => pre472 t (st473.trans kt)
      obtain ⟨h473, eh473⟩ : ∃ z, T473.heap = z := ⟨_, rfl⟩
      rw [eh473] at K473q p473_0 p473_1 p473_2 p473_3 p473_4 p473_5
      have f476 : Exa Z h473 b65 "com/example/roamd/roamd/net/DelayedAck" := (f352.keep K473q)
      obtain ⟨x483, hx483⟩ : ∃ z : Int32, z = (x359 + x45) := ⟨_, rfl⟩
      rw [← hx483] at p473_0
      obtain ⟨x484, hx484⟩ : ∃ z : Int64, z = (if x359 = (0 : Int32) then x63 else x61) := ⟨_, rfl⟩
      rw [← hx484] at p473_1
      obtain ⟨x485, hx485⟩ : ∃ z : Int64, z = (if x359 = (0 : Int32) then (if (if (1 : Int32) = (0 : Int32) then (0 : Int32) else (if (700000000 : Int64) < (x63 - x61) then (0 : Int32) else (1 : Int32))) = (0 : Int32) then (150000000 : Int64) else (700000000 : Int64)) else x360) := ⟨_, rfl⟩
      rw [← hx485] at p473_4
      obtain ⟨x486, hx486⟩ : ∃ z : Int32, z = (nar .boolean (x361 ||| (if x55 = x45 then (if x30 = (0 : Int32) then (1 : Int32) else (if (x359 + x45) < (16 : Int32) then (0 : Int32) else (1 : Int32))) else (1 : Int32)))) := ⟨_, rfl⟩
      rw [← hx486] at p473_5
      have O487 := O362.keep K473q (allS G67 all0)
      have pre488 : ∀ t, Steps p.tables e below (T473.setTop (mkF m 214 #[iv pi0, iv pi1, jv pj2, .second, jv pj3, .second, jv pj4, .second, jv pj5, .second, iv x2, iv x9, iv x16, iv x23, iv x30, iv x37, iv x43, iv x45, iv x48, iv x55, jv x61, .second, jv x63, .second, rv b65, .unset, .unset, .unset, .unset, .unset, .unset, .unset, .unset, .unset, .unset, .unset, .unset, .unset, .unset, .unset, .unset, .unset] [(.int (lcmpW pj3 (700000000 : Int64)))])) t → Go t := fun t kt => pre475 t (by
          refine y_iload X473.here hx (hb hby at_203) rfl (pc' := 205) rfl ?_
          refine y_ifNo X473.here hx (hb hby at_205) ((if0 _ _).trans (feq hc155_79).1) (pc' := 208) rfl ?_
          refine y_lload X473.here hx (hb hby at_208) rfl (pc' := 210) rfl ?_
          refine X473.ldc2Long hx hown (mvT hZ (hw _ (List.mem_of_getElem? (i := 46) rfl))) (g := (mkF m 210 #[iv pi0, iv pi1, jv pj2, .second, jv pj3, .second, jv pj4, .second, jv pj5, .second, iv x2, iv x9, iv x16, iv x23, iv x30, iv x37, iv x43, iv x45, iv x48, iv x55, jv x61, .second, jv x63, .second, rv b65, .unset, .unset, .unset, .unset, .unset, .unset, .unset, .unset, .unset, .unset, .unset, .unset, .unset, .unset, .unset, .unset, .unset] [(.long pj3)])) rfl (hb hby at_210) _ ?_
          show Steps p.tables e below (T473.setTop (mkF m 213 #[iv pi0, iv pi1, jv pj2, .second, jv pj3, .second, jv pj4, .second, jv pj5, .second, iv x2, iv x9, iv x16, iv x23, iv x30, iv x37, iv x43, iv x45, iv x48, iv x55, jv x61, .second, jv x63, .second, rv b65, .unset, .unset, .unset, .unset, .unset, .unset, .unset, .unset, .unset, .unset, .unset, .unset, .unset, .unset, .unset, .unset, .unset] [(.long (700000000 : Int64)), (.long pj3)])) _
          refine y_lcmp X473.here hx (hb hby at_213) (pc' := 214) rfl ?_
          exact kt)
      obtain ⟨x489, hx489⟩ : ∃ z : Int64, z = (if (700000000 : Int64) < pj3 then (150000000 : Int64) else (700000000 : Int64)) := ⟨_, rfl⟩
      obtain ⟨T490, ⟨X490, q490⟩, st490⟩ : ∃ T', Nx X473 T' ∧ ∀ t, Steps p.tables e below (T'.setTop (mkF m 226 #[iv pi0, iv pi1, jv pj2, .second, jv pj3, .second, jv pj4, .second, jv pj5, .second, iv x2, iv x9, iv x16, iv x23, iv x30, iv x37, iv x43, iv x45, iv x48, iv x55, jv x61, .second, jv x63, .second, rv b65, .unset, .unset, .unset, .unset, .unset, .unset, .unset, .unset, .unset, .unset, .unset, .unset, .unset, .unset, .unset, .unset, .unset] [(.long x489)])) t → Steps p.tables e below (T473.setTop (mkF m 214 #[iv pi0, iv pi1, jv pj2, .second, jv pj3, .second, jv pj4, .second, jv pj5, .second, iv x2, iv x9, iv x16, iv x23, iv x30, iv x37, iv x43, iv x45, iv x48, iv x55, jv x61, .second, jv x63, .second, rv b65, .unset, .unset, .unset, .unset, .unset, .unset, .unset, .unset, .unset, .unset, .unset, .unset, .unset, .unset, .unset, .unset, .unset] [(.int (lcmpW pj3 (700000000 : Int64)))])) t := by
        have pre490_ : ∀ t, Steps p.tables e below (T473.setTop (mkF m 214 #[iv pi0, iv pi1, jv pj2, .second, jv pj3, .second, jv pj4, .second, jv pj5, .second, iv x2, iv x9, iv x16, iv x23, iv x30, iv x37, iv x43, iv x45, iv x48, iv x55, jv x61, .second, jv x63, .second, rv b65, .unset, .unset, .unset, .unset, .unset, .unset, .unset, .unset, .unset, .unset, .unset, .unset, .unset, .unset, .unset, .unset, .unset] [(.int (lcmpW pj3 (700000000 : Int64)))])) t → Steps p.tables e below (T473.setTop (mkF m 214 #[iv pi0, iv pi1, jv pj2, .second, jv pj3, .second, jv pj4, .second, jv pj5, .second, iv x2, iv x9, iv x16, iv x23, iv x30, iv x37, iv x43, iv x45, iv x48, iv x55, jv x61, .second, jv x63, .second, rv b65, .unset, .unset, .unset, .unset, .unset, .unset, .unset, .unset, .unset, .unset, .unset, .unset, .unset, .unset, .unset, .unset, .unset] [(.int (lcmpW pj3 (700000000 : Int64)))])) t := fun t kt => kt
        subst hx489
        by_cases hm214_491 : (700000000 : Int64) < pj3
        · have pre492 : ∀ t, Steps p.tables e below (T473.setTop (mkF m 226 #[iv pi0, iv pi1, jv pj2, .second, jv pj3, .second, jv pj4, .second, jv pj5, .second, iv x2, iv x9, iv x16, iv x23, iv x30, iv x37, iv x43, iv x45, iv x48, iv x55, jv x61, .second, jv x63, .second, rv b65, .unset, .unset, .unset, .unset, .unset, .unset, .unset, .unset, .unset, .unset, .unset, .unset, .unset, .unset, .unset, .unset, .unset] [(.long (150000000 : Int64))])) t → Steps p.tables e below (T473.setTop (mkF m 214 #[iv pi0, iv pi1, jv pj2, .second, jv pj3, .second, jv pj4, .second, jv pj5, .second, iv x2, iv x9, iv x16, iv x23, iv x30, iv x37, iv x43, iv x45, iv x48, iv x55, jv x61, .second, jv x63, .second, rv b65, .unset, .unset, .unset, .unset, .unset, .unset, .unset, .unset, .unset, .unset, .unset, .unset, .unset, .unset, .unset, .unset, .unset] [(.int (lcmpW pj3 (700000000 : Int64)))])) t := fun t kt => pre490_ t (by
              refine y_ifYes X473.here hx (hb hby at_214) ((if0 _ _).trans (tlt (lq_gt hm214_491)).2.2.1) (pc' := 223) (by decide) rfl ?_
              refine X473.ldc2Long hx hown (mvT hZ (hw _ (List.mem_of_getElem? (i := 28) rfl))) (g := (mkF m 223 #[iv pi0, iv pi1, jv pj2, .second, jv pj3, .second, jv pj4, .second, jv pj5, .second, iv x2, iv x9, iv x16, iv x23, iv x30, iv x37, iv x43, iv x45, iv x48, iv x55, jv x61, .second, jv x63, .second, rv b65, .unset, .unset, .unset, .unset, .unset, .unset, .unset, .unset, .unset, .unset, .unset, .unset, .unset, .unset, .unset, .unset, .unset] [])) rfl (hb hby at_223) _ ?_
              show Steps p.tables e below (T473.setTop (mkF m 226 #[iv pi0, iv pi1, jv pj2, .second, jv pj3, .second, jv pj4, .second, jv pj5, .second, iv x2, iv x9, iv x16, iv x23, iv x30, iv x37, iv x43, iv x45, iv x48, iv x55, jv x61, .second, jv x63, .second, rv b65, .unset, .unset, .unset, .unset, .unset, .unset, .unset, .unset, .unset, .unset, .unset, .unset, .unset, .unset, .unset, .unset, .unset] [(.long (150000000 : Int64))])) _
              exact kt)
          refine ⟨T473, ⟨X473, eh473.trans eh473.symm⟩, fun t kt => pre492 t ?_⟩
          (try simp only [if_pos hm214_491] at kt)
          exact kt
        · have pre493 : ∀ t, Steps p.tables e below (T473.setTop (mkF m 226 #[iv pi0, iv pi1, jv pj2, .second, jv pj3, .second, jv pj4, .second, jv pj5, .second, iv x2, iv x9, iv x16, iv x23, iv x30, iv x37, iv x43, iv x45, iv x48, iv x55, jv x61, .second, jv x63, .second, rv b65, .unset, .unset, .unset, .unset, .unset, .unset, .unset, .unset, .unset, .unset, .unset, .unset, .unset, .unset, .unset, .unset, .unset] [(.long (700000000 : Int64))])) t → Steps p.tables e below (T473.setTop (mkF m 214 #[iv pi0, iv pi1, jv pj2, .second, jv pj3, .second, jv pj4, .second, jv pj5, .second, iv x2, iv x9, iv x16, iv x23, iv x30, iv x37, iv x43, iv x45, iv x48, iv x55, jv x61, .second, jv x63, .second, rv b65, .unset, .unset, .unset, .unset, .unset, .unset, .unset, .unset, .unset, .unset, .unset, .unset, .unset, .unset, .unset, .unset, .unset] [(.int (lcmpW pj3 (700000000 : Int64)))])) t := fun t kt => pre490_ t (by
              refine y_ifNo X473.here hx (hb hby at_214) ((if0 _ _).trans (flt (lq_ngt hm214_491)).2.2.1) (pc' := 217) rfl ?_
              refine X473.ldc2Long hx hown (mvT hZ (hw _ (List.mem_of_getElem? (i := 46) rfl))) (g := (mkF m 217 #[iv pi0, iv pi1, jv pj2, .second, jv pj3, .second, jv pj4, .second, jv pj5, .second, iv x2, iv x9, iv x16, iv x23, iv x30, iv x37, iv x43, iv x45, iv x48, iv x55, jv x61, .second, jv x63, .second, rv b65, .unset, .unset, .unset, .unset, .unset, .unset, .unset, .unset, .unset, .unset, .unset, .unset, .unset, .unset, .unset, .unset, .unset] [])) rfl (hb hby at_217) _ ?_
              show Steps p.tables e below (T473.setTop (mkF m 220 #[iv pi0, iv pi1, jv pj2, .second, jv pj3, .second, jv pj4, .second, jv pj5, .second, iv x2, iv x9, iv x16, iv x23, iv x30, iv x37, iv x43, iv x45, iv x48, iv x55, jv x61, .second, jv x63, .second, rv b65, .unset, .unset, .unset, .unset, .unset, .unset, .unset, .unset, .unset, .unset, .unset, .unset, .unset, .unset, .unset, .unset, .unset] [(.long (700000000 : Int64))])) _
              refine y_goto X473.here hx (hb hby at_220) (pc' := 226) (by decide) rfl ?_
              exact kt)
          refine ⟨T473, ⟨X473, eh473.trans eh473.symm⟩, fun t kt => pre493 t ?_⟩
          (try simp only [if_neg hm214_491] at kt)
          exact kt
      have e490 : T490.heap = h473 := q490.trans eh473
      have pre494 : ∀ t, Steps p.tables e below (T490.setTop (mkF m 226 #[iv pi0, iv pi1, jv pj2, .second, jv pj3, .second, jv pj4, .second, jv pj5, .second, iv x2, iv x9, iv x16, iv x23, iv x30, iv x37, iv x43, iv x45, iv x48, iv x55, jv x61, .second, jv x63, .second, rv b65, .unset, .unset, .unset, .unset, .unset, .unset, .unset, .unset, .unset, .unset, .unset, .unset, .unset, .unset, .unset, .unset, .unset] [(.long x489)])) t → Go t := fun t kt => pre488 t (st490 t kt)
      obtain ⟨x495, hx495⟩ : ∃ z : Int32, z = (x43 + x45) := ⟨_, rfl⟩
      have pre496 : ∀ t, Steps p.tables e below (T490.setTop (mkF m 245 #[iv pi0, iv pi1, jv pj2, .second, jv pj3, .second, jv pj4, .second, jv pj5, .second, iv x2, iv x9, iv x16, iv x23, iv x30, iv x37, iv x43, iv x45, iv x48, iv x55, jv x61, .second, jv x63, .second, rv b65, jv x489, .second, iv x495, .unset, .unset, .unset, .unset, .unset, .unset, .unset, .unset, .unset, .unset, .unset, .unset, .unset, .unset] [])) t → Go t := fun t kt => pre494 t (by
          subst hx495
          refine y_lstore X490.here hx (hb hby at_226) (l' := #[iv pi0, iv pi1, jv pj2, .second, jv pj3, .second, jv pj4, .second, jv pj5, .second, iv x2, iv x9, iv x16, iv x23, iv x30, iv x37, iv x43, iv x45, iv x48, iv x55, jv x61, .second, jv x63, .second, rv b65, jv x489, .second, .unset, .unset, .unset, .unset, .unset, .unset, .unset, .unset, .unset, .unset, .unset, .unset, .unset, .unset, .unset]) rfl (pc' := 228) rfl ?_
          refine y_iload X490.here hx (hb hby at_228) rfl (pc' := 230) rfl ?_
          refine y_ifNo X490.here hx (hb hby at_230) ((if0 _ _).trans (feq hc187_364).1) (pc' := 233) rfl ?_
          refine y_iload X490.here hx (hb hby at_233) rfl (pc' := 235) rfl ?_
          refine y_iload X490.here hx (hb hby at_235) rfl (pc' := 237) rfl ?_
          refine y_iadd X490.here hx (hb hby at_237) rfl (pc' := 238) rfl ?_
          refine y_goto X490.here hx (hb hby at_238) (pc' := 243) (by decide) rfl ?_
          refine y_istore X490.here hx (hb hby at_243) (l' := #[iv pi0, iv pi1, jv pj2, .second, jv pj3, .second, jv pj4, .second, jv pj5, .second, iv x2, iv x9, iv x16, iv x23, iv x30, iv x37, iv x43, iv x45, iv x48, iv x55, jv x61, .second, jv x63, .second, rv b65, jv x489, .second, iv (x43 + x45), .unset, .unset, .unset, .unset, .unset, .unset, .unset, .unset, .unset, .unset, .unset, .unset, .unset, .unset]) rfl (pc' := 245) rfl ?_
          exact kt)
      have pre497 : ∀ t, Steps p.tables e below (T490.setTop (mkF m 249 #[iv pi0, iv pi1, jv pj2, .second, jv pj3, .second, jv pj4, .second, jv pj5, .second, iv x2, iv x9, iv x16, iv x23, iv x30, iv x37, iv x43, iv x45, iv x48, iv x55, jv x61, .second, jv x63, .second, rv b65, jv x489, .second, iv x495, .unset, .unset, .unset, .unset, .unset, .unset, .unset, .unset, .unset, .unset, .unset, .unset, .unset, .unset] [(.int x43), (.int x48)])) t → Go t := fun t kt => pre496 t (by
          refine y_iload X490.here hx (hb hby at_245) rfl (pc' := 247) rfl ?_
          refine y_iload X490.here hx (hb hby at_247) rfl (pc' := 249) rfl ?_
          exact kt)
      obtain ⟨x498, hx498⟩ : ∃ z : Int32, z = (if x48 = x43 then (if x9 = (0 : Int32) then (1 : Int32) else (if x55 = x45 then (if x30 = (0 : Int32) then (1 : Int32) else (if x495 < (16 : Int32) then (0 : Int32) else (1 : Int32))) else (1 : Int32))) else (1 : Int32)) := ⟨_, rfl⟩
      obtain ⟨T499, ⟨X499, q499⟩, st499⟩ : ∃ T', Nx X490 T' ∧ ∀ t, Steps p.tables e below (T'.setTop (mkF m 286 #[iv pi0, iv pi1, jv pj2, .second, jv pj3, .second, jv pj4, .second, jv pj5, .second, iv x2, iv x9, iv x16, iv x23, iv x30, iv x37, iv x43, iv x45, iv x48, iv x55, jv x61, .second, jv x63, .second, rv b65, jv x489, .second, iv x495, .unset, .unset, .unset, .unset, .unset, .unset, .unset, .unset, .unset, .unset, .unset, .unset, .unset, .unset] [(.int x498)])) t → Steps p.tables e below (T490.setTop (mkF m 249 #[iv pi0, iv pi1, jv pj2, .second, jv pj3, .second, jv pj4, .second, jv pj5, .second, iv x2, iv x9, iv x16, iv x23, iv x30, iv x37, iv x43, iv x45, iv x48, iv x55, jv x61, .second, jv x63, .second, rv b65, jv x489, .second, iv x495, .unset, .unset, .unset, .unset, .unset, .unset, .unset, .unset, .unset, .unset, .unset, .unset, .unset, .unset] [(.int x43), (.int x48)])) t := by
        have pre499_ : ∀ t, Steps p.tables e below (T490.setTop (mkF m 249 #[iv pi0, iv pi1, jv pj2, .second, jv pj3, .second, jv pj4, .second, jv pj5, .second, iv x2, iv x9, iv x16, iv x23, iv x30, iv x37, iv x43, iv x45, iv x48, iv x55, jv x61, .second, jv x63, .second, rv b65, jv x489, .second, iv x495, .unset, .unset, .unset, .unset, .unset, .unset, .unset, .unset, .unset, .unset, .unset, .unset, .unset, .unset] [(.int x43), (.int x48)])) t → Steps p.tables e below (T490.setTop (mkF m 249 #[iv pi0, iv pi1, jv pj2, .second, jv pj3, .second, jv pj4, .second, jv pj5, .second, iv x2, iv x9, iv x16, iv x23, iv x30, iv x37, iv x43, iv x45, iv x48, iv x55, jv x61, .second, jv x63, .second, rv b65, jv x489, .second, iv x495, .unset, .unset, .unset, .unset, .unset, .unset, .unset, .unset, .unset, .unset, .unset, .unset, .unset, .unset] [(.int x43), (.int x48)])) t := fun t kt => kt
        subst hx498
        by_cases hm249_500 : x48 = x43
        · have pre501 : ∀ t, Steps p.tables e below (T490.setTop (mkF m 254 #[iv pi0, iv pi1, jv pj2, .second, jv pj3, .second, jv pj4, .second, jv pj5, .second, iv x2, iv x9, iv x16, iv x23, iv x30, iv x37, iv x43, iv x45, iv x48, iv x55, jv x61, .second, jv x63, .second, rv b65, jv x489, .second, iv x495, .unset, .unset, .unset, .unset, .unset, .unset, .unset, .unset, .unset, .unset, .unset, .unset, .unset, .unset] [(.int x9)])) t → Steps p.tables e below (T490.setTop (mkF m 249 #[iv pi0, iv pi1, jv pj2, .second, jv pj3, .second, jv pj4, .second, jv pj5, .second, iv x2, iv x9, iv x16, iv x23, iv x30, iv x37, iv x43, iv x45, iv x48, iv x55, jv x61, .second, jv x63, .second, rv b65, jv x489, .second, iv x495, .unset, .unset, .unset, .unset, .unset, .unset, .unset, .unset, .unset, .unset, .unset, .unset, .unset, .unset] [(.int x43), (.int x48)])) t := fun t kt => pre499_ t (by
              refine y_icmpNo X490.here hx (hb hby at_249) (teq hm249_500).2 (pc' := 252) rfl ?_
              refine y_iload X490.here hx (hb hby at_252) rfl (pc' := 254) rfl ?_
              exact kt)
          by_cases hm254_502 : x9 = (0 : Int32)
          · have pre503 : ∀ t, Steps p.tables e below (T490.setTop (mkF m 286 #[iv pi0, iv pi1, jv pj2, .second, jv pj3, .second, jv pj4, .second, jv pj5, .second, iv x2, iv x9, iv x16, iv x23, iv x30, iv x37, iv x43, iv x45, iv x48, iv x55, jv x61, .second, jv x63, .second, rv b65, jv x489, .second, iv x495, .unset, .unset, .unset, .unset, .unset, .unset, .unset, .unset, .unset, .unset, .unset, .unset, .unset, .unset] [(.int (1 : Int32))])) t → Steps p.tables e below (T490.setTop (mkF m 249 #[iv pi0, iv pi1, jv pj2, .second, jv pj3, .second, jv pj4, .second, jv pj5, .second, iv x2, iv x9, iv x16, iv x23, iv x30, iv x37, iv x43, iv x45, iv x48, iv x55, jv x61, .second, jv x63, .second, rv b65, jv x489, .second, iv x495, .unset, .unset, .unset, .unset, .unset, .unset, .unset, .unset, .unset, .unset, .unset, .unset, .unset, .unset] [(.int x43), (.int x48)])) t := fun t kt => pre501 t (by
                refine y_ifYes X490.here hx (hb hby at_254) ((if0 _ _).trans (teq hm254_502).1) (pc' := 281) (by decide) rfl ?_
                refine y_iconst X490.here hx (hb hby at_281) (v := (1 : Int32)) rfl (pc' := 282) rfl ?_
                refine y_goto X490.here hx (hb hby at_282) (pc' := 286) (by decide) rfl ?_
                exact kt)
            refine ⟨T490, ⟨X490, e490.trans e490.symm⟩, fun t kt => pre503 t ?_⟩
            (try simp only [if_pos hm249_500, if_pos hm254_502] at kt)
            exact kt
          · have pre504 : ∀ t, Steps p.tables e below (T490.setTop (mkF m 266 #[iv pi0, iv pi1, jv pj2, .second, jv pj3, .second, jv pj4, .second, jv pj5, .second, iv x2, iv x9, iv x16, iv x23, iv x30, iv x37, iv x43, iv x45, iv x48, iv x55, jv x61, .second, jv x63, .second, rv b65, jv x489, .second, iv x495, .unset, .unset, .unset, .unset, .unset, .unset, .unset, .unset, .unset, .unset, .unset, .unset, .unset, .unset] [(.int x45), (.int x55)])) t → Steps p.tables e below (T490.setTop (mkF m 249 #[iv pi0, iv pi1, jv pj2, .second, jv pj3, .second, jv pj4, .second, jv pj5, .second, iv x2, iv x9, iv x16, iv x23, iv x30, iv x37, iv x43, iv x45, iv x48, iv x55, jv x61, .second, jv x63, .second, rv b65, jv x489, .second, iv x495, .unset, .unset, .unset, .unset, .unset, .unset, .unset, .unset, .unset, .unset, .unset, .unset, .unset, .unset] [(.int x43), (.int x48)])) t := fun t kt => pre501 t (by
                refine y_ifNo X490.here hx (hb hby at_254) ((if0 _ _).trans (feq hm254_502).1) (pc' := 257) rfl ?_
                refine y_iload X490.here hx (hb hby at_257) rfl (pc' := 259) rfl ?_
                refine y_ifNo X490.here hx (hb hby at_259) ((if0 _ _).trans (feq hc187_364).1) (pc' := 262) rfl ?_
                refine y_iload X490.here hx (hb hby at_262) rfl (pc' := 264) rfl ?_
                refine y_iload X490.here hx (hb hby at_264) rfl (pc' := 266) rfl ?_
                exact kt)
            by_cases hm266_505 : x55 = x45
            · have pre506 : ∀ t, Steps p.tables e below (T490.setTop (mkF m 271 #[iv pi0, iv pi1, jv pj2, .second, jv pj3, .second, jv pj4, .second, jv pj5, .second, iv x2, iv x9, iv x16, iv x23, iv x30, iv x37, iv x43, iv x45, iv x48, iv x55, jv x61, .second, jv x63, .second, rv b65, jv x489, .second, iv x495, .unset, .unset, .unset, .unset, .unset, .unset, .unset, .unset, .unset, .unset, .unset, .unset, .unset, .unset] [(.int x30)])) t → Steps p.tables e below (T490.setTop (mkF m 249 #[iv pi0, iv pi1, jv pj2, .second, jv pj3, .second, jv pj4, .second, jv pj5, .second, iv x2, iv x9, iv x16, iv x23, iv x30, iv x37, iv x43, iv x45, iv x48, iv x55, jv x61, .second, jv x63, .second, rv b65, jv x489, .second, iv x495, .unset, .unset, .unset, .unset, .unset, .unset, .unset, .unset, .unset, .unset, .unset, .unset, .unset, .unset] [(.int x43), (.int x48)])) t := fun t kt => pre504 t (by
                  refine y_icmpNo X490.here hx (hb hby at_266) (teq hm266_505).2 (pc' := 269) rfl ?_
                  refine y_iload X490.here hx (hb hby at_269) rfl (pc' := 271) rfl ?_
                  exact kt)
              by_cases hm271_507 : x30 = (0 : Int32)
              · have pre508 : ∀ t, Steps p.tables e below (T490.setTop (mkF m 286 #[iv pi0, iv pi1, jv pj2, .second, jv pj3, .second, jv pj4, .second, jv pj5, .second, iv x2, iv x9, iv x16, iv x23, iv x30, iv x37, iv x43, iv x45, iv x48, iv x55, jv x61, .second, jv x63, .second, rv b65, jv x489, .second, iv x495, .unset, .unset, .unset, .unset, .unset, .unset, .unset, .unset, .unset, .unset, .unset, .unset, .unset, .unset] [(.int (1 : Int32))])) t → Steps p.tables e below (T490.setTop (mkF m 249 #[iv pi0, iv pi1, jv pj2, .second, jv pj3, .second, jv pj4, .second, jv pj5, .second, iv x2, iv x9, iv x16, iv x23, iv x30, iv x37, iv x43, iv x45, iv x48, iv x55, jv x61, .second, jv x63, .second, rv b65, jv x489, .second, iv x495, .unset, .unset, .unset, .unset, .unset, .unset, .unset, .unset, .unset, .unset, .unset, .unset, .unset, .unset] [(.int x43), (.int x48)])) t := fun t kt => pre506 t (by
                    refine y_ifYes X490.here hx (hb hby at_271) ((if0 _ _).trans (teq hm271_507).1) (pc' := 281) (by decide) rfl ?_
                    refine y_iconst X490.here hx (hb hby at_281) (v := (1 : Int32)) rfl (pc' := 282) rfl ?_
                    refine y_goto X490.here hx (hb hby at_282) (pc' := 286) (by decide) rfl ?_
                    exact kt)
                refine ⟨T490, ⟨X490, e490.trans e490.symm⟩, fun t kt => pre508 t ?_⟩
                (try simp only [if_pos hm249_500, if_neg hm254_502, if_pos hm266_505, if_pos hm271_507] at kt)
                exact kt
              · have pre509 : ∀ t, Steps p.tables e below (T490.setTop (mkF m 278 #[iv pi0, iv pi1, jv pj2, .second, jv pj3, .second, jv pj4, .second, jv pj5, .second, iv x2, iv x9, iv x16, iv x23, iv x30, iv x37, iv x43, iv x45, iv x48, iv x55, jv x61, .second, jv x63, .second, rv b65, jv x489, .second, iv x495, .unset, .unset, .unset, .unset, .unset, .unset, .unset, .unset, .unset, .unset, .unset, .unset, .unset, .unset] [(.int (16 : Int32)), (.int x495)])) t → Steps p.tables e below (T490.setTop (mkF m 249 #[iv pi0, iv pi1, jv pj2, .second, jv pj3, .second, jv pj4, .second, jv pj5, .second, iv x2, iv x9, iv x16, iv x23, iv x30, iv x37, iv x43, iv x45, iv x48, iv x55, jv x61, .second, jv x63, .second, rv b65, jv x489, .second, iv x495, .unset, .unset, .unset, .unset, .unset, .unset, .unset, .unset, .unset, .unset, .unset, .unset, .unset, .unset] [(.int x43), (.int x48)])) t := fun t kt => pre506 t (by
                    refine y_ifNo X490.here hx (hb hby at_271) ((if0 _ _).trans (feq hm271_507).1) (pc' := 274) rfl ?_
                    refine y_iload X490.here hx (hb hby at_274) rfl (pc' := 276) rfl ?_
                    refine y_bipush X490.here hx (hb hby at_276) (v := (16 : Int32)) rfl (pc' := 278) rfl ?_
                    exact kt)
                by_cases hm278_510 : x495 < (16 : Int32)
                · have pre511 : ∀ t, Steps p.tables e below (T490.setTop (mkF m 286 #[iv pi0, iv pi1, jv pj2, .second, jv pj3, .second, jv pj4, .second, jv pj5, .second, iv x2, iv x9, iv x16, iv x23, iv x30, iv x37, iv x43, iv x45, iv x48, iv x55, jv x61, .second, jv x63, .second, rv b65, jv x489, .second, iv x495, .unset, .unset, .unset, .unset, .unset, .unset, .unset, .unset, .unset, .unset, .unset, .unset, .unset, .unset] [(.int (0 : Int32))])) t → Steps p.tables e below (T490.setTop (mkF m 249 #[iv pi0, iv pi1, jv pj2, .second, jv pj3, .second, jv pj4, .second, jv pj5, .second, iv x2, iv x9, iv x16, iv x23, iv x30, iv x37, iv x43, iv x45, iv x48, iv x55, jv x61, .second, jv x63, .second, rv b65, jv x489, .second, iv x495, .unset, .unset, .unset, .unset, .unset, .unset, .unset, .unset, .unset, .unset, .unset, .unset, .unset, .unset] [(.int x43), (.int x48)])) t := fun t kt => pre509 t (by
                      refine y_icmpYes X490.here hx (hb hby at_278) (tlt hm278_510).1 (pc' := 285) (by decide) rfl ?_
                      refine y_iconst X490.here hx (hb hby at_285) (v := (0 : Int32)) rfl (pc' := 286) rfl ?_
                      exact kt)
                  refine ⟨T490, ⟨X490, e490.trans e490.symm⟩, fun t kt => pre511 t ?_⟩
                  (try simp only [if_pos hm249_500, if_neg hm254_502, if_pos hm266_505, if_neg hm271_507, if_pos hm278_510] at kt)
                  exact kt
                · have pre512 : ∀ t, Steps p.tables e below (T490.setTop (mkF m 286 #[iv pi0, iv pi1, jv pj2, .second, jv pj3, .second, jv pj4, .second, jv pj5, .second, iv x2, iv x9, iv x16, iv x23, iv x30, iv x37, iv x43, iv x45, iv x48, iv x55, jv x61, .second, jv x63, .second, rv b65, jv x489, .second, iv x495, .unset, .unset, .unset, .unset, .unset, .unset, .unset, .unset, .unset, .unset, .unset, .unset, .unset, .unset] [(.int (1 : Int32))])) t → Steps p.tables e below (T490.setTop (mkF m 249 #[iv pi0, iv pi1, jv pj2, .second, jv pj3, .second, jv pj4, .second, jv pj5, .second, iv x2, iv x9, iv x16, iv x23, iv x30, iv x37, iv x43, iv x45, iv x48, iv x55, jv x61, .second, jv x63, .second, rv b65, jv x489, .second, iv x495, .unset, .unset, .unset, .unset, .unset, .unset, .unset, .unset, .unset, .unset, .unset, .unset, .unset, .unset] [(.int x43), (.int x48)])) t := fun t kt => pre509 t (by
                      refine y_icmpNo X490.here hx (hb hby at_278) (flt hm278_510).1 (pc' := 281) rfl ?_
                      refine y_iconst X490.here hx (hb hby at_281) (v := (1 : Int32)) rfl (pc' := 282) rfl ?_
                      refine y_goto X490.here hx (hb hby at_282) (pc' := 286) (by decide) rfl ?_
                      exact kt)
                  refine ⟨T490, ⟨X490, e490.trans e490.symm⟩, fun t kt => pre512 t ?_⟩
                  (try simp only [if_pos hm249_500, if_neg hm254_502, if_pos hm266_505, if_neg hm271_507, if_neg hm278_510] at kt)
                  exact kt
            · have pre513 : ∀ t, Steps p.tables e below (T490.setTop (mkF m 286 #[iv pi0, iv pi1, jv pj2, .second, jv pj3, .second, jv pj4, .second, jv pj5, .second, iv x2, iv x9, iv x16, iv x23, iv x30, iv x37, iv x43, iv x45, iv x48, iv x55, jv x61, .second, jv x63, .second, rv b65, jv x489, .second, iv x495, .unset, .unset, .unset, .unset, .unset, .unset, .unset, .unset, .unset, .unset, .unset, .unset, .unset, .unset] [(.int (1 : Int32))])) t → Steps p.tables e below (T490.setTop (mkF m 249 #[iv pi0, iv pi1, jv pj2, .second, jv pj3, .second, jv pj4, .second, jv pj5, .second, iv x2, iv x9, iv x16, iv x23, iv x30, iv x37, iv x43, iv x45, iv x48, iv x55, jv x61, .second, jv x63, .second, rv b65, jv x489, .second, iv x495, .unset, .unset, .unset, .unset, .unset, .unset, .unset, .unset, .unset, .unset, .unset, .unset, .unset, .unset] [(.int x43), (.int x48)])) t := fun t kt => pre504 t (by
                  refine y_icmpYes X490.here hx (hb hby at_266) (feq hm266_505).2 (pc' := 281) (by decide) rfl ?_
                  refine y_iconst X490.here hx (hb hby at_281) (v := (1 : Int32)) rfl (pc' := 282) rfl ?_
                  refine y_goto X490.here hx (hb hby at_282) (pc' := 286) (by decide) rfl ?_
                  exact kt)
              refine ⟨T490, ⟨X490, e490.trans e490.symm⟩, fun t kt => pre513 t ?_⟩
              (try simp only [if_pos hm249_500, if_neg hm254_502, if_neg hm266_505] at kt)
              exact kt
        · have pre514 : ∀ t, Steps p.tables e below (T490.setTop (mkF m 286 #[iv pi0, iv pi1, jv pj2, .second, jv pj3, .second, jv pj4, .second, jv pj5, .second, iv x2, iv x9, iv x16, iv x23, iv x30, iv x37, iv x43, iv x45, iv x48, iv x55, jv x61, .second, jv x63, .second, rv b65, jv x489, .second, iv x495, .unset, .unset, .unset, .unset, .unset, .unset, .unset, .unset, .unset, .unset, .unset, .unset, .unset, .unset] [(.int (1 : Int32))])) t → Steps p.tables e below (T490.setTop (mkF m 249 #[iv pi0, iv pi1, jv pj2, .second, jv pj3, .second, jv pj4, .second, jv pj5, .second, iv x2, iv x9, iv x16, iv x23, iv x30, iv x37, iv x43, iv x45, iv x48, iv x55, jv x61, .second, jv x63, .second, rv b65, jv x489, .second, iv x495, .unset, .unset, .unset, .unset, .unset, .unset, .unset, .unset, .unset, .unset, .unset, .unset, .unset, .unset] [(.int x43), (.int x48)])) t := fun t kt => pre499_ t (by
              refine y_icmpYes X490.here hx (hb hby at_249) (feq hm249_500).2 (pc' := 281) (by decide) rfl ?_
              refine y_iconst X490.here hx (hb hby at_281) (v := (1 : Int32)) rfl (pc' := 282) rfl ?_
              refine y_goto X490.here hx (hb hby at_282) (pc' := 286) (by decide) rfl ?_
              exact kt)
          refine ⟨T490, ⟨X490, e490.trans e490.symm⟩, fun t kt => pre514 t ?_⟩
          (try simp only [if_neg hm249_500] at kt)
          exact kt
      have e499 : T499.heap = h473 := q499.trans e490
      have pre515 : ∀ t, Steps p.tables e below (T499.setTop (mkF m 286 #[iv pi0, iv pi1, jv pj2, .second, jv pj3, .second, jv pj4, .second, jv pj5, .second, iv x2, iv x9, iv x16, iv x23, iv x30, iv x37, iv x43, iv x45, iv x48, iv x55, jv x61, .second, jv x63, .second, rv b65, jv x489, .second, iv x495, .unset, .unset, .unset, .unset, .unset, .unset, .unset, .unset, .unset, .unset, .unset, .unset, .unset, .unset] [(.int x498)])) t → Go t := fun t kt => pre497 t (st499 t kt)
      obtain ⟨x516, hx516⟩ : ∃ z : Int64, z = (x61 + pj5) := ⟨_, rfl⟩
      have pre517 : ∀ t, Steps p.tables e below (T499.setTop (mkF m 295 #[iv pi0, iv pi1, jv pj2, .second, jv pj3, .second, jv pj4, .second, jv pj5, .second, iv x2, iv x9, iv x16, iv x23, iv x30, iv x37, iv x43, iv x45, iv x48, iv x55, jv x61, .second, jv x63, .second, rv b65, jv x489, .second, iv x495, iv x498, jv x516, .second, .unset, .unset, .unset, .unset, .unset, .unset, .unset, .unset, .unset, .unset, .unset] [])) t → Go t := fun t kt => pre515 t (by
          subst hx516
          refine y_istore X499.here hx (hb hby at_286) (l' := #[iv pi0, iv pi1, jv pj2, .second, jv pj3, .second, jv pj4, .second, jv pj5, .second, iv x2, iv x9, iv x16, iv x23, iv x30, iv x37, iv x43, iv x45, iv x48, iv x55, jv x61, .second, jv x63, .second, rv b65, jv x489, .second, iv x495, iv x498, .unset, .unset, .unset, .unset, .unset, .unset, .unset, .unset, .unset, .unset, .unset, .unset, .unset]) rfl (pc' := 288) rfl ?_
          refine y_lload X499.here hx (hb hby at_288) rfl (pc' := 290) rfl ?_
          refine y_lload X499.here hx (hb hby at_290) rfl (pc' := 292) rfl ?_
          refine y_ladd X499.here hx (hb hby at_292) rfl (pc' := 293) rfl ?_
          refine y_lstore X499.here hx (hb hby at_293) (l' := #[iv pi0, iv pi1, jv pj2, .second, jv pj3, .second, jv pj4, .second, jv pj5, .second, iv x2, iv x9, iv x16, iv x23, iv x30, iv x37, iv x43, iv x45, iv x48, iv x55, jv x61, .second, jv x63, .second, rv b65, jv x489, .second, iv x495, iv x498, jv (x61 + pj5), .second, .unset, .unset, .unset, .unset, .unset, .unset, .unset, .unset, .unset, .unset, .unset]) rfl (pc' := 295) rfl ?_
          exact kt)
      have pre518 : ∀ t, Steps p.tables e below (T499.setTop (mkF m 297 #[iv pi0, iv pi1, jv pj2, .second, jv pj3, .second, jv pj4, .second, jv pj5, .second, iv x2, iv x9, iv x16, iv x23, iv x30, iv x37, iv x43, iv x45, iv x48, iv x55, jv x61, .second, jv x63, .second, rv b65, jv x489, .second, iv x495, iv x498, jv x516, .second, .unset, .unset, .unset, .unset, .unset, .unset, .unset, .unset, .unset, .unset, .unset] [(.int x498)])) t → Go t := fun t kt => pre517 t (by
          refine y_iload X499.here hx (hb hby at_295) rfl (pc' := 297) rfl ?_
          exact kt)
      obtain ⟨x519, hx519⟩ : ∃ z : Int64, z = (if x498 = (0 : Int32) then (x489 - pj5) else (0 : Int64)) := ⟨_, rfl⟩
      obtain ⟨T520, ⟨X520, q520⟩, st520⟩ : ∃ T', Nx X499 T' ∧ ∀ t, Steps p.tables e below (T'.setTop (mkF m 309 #[iv pi0, iv pi1, jv pj2, .second, jv pj3, .second, jv pj4, .second, jv pj5, .second, iv x2, iv x9, iv x16, iv x23, iv x30, iv x37, iv x43, iv x45, iv x48, iv x55, jv x61, .second, jv x63, .second, rv b65, jv x489, .second, iv x495, iv x498, jv x516, .second, .unset, .unset, .unset, .unset, .unset, .unset, .unset, .unset, .unset, .unset, .unset] [(.long x519)])) t → Steps p.tables e below (T499.setTop (mkF m 297 #[iv pi0, iv pi1, jv pj2, .second, jv pj3, .second, jv pj4, .second, jv pj5, .second, iv x2, iv x9, iv x16, iv x23, iv x30, iv x37, iv x43, iv x45, iv x48, iv x55, jv x61, .second, jv x63, .second, rv b65, jv x489, .second, iv x495, iv x498, jv x516, .second, .unset, .unset, .unset, .unset, .unset, .unset, .unset, .unset, .unset, .unset, .unset] [(.int x498)])) t := by
        have pre520_ : ∀ t, Steps p.tables e below (T499.setTop (mkF m 297 #[iv pi0, iv pi1, jv pj2, .second, jv pj3, .second, jv pj4, .second, jv pj5, .second, iv x2, iv x9, iv x16, iv x23, iv x30, iv x37, iv x43, iv x45, iv x48, iv x55, jv x61, .second, jv x63, .second, rv b65, jv x489, .second, iv x495, iv x498, jv x516, .second, .unset, .unset, .unset, .unset, .unset, .unset, .unset, .unset, .unset, .unset, .unset] [(.int x498)])) t → Steps p.tables e below (T499.setTop (mkF m 297 #[iv pi0, iv pi1, jv pj2, .second, jv pj3, .second, jv pj4, .second, jv pj5, .second, iv x2, iv x9, iv x16, iv x23, iv x30, iv x37, iv x43, iv x45, iv x48, iv x55, jv x61, .second, jv x63, .second, rv b65, jv x489, .second, iv x495, iv x498, jv x516, .second, .unset, .unset, .unset, .unset, .unset, .unset, .unset, .unset, .unset, .unset, .unset] [(.int x498)])) t := fun t kt => kt
        subst hx519
        by_cases hm297_521 : x498 = (0 : Int32)
        · have pre522 : ∀ t, Steps p.tables e below (T499.setTop (mkF m 309 #[iv pi0, iv pi1, jv pj2, .second, jv pj3, .second, jv pj4, .second, jv pj5, .second, iv x2, iv x9, iv x16, iv x23, iv x30, iv x37, iv x43, iv x45, iv x48, iv x55, jv x61, .second, jv x63, .second, rv b65, jv x489, .second, iv x495, iv x498, jv x516, .second, .unset, .unset, .unset, .unset, .unset, .unset, .unset, .unset, .unset, .unset, .unset] [(.long (x489 - pj5))])) t → Steps p.tables e below (T499.setTop (mkF m 297 #[iv pi0, iv pi1, jv pj2, .second, jv pj3, .second, jv pj4, .second, jv pj5, .second, iv x2, iv x9, iv x16, iv x23, iv x30, iv x37, iv x43, iv x45, iv x48, iv x55, jv x61, .second, jv x63, .second, rv b65, jv x489, .second, iv x495, iv x498, jv x516, .second, .unset, .unset, .unset, .unset, .unset, .unset, .unset, .unset, .unset, .unset, .unset] [(.int x498)])) t := fun t kt => pre520_ t (by
              refine y_ifYes X499.here hx (hb hby at_297) ((if0 _ _).trans (teq hm297_521).1) (pc' := 304) (by decide) rfl ?_
              refine y_lload X499.here hx (hb hby at_304) rfl (pc' := 306) rfl ?_
              refine y_lload X499.here hx (hb hby at_306) rfl (pc' := 308) rfl ?_
              refine y_lsub X499.here hx (hb hby at_308) rfl (pc' := 309) rfl ?_
              exact kt)
          refine ⟨T499, ⟨X499, e499.trans e499.symm⟩, fun t kt => pre522 t ?_⟩
          (try simp only [if_pos hm297_521] at kt)
          exact kt
        · have pre523 : ∀ t, Steps p.tables e below (T499.setTop (mkF m 309 #[iv pi0, iv pi1, jv pj2, .second, jv pj3, .second, jv pj4, .second, jv pj5, .second, iv x2, iv x9, iv x16, iv x23, iv x30, iv x37, iv x43, iv x45, iv x48, iv x55, jv x61, .second, jv x63, .second, rv b65, jv x489, .second, iv x495, iv x498, jv x516, .second, .unset, .unset, .unset, .unset, .unset, .unset, .unset, .unset, .unset, .unset, .unset] [(.long (0 : Int64))])) t → Steps p.tables e below (T499.setTop (mkF m 297 #[iv pi0, iv pi1, jv pj2, .second, jv pj3, .second, jv pj4, .second, jv pj5, .second, iv x2, iv x9, iv x16, iv x23, iv x30, iv x37, iv x43, iv x45, iv x48, iv x55, jv x61, .second, jv x63, .second, rv b65, jv x489, .second, iv x495, iv x498, jv x516, .second, .unset, .unset, .unset, .unset, .unset, .unset, .unset, .unset, .unset, .unset, .unset] [(.int x498)])) t := fun t kt => pre520_ t (by
              refine y_ifNo X499.here hx (hb hby at_297) ((if0 _ _).trans (feq hm297_521).1) (pc' := 300) rfl ?_
              refine y_lconst X499.here hx (hb hby at_300) (v := (0 : Int64)) rfl (pc' := 301) rfl ?_
              refine y_goto X499.here hx (hb hby at_301) (pc' := 309) (by decide) rfl ?_
              exact kt)
          refine ⟨T499, ⟨X499, e499.trans e499.symm⟩, fun t kt => pre523 t ?_⟩
          (try simp only [if_neg hm297_521] at kt)
          exact kt
      have e520 : T520.heap = h473 := q520.trans e499
      have pre524 : ∀ t, Steps p.tables e below (T520.setTop (mkF m 309 #[iv pi0, iv pi1, jv pj2, .second, jv pj3, .second, jv pj4, .second, jv pj5, .second, iv x2, iv x9, iv x16, iv x23, iv x30, iv x37, iv x43, iv x45, iv x48, iv x55, jv x61, .second, jv x63, .second, rv b65, jv x489, .second, iv x495, iv x498, jv x516, .second, .unset, .unset, .unset, .unset, .unset, .unset, .unset, .unset, .unset, .unset, .unset] [(.long x519)])) t → Go t := fun t kt => pre518 t (st520 t kt)
      have pre525 : ∀ t, Steps p.tables e below (T520.setTop (mkF m 313 #[iv pi0, iv pi1, jv pj2, .second, jv pj3, .second, jv pj4, .second, jv pj5, .second, iv x2, iv x9, iv x16, iv x23, iv x30, iv x37, iv x43, iv x45, iv x48, iv x55, jv x61, .second, jv x63, .second, rv b65, jv x489, .second, iv x495, iv x498, jv x516, .second, jv x519, .second, .unset, .unset, .unset, .unset, .unset, .unset, .unset, .unset, .unset] [(.int x498)])) t → Go t := fun t kt => pre524 t (by
          refine y_lstore X520.here hx (hb hby at_309) (l' := #[iv pi0, iv pi1, jv pj2, .second, jv pj3, .second, jv pj4, .second, jv pj5, .second, iv x2, iv x9, iv x16, iv x23, iv x30, iv x37, iv x43, iv x45, iv x48, iv x55, jv x61, .second, jv x63, .second, rv b65, jv x489, .second, iv x495, iv x498, jv x516, .second, jv x519, .second, .unset, .unset, .unset, .unset, .unset, .unset, .unset, .unset, .unset]) rfl (pc' := 311) rfl ?_
          refine y_iload X520.here hx (hb hby at_311) rfl (pc' := 313) rfl ?_
          exact kt)
      obtain ⟨x526, hx526⟩ : ∃ z : Int32, z = (if x498 = (0 : Int32) then (if pj5 < x489 then (0 : Int32) else (1 : Int32)) else (1 : Int32)) := ⟨_, rfl⟩
      obtain ⟨T527, ⟨X527, q527⟩, st527⟩ : ∃ T', Nx X520 T' ∧ ∀ t, Steps p.tables e below (T'.setTop (mkF m 329 #[iv pi0, iv pi1, jv pj2, .second, jv pj3, .second, jv pj4, .second, jv pj5, .second, iv x2, iv x9, iv x16, iv x23, iv x30, iv x37, iv x43, iv x45, iv x48, iv x55, jv x61, .second, jv x63, .second, rv b65, jv x489, .second, iv x495, iv x498, jv x516, .second, jv x519, .second, .unset, .unset, .unset, .unset, .unset, .unset, .unset, .unset, .unset] [(.int x526)])) t → Steps p.tables e below (T520.setTop (mkF m 313 #[iv pi0, iv pi1, jv pj2, .second, jv pj3, .second, jv pj4, .second, jv pj5, .second, iv x2, iv x9, iv x16, iv x23, iv x30, iv x37, iv x43, iv x45, iv x48, iv x55, jv x61, .second, jv x63, .second, rv b65, jv x489, .second, iv x495, iv x498, jv x516, .second, jv x519, .second, .unset, .unset, .unset, .unset, .unset, .unset, .unset, .unset, .unset] [(.int x498)])) t := by
        have pre527_ : ∀ t, Steps p.tables e below (T520.setTop (mkF m 313 #[iv pi0, iv pi1, jv pj2, .second, jv pj3, .second, jv pj4, .second, jv pj5, .second, iv x2, iv x9, iv x16, iv x23, iv x30, iv x37, iv x43, iv x45, iv x48, iv x55, jv x61, .second, jv x63, .second, rv b65, jv x489, .second, iv x495, iv x498, jv x516, .second, jv x519, .second, .unset, .unset, .unset, .unset, .unset, .unset, .unset, .unset, .unset] [(.int x498)])) t → Steps p.tables e below (T520.setTop (mkF m 313 #[iv pi0, iv pi1, jv pj2, .second, jv pj3, .second, jv pj4, .second, jv pj5, .second, iv x2, iv x9, iv x16, iv x23, iv x30, iv x37, iv x43, iv x45, iv x48, iv x55, jv x61, .second, jv x63, .second, rv b65, jv x489, .second, iv x495, iv x498, jv x516, .second, jv x519, .second, .unset, .unset, .unset, .unset, .unset, .unset, .unset, .unset, .unset] [(.int x498)])) t := fun t kt => kt
        subst hx526
        by_cases hm313_528 : x498 = (0 : Int32)
        · have pre529 : ∀ t, Steps p.tables e below (T520.setTop (mkF m 321 #[iv pi0, iv pi1, jv pj2, .second, jv pj3, .second, jv pj4, .second, jv pj5, .second, iv x2, iv x9, iv x16, iv x23, iv x30, iv x37, iv x43, iv x45, iv x48, iv x55, jv x61, .second, jv x63, .second, rv b65, jv x489, .second, iv x495, iv x498, jv x516, .second, jv x519, .second, .unset, .unset, .unset, .unset, .unset, .unset, .unset, .unset, .unset] [(.int (lcmpW pj5 x489))])) t → Steps p.tables e below (T520.setTop (mkF m 313 #[iv pi0, iv pi1, jv pj2, .second, jv pj3, .second, jv pj4, .second, jv pj5, .second, iv x2, iv x9, iv x16, iv x23, iv x30, iv x37, iv x43, iv x45, iv x48, iv x55, jv x61, .second, jv x63, .second, rv b65, jv x489, .second, iv x495, iv x498, jv x516, .second, jv x519, .second, .unset, .unset, .unset, .unset, .unset, .unset, .unset, .unset, .unset] [(.int x498)])) t := fun t kt => pre527_ t (by
              refine y_ifNo X520.here hx (hb hby at_313) ((if0 _ _).trans (teq hm313_528).2) (pc' := 316) rfl ?_
              refine y_lload X520.here hx (hb hby at_316) rfl (pc' := 318) rfl ?_
              refine y_lload X520.here hx (hb hby at_318) rfl (pc' := 320) rfl ?_
              refine y_lcmp X520.here hx (hb hby at_320) (pc' := 321) rfl ?_
              exact kt)
          by_cases hm321_530 : pj5 < x489
          · have pre531 : ∀ t, Steps p.tables e below (T520.setTop (mkF m 329 #[iv pi0, iv pi1, jv pj2, .second, jv pj3, .second, jv pj4, .second, jv pj5, .second, iv x2, iv x9, iv x16, iv x23, iv x30, iv x37, iv x43, iv x45, iv x48, iv x55, jv x61, .second, jv x63, .second, rv b65, jv x489, .second, iv x495, iv x498, jv x516, .second, jv x519, .second, .unset, .unset, .unset, .unset, .unset, .unset, .unset, .unset, .unset] [(.int (0 : Int32))])) t → Steps p.tables e below (T520.setTop (mkF m 313 #[iv pi0, iv pi1, jv pj2, .second, jv pj3, .second, jv pj4, .second, jv pj5, .second, iv x2, iv x9, iv x16, iv x23, iv x30, iv x37, iv x43, iv x45, iv x48, iv x55, jv x61, .second, jv x63, .second, rv b65, jv x489, .second, iv x495, iv x498, jv x516, .second, jv x519, .second, .unset, .unset, .unset, .unset, .unset, .unset, .unset, .unset, .unset] [(.int x498)])) t := fun t kt => pre529 t (by
                refine y_ifYes X520.here hx (hb hby at_321) ((if0 _ _).trans (tlt (lq_lt hm321_530)).1) (pc' := 328) (by decide) rfl ?_
                refine y_iconst X520.here hx (hb hby at_328) (v := (0 : Int32)) rfl (pc' := 329) rfl ?_
                exact kt)
            refine ⟨T520, ⟨X520, e520.trans e520.symm⟩, fun t kt => pre531 t ?_⟩
            (try simp only [if_pos hm313_528, if_pos hm321_530] at kt)
            exact kt
          · have pre532 : ∀ t, Steps p.tables e below (T520.setTop (mkF m 329 #[iv pi0, iv pi1, jv pj2, .second, jv pj3, .second, jv pj4, .second, jv pj5, .second, iv x2, iv x9, iv x16, iv x23, iv x30, iv x37, iv x43, iv x45, iv x48, iv x55, jv x61, .second, jv x63, .second, rv b65, jv x489, .second, iv x495, iv x498, jv x516, .second, jv x519, .second, .unset, .unset, .unset, .unset, .unset, .unset, .unset, .unset, .unset] [(.int (1 : Int32))])) t → Steps p.tables e below (T520.setTop (mkF m 313 #[iv pi0, iv pi1, jv pj2, .second, jv pj3, .second, jv pj4, .second, jv pj5, .second, iv x2, iv x9, iv x16, iv x23, iv x30, iv x37, iv x43, iv x45, iv x48, iv x55, jv x61, .second, jv x63, .second, rv b65, jv x489, .second, iv x495, iv x498, jv x516, .second, jv x519, .second, .unset, .unset, .unset, .unset, .unset, .unset, .unset, .unset, .unset] [(.int x498)])) t := fun t kt => pre529 t (by
                refine y_ifNo X520.here hx (hb hby at_321) ((if0 _ _).trans (flt (lq_nlt hm321_530)).1) (pc' := 324) rfl ?_
                refine y_iconst X520.here hx (hb hby at_324) (v := (1 : Int32)) rfl (pc' := 325) rfl ?_
                refine y_goto X520.here hx (hb hby at_325) (pc' := 329) (by decide) rfl ?_
                exact kt)
            refine ⟨T520, ⟨X520, e520.trans e520.symm⟩, fun t kt => pre532 t ?_⟩
            (try simp only [if_pos hm313_528, if_neg hm321_530] at kt)
            exact kt
        · have pre533 : ∀ t, Steps p.tables e below (T520.setTop (mkF m 329 #[iv pi0, iv pi1, jv pj2, .second, jv pj3, .second, jv pj4, .second, jv pj5, .second, iv x2, iv x9, iv x16, iv x23, iv x30, iv x37, iv x43, iv x45, iv x48, iv x55, jv x61, .second, jv x63, .second, rv b65, jv x489, .second, iv x495, iv x498, jv x516, .second, jv x519, .second, .unset, .unset, .unset, .unset, .unset, .unset, .unset, .unset, .unset] [(.int (1 : Int32))])) t → Steps p.tables e below (T520.setTop (mkF m 313 #[iv pi0, iv pi1, jv pj2, .second, jv pj3, .second, jv pj4, .second, jv pj5, .second, iv x2, iv x9, iv x16, iv x23, iv x30, iv x37, iv x43, iv x45, iv x48, iv x55, jv x61, .second, jv x63, .second, rv b65, jv x489, .second, iv x495, iv x498, jv x516, .second, jv x519, .second, .unset, .unset, .unset, .unset, .unset, .unset, .unset, .unset, .unset] [(.int x498)])) t := fun t kt => pre527_ t (by
              refine y_ifYes X520.here hx (hb hby at_313) ((if0 _ _).trans (feq hm313_528).2) (pc' := 324) (by decide) rfl ?_
              refine y_iconst X520.here hx (hb hby at_324) (v := (1 : Int32)) rfl (pc' := 325) rfl ?_
              refine y_goto X520.here hx (hb hby at_325) (pc' := 329) (by decide) rfl ?_
              exact kt)
          refine ⟨T520, ⟨X520, e520.trans e520.symm⟩, fun t kt => pre533 t ?_⟩
          (try simp only [if_neg hm313_528] at kt)
          exact kt
      have e527 : T527.heap = h473 := q527.trans e520
      have pre534 : ∀ t, Steps p.tables e below (T527.setTop (mkF m 329 #[iv pi0, iv pi1, jv pj2, .second, jv pj3, .second, jv pj4, .second, jv pj5, .second, iv x2, iv x9, iv x16, iv x23, iv x30, iv x37, iv x43, iv x45, iv x48, iv x55, jv x61, .second, jv x63, .second, rv b65, jv x489, .second, iv x495, iv x498, jv x516, .second, jv x519, .second, .unset, .unset, .unset, .unset, .unset, .unset, .unset, .unset, .unset] [(.int x526)])) t → Go t := fun t kt => pre525 t (st527 t kt)
      have pre535 : ∀ t, Steps p.tables e below (T527.setTop (mkF m 335 #[iv pi0, iv pi1, jv pj2, .second, jv pj3, .second, jv pj4, .second, jv pj5, .second, iv x2, iv x9, iv x16, iv x23, iv x30, iv x37, iv x43, iv x45, iv x48, iv x55, jv x61, .second, jv x63, .second, rv b65, jv x489, .second, iv x495, iv x498, jv x516, .second, jv x519, .second, iv x526, .unset, .unset, .unset, .unset, .unset, .unset, .unset, .unset] [(.long x516), (.ref b65)])) t → Go t := fun t kt => pre534 t (by
          refine y_istore X527.here hx (hb hby at_329) (l' := #[iv pi0, iv pi1, jv pj2, .second, jv pj3, .second, jv pj4, .second, jv pj5, .second, iv x2, iv x9, iv x16, iv x23, iv x30, iv x37, iv x43, iv x45, iv x48, iv x55, jv x61, .second, jv x63, .second, rv b65, jv x489, .second, iv x495, iv x498, jv x516, .second, jv x519, .second, iv x526, .unset, .unset, .unset, .unset, .unset, .unset, .unset, .unset]) rfl (pc' := 331) rfl ?_
          refine y_aload X527.here hx (hb hby at_331) rfl rfl (pc' := 333) rfl ?_
          refine y_lload X527.here hx (hb hby at_333) rfl (pc' := 335) rfl ?_
          exact kt)
      obtain ⟨cq536, kq536, q536a, q536b, q536c⟩ := isOf hZ e527 f476
      obtain ⟨v536, _, ⟨T536, L536, k536, n536⟩, -, X536, ⟨Lc536, hQ536, l536, y536, z536⟩, st536⟩ := X527.virtualBack hx (y := (⟨"com/example/roamd/roamd/net/DelayedAck", "waitNanos", "(J)J"⟩ : MethodName)) (z := (⟨"com/example/roamd/roamd/net/DelayedAck", "waitNanos", "(J)J"⟩ : MethodName)) hown (mvT hZ (hw _ (List.mem_of_getElem? (i := 29) rfl))) (mvT hZ (hw _ (List.mem_of_getElem? (i := 30) rfl))) (notFace_of_selects (args := #[]) (mvT hZ (hw _ (List.mem_of_getElem? (i := 32) rfl)))) (mvT hZ (hw _ (List.mem_of_getElem? (i := 32) rfl))) (mvT hZ (hw _ (List.mem_of_getElem? (i := 31) rfl))) (by decide) (backOf (W := 0) (rm4 l Z a0 hw [] b65 x516 x483 x484 x485 x486 h473 n0 O487 f476 p473_0 p473_1 p473_4 p473_5) hZ (hw _ (List.mem_of_getElem? (i := 33) rfl)) (hw _ (List.mem_of_getElem? (i := 2) rfl)) (by decide) (by decide)) q536a q536c (g := (mkF m 335 #[iv pi0, iv pi1, jv pj2, .second, jv pj3, .second, jv pj4, .second, jv pj5, .second, iv x2, iv x9, iv x16, iv x23, iv x30, iv x37, iv x43, iv x45, iv x48, iv x55, jv x61, .second, jv x63, .second, rv b65, jv x489, .second, iv x495, iv x498, jv x516, .second, jv x519, .second, iv x526, .unset, .unset, .unset, .unset, .unset, .unset, .unset, .unset] [(.long x516), (.ref b65)])) rfl (by rw [hml]; rfl) (Steps.refl _) (argsL := [(.long x516)]) (rest := []) (lenOf pd__J_J rfl) rfl (by show 2 * 0 + _ ≤ _; exact Nat.le_of_eq rfl) (hb hby at_335) (fun _ _ => ⟨rfl, e527, (by decide : 1 + 0 ≤ _), (by decide : 6 + 0 ≤ _)⟩)
      dsimp only [Pt.U, Pt.locs, Pt.cells, Pt.slots] at X536 l536 y536 z536 st536 hQ536
      subst l536 y536 z536
      obtain ⟨hv536, N536q, e536q⟩ := hQ536
      have N537 := Fr.app N474 N536q
      have hw536 := hv536
      obtain ⟨x538, hx538⟩ : ∃ z : Int64, z = (if x483 = (0 : Int32) then (9223372036854775807 : Int64) else (if x486 = (0 : Int32) then ((x484 + x485) - x516) else (0 : Int64))) := ⟨_, rfl⟩
      rw [← hx538] at hw536
      subst hw536
      have pre539 : ∀ t, Steps p.tables e below (T536.setTop (mkF m 338 #[iv pi0, iv pi1, jv pj2, .second, jv pj3, .second, jv pj4, .second, jv pj5, .second, iv x2, iv x9, iv x16, iv x23, iv x30, iv x37, iv x43, iv x45, iv x48, iv x55, jv x61, .second, jv x63, .second, rv b65, jv x489, .second, iv x495, iv x498, jv x516, .second, jv x519, .second, iv x526, .unset, .unset, .unset, .unset, .unset, .unset, .unset, .unset] [(.long x538)])) t → Go t := fun t kt => pre535 t (st536.trans kt)
      have pre541 : ∀ t, Steps p.tables e below (T536.setTop (mkF m 341 #[iv pi0, iv pi1, jv pj2, .second, jv pj3, .second, jv pj4, .second, jv pj5, .second, iv x2, iv x9, iv x16, iv x23, iv x30, iv x37, iv x43, iv x45, iv x48, iv x55, jv x61, .second, jv x63, .second, rv b65, jv x489, .second, iv x495, iv x498, jv x516, .second, jv x519, .second, iv x526, .unset, .unset, .unset, .unset, .unset, .unset, .unset, .unset] [(.int (lcmpW x538 x519))])) t → Go t := fun t kt => pre539 t (by
          refine y_lload X536.here hx (hb hby at_338) rfl (pc' := 340) rfl ?_
          refine y_lcmp X536.here hx (hb hby at_340) (pc' := 341) rfl ?_
          exact kt)
      have hf341_540 : x538 = x519 := by
          exact law0_542 pj2 pj3 pj5 x2 x9 x23 x30 x43 x45 x48 x55 x61 x63 x359 x360 x361 x483 x484 x485 x486 x489 x495 x498 x516 x519 x538 hx359 hx360 hx361 hx483 hx484 hx485 hx486 hx489 hx495 hx498 hx516 hx519 hx538 hc155_79 hc187_364 B1 B2 A1
      have pre543 : ∀ t, Steps p.tables e below (T536.setTop (mkF m 348 #[iv pi0, iv pi1, jv pj2, .second, jv pj3, .second, jv pj4, .second, jv pj5, .second, iv x2, iv x9, iv x16, iv x23, iv x30, iv x37, iv x43, iv x45, iv x48, iv x55, jv x61, .second, jv x63, .second, rv b65, jv x489, .second, iv x495, iv x498, jv x516, .second, jv x519, .second, iv x526, .unset, .unset, .unset, .unset, .unset, .unset, .unset, .unset] [(.long x516), (.ref b65)])) t → Go t := fun t kt => pre541 t (by
          refine y_ifNo X536.here hx (hb hby at_341) ((if0 _ _).trans (teq (lq_eq hf341_540)).2) (pc' := 344) rfl ?_
          refine y_aload X536.here hx (hb hby at_344) rfl rfl (pc' := 346) rfl ?_
          refine y_lload X536.here hx (hb hby at_346) rfl (pc' := 348) rfl ?_
          exact kt)
      obtain ⟨cq544, kq544, q544a, q544b, q544c⟩ := isOf hZ e536q f476
      obtain ⟨v544, _, ⟨T544, L544, k544, n544⟩, -, X544, ⟨Lc544, hQ544, l544, y544, z544⟩, st544⟩ := X536.virtualBack hx (y := (⟨"com/example/roamd/roamd/net/DelayedAck", "due", "(J)Z"⟩ : MethodName)) (z := (⟨"com/example/roamd/roamd/net/DelayedAck", "due", "(J)Z"⟩ : MethodName)) hown (mvT hZ (hw _ (List.mem_of_getElem? (i := 34) rfl))) (mvT hZ (hw _ (List.mem_of_getElem? (i := 35) rfl))) (notFace_of_selects (args := #[]) (mvT hZ (hw _ (List.mem_of_getElem? (i := 37) rfl)))) (mvT hZ (hw _ (List.mem_of_getElem? (i := 37) rfl))) (mvT hZ (hw _ (List.mem_of_getElem? (i := 36) rfl))) (by decide) (backOf (W := 0) (rm5 l Z a0 hw [] b65 x516 x483 x484 x485 x486 h473 n0 O487 f476 p473_0 p473_1 p473_4 p473_5) hZ (hw _ (List.mem_of_getElem? (i := 38) rfl)) (hw _ (List.mem_of_getElem? (i := 2) rfl)) (by decide) (by decide)) q544a q544c (g := (mkF m 348 #[iv pi0, iv pi1, jv pj2, .second, jv pj3, .second, jv pj4, .second, jv pj5, .second, iv x2, iv x9, iv x16, iv x23, iv x30, iv x37, iv x43, iv x45, iv x48, iv x55, jv x61, .second, jv x63, .second, rv b65, jv x489, .second, iv x495, iv x498, jv x516, .second, jv x519, .second, iv x526, .unset, .unset, .unset, .unset, .unset, .unset, .unset, .unset] [(.long x516), (.ref b65)])) rfl (by rw [hml]; rfl) (Steps.refl _) (argsL := [(.long x516)]) (rest := []) (lenOf pd__J_Z rfl) rfl (by show 2 * 0 + _ ≤ _; exact Nat.le_of_eq rfl) (hb hby at_348) (fun _ _ => ⟨rfl, e536q, (by decide : 1 + 0 ≤ _), (by decide : 6 + 0 ≤ _)⟩)
      dsimp only [Pt.U, Pt.locs, Pt.cells, Pt.slots] at X544 l544 y544 z544 st544 hQ544
      subst l544 y544 z544
      obtain ⟨hv544, N544q, e544q⟩ := hQ544
      have N545 := Fr.app N537 N544q
      have hw544 := hv544
      obtain ⟨x546, hx546⟩ : ∃ z : Int32, z = (if x486 = (0 : Int32) then (if (0 : Int32) < x483 then (if (x516 - x484) < x485 then (0 : Int32) else (1 : Int32)) else (0 : Int32)) else (1 : Int32)) := ⟨_, rfl⟩
      rw [← hx546] at hw544
      subst hw544
      have pre547 : ∀ t, Steps p.tables e below (T544.setTop (mkF m 351 #[iv pi0, iv pi1, jv pj2, .second, jv pj3, .second, jv pj4, .second, jv pj5, .second, iv x2, iv x9, iv x16, iv x23, iv x30, iv x37, iv x43, iv x45, iv x48, iv x55, jv x61, .second, jv x63, .second, rv b65, jv x489, .second, iv x495, iv x498, jv x516, .second, jv x519, .second, iv x526, .unset, .unset, .unset, .unset, .unset, .unset, .unset, .unset] [(.int x546)])) t → Go t := fun t kt => pre543 t (st544.trans kt)
      have pre549 : ∀ t, Steps p.tables e below (T544.setTop (mkF m 353 #[iv pi0, iv pi1, jv pj2, .second, jv pj3, .second, jv pj4, .second, jv pj5, .second, iv x2, iv x9, iv x16, iv x23, iv x30, iv x37, iv x43, iv x45, iv x48, iv x55, jv x61, .second, jv x63, .second, rv b65, jv x489, .second, iv x495, iv x498, jv x516, .second, jv x519, .second, iv x526, .unset, .unset, .unset, .unset, .unset, .unset, .unset, .unset] [(.int x526), (.int x546)])) t → Go t := fun t kt => pre547 t (by
          refine y_iload X544.here hx (hb hby at_351) rfl (pc' := 353) rfl ?_
          exact kt)
      have hf353_548 : x546 = x526 := by
          exact law0_550 pj2 pj3 pj5 x2 x9 x23 x30 x43 x45 x48 x55 x61 x63 x359 x360 x361 x483 x484 x485 x486 x489 x495 x498 x516 x526 x546 hx359 hx360 hx361 hx483 hx484 hx485 hx486 hx489 hx495 hx498 hx516 hx526 hx546 hc155_79 hc187_364 B1 B2 A1
      have pre551 : ∀ t, Steps p.tables e below (T544.setTop (mkF m 379 #[iv pi0, iv pi1, jv pj2, .second, jv pj3, .second, jv pj4, .second, jv pj5, .second, iv x2, iv x9, iv x16, iv x23, iv x30, iv x37, iv x43, iv x45, iv x48, iv x55, jv x61, .second, jv x63, .second, rv b65, jv x489, .second, iv x495, iv x498, jv x516, .second, jv x519, .second, iv x526, iv (1 : Int32), jv x63, .second, .unset, .unset, .unset, .unset, .unset] [(.ref b65)])) t → Go t := fun t kt => pre549 t (by
          refine y_icmpNo X544.here hx (hb hby at_353) (teq hf353_548).2 (pc' := 356) rfl ?_
          refine y_iconst X544.here hx (hb hby at_356) (v := (1 : Int32)) rfl (pc' := 357) rfl ?_
          refine y_goto X544.here hx (hb hby at_357) (pc' := 361) (by decide) rfl ?_
          refine y_istore X544.here hx (hb hby at_361) (l' := #[iv pi0, iv pi1, jv pj2, .second, jv pj3, .second, jv pj4, .second, jv pj5, .second, iv x2, iv x9, iv x16, iv x23, iv x30, iv x37, iv x43, iv x45, iv x48, iv x55, jv x61, .second, jv x63, .second, rv b65, jv x489, .second, iv x495, iv x498, jv x516, .second, jv x519, .second, iv x526, iv (1 : Int32), .unset, .unset, .unset, .unset, .unset, .unset, .unset]) rfl (pc' := 363) rfl ?_
          refine y_iload X544.here hx (hb hby at_363) rfl (pc' := 365) rfl ?_
          refine y_ifNo X544.here hx (hb hby at_365) ((if0 _ _).trans (feq hc187_364).1) (pc' := 368) rfl ?_
          refine y_lload X544.here hx (hb hby at_368) rfl (pc' := 370) rfl ?_
          refine y_goto X544.here hx (hb hby at_370) (pc' := 375) (by decide) rfl ?_
          refine y_lstore X544.here hx (hb hby at_375) (l' := #[iv pi0, iv pi1, jv pj2, .second, jv pj3, .second, jv pj4, .second, jv pj5, .second, iv x2, iv x9, iv x16, iv x23, iv x30, iv x37, iv x43, iv x45, iv x48, iv x55, jv x61, .second, jv x63, .second, rv b65, jv x489, .second, iv x495, iv x498, jv x516, .second, jv x519, .second, iv x526, iv (1 : Int32), jv x63, .second, .unset, .unset, .unset, .unset, .unset]) rfl (pc' := 377) rfl ?_
          refine y_aload X544.here hx (hb hby at_377) rfl rfl (pc' := 379) rfl ?_
          exact kt)
      obtain ⟨cq552, kq552, q552a, q552b, q552c⟩ := isOf hZ e544q f476
      obtain ⟨v552, _, ⟨T552, L552, k552, n552⟩, -, X552, ⟨Lc552, hQ552, l552, y552, z552⟩, st552⟩ := X544.virtualBack hx (y := (⟨"com/example/roamd/roamd/net/DelayedAck", "sent", "()V"⟩ : MethodName)) (z := (⟨"com/example/roamd/roamd/net/DelayedAck", "sent", "()V"⟩ : MethodName)) hown (mvT hZ (hw _ (List.mem_of_getElem? (i := 39) rfl))) (mvT hZ (hw _ (List.mem_of_getElem? (i := 40) rfl))) (notFace_of_selects (args := #[]) (mvT hZ (hw _ (List.mem_of_getElem? (i := 42) rfl)))) (mvT hZ (hw _ (List.mem_of_getElem? (i := 42) rfl))) (mvT hZ (hw _ (List.mem_of_getElem? (i := 41) rfl))) (by decide) (backOf (W := 0) (rm6 l Z a0 hw [] b65 x483 x484 (1 : Int32) x63 x485 x486 h473 n0 O487 f476 p473_0 p473_1 p473_2 p473_3 p473_4 p473_5 G67) hZ (hw _ (List.mem_of_getElem? (i := 43) rfl)) (hw _ (List.mem_of_getElem? (i := 2) rfl)) (by decide) (by decide)) q552a q552c (g := (mkF m 379 #[iv pi0, iv pi1, jv pj2, .second, jv pj3, .second, jv pj4, .second, jv pj5, .second, iv x2, iv x9, iv x16, iv x23, iv x30, iv x37, iv x43, iv x45, iv x48, iv x55, jv x61, .second, jv x63, .second, rv b65, jv x489, .second, iv x495, iv x498, jv x516, .second, jv x519, .second, iv x526, iv (1 : Int32), jv x63, .second, .unset, .unset, .unset, .unset, .unset] [(.ref b65)])) rfl (by rw [hml]; rfl) (Steps.refl _) (argsL := []) (rest := []) (lenOf pd___V rfl) rfl (by show 2 * 0 + _ ≤ _; exact Nat.le_of_eq rfl) (hb hby at_379) (fun _ _ => ⟨rfl, e544q, (by decide : 1 + 0 ≤ _), (by decide : 6 + 0 ≤ _)⟩)
      dsimp only [Pt.U, Pt.locs, Pt.cells, Pt.slots] at X552 l552 y552 z552 st552 hQ552
      subst l552 y552 z552
      obtain ⟨hv552, N552q, K552q, p552_0, p552_1, p552_2, p552_3, p552_4, p552_5⟩ := hQ552
      have N553 := Fr.app N545 N552q
      subst hv552
      have pre554 : ∀ t, Steps p.tables e below (T552.setTop (mkF m 382 #[iv pi0, iv pi1, jv pj2, .second, jv pj3, .second, jv pj4, .second, jv pj5, .second, iv x2, iv x9, iv x16, iv x23, iv x30, iv x37, iv x43, iv x45, iv x48, iv x55, jv x61, .second, jv x63, .second, rv b65, jv x489, .second, iv x495, iv x498, jv x516, .second, jv x519, .second, iv x526, iv (1 : Int32), jv x63, .second, .unset, .unset, .unset, .unset, .unset] [])) t → Go t := fun t kt => pre551 t (st552.trans kt)
      obtain ⟨h552, eh552⟩ : ∃ z, T552.heap = z := ⟨_, rfl⟩
      rw [eh552] at K552q p552_0 p552_1 p552_2 p552_3 p552_4 p552_5
      have f555 : Exa Z h552 b65 "com/example/roamd/roamd/net/DelayedAck" := (f476.keep K552q)
      have O562 := O487.keep K552q (allS G67 all0)
      obtain ⟨x563, hx563⟩ : ∃ z : Int64, z = (x63 + pj3) := ⟨_, rfl⟩
      have pre564 : ∀ t, Steps p.tables e below (T552.setTop (mkF m 389 #[iv pi0, iv pi1, jv pj2, .second, jv pj3, .second, jv pj4, .second, jv pj5, .second, iv x2, iv x9, iv x16, iv x23, iv x30, iv x37, iv x43, iv x45, iv x48, iv x55, jv x61, .second, jv x63, .second, rv b65, jv x489, .second, iv x495, iv x498, jv x516, .second, jv x519, .second, iv x526, iv (1 : Int32), jv x63, .second, jv x563, .second, .unset, .unset, .unset] [])) t → Go t := fun t kt => pre554 t (by
          subst hx563
          refine y_lload X552.here hx (hb hby at_382) rfl (pc' := 384) rfl ?_
          refine y_lload X552.here hx (hb hby at_384) rfl (pc' := 386) rfl ?_
          refine y_ladd X552.here hx (hb hby at_386) rfl (pc' := 387) rfl ?_
          refine y_lstore X552.here hx (hb hby at_387) (l' := #[iv pi0, iv pi1, jv pj2, .second, jv pj3, .second, jv pj4, .second, jv pj5, .second, iv x2, iv x9, iv x16, iv x23, iv x30, iv x37, iv x43, iv x45, iv x48, iv x55, jv x61, .second, jv x63, .second, rv b65, jv x489, .second, iv x495, iv x498, jv x516, .second, jv x519, .second, iv x526, iv (1 : Int32), jv x63, .second, jv (x63 + pj3), .second, .unset, .unset, .unset]) rfl (pc' := 389) rfl ?_
          exact kt)
      have pre565 : ∀ t, Steps p.tables e below (T552.setTop (mkF m 396 #[iv pi0, iv pi1, jv pj2, .second, jv pj3, .second, jv pj4, .second, jv pj5, .second, iv x2, iv x9, iv x16, iv x23, iv x30, iv x37, iv x43, iv x45, iv x48, iv x55, jv x61, .second, jv x63, .second, rv b65, jv x489, .second, iv x495, iv x498, jv x516, .second, jv x519, .second, iv x526, iv (1 : Int32), jv x63, .second, jv x563, .second, .unset, .unset, .unset] [(.long x563), (.int (1 : Int32)), (.int (1 : Int32)), (.int (1 : Int32)), (.ref b65)])) t → Go t := fun t kt => pre564 t (by
          refine y_aload X552.here hx (hb hby at_389) rfl rfl (pc' := 391) rfl ?_
          refine y_iconst X552.here hx (hb hby at_391) (v := (1 : Int32)) rfl (pc' := 392) rfl ?_
          refine y_iconst X552.here hx (hb hby at_392) (v := (1 : Int32)) rfl (pc' := 393) rfl ?_
          refine y_iconst X552.here hx (hb hby at_393) (v := (1 : Int32)) rfl (pc' := 394) rfl ?_
          refine y_lload X552.here hx (hb hby at_394) rfl (pc' := 396) rfl ?_
          exact kt)
      obtain ⟨cq566, kq566, q566a, q566b, q566c⟩ := isOf hZ eh552 f555
      obtain ⟨v566, _, ⟨T566, L566, k566, n566⟩, -, X566, ⟨Lc566, hQ566, l566, y566, z566⟩, st566⟩ := X552.virtualBack hx (y := (⟨"com/example/roamd/roamd/net/DelayedAck", "arrived", "(IIZJ)V"⟩ : MethodName)) (z := (⟨"com/example/roamd/roamd/net/DelayedAck", "arrived", "(IIZJ)V"⟩ : MethodName)) hown (mvT hZ (hw _ (List.mem_of_getElem? (i := 9) rfl))) (mvT hZ (hw _ (List.mem_of_getElem? (i := 10) rfl))) (notFace_of_selects (args := #[]) (mvT hZ (hw _ (List.mem_of_getElem? (i := 12) rfl)))) (mvT hZ (hw _ (List.mem_of_getElem? (i := 12) rfl))) (mvT hZ (hw _ (List.mem_of_getElem? (i := 11) rfl))) (by decide) (backOf (W := 0) (rm3 l Z a0 hw [] b65 (1 : Int32) (1 : Int32) (1 : Int32) x563 (0 : Int32) x484 (1 : Int32) x63 x485 (0 : Int32) h552 n0 O562 S_DELAY_NANOS S_ALONE_DELAY_NANOS f555 p552_0 p552_1 p552_2 p552_3 p552_4 p552_5 G67) hZ (hw _ (List.mem_of_getElem? (i := 13) rfl)) (hw _ (List.mem_of_getElem? (i := 2) rfl)) (by decide) (by decide)) q566a q566c (g := (mkF m 396 #[iv pi0, iv pi1, jv pj2, .second, jv pj3, .second, jv pj4, .second, jv pj5, .second, iv x2, iv x9, iv x16, iv x23, iv x30, iv x37, iv x43, iv x45, iv x48, iv x55, jv x61, .second, jv x63, .second, rv b65, jv x489, .second, iv x495, iv x498, jv x516, .second, jv x519, .second, iv x526, iv (1 : Int32), jv x63, .second, jv x563, .second, .unset, .unset, .unset] [(.long x563), (.int (1 : Int32)), (.int (1 : Int32)), (.int (1 : Int32)), (.ref b65)])) rfl (by rw [hml]; rfl) (Steps.refl _) (argsL := [(.int (1 : Int32)), (.int (1 : Int32)), (.int (1 : Int32)), (.long x563)]) (rest := []) (lenOf pd__IIZJ_V rfl) rfl (by show 2 * 0 + _ ≤ _; exact Nat.le_of_eq rfl) (hb hby at_396) (fun _ _ => ⟨rfl, eh552, (by decide : 1 + 0 ≤ _), (by decide : 6 + 0 ≤ _)⟩)
      dsimp only [Pt.U, Pt.locs, Pt.cells, Pt.slots] at X566 l566 y566 z566 st566 hQ566
      subst l566 y566 z566
      obtain ⟨hv566, N566q, K566q, p566_0, p566_1, p566_2, p566_3, p566_4, p566_5⟩ := hQ566
      have N567 := Fr.app N553 N566q
      subst hv566
      have pre568 : ∀ t, Steps p.tables e below (T566.setTop (mkF m 399 #[iv pi0, iv pi1, jv pj2, .second, jv pj3, .second, jv pj4, .second, jv pj5, .second, iv x2, iv x9, iv x16, iv x23, iv x30, iv x37, iv x43, iv x45, iv x48, iv x55, jv x61, .second, jv x63, .second, rv b65, jv x489, .second, iv x495, iv x498, jv x516, .second, jv x519, .second, iv x526, iv (1 : Int32), jv x63, .second, jv x563, .second, .unset, .unset, .unset] [])) t → Go t := fun t kt => pre565 t (st566.trans kt)
      obtain ⟨h566, eh566⟩ : ∃ z, T566.heap = z := ⟨_, rfl⟩
      rw [eh566] at K566q p566_0 p566_1 p566_2 p566_3 p566_4 p566_5
      have f569 : Exa Z h566 b65 "com/example/roamd/roamd/net/DelayedAck" := (f555.keep K566q)
      obtain ⟨x576, hx576⟩ : ∃ z : Int32, z = ((0 : Int32) + (1 : Int32)) := ⟨_, rfl⟩
      rw [← hx576] at p566_0
      rw [if_pos (rfl : (0 : Int32) = (0 : Int32))] at p566_1
      rw [if_pos (rfl : (0 : Int32) = (0 : Int32))] at p566_4
      obtain ⟨x577, hx577⟩ : ∃ z : Int64, z = (if (if (1 : Int32) = (0 : Int32) then (0 : Int32) else (if (700000000 : Int64) < (x563 - x63) then (0 : Int32) else (1 : Int32))) = (0 : Int32) then (150000000 : Int64) else (700000000 : Int64)) := ⟨_, rfl⟩
      rw [← hx577] at p566_4
      obtain ⟨x578, hx578⟩ : ∃ z : Int32, z = (nar .boolean ((0 : Int32) ||| (if (1 : Int32) = (1 : Int32) then (if (1 : Int32) = (0 : Int32) then (1 : Int32) else (if ((0 : Int32) + (1 : Int32)) < (16 : Int32) then (0 : Int32) else (1 : Int32))) else (1 : Int32)))) := ⟨_, rfl⟩
      rw [← hx578] at p566_5
      have O579 := O562.keep K566q (allS G67 all0)
      have pre580 : ∀ t, Steps p.tables e below (T566.setTop (mkF m 405 #[iv pi0, iv pi1, jv pj2, .second, jv pj3, .second, jv pj4, .second, jv pj5, .second, iv x2, iv x9, iv x16, iv x23, iv x30, iv x37, iv x43, iv x45, iv x48, iv x55, jv x61, .second, jv x63, .second, rv b65, jv x489, .second, iv x495, iv x498, jv x516, .second, jv x519, .second, iv x526, iv (1 : Int32), jv x63, .second, jv x563, .second, .unset, .unset, .unset] [(.int (lcmpW pj3 (700000000 : Int64)))])) t → Go t := fun t kt => pre568 t (by
          refine y_lload X566.here hx (hb hby at_399) rfl (pc' := 401) rfl ?_
          refine X566.ldc2Long hx hown (mvT hZ (hw _ (List.mem_of_getElem? (i := 46) rfl))) (g := (mkF m 401 #[iv pi0, iv pi1, jv pj2, .second, jv pj3, .second, jv pj4, .second, jv pj5, .second, iv x2, iv x9, iv x16, iv x23, iv x30, iv x37, iv x43, iv x45, iv x48, iv x55, jv x61, .second, jv x63, .second, rv b65, jv x489, .second, iv x495, iv x498, jv x516, .second, jv x519, .second, iv x526, iv (1 : Int32), jv x63, .second, jv x563, .second, .unset, .unset, .unset] [(.long pj3)])) rfl (hb hby at_401) _ ?_
          show Steps p.tables e below (T566.setTop (mkF m 404 #[iv pi0, iv pi1, jv pj2, .second, jv pj3, .second, jv pj4, .second, jv pj5, .second, iv x2, iv x9, iv x16, iv x23, iv x30, iv x37, iv x43, iv x45, iv x48, iv x55, jv x61, .second, jv x63, .second, rv b65, jv x489, .second, iv x495, iv x498, jv x516, .second, jv x519, .second, iv x526, iv (1 : Int32), jv x63, .second, jv x563, .second, .unset, .unset, .unset] [(.long (700000000 : Int64)), (.long pj3)])) _
          refine y_lcmp X566.here hx (hb hby at_404) (pc' := 405) rfl ?_
          exact kt)
      obtain ⟨x581, hx581⟩ : ∃ z : Int64, z = (if (700000000 : Int64) < pj3 then (150000000 : Int64) else (700000000 : Int64)) := ⟨_, rfl⟩
      obtain ⟨T582, ⟨X582, q582⟩, st582⟩ : ∃ T', Nx X566 T' ∧ ∀ t, Steps p.tables e below (T'.setTop (mkF m 417 #[iv pi0, iv pi1, jv pj2, .second, jv pj3, .second, jv pj4, .second, jv pj5, .second, iv x2, iv x9, iv x16, iv x23, iv x30, iv x37, iv x43, iv x45, iv x48, iv x55, jv x61, .second, jv x63, .second, rv b65, jv x489, .second, iv x495, iv x498, jv x516, .second, jv x519, .second, iv x526, iv (1 : Int32), jv x63, .second, jv x563, .second, .unset, .unset, .unset] [(.long x581)])) t → Steps p.tables e below (T566.setTop (mkF m 405 #[iv pi0, iv pi1, jv pj2, .second, jv pj3, .second, jv pj4, .second, jv pj5, .second, iv x2, iv x9, iv x16, iv x23, iv x30, iv x37, iv x43, iv x45, iv x48, iv x55, jv x61, .second, jv x63, .second, rv b65, jv x489, .second, iv x495, iv x498, jv x516, .second, jv x519, .second, iv x526, iv (1 : Int32), jv x63, .second, jv x563, .second, .unset, .unset, .unset] [(.int (lcmpW pj3 (700000000 : Int64)))])) t := by
        have pre582_ : ∀ t, Steps p.tables e below (T566.setTop (mkF m 405 #[iv pi0, iv pi1, jv pj2, .second, jv pj3, .second, jv pj4, .second, jv pj5, .second, iv x2, iv x9, iv x16, iv x23, iv x30, iv x37, iv x43, iv x45, iv x48, iv x55, jv x61, .second, jv x63, .second, rv b65, jv x489, .second, iv x495, iv x498, jv x516, .second, jv x519, .second, iv x526, iv (1 : Int32), jv x63, .second, jv x563, .second, .unset, .unset, .unset] [(.int (lcmpW pj3 (700000000 : Int64)))])) t → Steps p.tables e below (T566.setTop (mkF m 405 #[iv pi0, iv pi1, jv pj2, .second, jv pj3, .second, jv pj4, .second, jv pj5, .second, iv x2, iv x9, iv x16, iv x23, iv x30, iv x37, iv x43, iv x45, iv x48, iv x55, jv x61, .second, jv x63, .second, rv b65, jv x489, .second, iv x495, iv x498, jv x516, .second, jv x519, .second, iv x526, iv (1 : Int32), jv x63, .second, jv x563, .second, .unset, .unset, .unset] [(.int (lcmpW pj3 (700000000 : Int64)))])) t := fun t kt => kt
        subst hx581
        by_cases hm405_583 : (700000000 : Int64) < pj3
        · have pre584 : ∀ t, Steps p.tables e below (T566.setTop (mkF m 417 #[iv pi0, iv pi1, jv pj2, .second, jv pj3, .second, jv pj4, .second, jv pj5, .second, iv x2, iv x9, iv x16, iv x23, iv x30, iv x37, iv x43, iv x45, iv x48, iv x55, jv x61, .second, jv x63, .second, rv b65, jv x489, .second, iv x495, iv x498, jv x516, .second, jv x519, .second, iv x526, iv (1 : Int32), jv x63, .second, jv x563, .second, .unset, .unset, .unset] [(.long (150000000 : Int64))])) t → Steps p.tables e below (T566.setTop (mkF m 405 #[iv pi0, iv pi1, jv pj2, .second, jv pj3, .second, jv pj4, .second, jv pj5, .second, iv x2, iv x9, iv x16, iv x23, iv x30, iv x37, iv x43, iv x45, iv x48, iv x55, jv x61, .second, jv x63, .second, rv b65, jv x489, .second, iv x495, iv x498, jv x516, .second, jv x519, .second, iv x526, iv (1 : Int32), jv x63, .second, jv x563, .second, .unset, .unset, .unset] [(.int (lcmpW pj3 (700000000 : Int64)))])) t := fun t kt => pre582_ t (by
              refine y_ifYes X566.here hx (hb hby at_405) ((if0 _ _).trans (tlt (lq_gt hm405_583)).2.2.1) (pc' := 414) (by decide) rfl ?_
              refine X566.ldc2Long hx hown (mvT hZ (hw _ (List.mem_of_getElem? (i := 28) rfl))) (g := (mkF m 414 #[iv pi0, iv pi1, jv pj2, .second, jv pj3, .second, jv pj4, .second, jv pj5, .second, iv x2, iv x9, iv x16, iv x23, iv x30, iv x37, iv x43, iv x45, iv x48, iv x55, jv x61, .second, jv x63, .second, rv b65, jv x489, .second, iv x495, iv x498, jv x516, .second, jv x519, .second, iv x526, iv (1 : Int32), jv x63, .second, jv x563, .second, .unset, .unset, .unset] [])) rfl (hb hby at_414) _ ?_
              show Steps p.tables e below (T566.setTop (mkF m 417 #[iv pi0, iv pi1, jv pj2, .second, jv pj3, .second, jv pj4, .second, jv pj5, .second, iv x2, iv x9, iv x16, iv x23, iv x30, iv x37, iv x43, iv x45, iv x48, iv x55, jv x61, .second, jv x63, .second, rv b65, jv x489, .second, iv x495, iv x498, jv x516, .second, jv x519, .second, iv x526, iv (1 : Int32), jv x63, .second, jv x563, .second, .unset, .unset, .unset] [(.long (150000000 : Int64))])) _
              exact kt)
          refine ⟨T566, ⟨X566, eh566.trans eh566.symm⟩, fun t kt => pre584 t ?_⟩
          (try simp only [if_pos hm405_583] at kt)
          exact kt
        · have pre585 : ∀ t, Steps p.tables e below (T566.setTop (mkF m 417 #[iv pi0, iv pi1, jv pj2, .second, jv pj3, .second, jv pj4, .second, jv pj5, .second, iv x2, iv x9, iv x16, iv x23, iv x30, iv x37, iv x43, iv x45, iv x48, iv x55, jv x61, .second, jv x63, .second, rv b65, jv x489, .second, iv x495, iv x498, jv x516, .second, jv x519, .second, iv x526, iv (1 : Int32), jv x63, .second, jv x563, .second, .unset, .unset, .unset] [(.long (700000000 : Int64))])) t → Steps p.tables e below (T566.setTop (mkF m 405 #[iv pi0, iv pi1, jv pj2, .second, jv pj3, .second, jv pj4, .second, jv pj5, .second, iv x2, iv x9, iv x16, iv x23, iv x30, iv x37, iv x43, iv x45, iv x48, iv x55, jv x61, .second, jv x63, .second, rv b65, jv x489, .second, iv x495, iv x498, jv x516, .second, jv x519, .second, iv x526, iv (1 : Int32), jv x63, .second, jv x563, .second, .unset, .unset, .unset] [(.int (lcmpW pj3 (700000000 : Int64)))])) t := fun t kt => pre582_ t (by
              refine y_ifNo X566.here hx (hb hby at_405) ((if0 _ _).trans (flt (lq_ngt hm405_583)).2.2.1) (pc' := 408) rfl ?_
              refine X566.ldc2Long hx hown (mvT hZ (hw _ (List.mem_of_getElem? (i := 46) rfl))) (g := (mkF m 408 #[iv pi0, iv pi1, jv pj2, .second, jv pj3, .second, jv pj4, .second, jv pj5, .second, iv x2, iv x9, iv x16, iv x23, iv x30, iv x37, iv x43, iv x45, iv x48, iv x55, jv x61, .second, jv x63, .second, rv b65, jv x489, .second, iv x495, iv x498, jv x516, .second, jv x519, .second, iv x526, iv (1 : Int32), jv x63, .second, jv x563, .second, .unset, .unset, .unset] [])) rfl (hb hby at_408) _ ?_
              show Steps p.tables e below (T566.setTop (mkF m 411 #[iv pi0, iv pi1, jv pj2, .second, jv pj3, .second, jv pj4, .second, jv pj5, .second, iv x2, iv x9, iv x16, iv x23, iv x30, iv x37, iv x43, iv x45, iv x48, iv x55, jv x61, .second, jv x63, .second, rv b65, jv x489, .second, iv x495, iv x498, jv x516, .second, jv x519, .second, iv x526, iv (1 : Int32), jv x63, .second, jv x563, .second, .unset, .unset, .unset] [(.long (700000000 : Int64))])) _
              refine y_goto X566.here hx (hb hby at_411) (pc' := 417) (by decide) rfl ?_
              exact kt)
          refine ⟨T566, ⟨X566, eh566.trans eh566.symm⟩, fun t kt => pre585 t ?_⟩
          (try simp only [if_neg hm405_583] at kt)
          exact kt
      have e582 : T582.heap = h566 := q582.trans eh566
      have pre586 : ∀ t, Steps p.tables e below (T582.setTop (mkF m 417 #[iv pi0, iv pi1, jv pj2, .second, jv pj3, .second, jv pj4, .second, jv pj5, .second, iv x2, iv x9, iv x16, iv x23, iv x30, iv x37, iv x43, iv x45, iv x48, iv x55, jv x61, .second, jv x63, .second, rv b65, jv x489, .second, iv x495, iv x498, jv x516, .second, jv x519, .second, iv x526, iv (1 : Int32), jv x63, .second, jv x563, .second, .unset, .unset, .unset] [(.long x581)])) t → Go t := fun t kt => pre580 t (st582 t kt)
      have pre587 : ∀ t, Steps p.tables e below (T582.setTop (mkF m 423 #[iv pi0, iv pi1, jv pj2, .second, jv pj3, .second, jv pj4, .second, jv pj5, .second, iv x2, iv x9, iv x16, iv x23, iv x30, iv x37, iv x43, iv x45, iv x48, iv x55, jv x61, .second, jv x63, .second, rv b65, jv x489, .second, iv x495, iv x498, jv x516, .second, jv x519, .second, iv x526, iv (1 : Int32), jv x63, .second, jv x563, .second, jv x581, .second, .unset] [(.long x563), (.ref b65)])) t → Go t := fun t kt => pre586 t (by
          refine y_lstore X582.here hx (hb hby at_417) (l' := #[iv pi0, iv pi1, jv pj2, .second, jv pj3, .second, jv pj4, .second, jv pj5, .second, iv x2, iv x9, iv x16, iv x23, iv x30, iv x37, iv x43, iv x45, iv x48, iv x55, jv x61, .second, jv x63, .second, rv b65, jv x489, .second, iv x495, iv x498, jv x516, .second, jv x519, .second, iv x526, iv (1 : Int32), jv x63, .second, jv x563, .second, jv x581, .second, .unset]) rfl (pc' := 419) rfl ?_
          refine y_aload X582.here hx (hb hby at_419) rfl rfl (pc' := 421) rfl ?_
          refine y_lload X582.here hx (hb hby at_421) rfl (pc' := 423) rfl ?_
          exact kt)
      obtain ⟨cq588, kq588, q588a, q588b, q588c⟩ := isOf hZ e582 f569
      obtain ⟨v588, _, ⟨T588, L588, k588, n588⟩, -, X588, ⟨Lc588, hQ588, l588, y588, z588⟩, st588⟩ := X582.virtualBack hx (y := (⟨"com/example/roamd/roamd/net/DelayedAck", "waitNanos", "(J)J"⟩ : MethodName)) (z := (⟨"com/example/roamd/roamd/net/DelayedAck", "waitNanos", "(J)J"⟩ : MethodName)) hown (mvT hZ (hw _ (List.mem_of_getElem? (i := 29) rfl))) (mvT hZ (hw _ (List.mem_of_getElem? (i := 30) rfl))) (notFace_of_selects (args := #[]) (mvT hZ (hw _ (List.mem_of_getElem? (i := 32) rfl)))) (mvT hZ (hw _ (List.mem_of_getElem? (i := 32) rfl))) (mvT hZ (hw _ (List.mem_of_getElem? (i := 31) rfl))) (by decide) (backOf (W := 0) (rm4 l Z a0 hw [] b65 x563 x576 x563 x577 x578 h566 n0 O579 f569 p566_0 p566_1 p566_4 p566_5) hZ (hw _ (List.mem_of_getElem? (i := 33) rfl)) (hw _ (List.mem_of_getElem? (i := 2) rfl)) (by decide) (by decide)) q588a q588c (g := (mkF m 423 #[iv pi0, iv pi1, jv pj2, .second, jv pj3, .second, jv pj4, .second, jv pj5, .second, iv x2, iv x9, iv x16, iv x23, iv x30, iv x37, iv x43, iv x45, iv x48, iv x55, jv x61, .second, jv x63, .second, rv b65, jv x489, .second, iv x495, iv x498, jv x516, .second, jv x519, .second, iv x526, iv (1 : Int32), jv x63, .second, jv x563, .second, jv x581, .second, .unset] [(.long x563), (.ref b65)])) rfl (by rw [hml]; rfl) (Steps.refl _) (argsL := [(.long x563)]) (rest := []) (lenOf pd__J_J rfl) rfl (by show 2 * 0 + _ ≤ _; exact Nat.le_of_eq rfl) (hb hby at_423) (fun _ _ => ⟨rfl, e582, (by decide : 1 + 0 ≤ _), (by decide : 6 + 0 ≤ _)⟩)
      dsimp only [Pt.U, Pt.locs, Pt.cells, Pt.slots] at X588 l588 y588 z588 st588 hQ588
      subst l588 y588 z588
      obtain ⟨hv588, N588q, e588q⟩ := hQ588
      have N589 := Fr.app N567 N588q
      have hw588 := hv588
      obtain ⟨x590, hx590⟩ : ∃ z : Int64, z = (if x576 = (0 : Int32) then (9223372036854775807 : Int64) else (if x578 = (0 : Int32) then ((x563 + x577) - x563) else (0 : Int64))) := ⟨_, rfl⟩
      rw [← hx590] at hw588
      subst hw588
      have pre591 : ∀ t, Steps p.tables e below (T588.setTop (mkF m 426 #[iv pi0, iv pi1, jv pj2, .second, jv pj3, .second, jv pj4, .second, jv pj5, .second, iv x2, iv x9, iv x16, iv x23, iv x30, iv x37, iv x43, iv x45, iv x48, iv x55, jv x61, .second, jv x63, .second, rv b65, jv x489, .second, iv x495, iv x498, jv x516, .second, jv x519, .second, iv x526, iv (1 : Int32), jv x63, .second, jv x563, .second, jv x581, .second, .unset] [(.long x590)])) t → Go t := fun t kt => pre587 t (st588.trans kt)
      have pre593 : ∀ t, Steps p.tables e below (T588.setTop (mkF m 429 #[iv pi0, iv pi1, jv pj2, .second, jv pj3, .second, jv pj4, .second, jv pj5, .second, iv x2, iv x9, iv x16, iv x23, iv x30, iv x37, iv x43, iv x45, iv x48, iv x55, jv x61, .second, jv x63, .second, rv b65, jv x489, .second, iv x495, iv x498, jv x516, .second, jv x519, .second, iv x526, iv (1 : Int32), jv x63, .second, jv x563, .second, jv x581, .second, .unset] [(.int (lcmpW x590 x581))])) t → Go t := fun t kt => pre591 t (by
          refine y_lload X588.here hx (hb hby at_426) rfl (pc' := 428) rfl ?_
          refine y_lcmp X588.here hx (hb hby at_428) (pc' := 429) rfl ?_
          exact kt)
      have hf429_592 : x590 = x581 := by
          exact law0_594 pj2 pj3 x2 x23 x43 x45 x61 x63 x563 x576 x577 x578 x581 x590 hx563 hx576 hx577 hx578 hx581 hx590 hc155_79 hc187_364 B1 B2 A1
      have pre595 : ∀ t, Steps p.tables e below (T588.setTop (mkF m 436 #[iv pi0, iv pi1, jv pj2, .second, jv pj3, .second, jv pj4, .second, jv pj5, .second, iv x2, iv x9, iv x16, iv x23, iv x30, iv x37, iv x43, iv x45, iv x48, iv x55, jv x61, .second, jv x63, .second, rv b65, jv x489, .second, iv x495, iv x498, jv x516, .second, jv x519, .second, iv x526, iv (1 : Int32), jv x63, .second, jv x563, .second, jv x581, .second, .unset] [(.long x563), (.ref b65)])) t → Go t := fun t kt => pre593 t (by
          refine y_ifNo X588.here hx (hb hby at_429) ((if0 _ _).trans (teq (lq_eq hf429_592)).2) (pc' := 432) rfl ?_
          refine y_aload X588.here hx (hb hby at_432) rfl rfl (pc' := 434) rfl ?_
          refine y_lload X588.here hx (hb hby at_434) rfl (pc' := 436) rfl ?_
          exact kt)
      obtain ⟨cq596, kq596, q596a, q596b, q596c⟩ := isOf hZ e588q f569
      obtain ⟨v596, _, ⟨T596, L596, k596, n596⟩, -, X596, ⟨Lc596, hQ596, l596, y596, z596⟩, st596⟩ := X588.virtualBack hx (y := (⟨"com/example/roamd/roamd/net/DelayedAck", "due", "(J)Z"⟩ : MethodName)) (z := (⟨"com/example/roamd/roamd/net/DelayedAck", "due", "(J)Z"⟩ : MethodName)) hown (mvT hZ (hw _ (List.mem_of_getElem? (i := 34) rfl))) (mvT hZ (hw _ (List.mem_of_getElem? (i := 35) rfl))) (notFace_of_selects (args := #[]) (mvT hZ (hw _ (List.mem_of_getElem? (i := 37) rfl)))) (mvT hZ (hw _ (List.mem_of_getElem? (i := 37) rfl))) (mvT hZ (hw _ (List.mem_of_getElem? (i := 36) rfl))) (by decide) (backOf (W := 0) (rm5 l Z a0 hw [] b65 x563 x576 x563 x577 x578 h566 n0 O579 f569 p566_0 p566_1 p566_4 p566_5) hZ (hw _ (List.mem_of_getElem? (i := 38) rfl)) (hw _ (List.mem_of_getElem? (i := 2) rfl)) (by decide) (by decide)) q596a q596c (g := (mkF m 436 #[iv pi0, iv pi1, jv pj2, .second, jv pj3, .second, jv pj4, .second, jv pj5, .second, iv x2, iv x9, iv x16, iv x23, iv x30, iv x37, iv x43, iv x45, iv x48, iv x55, jv x61, .second, jv x63, .second, rv b65, jv x489, .second, iv x495, iv x498, jv x516, .second, jv x519, .second, iv x526, iv (1 : Int32), jv x63, .second, jv x563, .second, jv x581, .second, .unset] [(.long x563), (.ref b65)])) rfl (by rw [hml]; rfl) (Steps.refl _) (argsL := [(.long x563)]) (rest := []) (lenOf pd__J_Z rfl) rfl (by show 2 * 0 + _ ≤ _; exact Nat.le_of_eq rfl) (hb hby at_436) (fun _ _ => ⟨rfl, e588q, (by decide : 1 + 0 ≤ _), (by decide : 6 + 0 ≤ _)⟩)
      dsimp only [Pt.U, Pt.locs, Pt.cells, Pt.slots] at X596 l596 y596 z596 st596 hQ596
      subst l596 y596 z596
      obtain ⟨hv596, N596q, e596q⟩ := hQ596
      have N597 := Fr.app N589 N596q
      have hw596 := hv596
      obtain ⟨x598, hx598⟩ : ∃ z : Int32, z = (if x578 = (0 : Int32) then (if (0 : Int32) < x576 then (if (x563 - x563) < x577 then (0 : Int32) else (1 : Int32)) else (0 : Int32)) else (1 : Int32)) := ⟨_, rfl⟩
      rw [← hx598] at hw596
      subst hw596
      have pre599 : ∀ t, Steps p.tables e below (T596.setTop (mkF m 439 #[iv pi0, iv pi1, jv pj2, .second, jv pj3, .second, jv pj4, .second, jv pj5, .second, iv x2, iv x9, iv x16, iv x23, iv x30, iv x37, iv x43, iv x45, iv x48, iv x55, jv x61, .second, jv x63, .second, rv b65, jv x489, .second, iv x495, iv x498, jv x516, .second, jv x519, .second, iv x526, iv (1 : Int32), jv x63, .second, jv x563, .second, jv x581, .second, .unset] [(.int x598)])) t → Go t := fun t kt => pre595 t (st596.trans kt)
      have hf439_600 : x598 = (0 : Int32) := by
          exact law0_601 pj2 pj3 x2 x23 x43 x45 x61 x63 x563 x576 x577 x578 x598 hx563 hx576 hx577 hx578 hx598 hc155_79 hc187_364 B1 B2 A1
      have pre602 : ∀ t, Steps p.tables e below (T596.setTop (mkF m 464 #[iv pi0, iv pi1, jv pj2, .second, jv pj3, .second, jv pj4, .second, jv pj5, .second, iv x2, iv x9, iv x16, iv x23, iv x30, iv x37, iv x43, iv x45, iv x48, iv x55, jv x61, .second, jv x63, .second, rv b65, jv x489, .second, iv x495, iv x498, jv x516, .second, jv x519, .second, iv x526, iv (1 : Int32), jv x63, .second, jv x563, .second, jv x581, .second, iv (1 : Int32)] [(.int (1 : Int32))])) t → Go t := fun t kt => pre599 t (by
          refine y_ifNo X596.here hx (hb hby at_439) ((if0 _ _).trans (teq hf439_600).2) (pc' := 442) rfl ?_
          refine y_iconst X596.here hx (hb hby at_442) (v := (1 : Int32)) rfl (pc' := 443) rfl ?_
          refine y_goto X596.here hx (hb hby at_443) (pc' := 447) (by decide) rfl ?_
          refine y_istore X596.here hx (hb hby at_447) (l' := #[iv pi0, iv pi1, jv pj2, .second, jv pj3, .second, jv pj4, .second, jv pj5, .second, iv x2, iv x9, iv x16, iv x23, iv x30, iv x37, iv x43, iv x45, iv x48, iv x55, jv x61, .second, jv x63, .second, rv b65, jv x489, .second, iv x495, iv x498, jv x516, .second, jv x519, .second, iv x526, iv (1 : Int32), jv x63, .second, jv x563, .second, jv x581, .second, iv (1 : Int32)]) rfl (pc' := 449) rfl ?_
          refine y_iload X596.here hx (hb hby at_449) rfl (pc' := 451) rfl ?_
          refine y_ifNo X596.here hx (hb hby at_451) ((if0 _ _).trans (feq (by decide : ¬ ((1 : Int32) = (0 : Int32)))).1) (pc' := 454) rfl ?_
          refine y_iload X596.here hx (hb hby at_454) rfl (pc' := 456) rfl ?_
          refine y_ifNo X596.here hx (hb hby at_456) ((if0 _ _).trans (feq (by decide : ¬ ((1 : Int32) = (0 : Int32)))).1) (pc' := 459) rfl ?_
          refine y_iconst X596.here hx (hb hby at_459) (v := (1 : Int32)) rfl (pc' := 460) rfl ?_
          refine y_goto X596.here hx (hb hby at_460) (pc' := 464) (by decide) rfl ?_
          exact kt)
      obtain ⟨fs, hr, hrun, hended, hW, hsame⟩ := X596.leave (v := some (.int (1 : Int32))) (fun h => by rw [Bd.returns] at h; cases h)
      refine ⟨_, _, (hGo _).mp (pre602 _ ?_), hrun, hended, _, _, rfl, ?_, ⟨_, rfl⟩, hW, hsame.mono (by decide) (by decide)⟩
      · exact retN X596 hx (t := .boolean) Bd.returns (by simp) (hb hby at_464) hr
      · show Q0 Z pi0 pi1 pj2 pj3 pj4 pj5 h0 n0 _ T596.heap _
        rw [e596q]
        exact ⟨rfl, N597⟩
set_option maxRecDepth 65536 in
set_option maxHeartbeats 40000000 in
theorem comes_1 {Post : Tables → Env → Array Value → State → Outcome → State → Prop} (hpost : ∀ tb e args s v u, (limb_1_1.after args s (.returned v) u = true ∧ limb_1_2.after args s (.returned v) u = true ∧ True) → FrameEnd s (.returned v) u (Jvm.fieldLocs frame_1_writes args s ++ Jvm.arrayLocs frame_1_arrays args s ++ Jvm.staticLocs frame_1_statics s) 16 128 → Post tb e args s (.returned v) u) :
    ArmFor flags0 classFile x code maxLocals ret World_1 tables_1 room_1 Calls_1 rest_1 Pre_1 Post := by
  intro l hfl _ _ p e ha hc hk s m args below hf hA hF happ hP
  obtain ⟨hcalls, hrest, hpre⟩ := hP
  obtain ⟨-, -, -, hnamed, -, -, -, hat⟩ := (Spec.applies_iff hf).mp happ
  obtain ⟨hg, hn⟩ := and_e (Cond.before_iff.mp (show (Jvm.Cond.and given_1 narrow_1).before args s = true from hpre))
  obtain ⟨g0, gr0⟩ := and_e hg
  obtain ⟨g1, gr1⟩ := and_e gr0
  obtain ⟨g2, gr2⟩ := and_e gr1
  obtain ⟨g3, gr3⟩ := and_e gr2
  obtain ⟨g4, gr4⟩ := and_e gr3
  obtain ⟨g5, gr5⟩ := and_e gr4
  obtain ⟨w0, w1, w2, w3, w4, w5, rfl⟩ : ∃ w0 w1 w2 w3 w4 w5 : Value, args = #[w0, w1, w2, w3, w4, w5] := by
    have hs : args.size = 6 := by simpa [Cond.value, given_1] using g0
    obtain ⟨L⟩ := args
    match L, hs with
    | [w0, w1, w2, w3, w4, w5], _ => exact ⟨w0, w1, w2, w3, w4, w5, rfl⟩
  have hw := fun d (hd : d ∈ tables_1) => atoms_spec (ws := Jvm.Cond.code x code maxLocals ret :: tables_1) hat d (List.mem_cons_of_mem _ hd)
  have hfit : Fit s := fun {y c} hc i hi => by
    obtain ⟨ha, rfl⟩ := Array.getElem?_eq_some_iff.mp hc
    have q := List.all_eq_true.mp ((Array.all_eq_true_iff_forall_mem.mp hF) _ (Array.getElem_mem ha)) i (List.mem_range.mpr hi)
    simpa [Array.getElem?_eq_getElem hi] using q
  obtain ⟨i0, ei0⟩ := is_v g1
  obtain rfl : w0 = (.int i0) := Option.some.inj ei0
  obtain ⟨i1, ei1⟩ := is_v g2
  obtain rfl : w1 = (.int i1) := Option.some.inj ei1
  obtain ⟨i2, ei2⟩ := isL_v g3
  obtain rfl : w2 = (.long i2) := Option.some.inj ei2
  obtain ⟨i3, ei3⟩ := isL_v g4
  obtain rfl : w3 = (.long i3) := Option.some.inj ei3
  obtain ⟨i4, ei4⟩ := isL_v g5
  obtain rfl : w4 = (.long i4) := Option.some.inj ei4
  obtain ⟨i5, ei5⟩ := isL_v gr5
  obtain rfl : w5 = (.long i5) := Option.some.inj ei5
  obtain ⟨n0, nr0⟩ := and_e hn
  have S_ALONE_DELAY_NANOS := Sta.start (own_eqL n0) (Or.inr ⟨(hw _ (List.mem_of_getElem? (i := 2) rfl)), (hw _ (List.mem_of_getElem? (i := 21) rfl))⟩)
  have S_DELAY_NANOS := Sta.start (own_eqL nr0) (Or.inr ⟨(hw _ (List.mem_of_getElem? (i := 2) rfl)), (hw _ (List.mem_of_getElem? (i := 45) rfl))⟩)
  obtain ⟨n, o, h1, h2, h3, _, L, rfl, ⟨rfl, N⟩, hq⟩ := rm0 l s _ hw tables_1 i0 i1 i2 i3 i4 i5 s.heap s.heap.size (Old.start s) S_DELAY_NANOS S_ALONE_DELAY_NANOS p e ha hc hk s m _ below hf ((Spec.applies_iff_loose hf).mp happ).1 ⟨rfl, State.Warmed39.refl s, rfl⟩ trivial
  refine ⟨n, _, h1, h2, h3, hpost _ _ _ _ _ _ ⟨Cond.after_iff.mpr rfl, Cond.after_iff.mpr (eq_i res_at (Term.int_eval (1)) rfl), trivial⟩ ⟨hq.1, hq.2.1, (hq.2.2.sift fun y hy => Or.inr (N y hy)).mono (by decide) (by decide)⟩⟩
theorem main_1_1 : Claimed_1_1 := comes_1 fun _ _ _ _ _ _ h hF => ⟨h.1, hF⟩
theorem main_1_2 : Claimed_1_2 := comes_1 fun _ _ _ _ _ _ h hF => ⟨h.2.1, hF⟩
end Jvm.Pilot.@@N@@
namespace Jvm.Pilot.@@N@@
open Jvm Jvm.ClassFile Sem Op Lib Jvm.Free Jvm.Stand Jvm.Pilot.@@N@@.Jvm.D
/-! MADE BY PROGRAM (witnessworld.py) out of the Statement's table words and the real class files: 9 classes; the members and pool entries that the words name. The judged class is class 1, her method 1. -/
namespace start1
open Jvm.ClassFile
def u (s : String) : CpInfo := .utf8 (stringToUtf16 s)
/-- a pool by its gaps: so many unusable entries, then the entry; so many at the end -/
def gap : Nat → List CpInfo → List CpInfo
  | 0, r => r
  | n + 1, r => .unusable :: gap n r
def poolList (es : List (Nat × CpInfo)) (last : Nat) : List CpInfo := es.foldr (fun e r => gap e.1 (e.2 :: r)) (gap last [])
def pool (es : List (Nat × CpInfo)) (last : Nat) : Array CpInfo := ⟨poolList es last⟩
def fileOf (pool : Array CpInfo) (this : Nat) (attrs : Array Attribute := #[]) (ms : Array MethodInfo := #[]) (fl : Nat := 33) (sup : Nat := 0) (ifs : Array Nat := #[]) (fds : Array FieldInfo := #[]) : ClassFile where
  minorVersion := 0
  majorVersion := 65
  constantPool := pool
  accessFlags := fl
  thisClass := this
  superClass := sup
  interfaces := ifs
  fields := fds
  methods := ms
  attributes := attrs
def plain (name : String) (sup : Option ClassId) : Class where
  name := name
  kind := .ordinary
  loader := none
  accessFlags := 33
  super := sup
  interfaces := #[]
  cf := none
  fields := #[]
  methods := #[]
  instanceTypes := #[]
  staticTypes := #[]
  resolved := #[]
  callSites := []
  init := .initialized
  statics := none
  mirror := none

def pool0 : Array CpInfo := pool [(5, u "<init>"), (0, u "()V"), (1, .class_ 10), (1, u "java/lang/Object")] 113

def k0c0 : Code := { maxStack := 0, maxLocals := 1, code := object_method_1_code, exceptionTable := #[], attributes := #[] }
def k0m0 : Method := { name := "<init>", desc := "()V", sig := { parameters := [], returnType := none }, accessFlags := 1, code := some k0c0 }
/-- java/lang/Object -/
def k0 : Class := { plain "java/lang/Object" none with
  accessFlags := 33
  interfaces := #[]
  cf := some (fileOf pool0 8 #[] #[{ accessFlags := 1, nameIndex := 5, descriptorIndex := 6, attributes := #[] }] 33 0 #[] #[])
  fields := #[]
  methods := #[k0m0]
  instanceTypes := #[]
  staticTypes := #[]
  resolved := Array.replicate 124 none
  statics := none }

def pool1 : Array CpInfo := pool [(2, .class_ 4), (0, .nameAndType 5 6), (0, u "java/lang/Object"), (0, u "<init>"), (0, u "()V"), (0, .class_ 8), (0, u "com/example/roamd/roamd/net/DelayedAck"), (0, .methodref 7 3), (0, .methodref 7 11), (0, .nameAndType 12 13), (0, u "arrived"), (0, u "(IIZJ)V"), (0, .methodref 7 15), (0, .nameAndType 16 6), (0, u "sent"), (0, .long 700000000), (1, .long 150000000), (1, .methodref 7 22), (0, .nameAndType 23 24), (0, u "waitNanos"), (0, u "(J)J"), (0, .methodref 7 26), (0, .nameAndType 27 28), (0, u "due"), (0, u "(J)Z"), (0, .class_ 30), (0, u "com/example/roamd/roamd/net/DelayedAckArrivedPinLaw"), (2, u "law"), (0, u "(IIJJJJ)Z")] 3

def k1m0 : Method := { name := "<init>", desc := "()V", sig := { parameters := [], returnType := none }, accessFlags := 1, code := none }
def k1c1 : Code := { maxStack := 6, maxLocals := 42, code := code, exceptionTable := #[], attributes := #[] }
def k1m1 : Method := { name := "law", desc := "(IIJJJJ)Z", sig := { parameters := [.int, .int, .long, .long, .long, .long], returnType := some .boolean }, accessFlags := 9, code := some k1c1 }
/-- com/example/roamd/roamd/net/DelayedAckArrivedPinLaw -/
def k1 : Class := { plain "com/example/roamd/roamd/net/DelayedAckArrivedPinLaw" (some 0) with
  accessFlags := 49
  interfaces := #[]
  cf := some (fileOf pool1 29 #[] #[{ accessFlags := 1, nameIndex := 5, descriptorIndex := 6, attributes := #[] }, { accessFlags := 9, nameIndex := 33, descriptorIndex := 34, attributes := #[] }] 49 2 #[] #[])
  fields := #[]
  methods := #[k1m0, k1m1]
  instanceTypes := #[]
  staticTypes := #[]
  resolved := Array.replicate 38 none
  statics := none }

def pool2 : Array CpInfo := pool [(1, .methodref 2 3), (0, .class_ 4), (0, .nameAndType 5 6), (0, u "java/lang/Object"), (0, u "<init>"), (0, u "()V"), (0, .fieldref 8 9), (0, .class_ 10), (0, .nameAndType 11 12), (0, u "com/example/roamd/roamd/net/DelayedAck"), (0, u "waiting"), (0, u "I"), (0, .fieldref 8 14), (0, .nameAndType 15 16), (0, u "firstAt"), (0, u "J"), (0, .fieldref 8 18), (0, .nameAndType 19 20), (0, u "arrivedBefore"), (0, u "Z"), (0, .fieldref 8 22), (0, .nameAndType 23 16), (0, u "lastArrivedAt"), (0, .fieldref 8 25), (0, .nameAndType 26 16), (0, u "DELAY_NANOS"), (0, .fieldref 8 28), (0, .nameAndType 29 16), (0, u "ALONE_DELAY_NANOS"), (0, .fieldref 8 31), (0, .nameAndType 32 16), (0, u "holdNanos"), (0, .fieldref 8 34), (0, .nameAndType 35 20), (0, u "urgent"), (2, .long 9223372036854775807), (12, u "(J)J"), (2, u "EVERY"), (4, u "arrived"), (0, u "(IIZJ)V"), (1, u "due"), (0, u "(J)Z"), (0, u "waitNanos"), (0, u "sent")] 3

def k2c0 : Code := { maxStack := 1, maxLocals := 1, code := prog_16_method_1_code, exceptionTable := #[], attributes := #[] }
def k2m0 : Method := { name := "<init>", desc := "()V", sig := { parameters := [], returnType := none }, accessFlags := 0, code := some k2c0 }
def k2c1 : Code := { maxStack := 4, maxLocals := 7, code := prog_16_method_2_code, exceptionTable := #[], attributes := #[] }
def k2m1 : Method := { name := "arrived", desc := "(IIZJ)V", sig := { parameters := [.int, .int, .boolean, .long], returnType := none }, accessFlags := 0, code := some k2c1 }
def k2c2 : Code := { maxStack := 4, maxLocals := 3, code := prog_16_method_3_code, exceptionTable := #[], attributes := #[] }
def k2m2 : Method := { name := "due", desc := "(J)Z", sig := { parameters := [.long], returnType := some .boolean }, accessFlags := 0, code := some k2c2 }
def k2c3 : Code := { maxStack := 4, maxLocals := 3, code := prog_16_method_4_code, exceptionTable := #[], attributes := #[] }
def k2m3 : Method := { name := "waitNanos", desc := "(J)J", sig := { parameters := [.long], returnType := some .long }, accessFlags := 0, code := some k2c3 }
def k2c4 : Code := { maxStack := 2, maxLocals := 1, code := prog_16_method_5_code, exceptionTable := #[], attributes := #[] }
def k2m4 : Method := { name := "sent", desc := "()V", sig := { parameters := [], returnType := none }, accessFlags := 0, code := some k2c4 }
/-- com/example/roamd/roamd/net/DelayedAck -/
def k2 : Class := { plain "com/example/roamd/roamd/net/DelayedAck" (some 0) with
  accessFlags := 32
  interfaces := #[]
  cf := some (fileOf pool2 8 #[] #[{ accessFlags := 0, nameIndex := 5, descriptorIndex := 6, attributes := #[] }, { accessFlags := 0, nameIndex := 59, descriptorIndex := 60, attributes := #[] }, { accessFlags := 0, nameIndex := 62, descriptorIndex := 63, attributes := #[] }, { accessFlags := 0, nameIndex := 64, descriptorIndex := 51, attributes := #[] }, { accessFlags := 0, nameIndex := 65, descriptorIndex := 6, attributes := #[] }] 32 2 #[] #[{ accessFlags := 24, nameIndex := 54, descriptorIndex := 12, attributes := #[] }, { accessFlags := 24, nameIndex := 26, descriptorIndex := 16, attributes := #[] }, { accessFlags := 24, nameIndex := 29, descriptorIndex := 16, attributes := #[] }, { accessFlags := 2, nameIndex := 11, descriptorIndex := 12, attributes := #[] }, { accessFlags := 2, nameIndex := 15, descriptorIndex := 16, attributes := #[] }, { accessFlags := 2, nameIndex := 32, descriptorIndex := 16, attributes := #[] }, { accessFlags := 2, nameIndex := 19, descriptorIndex := 20, attributes := #[] }, { accessFlags := 2, nameIndex := 23, descriptorIndex := 16, attributes := #[] }, { accessFlags := 2, nameIndex := 35, descriptorIndex := 20, attributes := #[] }])
  fields := #[{ name := "EVERY", type := .int, accessFlags := 24, slot := 0, constantValue := 0 }, { name := "DELAY_NANOS", type := .long, accessFlags := 24, slot := 1, constantValue := 0 }, { name := "ALONE_DELAY_NANOS", type := .long, accessFlags := 24, slot := 2, constantValue := 0 }, { name := "waiting", type := .int, accessFlags := 2, slot := 0, constantValue := 0 }, { name := "firstAt", type := .long, accessFlags := 2, slot := 1, constantValue := 0 }, { name := "holdNanos", type := .long, accessFlags := 2, slot := 2, constantValue := 0 }, { name := "arrivedBefore", type := .boolean, accessFlags := 2, slot := 3, constantValue := 0 }, { name := "lastArrivedAt", type := .long, accessFlags := 2, slot := 4, constantValue := 0 }, { name := "urgent", type := .boolean, accessFlags := 2, slot := 5, constantValue := 0 }]
  methods := #[k2m0, k2m1, k2m2, k2m3, k2m4]
  instanceTypes := #[.int, .long, .long, .boolean, .long, .boolean]
  staticTypes := #[.int, .long, .long]
  resolved := Array.replicate 69 none
  statics := some 0 }

def pool3 : Array CpInfo := pool [(1, u "java/lang/Cloneable"), (0, .class_ 1), (0, u "java/lang/Object"), (0, .class_ 3)] 3

/-- java/lang/Cloneable -/
def k3 : Class := { plain "java/lang/Cloneable" (some 0) with
  accessFlags := 1537
  interfaces := #[]
  cf := some (fileOf pool3 2 #[] #[] 1537 4 #[] #[])
  fields := #[]
  methods := #[]
  instanceTypes := #[]
  staticTypes := #[]
  resolved := Array.replicate 8 none
  statics := none }

def pool4 : Array CpInfo := pool [(1, u "java/io/Serializable"), (0, .class_ 1), (0, u "java/lang/Object"), (0, .class_ 3)] 3

/-- java/io/Serializable -/
def k4 : Class := { plain "java/io/Serializable" (some 0) with
  accessFlags := 1537
  interfaces := #[]
  cf := some (fileOf pool4 2 #[] #[] 1537 4 #[] #[])
  fields := #[]
  methods := #[]
  instanceTypes := #[]
  staticTypes := #[]
  resolved := Array.replicate 8 none
  statics := none }

/-- the primitive byte -/
def k5 : Class := { plain "byte" none with kind := .primitive 'B', accessFlags := 0x411 }
/-- [B -/
def k6 : Class := { plain "[B" (some 0) with kind := .array 5 .byte, interfaces := #[3, 4], accessFlags := 1041 }

/-- the primitive int -/
def k7 : Class := { plain "int" none with kind := .primitive 'I', accessFlags := 0x411 }
/-- [I -/
def k8 : Class := { plain "[I" (some 0) with kind := .array 7 .int, interfaces := #[3, 4], accessFlags := 1041 }

def heap : Heap := #[{ cls := 2, slots := #[.int 0, .long 700000000, .long 150000000], vm := .statics 2 }]
def classes : Array Class := #[k0, k1, k2, k3, k4, k5, k6, k7, k8]
def interned : List (Array UInt16 × Addr) := []
def slotsUsed : Nat := 3
def theMethod : MethodId := ⟨1, 1⟩
def args0 : Array Value := #[.int 5, .int 1, .long 5, .long 6, .long 7, .long 8]
def aboutOver (below : List Frame) : State where
  vm := { classes := classes, interned := interned.toArray }
  heap := heap
  slotsUsed := slotsUsed
  threads := #[{ frames := .invoking theMethod args0 :: below }]
def below0 : List Frame := [.native { method := ⟨0, 0⟩, args := #[] }]
def about1 : State := aboutOver below0
def p0 : Program := .bare "" "" ""
def e0 : Env := launch0.env 0 0 0
theorem w_frames : about1.frames = Frame.invoking theMethod args0 :: below0 := rfl
set_option maxRecDepth 65536 in
theorem w_args : argsFit about1.vm theMethod args0 = true := by decide +kernel
set_option maxRecDepth 65536 in
theorem w_heap : heapFits about1 = true := by decide +kernel
set_option maxRecDepth 65536 in
theorem w_runnable : about1.curStatus? = some .runnable := by decide +kernel
set_option maxRecDepth 65536 in
theorem w_alone : about1.alone = true := by decide +kernel
set_option maxRecDepth 65536 in
theorem w_named : about1.methodNamed? x = some theMethod := by decide +kernel
set_option maxRecDepth 65536 in
theorem w_hears : about1.hears theMethod below0 = true := by decide +kernel
set_option maxRecDepth 65536 in
theorem w_ripe : about1.ripe theMethod args0 below0 = true := by decide +kernel
theorem w_running : about1.status = .running := rfl
set_option maxRecDepth 65536 in
theorem w_room : about1.hasRoom e0.platform room_1 = true :=
  launch0.hasRoom_least _ room_1 (by decide +kernel) (by decide +kernel) (by decide +kernel) (by decide +kernel) (by decide +kernel) (by decide +kernel)
theorem allAtoms_all (ts : List Jvm.Cond) (a : Array Jvm.Value) (st : Jvm.State) : (allAtoms ts).before a st = ts.all (fun c => c.before a st) := by
  induction ts with
  | nil => rfl
  | cons c t ih =>
    show (Jvm.Cond.and c (allAtoms t)).before a st = _
    rw [Jvm.Cond.before_and, ih, List.all_cons]
def words1 : List Jvm.Cond := Jvm.Cond.code x code maxLocals ret :: tables_1
/-- a 'code' word, met by the world's own term for the bytes: nothing is compared byte by byte -/
theorem code_word {y : MethodName} {bytes : ByteArray} {mx : Nat} {rt : Option FieldType} {a : Array Value} {s : State} {m : MethodId} {meth : Method} {c : Code} (h1 : s.methodNamed? y = some m) (h2 : s.vm.method? m = some meth) (h3 : meth.code = some c) (h4 : c.code = bytes)
    (h5 : (c.maxLocals == mx && c.exceptionTable.isEmpty && decide (c.maxStack ≤ mostOperands) && decide (meth.sig.returnType = rt) && !meth.locks && decide (parseMethodDescriptor y.desc = some meth.sig)) = true) : (Jvm.Cond.code y bytes mx rt).before a s = true := by
  simp only [Bool.and_eq_true, beq_iff_eq, Bool.not_eq_true', decide_eq_true_eq] at h5
  obtain ⟨⟨⟨⟨⟨g1, g2⟩, g3⟩, g4⟩, g5⟩, g6⟩ := h5
  simp [Cond.before, Cond.holds, Cond.value, h1, h2, h3, h4, g1, g2, g3, g4, g5, g6]
def isCode : Jvm.Cond → Bool
  | .code _ _ _ _ => true
  | _ => false
theorem all_split {L : List Jvm.Cond} {P : Jvm.Cond → Bool} (h1 : L.all (fun c => isCode c || P c) = true) (h2 : ∀ c ∈ L.filter isCode, P c = true) : L.all P = true := by
  refine List.all_eq_true.mpr fun c hc => ?_
  have h := List.all_eq_true.mp h1 c hc
  rcases Bool.eq_false_or_eq_true (isCode c) with hi | hi
  · exact h2 c (List.mem_filter.mpr ⟨hc, hi⟩)
  · simpa [hi] using h
set_option maxRecDepth 65536 in
theorem w_c0 : (Jvm.Cond.code x code maxLocals ret).before args0 about1 = true := code_word (m := ⟨1, 1⟩) (meth := k1m1) (c := k1c1) (by decide +kernel) rfl rfl rfl (by decide +kernel)
set_option maxRecDepth 65536 in
theorem w_c1 : (Jvm.Cond.code ({ cls := "com/example/roamd/roamd/net/DelayedAck", name := "<init>", desc := "()V" } : Jvm.MethodName) prog_16_method_1_code (1 : Nat) (Option.none : Option Jvm.ClassFile.FieldType)).before args0 about1 = true := code_word (m := ⟨2, 0⟩) (meth := k2m0) (c := k2c0) (by decide +kernel) rfl rfl rfl (by decide +kernel)
set_option maxRecDepth 65536 in
theorem w_c2 : (Jvm.Cond.code ({ cls := "java/lang/Object", name := "<init>", desc := "()V" } : Jvm.MethodName) object_method_1_code (1 : Nat) (Option.none : Option Jvm.ClassFile.FieldType)).before args0 about1 = true := code_word (m := ⟨0, 0⟩) (meth := k0m0) (c := k0c0) (by decide +kernel) rfl rfl rfl (by decide +kernel)
set_option maxRecDepth 65536 in
theorem w_c3 : (Jvm.Cond.code ({ cls := "com/example/roamd/roamd/net/DelayedAck", name := "arrived", desc := "(IIZJ)V" } : Jvm.MethodName) prog_16_method_2_code (7 : Nat) (Option.none : Option Jvm.ClassFile.FieldType)).before args0 about1 = true := code_word (m := ⟨2, 1⟩) (meth := k2m1) (c := k2c1) (by decide +kernel) rfl rfl rfl (by decide +kernel)
set_option maxRecDepth 65536 in
theorem w_c4 : (Jvm.Cond.code ({ cls := "com/example/roamd/roamd/net/DelayedAck", name := "waitNanos", desc := "(J)J" } : Jvm.MethodName) prog_16_method_4_code (3 : Nat) (Option.some Jvm.ClassFile.FieldType.long)).before args0 about1 = true := code_word (m := ⟨2, 3⟩) (meth := k2m3) (c := k2c3) (by decide +kernel) rfl rfl rfl (by decide +kernel)
set_option maxRecDepth 65536 in
theorem w_c5 : (Jvm.Cond.code ({ cls := "com/example/roamd/roamd/net/DelayedAck", name := "due", desc := "(J)Z" } : Jvm.MethodName) prog_16_method_3_code (3 : Nat) (Option.some Jvm.ClassFile.FieldType.boolean)).before args0 about1 = true := code_word (m := ⟨2, 2⟩) (meth := k2m2) (c := k2c2) (by decide +kernel) rfl rfl rfl (by decide +kernel)
set_option maxRecDepth 65536 in
theorem w_c6 : (Jvm.Cond.code ({ cls := "com/example/roamd/roamd/net/DelayedAck", name := "sent", desc := "()V" } : Jvm.MethodName) prog_16_method_5_code (1 : Nat) (Option.none : Option Jvm.ClassFile.FieldType)).before args0 about1 = true := code_word (m := ⟨2, 4⟩) (meth := k2m4) (c := k2c4) (by decide +kernel) rfl rfl rfl (by decide +kernel)
def codes1 : List Jvm.Cond := [Jvm.Cond.code x code maxLocals ret, Jvm.Cond.code ({ cls := "com/example/roamd/roamd/net/DelayedAck", name := "<init>", desc := "()V" } : Jvm.MethodName) prog_16_method_1_code (1 : Nat) (Option.none : Option Jvm.ClassFile.FieldType), Jvm.Cond.code ({ cls := "java/lang/Object", name := "<init>", desc := "()V" } : Jvm.MethodName) object_method_1_code (1 : Nat) (Option.none : Option Jvm.ClassFile.FieldType), Jvm.Cond.code ({ cls := "com/example/roamd/roamd/net/DelayedAck", name := "arrived", desc := "(IIZJ)V" } : Jvm.MethodName) prog_16_method_2_code (7 : Nat) (Option.none : Option Jvm.ClassFile.FieldType), Jvm.Cond.code ({ cls := "com/example/roamd/roamd/net/DelayedAck", name := "waitNanos", desc := "(J)J" } : Jvm.MethodName) prog_16_method_4_code (3 : Nat) (Option.some Jvm.ClassFile.FieldType.long), Jvm.Cond.code ({ cls := "com/example/roamd/roamd/net/DelayedAck", name := "due", desc := "(J)Z" } : Jvm.MethodName) prog_16_method_3_code (3 : Nat) (Option.some Jvm.ClassFile.FieldType.boolean), Jvm.Cond.code ({ cls := "com/example/roamd/roamd/net/DelayedAck", name := "sent", desc := "()V" } : Jvm.MethodName) prog_16_method_5_code (1 : Nat) (Option.none : Option Jvm.ClassFile.FieldType)]
set_option maxRecDepth 65536 in
theorem codes_eq : words1.filter isCode = codes1 := rfl
theorem w_codes : ∀ c ∈ words1.filter isCode, c.before args0 about1 = true := by
  rw [codes_eq]
  intro c hc
  simp only [codes1, List.mem_cons, List.not_mem_nil, or_false] at hc
  rcases hc with rfl | rfl | rfl | rfl | rfl | rfl | rfl
  · exact w_c0
  · exact w_c1
  · exact w_c2
  · exact w_c3
  · exact w_c4
  · exact w_c5
  · exact w_c6
set_option maxRecDepth 65536 in
theorem w_t1 : (words1.take 24).all (fun c => isCode c || c.before args0 about1) = true := by decide +kernel
set_option maxRecDepth 65536 in
theorem w_t2 : ((words1.drop 24).take 24).all (fun c => isCode c || c.before args0 about1) = true := by decide +kernel
set_option maxRecDepth 65536 in
theorem w_t3 : ((words1.drop 24).drop 24).all (fun c => isCode c || c.before args0 about1) = true := by decide +kernel
theorem w_tables : (allAtoms (Jvm.Cond.code x code maxLocals ret :: tables_1)).before args0 about1 = true := by
  rw [allAtoms_all]
  show words1.all (fun c => c.before args0 about1) = true
  refine all_split ?_ w_codes
  rw [← List.take_append_drop 24 words1, List.all_append, w_t1, ← List.take_append_drop 24 (words1.drop 24), List.all_append, w_t2, w_t3]
  rfl
set_option maxRecDepth 65536 in
theorem w_case : (Jvm.Cond.and given_1 narrow_1).before args0 about1 = true := by decide +kernel
theorem w_applies : (headSpec (Jvm.Cond.code x code maxLocals ret :: tables_1) room_1).applies x e0.platform about1 = true :=
  (Spec.applies_iff w_frames).mpr ⟨w_running, w_runnable, w_alone, w_named, w_hears, w_ripe, w_room, w_tables⟩
theorem atStart : AtStart classFile x code maxLocals ret World_1 tables_1 room_1 Calls_1 rest_1 Pre_1 launch0 p0 e0 about1 theMethod args0 below0 :=
  ⟨lists_1, trivial, launch0.admits_env _ _ _, launch0.least_env, fairChoices_fair.cas, fairChoices_fair.clock, w_frames, w_args, w_heap, w_applies, trivial, trivial, w_case⟩
end start1
theorem witness_1 : WitnessClaimed_1 := ⟨start1.p0, start1.e0, start1.about1, start1.theMethod, start1.args0, start1.below0, start1.atStart⟩
end Jvm.Pilot.@@N@@
