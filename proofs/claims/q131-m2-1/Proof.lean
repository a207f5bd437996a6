import JvmDerived
import JvmDerived.Pilot.@@N@@Statement
import JvmDerived.Pilot.@@N@@Code
set_option linter.unusedVariables false
set_option linter.unusedSimpArgs false
namespace Jvm.Pilot.@@N@@
open Jvm Jvm.ClassFile Sem Op Lib Jvm.Free Jvm.Stand Jvm.LawKit Jvm.RoadKit Bundle Jvm.Pilot.@@N@@.Jvm.D
/-- the run stands at T' as it stood at T: the heap is the same -/
def Nx {p : Program} {l : Launch} {e : Env} {R : Room} {s : State} {m : MethodId} {args : Array Value} {below : List Frame} {meth : Method} {c : Code} {T : State} {locs : List Loc} {cells slots : Nat} (X : Stand p l e R s m args below meth c T locs cells slots) (T' : State) : Prop := Stand p l e R s m args below meth c T' locs cells slots ∧ T'.heap = T.heap
theorem lq_eq {x y : Int64} (h : x = y) : lcmpW x y = 0 := (lcW x y).trans ((lc_eq x y).mpr h)
theorem lq_ne {x y : Int64} (h : ¬ x = y) : ¬ lcmpW x y = 0 := fun q => h ((lc_eq x y).mp ((lcW x y).symm.trans q))
theorem lq_lt {x y : Int64} (h : x < y) : lcmpW x y < 0 := by rw [lcW]; exact (lc_lt x y).mpr h
theorem lq_nlt {x y : Int64} (h : ¬ x < y) : ¬ lcmpW x y < 0 := by rw [lcW]; exact fun q => h ((lc_lt x y).mp q)
theorem lq_gt {x y : Int64} (h : y < x) : 0 < lcmpW x y := by rw [lcW]; exact (lc_gt x y).mpr h
theorem lq_ngt {x y : Int64} (h : ¬ y < x) : ¬ 0 < lcmpW x y := by rw [lcW]; exact fun q => h ((lc_gt x y).mp q)
theorem own_eqI {args : Array Value} {first s : State} {o : Option Outcome} {idx : List Nat} {t : Term} {k : Int32} (h : (Jvm.Cond.eq t (.int k)).value args first o s idx = some true) : t.eval args first o idx s = some (.int k) := by
  simp only [Cond.value, Term.eval] at h
  cases ht : t.eval args first o idx s with
  | none => simp [ht] at h
  | some x => cases x <;> simp [ht] at h ⊢; exact h
theorem own_eqL {args : Array Value} {first s : State} {o : Option Outcome} {idx : List Nat} {t : Term} {k : Int64} (h : (Jvm.Cond.eq t (.long k)).value args first o s idx = some true) : t.eval args first o idx s = some (.long k) := by
  simp only [Cond.value, Term.eval] at h
  cases ht : t.eval args first o idx s with
  | none => simp [ht] at h
  | some x => cases x <;> simp [ht] at h ⊢; exact h
abbrev jv (x : Int64) : Slot := .val (.long x)
theorem y_iloadN {tb : Tables} [Ours tb] {e : Env} {below : List Frame} {T target : State} {m : MethodId} {c : Code} (h : At T m c below) (hx : tb.exec = Jvm.exec) {pc pc' : Nat} {L : Array Slot} {S : List Value} {k : Fin 4} {v : Int32} (hd : decode c.code pc = .ok (.iload_n k, 1)) (hl : L[k.val]? = some (.val (.int v))) (hp : pc + 1 = pc') (hr : Steps tb e below (T.setTop (mkF m pc' L (.int v :: S))) target) : Steps tb e below (T.setTop (mkF m pc L S)) target := by subst hp; exact XS.iloadN h hx rfl hd hl hr
theorem y_lloadN {tb : Tables} [Ours tb] {e : Env} {below : List Frame} {T target : State} {m : MethodId} {c : Code} (h : At T m c below) (hx : tb.exec = Jvm.exec) {pc pc' : Nat} {L : Array Slot} {S : List Value} {k : Fin 4} {v : Int64} (hd : decode c.code pc = .ok (.lload_n k, 1)) (hl : L[k.val]? = some (.val (.long v))) (hp : pc + 1 = pc') (hr : Steps tb e below (T.setTop (mkF m pc' L (.long v :: S))) target) : Steps tb e below (T.setTop (mkF m pc L S)) target := by subst hp; exact XS.lloadN h hx rfl hd hl hr
theorem y_aloadN {tb : Tables} [Ours tb] {e : Env} {below : List Frame} {T target : State} {m : MethodId} {c : Code} (h : At T m c below) (hx : tb.exec = Jvm.exec) {pc pc' : Nat} {L : Array Slot} {S : List Value} {k : Fin 4} {v : Value} (hd : decode c.code pc = .ok (.aload_n k, 1)) (hl : L[k.val]? = some (.val v)) (hv : v.isRef = true) (hp : pc + 1 = pc') (hr : Steps tb e below (T.setTop (mkF m pc' L (v :: S))) target) : Steps tb e below (T.setTop (mkF m pc L S)) target := by subst hp; exact XS.aloadN h hx rfl hd hl hv hr
theorem y_istoreN {tb : Tables} [Ours tb] {e : Env} {below : List Frame} {T target : State} {m : MethodId} {c : Code} (h : At T m c below) (hx : tb.exec = Jvm.exec) {pc pc' : Nat} {L : Array Slot} {S : List Value} {k : Fin 4} {v : Int32} {l' : Array Slot} (hd : decode c.code pc = .ok (.istore_n k, 1)) (hl : storeLocals L k.val (.int v) = some l') (hp : pc + 1 = pc') (hr : Steps tb e below (T.setTop (mkF m pc' l' S)) target) : Steps tb e below (T.setTop (mkF m pc L (.int v :: S))) target := by subst hp; exact XS.istoreN h hx rfl hd rfl hl hr
theorem y_lstoreN {tb : Tables} [Ours tb] {e : Env} {below : List Frame} {T target : State} {m : MethodId} {c : Code} (h : At T m c below) (hx : tb.exec = Jvm.exec) {pc pc' : Nat} {L : Array Slot} {S : List Value} {k : Fin 4} {v : Int64} {l' : Array Slot} (hd : decode c.code pc = .ok (.lstore_n k, 1)) (hl : storeLocals L k.val (.long v) = some l') (hp : pc + 1 = pc') (hr : Steps tb e below (T.setTop (mkF m pc' l' S)) target) : Steps tb e below (T.setTop (mkF m pc L (.long v :: S))) target := by subst hp; exact XS.lstoreN h hx rfl hd rfl hl hr
theorem y_astoreN {tb : Tables} [Ours tb] {e : Env} {below : List Frame} {T target : State} {m : MethodId} {c : Code} (h : At T m c below) (hx : tb.exec = Jvm.exec) {pc pc' : Nat} {L : Array Slot} {S : List Value} {k : Fin 4} {v : Value} {l' : Array Slot} (hd : decode c.code pc = .ok (.astore_n k, 1)) (hv : v.isRef = true) (hl : storeLocals L k.val v = some l') (hp : pc + 1 = pc') (hr : Steps tb e below (T.setTop (mkF m pc' l' S)) target) : Steps tb e below (T.setTop (mkF m pc L (v :: S))) target := by subst hp; exact XS.astoreN h hx rfl hd rfl hv hl hr
theorem y_iload {tb : Tables} [Ours tb] {e : Env} {below : List Frame} {T target : State} {m : MethodId} {c : Code} (h : At T m c below) (hx : tb.exec = Jvm.exec) {pc pc' : Nat} {L : Array Slot} {S : List Value} {k : Nat} {v : Int32} (hd : decode c.code pc = .ok (.iload k, 2)) (hl : L[k]? = some (.val (.int v))) (hp : pc + 2 = pc') (hr : Steps tb e below (T.setTop (mkF m pc' L (.int v :: S))) target) : Steps tb e below (T.setTop (mkF m pc L S)) target := by subst hp; exact XS.iload h hx rfl hd hl hr
theorem y_lload {tb : Tables} [Ours tb] {e : Env} {below : List Frame} {T target : State} {m : MethodId} {c : Code} (h : At T m c below) (hx : tb.exec = Jvm.exec) {pc pc' : Nat} {L : Array Slot} {S : List Value} {k : Nat} {v : Int64} (hd : decode c.code pc = .ok (.lload k, 2)) (hl : L[k]? = some (.val (.long v))) (hp : pc + 2 = pc') (hr : Steps tb e below (T.setTop (mkF m pc' L (.long v :: S))) target) : Steps tb e below (T.setTop (mkF m pc L S)) target := by subst hp; exact XS.lload h hx rfl hd hl hr
theorem y_aload {tb : Tables} [Ours tb] {e : Env} {below : List Frame} {T target : State} {m : MethodId} {c : Code} (h : At T m c below) (hx : tb.exec = Jvm.exec) {pc pc' : Nat} {L : Array Slot} {S : List Value} {k : Nat} {v : Value} (hd : decode c.code pc = .ok (.aload k, 2)) (hl : L[k]? = some (.val v)) (hv : v.isRef = true) (hp : pc + 2 = pc') (hr : Steps tb e below (T.setTop (mkF m pc' L (v :: S))) target) : Steps tb e below (T.setTop (mkF m pc L S)) target := by subst hp; exact XS.aload h hx rfl hd hl hv hr
theorem y_istore {tb : Tables} [Ours tb] {e : Env} {below : List Frame} {T target : State} {m : MethodId} {c : Code} (h : At T m c below) (hx : tb.exec = Jvm.exec) {pc pc' : Nat} {L : Array Slot} {S : List Value} {k : Nat} {v : Int32} {l' : Array Slot} (hd : decode c.code pc = .ok (.istore k, 2)) (hl : storeLocals L k (.int v) = some l') (hp : pc + 2 = pc') (hr : Steps tb e below (T.setTop (mkF m pc' l' S)) target) : Steps tb e below (T.setTop (mkF m pc L (.int v :: S))) target := by subst hp; exact XS.istore h hx rfl hd rfl hl hr
theorem y_lstore {tb : Tables} [Ours tb] {e : Env} {below : List Frame} {T target : State} {m : MethodId} {c : Code} (h : At T m c below) (hx : tb.exec = Jvm.exec) {pc pc' : Nat} {L : Array Slot} {S : List Value} {k : Nat} {v : Int64} {l' : Array Slot} (hd : decode c.code pc = .ok (.lstore k, 2)) (hl : storeLocals L k (.long v) = some l') (hp : pc + 2 = pc') (hr : Steps tb e below (T.setTop (mkF m pc' l' S)) target) : Steps tb e below (T.setTop (mkF m pc L (.long v :: S))) target := by subst hp; exact XS.lstore h hx rfl hd rfl hl hr
theorem y_astore {tb : Tables} [Ours tb] {e : Env} {below : List Frame} {T target : State} {m : MethodId} {c : Code} (h : At T m c below) (hx : tb.exec = Jvm.exec) {pc pc' : Nat} {L : Array Slot} {S : List Value} {k : Nat} {v : Value} {l' : Array Slot} (hd : decode c.code pc = .ok (.astore k, 2)) (hv : v.isRef = true) (hl : storeLocals L k v = some l') (hp : pc + 2 = pc') (hr : Steps tb e below (T.setTop (mkF m pc' l' S)) target) : Steps tb e below (T.setTop (mkF m pc L (v :: S))) target := by subst hp; exact XS.astore h hx rfl hd rfl hv hl hr
theorem y_iconst {tb : Tables} [Ours tb] {e : Env} {below : List Frame} {T target : State} {m : MethodId} {c : Code} (h : At T m c below) (hx : tb.exec = Jvm.exec) {pc pc' : Nat} {L : Array Slot} {S : List Value} {i : Int} {v : Int32} (hd : decode c.code pc = .ok (.iconst i, 1)) (hv : Int32.ofInt i = v) (hp : pc + 1 = pc') (hr : Steps tb e below (T.setTop (mkF m pc' L (.int v :: S))) target) : Steps tb e below (T.setTop (mkF m pc L S)) target := by subst hp; exact XS.iconst h hx rfl hd (by rw [hv]; exact hr)
theorem y_bipush {tb : Tables} [Ours tb] {e : Env} {below : List Frame} {T target : State} {m : MethodId} {c : Code} (h : At T m c below) (hx : tb.exec = Jvm.exec) {pc pc' : Nat} {L : Array Slot} {S : List Value} {i : Int} {v : Int32} (hd : decode c.code pc = .ok (.bipush i, 2)) (hv : (Int8.ofInt i).toInt32 = v) (hp : pc + 2 = pc') (hr : Steps tb e below (T.setTop (mkF m pc' L (.int v :: S))) target) : Steps tb e below (T.setTop (mkF m pc L S)) target := by subst hp; exact XS.bipush h hx rfl hd (by rw [hv]; exact hr)
theorem y_sipush {tb : Tables} [Ours tb] {e : Env} {below : List Frame} {T target : State} {m : MethodId} {c : Code} (h : At T m c below) (hx : tb.exec = Jvm.exec) {pc pc' : Nat} {L : Array Slot} {S : List Value} {i : Int} {v : Int32} (hd : decode c.code pc = .ok (.sipush i, 3)) (hv : (Int16.ofInt i).toInt32 = v) (hp : pc + 3 = pc') (hr : Steps tb e below (T.setTop (mkF m pc' L (.int v :: S))) target) : Steps tb e below (T.setTop (mkF m pc L S)) target := by subst hp; exact XS.sipush h hx rfl hd (by rw [hv]; exact hr)
theorem y_lconst {tb : Tables} [Ours tb] {e : Env} {below : List Frame} {T target : State} {m : MethodId} {c : Code} (h : At T m c below) (hx : tb.exec = Jvm.exec) {pc pc' : Nat} {L : Array Slot} {S : List Value} {k : Fin 2} {v : Int64} (hd : decode c.code pc = .ok (.lconst k, 1)) (hv : Int64.ofNat k.val = v) (hp : pc + 1 = pc') (hr : Steps tb e below (T.setTop (mkF m pc' L (.long v :: S))) target) : Steps tb e below (T.setTop (mkF m pc L S)) target := by subst hp; exact XS.lconst h hx rfl hd (by first | exact hv ▸ hr | (rw [hv]; exact hr) | (subst hv; exact hr))
theorem y_aconstNull {tb : Tables} [Ours tb] {e : Env} {below : List Frame} {T target : State} {m : MethodId} {c : Code} (h : At T m c below) (hx : tb.exec = Jvm.exec) {pc pc' : Nat} {L : Array Slot} {S : List Value} (hd : decode c.code pc = .ok (.aconst_null, 1)) (hp : pc + 1 = pc') (hr : Steps tb e below (T.setTop (mkF m pc' L (.null :: S))) target) : Steps tb e below (T.setTop (mkF m pc L S)) target := by subst hp; exact XS.aconstNull h hx rfl hd hr
theorem y_iadd {tb : Tables} [Ours tb] {e : Env} {below : List Frame} {T target : State} {m : MethodId} {c : Code} (h : At T m c below) (hx : tb.exec = Jvm.exec) {pc pc' : Nat} {L : Array Slot} {S : List Value} {x y z : Int32} (hd : decode c.code pc = .ok (.iadd, 1)) (hz : x + y = z) (hp : pc + 1 = pc') (hr : Steps tb e below (T.setTop (mkF m pc' L (.int z :: S))) target) : Steps tb e below (T.setTop (mkF m pc L (.int y :: .int x :: S))) target := by subst hp; exact XS.iadd h hx rfl hd rfl (by rw [hz]; exact hr)
theorem y_isub {tb : Tables} [Ours tb] {e : Env} {below : List Frame} {T target : State} {m : MethodId} {c : Code} (h : At T m c below) (hx : tb.exec = Jvm.exec) {pc pc' : Nat} {L : Array Slot} {S : List Value} {x y z : Int32} (hd : decode c.code pc = .ok (.isub, 1)) (hz : x - y = z) (hp : pc + 1 = pc') (hr : Steps tb e below (T.setTop (mkF m pc' L (.int z :: S))) target) : Steps tb e below (T.setTop (mkF m pc L (.int y :: .int x :: S))) target := by subst hp; exact XS.isub h hx rfl hd rfl (by rw [hz]; exact hr)
theorem y_imul {tb : Tables} [Ours tb] {e : Env} {below : List Frame} {T target : State} {m : MethodId} {c : Code} (h : At T m c below) (hx : tb.exec = Jvm.exec) {pc pc' : Nat} {L : Array Slot} {S : List Value} {x y z : Int32} (hd : decode c.code pc = .ok (.imul, 1)) (hz : x * y = z) (hp : pc + 1 = pc') (hr : Steps tb e below (T.setTop (mkF m pc' L (.int z :: S))) target) : Steps tb e below (T.setTop (mkF m pc L (.int y :: .int x :: S))) target := by subst hp; exact XS.imul h hx rfl hd rfl (by rw [hz]; exact hr)
theorem y_iand {tb : Tables} [Ours tb] {e : Env} {below : List Frame} {T target : State} {m : MethodId} {c : Code} (h : At T m c below) (hx : tb.exec = Jvm.exec) {pc pc' : Nat} {L : Array Slot} {S : List Value} {x y z : Int32} (hd : decode c.code pc = .ok (.iand, 1)) (hz : x &&& y = z) (hp : pc + 1 = pc') (hr : Steps tb e below (T.setTop (mkF m pc' L (.int z :: S))) target) : Steps tb e below (T.setTop (mkF m pc L (.int y :: .int x :: S))) target := by subst hp; exact XS.iand h hx rfl hd rfl (by rw [hz]; exact hr)
theorem y_ior {tb : Tables} [Ours tb] {e : Env} {below : List Frame} {T target : State} {m : MethodId} {c : Code} (h : At T m c below) (hx : tb.exec = Jvm.exec) {pc pc' : Nat} {L : Array Slot} {S : List Value} {x y z : Int32} (hd : decode c.code pc = .ok (.ior, 1)) (hz : x ||| y = z) (hp : pc + 1 = pc') (hr : Steps tb e below (T.setTop (mkF m pc' L (.int z :: S))) target) : Steps tb e below (T.setTop (mkF m pc L (.int y :: .int x :: S))) target := by subst hp; exact XS.ior h hx rfl hd rfl (by rw [hz]; exact hr)
theorem y_ixor {tb : Tables} [Ours tb] {e : Env} {below : List Frame} {T target : State} {m : MethodId} {c : Code} (h : At T m c below) (hx : tb.exec = Jvm.exec) {pc pc' : Nat} {L : Array Slot} {S : List Value} {x y z : Int32} (hd : decode c.code pc = .ok (.ixor, 1)) (hz : x ^^^ y = z) (hp : pc + 1 = pc') (hr : Steps tb e below (T.setTop (mkF m pc' L (.int z :: S))) target) : Steps tb e below (T.setTop (mkF m pc L (.int y :: .int x :: S))) target := by subst hp; exact XS.ixor h hx rfl hd rfl (by rw [hz]; exact hr)
theorem y_ladd {tb : Tables} [Ours tb] {e : Env} {below : List Frame} {T target : State} {m : MethodId} {c : Code} (h : At T m c below) (hx : tb.exec = Jvm.exec) {pc pc' : Nat} {L : Array Slot} {S : List Value} {x y z : Int64} (hd : decode c.code pc = .ok (.ladd, 1)) (hz : x + y = z) (hp : pc + 1 = pc') (hr : Steps tb e below (T.setTop (mkF m pc' L (.long z :: S))) target) : Steps tb e below (T.setTop (mkF m pc L (.long y :: .long x :: S))) target := by subst hp; exact XS.ladd h hx rfl hd rfl (by rw [hz]; exact hr)
theorem y_lsub {tb : Tables} [Ours tb] {e : Env} {below : List Frame} {T target : State} {m : MethodId} {c : Code} (h : At T m c below) (hx : tb.exec = Jvm.exec) {pc pc' : Nat} {L : Array Slot} {S : List Value} {x y z : Int64} (hd : decode c.code pc = .ok (.lsub, 1)) (hz : x - y = z) (hp : pc + 1 = pc') (hr : Steps tb e below (T.setTop (mkF m pc' L (.long z :: S))) target) : Steps tb e below (T.setTop (mkF m pc L (.long y :: .long x :: S))) target := by subst hp; exact XS.lsub h hx rfl hd rfl (by rw [hz]; exact hr)
theorem y_lmul {tb : Tables} [Ours tb] {e : Env} {below : List Frame} {T target : State} {m : MethodId} {c : Code} (h : At T m c below) (hx : tb.exec = Jvm.exec) {pc pc' : Nat} {L : Array Slot} {S : List Value} {x y z : Int64} (hd : decode c.code pc = .ok (.lmul, 1)) (hz : x * y = z) (hp : pc + 1 = pc') (hr : Steps tb e below (T.setTop (mkF m pc' L (.long z :: S))) target) : Steps tb e below (T.setTop (mkF m pc L (.long y :: .long x :: S))) target := by subst hp; exact XS.lmul h hx rfl hd rfl (by rw [hz]; exact hr)
theorem y_land {tb : Tables} [Ours tb] {e : Env} {below : List Frame} {T target : State} {m : MethodId} {c : Code} (h : At T m c below) (hx : tb.exec = Jvm.exec) {pc pc' : Nat} {L : Array Slot} {S : List Value} {x y z : Int64} (hd : decode c.code pc = .ok (.land, 1)) (hz : x &&& y = z) (hp : pc + 1 = pc') (hr : Steps tb e below (T.setTop (mkF m pc' L (.long z :: S))) target) : Steps tb e below (T.setTop (mkF m pc L (.long y :: .long x :: S))) target := by subst hp; exact XS.land h hx rfl hd rfl (by rw [hz]; exact hr)
theorem y_lor {tb : Tables} [Ours tb] {e : Env} {below : List Frame} {T target : State} {m : MethodId} {c : Code} (h : At T m c below) (hx : tb.exec = Jvm.exec) {pc pc' : Nat} {L : Array Slot} {S : List Value} {x y z : Int64} (hd : decode c.code pc = .ok (.lor, 1)) (hz : x ||| y = z) (hp : pc + 1 = pc') (hr : Steps tb e below (T.setTop (mkF m pc' L (.long z :: S))) target) : Steps tb e below (T.setTop (mkF m pc L (.long y :: .long x :: S))) target := by subst hp; exact XS.lor h hx rfl hd rfl (by rw [hz]; exact hr)
theorem y_lxor {tb : Tables} [Ours tb] {e : Env} {below : List Frame} {T target : State} {m : MethodId} {c : Code} (h : At T m c below) (hx : tb.exec = Jvm.exec) {pc pc' : Nat} {L : Array Slot} {S : List Value} {x y z : Int64} (hd : decode c.code pc = .ok (.lxor, 1)) (hz : x ^^^ y = z) (hp : pc + 1 = pc') (hr : Steps tb e below (T.setTop (mkF m pc' L (.long z :: S))) target) : Steps tb e below (T.setTop (mkF m pc L (.long y :: .long x :: S))) target := by subst hp; exact XS.lxor h hx rfl hd rfl (by rw [hz]; exact hr)
theorem y_ineg {tb : Tables} [Ours tb] {e : Env} {below : List Frame} {T target : State} {m : MethodId} {c : Code} (h : At T m c below) (hx : tb.exec = Jvm.exec) {pc pc' : Nat} {L : Array Slot} {S : List Value} {x : Int32} {z : Int32} (hd : decode c.code pc = .ok (.ineg, 1)) (hz : -x = z) (hp : pc + 1 = pc') (hr : Steps tb e below (T.setTop (mkF m pc' L (.int z :: S))) target) : Steps tb e below (T.setTop (mkF m pc L (.int x :: S))) target := by subst hp; exact XS.ineg h hx rfl hd rfl (by subst hz; exact hr)
theorem y_lneg {tb : Tables} [Ours tb] {e : Env} {below : List Frame} {T target : State} {m : MethodId} {c : Code} (h : At T m c below) (hx : tb.exec = Jvm.exec) {pc pc' : Nat} {L : Array Slot} {S : List Value} {x : Int64} {z : Int64} (hd : decode c.code pc = .ok (.lneg, 1)) (hz : -x = z) (hp : pc + 1 = pc') (hr : Steps tb e below (T.setTop (mkF m pc' L (.long z :: S))) target) : Steps tb e below (T.setTop (mkF m pc L (.long x :: S))) target := by subst hp; exact XS.lneg h hx rfl hd rfl (by subst hz; exact hr)
theorem y_i2l {tb : Tables} [Ours tb] {e : Env} {below : List Frame} {T target : State} {m : MethodId} {c : Code} (h : At T m c below) (hx : tb.exec = Jvm.exec) {pc pc' : Nat} {L : Array Slot} {S : List Value} {x : Int32} {z : Int64} (hd : decode c.code pc = .ok (.i2l, 1)) (hz : x.toInt64 = z) (hp : pc + 1 = pc') (hr : Steps tb e below (T.setTop (mkF m pc' L (.long z :: S))) target) : Steps tb e below (T.setTop (mkF m pc L (.int x :: S))) target := by subst hp; exact XS.i2l h hx rfl hd rfl (by subst hz; exact hr)
theorem y_l2i {tb : Tables} [Ours tb] {e : Env} {below : List Frame} {T target : State} {m : MethodId} {c : Code} (h : At T m c below) (hx : tb.exec = Jvm.exec) {pc pc' : Nat} {L : Array Slot} {S : List Value} {x : Int64} {z : Int32} (hd : decode c.code pc = .ok (.l2i, 1)) (hz : x.toInt32 = z) (hp : pc + 1 = pc') (hr : Steps tb e below (T.setTop (mkF m pc' L (.int z :: S))) target) : Steps tb e below (T.setTop (mkF m pc L (.long x :: S))) target := by subst hp; exact XS.l2i h hx rfl hd rfl (by subst hz; exact hr)
theorem y_i2b {tb : Tables} [Ours tb] {e : Env} {below : List Frame} {T target : State} {m : MethodId} {c : Code} (h : At T m c below) (hx : tb.exec = Jvm.exec) {pc pc' : Nat} {L : Array Slot} {S : List Value} {x : Int32} {z : Int32} (hd : decode c.code pc = .ok (.i2b, 1)) (hz : x.toInt8.toInt32 = z) (hp : pc + 1 = pc') (hr : Steps tb e below (T.setTop (mkF m pc' L (.int z :: S))) target) : Steps tb e below (T.setTop (mkF m pc L (.int x :: S))) target := by subst hp; exact XS.i2b h hx rfl hd rfl (by subst hz; exact hr)
theorem y_i2s {tb : Tables} [Ours tb] {e : Env} {below : List Frame} {T target : State} {m : MethodId} {c : Code} (h : At T m c below) (hx : tb.exec = Jvm.exec) {pc pc' : Nat} {L : Array Slot} {S : List Value} {x : Int32} {z : Int32} (hd : decode c.code pc = .ok (.i2s, 1)) (hz : x.toInt16.toInt32 = z) (hp : pc + 1 = pc') (hr : Steps tb e below (T.setTop (mkF m pc' L (.int z :: S))) target) : Steps tb e below (T.setTop (mkF m pc L (.int x :: S))) target := by subst hp; exact XS.i2s h hx rfl hd rfl (by subst hz; exact hr)
theorem y_i2c {tb : Tables} [Ours tb] {e : Env} {below : List Frame} {T target : State} {m : MethodId} {c : Code} (h : At T m c below) (hx : tb.exec = Jvm.exec) {pc pc' : Nat} {L : Array Slot} {S : List Value} {x : Int32} {z : Int32} (hd : decode c.code pc = .ok (.i2c, 1)) (hz : x.toUInt32.toUInt16.toUInt32.toInt32 = z) (hp : pc + 1 = pc') (hr : Steps tb e below (T.setTop (mkF m pc' L (.int z :: S))) target) : Steps tb e below (T.setTop (mkF m pc L (.int x :: S))) target := by subst hp; exact XS.i2c h hx rfl hd rfl (by subst hz; exact hr)
theorem y_ishl {tb : Tables} [Ours tb] {e : Env} {below : List Frame} {T target : State} {m : MethodId} {c : Code} (h : At T m c below) (hx : tb.exec = Jvm.exec) {pc pc' : Nat} {L : Array Slot} {S : List Value} {x z : Int32} {y : Int32} (hd : decode c.code pc = .ok (.ishl, 1)) (hz : (x <<< (y &&& 31)) = z) (hp : pc + 1 = pc') (hr : Steps tb e below (T.setTop (mkF m pc' L (.int z :: S))) target) : Steps tb e below (T.setTop (mkF m pc L (.int y :: .int x :: S))) target := by subst hp; exact XS.ishl h hx rfl hd rfl (by subst hz; exact hr)
theorem y_ishr {tb : Tables} [Ours tb] {e : Env} {below : List Frame} {T target : State} {m : MethodId} {c : Code} (h : At T m c below) (hx : tb.exec = Jvm.exec) {pc pc' : Nat} {L : Array Slot} {S : List Value} {x z : Int32} {y : Int32} (hd : decode c.code pc = .ok (.ishr, 1)) (hz : (x >>> (y &&& 31)) = z) (hp : pc + 1 = pc') (hr : Steps tb e below (T.setTop (mkF m pc' L (.int z :: S))) target) : Steps tb e below (T.setTop (mkF m pc L (.int y :: .int x :: S))) target := by subst hp; exact XS.ishr h hx rfl hd rfl (by subst hz; exact hr)
theorem y_iushr {tb : Tables} [Ours tb] {e : Env} {below : List Frame} {T target : State} {m : MethodId} {c : Code} (h : At T m c below) (hx : tb.exec = Jvm.exec) {pc pc' : Nat} {L : Array Slot} {S : List Value} {x z : Int32} {y : Int32} (hd : decode c.code pc = .ok (.iushr, 1)) (hz : ((x.toUInt32 >>> (y &&& 31).toUInt32).toInt32) = z) (hp : pc + 1 = pc') (hr : Steps tb e below (T.setTop (mkF m pc' L (.int z :: S))) target) : Steps tb e below (T.setTop (mkF m pc L (.int y :: .int x :: S))) target := by subst hp; exact XS.iushr h hx rfl hd rfl (by subst hz; exact hr)
theorem y_lshl {tb : Tables} [Ours tb] {e : Env} {below : List Frame} {T target : State} {m : MethodId} {c : Code} (h : At T m c below) (hx : tb.exec = Jvm.exec) {pc pc' : Nat} {L : Array Slot} {S : List Value} {x z : Int64} {y : Int32} (hd : decode c.code pc = .ok (.lshl, 1)) (hz : (x <<< (y &&& 0x3f).toInt64) = z) (hp : pc + 1 = pc') (hr : Steps tb e below (T.setTop (mkF m pc' L (.long z :: S))) target) : Steps tb e below (T.setTop (mkF m pc L (.int y :: .long x :: S))) target := by subst hp; exact XS.lshl h hx rfl hd rfl (by subst hz; exact hr)
theorem y_lshr {tb : Tables} [Ours tb] {e : Env} {below : List Frame} {T target : State} {m : MethodId} {c : Code} (h : At T m c below) (hx : tb.exec = Jvm.exec) {pc pc' : Nat} {L : Array Slot} {S : List Value} {x z : Int64} {y : Int32} (hd : decode c.code pc = .ok (.lshr, 1)) (hz : (x >>> (y &&& 0x3f).toInt64) = z) (hp : pc + 1 = pc') (hr : Steps tb e below (T.setTop (mkF m pc' L (.long z :: S))) target) : Steps tb e below (T.setTop (mkF m pc L (.int y :: .long x :: S))) target := by subst hp; exact XS.lshr h hx rfl hd rfl (by subst hz; exact hr)
theorem y_lushr {tb : Tables} [Ours tb] {e : Env} {below : List Frame} {T target : State} {m : MethodId} {c : Code} (h : At T m c below) (hx : tb.exec = Jvm.exec) {pc pc' : Nat} {L : Array Slot} {S : List Value} {x z : Int64} {y : Int32} (hd : decode c.code pc = .ok (.lushr, 1)) (hz : ((x.toUInt64 >>> (y &&& 0x3f).toInt64.toUInt64).toInt64) = z) (hp : pc + 1 = pc') (hr : Steps tb e below (T.setTop (mkF m pc' L (.long z :: S))) target) : Steps tb e below (T.setTop (mkF m pc L (.int y :: .long x :: S))) target := by subst hp; exact XS.lushr h hx rfl hd rfl (by subst hz; exact hr)
theorem y_lcmp {tb : Tables} [Ours tb] {e : Env} {below : List Frame} {T target : State} {m : MethodId} {c : Code} (h : At T m c below) (hx : tb.exec = Jvm.exec) {pc pc' : Nat} {L : Array Slot} {S : List Value} {x y : Int64} (hd : decode c.code pc = .ok (.lcmp, 1)) (hp : pc + 1 = pc') (hr : Steps tb e below (T.setTop (mkF m pc' L (.int (lcmpW x y) :: S))) target) : Steps tb e below (T.setTop (mkF m pc L (.long y :: .long x :: S))) target := by subst hp; exact XS.lcmp h hx rfl hd rfl hr
theorem y_iinc {tb : Tables} [Ours tb] {e : Env} {below : List Frame} {T target : State} {m : MethodId} {c : Code} (h : At T m c below) (hx : tb.exec = Jvm.exec) {pc pc' : Nat} {L : Array Slot} {S : List Value} {k : Nat} {cst : Int} {x : Int32} {l' : Array Slot} (hd : decode c.code pc = .ok (.iinc k cst, 3)) (hl : L[k]? = some (.val (.int x))) (hl' : storeLocals L k (.int (x + Int32.ofInt cst)) = some l') (hp : pc + 3 = pc') (hr : Steps tb e below (T.setTop (mkF m pc' l' S)) target) : Steps tb e below (T.setTop (mkF m pc L S)) target := by subst hp; exact XS.iinc h hx rfl hd hl hl' hr
theorem y_dup {tb : Tables} [Ours tb] {e : Env} {below : List Frame} {T target : State} {m : MethodId} {c : Code} (h : At T m c below) (hx : tb.exec = Jvm.exec) {pc pc' : Nat} {L : Array Slot} {S : List Value} {v : Value} (hd : decode c.code pc = .ok (.dup, 1)) (hc : v.category = 1) (hp : pc + 1 = pc') (hr : Steps tb e below (T.setTop (mkF m pc' L (v :: v :: S))) target) : Steps tb e below (T.setTop (mkF m pc L (v :: S))) target := by subst hp; exact XS.dup h hx rfl hd rfl hc hr
theorem y_goto {tb : Tables} [Ours tb] {e : Env} {below : List Frame} {T target : State} {m : MethodId} {c : Code} (h : At T m c below) (hx : tb.exec = Jvm.exec) {pc pc' : Nat} {L : Array Slot} {S : List Value} {o : Int} (hd : decode c.code pc = .ok (.goto o, 3)) (ho : 0 ≤ (pc : Int) + o) (hp : ((pc : Int) + o).toNat = pc') (hr : Steps tb e below (T.setTop (mkF m pc' L S)) target) : Steps tb e below (T.setTop (mkF m pc L S)) target := XS.goto h hx rfl rfl hd ho hp hr
theorem y_ifYes {tb : Tables} [Ours tb] {e : Env} {below : List Frame} {T target : State} {m : MethodId} {c : Code} (h : At T m c below) (hx : tb.exec = Jvm.exec) {pc pc' : Nat} {L : Array Slot} {S : List Value} {cd : ClassFile.Cond} {x : Int32} {o : Int} (hd : decode c.code pc = .ok (.ifCond cd o, 3)) (hc : ifCond.holds cd x = true) (ho : 0 ≤ (pc : Int) + o) (hp : ((pc : Int) + o).toNat = pc') (hr : Steps tb e below (T.setTop (mkF m pc' L S)) target) : Steps tb e below (T.setTop (mkF m pc L (.int x :: S))) target := XS.ifYes h hx rfl rfl hd rfl hc ho hp hr
theorem y_ifNo {tb : Tables} [Ours tb] {e : Env} {below : List Frame} {T target : State} {m : MethodId} {c : Code} (h : At T m c below) (hx : tb.exec = Jvm.exec) {pc pc' : Nat} {L : Array Slot} {S : List Value} {cd : ClassFile.Cond} {x : Int32} {o : Int} (hd : decode c.code pc = .ok (.ifCond cd o, 3)) (hc : ifCond.holds cd x = false) (hp : pc + 3 = pc') (hr : Steps tb e below (T.setTop (mkF m pc' L S)) target) : Steps tb e below (T.setTop (mkF m pc L (.int x :: S))) target := by subst hp; exact XS.ifNo h hx rfl hd rfl hc hr
theorem y_icmpYes {tb : Tables} [Ours tb] {e : Env} {below : List Frame} {T target : State} {m : MethodId} {c : Code} (h : At T m c below) (hx : tb.exec = Jvm.exec) {pc pc' : Nat} {L : Array Slot} {S : List Value} {cd : ClassFile.Cond} {x y : Int32} {o : Int} (hd : decode c.code pc = .ok (.if_icmp cd o, 3)) (hc : if_icmp.holds cd x y = true) (ho : 0 ≤ (pc : Int) + o) (hp : ((pc : Int) + o).toNat = pc') (hr : Steps tb e below (T.setTop (mkF m pc' L S)) target) : Steps tb e below (T.setTop (mkF m pc L (.int y :: .int x :: S))) target := XS.icmpYes h hx rfl rfl hd rfl hc ho hp hr
theorem y_icmpNo {tb : Tables} [Ours tb] {e : Env} {below : List Frame} {T target : State} {m : MethodId} {c : Code} (h : At T m c below) (hx : tb.exec = Jvm.exec) {pc pc' : Nat} {L : Array Slot} {S : List Value} {cd : ClassFile.Cond} {x y : Int32} {o : Int} (hd : decode c.code pc = .ok (.if_icmp cd o, 3)) (hc : if_icmp.holds cd x y = false) (hp : pc + 3 = pc') (hr : Steps tb e below (T.setTop (mkF m pc' L S)) target) : Steps tb e below (T.setTop (mkF m pc L (.int y :: .int x :: S))) target := by subst hp; exact XS.icmpNo h hx rfl hd rfl hc hr
theorem own_of {x k : Int32} (h : x.toInt = k.toInt) : x = k := Int32.toInt_inj.mp h
theorem own_and3 (k : Int32) : k &&& 3 = 0 ∨ k &&& 3 = 1 ∨ k &&& 3 = 2 ∨ k &&& 3 = 3 := by
  have q : (k &&& 3).toInt = k.toInt % 4 := c_mask k 3 2 (by decide) (by decide)
  generalize k &&& 3 = x at q ⊢
  have : x.toInt = 0 ∨ x.toInt = 1 ∨ x.toInt = 2 ∨ x.toInt = 3 := by omega
  rcases this with h | h | h | h
  · exact Or.inl (own_of h)
  · exact Or.inr (Or.inl (own_of h))
  · exact Or.inr (Or.inr (Or.inl (own_of h)))
  · exact Or.inr (Or.inr (Or.inr (own_of h)))
/-- the class C is not one of K's -/
def Nas (Z : State) (C K : String) : Prop := ∃ c t, Z.vm.findClass C = some c ∧ Z.vm.findClass K = some t ∧ Z.vm.assignable c t = false
theorem own_root {Z : State} {a0 : Array Value} {O K : String} {n : Nat} (w : (Cond.noSuperclass O).before a0 Z = true) (wi : (Cond.instantiable K n).before a0 Z = true) (hn : O ≠ K) : NS Z O K := by
  obtain ⟨c, k, h1, h2, h3, -, -⟩ := Cond.noSuperclass_spec w
  obtain ⟨t, kt, g1, -⟩ := Cond.instantiable_spec wi
  have ne := ids_ne h1 g1 hn
  refine ⟨c, t, h1, g1, fun fuel => ?_⟩
  cases fuel with
  | zero => rfl
  | succ f => simp [Vm.isSubclassAux, ne, h2, h3]
theorem own_nas {Z : State} {a0 : Array Value} {C S K : String} {n : Nat} (w : (Cond.superclass C S).before a0 Z = true) (wi : (Cond.instantiable K n).before a0 Z = true) (ns : NS Z C K) (hn : C ≠ K) : Nas Z C K := by
  obtain ⟨c, t, h0, g0, n3⟩ := ns
  obtain ⟨p, k, kp, h1, h2, h3, h4, h5, -, h7⟩ := Cond.superclass_spec h0 w
  obtain ⟨t', kt, g1, g2, g3, g4, -⟩ := Cond.instantiable_spec wi
  cases g0.symm.trans g1
  have ne := ids_ne h0 g0 hn
  simp only [Bool.or_eq_false_iff] at g4
  refine ⟨c, t, h0, g0, ?_⟩
  show Z.vm.assignableAux (255 + 1) c t = false
  simp [Vm.assignableAux, ne, h2, g2, h5, g3, g4.1, Vm.isSubclass, n3]
theorem own_len {args : Array Value} {first s : State} {o : Option Outcome} {idx : List Nat} {t : Term} {a : Addr} {c : Cell} {k : Int32} (ht : t.eval args first o idx s = some (.ref a)) (ha : s.arrayAt? a = some c) (h : (Term.length t).eval args first o idx s = some (.int k)) : c.slots.size < 2 ^ 31 ∧ c.slots.size.toInt32 = k := by
  simp [Term.eval, ht, ha] at h
  exact h
theorem d6_0 : decode jdk_18_method_1_code 0 = .ok (.aload_n 0, 1) := by decide +kernel
theorem d6_1 : decode jdk_18_method_1_code 1 = .ok (.invokespecial 1, 3) := by decide +kernel
theorem d6_4 : decode jdk_18_method_1_code 4 = .ok (.return_, 1) := by decide +kernel
theorem pn_java_lang_Number : plainName "java/lang/Number" = true := by first | (simp [plainName, overriddenIn]; done) | decide +kernel
theorem ef_6 (m : MethodId) (x0 : Addr) : entryFrame m #[(.ref x0)] 1 = mkF m 0 #[rv x0] [] := by first | (simp [entryFrame, mkF, argsToLocals, Value.category]; done) | rfl
def Q6 (Z : State) (pr0 : Addr) (h0 : Heap) (n0 : Nat) (v : Option Value) (h : Heap) (L : List Loc) : Prop := v = none ∧ Fr n0 L ∧ h = h0
set_option maxRecDepth 65536 in
set_option maxHeartbeats 40000000 in
theorem rm6 (l : Launch) (Z : State) (a0 : Array Value) (hw : ∀ d ∈ tables_1, d.before a0 Z = true) (ws : List Jvm.Cond) (pr0 : Addr) (h0 : Heap) (n0 : Nat) (O0 : Old Z n0 h0) (E_pr0 : Exa Z h0 pr0 "java/lang/Long") :
    MetFree l (⟨"java/lang/Number", "<init>", "()V"⟩ : MethodName) (head1 (Jvm.Cond.code (⟨"java/lang/Number", "<init>", "()V"⟩ : MethodName) jdk_18_method_1_code 1 none :: ws) ({ frames := 1, cells := 0, slots := 0, locals := 12 } : Room)) (fun a U => a = #[(.ref pr0)] ∧ Z.Warmed39 U.vm ∧ U.heap = h0) (fun _ _ _ _ _ => True) (fun _ U o U' => ∃ v L, o = .returned v ∧ Q6 Z pr0 h0 n0 v U'.heap L ∧ FrameEnd U o U' L ({ frames := 1, cells := 0, slots := 0, locals := 12 } : Room).cells ({ frames := 1, cells := 0, slots := 0, locals := 12 } : Room).slots) := by
  refine MetFree.of_bodySF (plainFor_of_name pn_java_lang_Number) hisR ?_
  intro p e s m args below meth c s₁ Bd hml0 hP hK
  obtain ⟨rfl, hZ, hh⟩ := hP
  have hx := Bd.exec
  have hby := Bd.bytes
  have hml : c.maxLocals = 1 := hml0
  have hown : s.vm.findClass "java/lang/Number" = some m.cls := findClass_of_methodNamed Bd.named
  have hnm := (name_of_methodNamed Bd.named Bd.method).1
  have X0 : Stand p l e ({ frames := 1, cells := 0, slots := 0, locals := 12 } : Room) s m #[(.ref pr0)] below meth c s₁ [] 0 0 := Stand.of_body Bd
  have e0 : s₁.heap = h0 := by rw [← hh, Bd.state]; rfl
  have N0 := Fr.nil n0
  obtain ⟨Go, hGo⟩ : ∃ P : State → Prop, ∀ t, P t ↔ Steps p.tables e below (s₁.setTop (entryFrame m #[(.ref pr0)] 1)) t := ⟨_, fun _ => Iff.rfl⟩
  have pre0 : ∀ t, Steps p.tables e below (s₁.setTop (mkF m 0 #[rv pr0] [])) t → Go t := fun t k => (hGo t).mpr (castTop (ef_6 m pr0) k)
  have pre1 : ∀ t, Steps p.tables e below (s₁.setTop (mkF m 1 #[rv pr0] [(.ref pr0)])) t → Go t := fun t kt => pre0 t (by
      refine y_aloadN X0.here hx (hb hby d6_0) rfl rfl (pc' := 1) rfl ?_
      exact kt)
  obtain ⟨T2, X2, e2, st2⟩ := initO X0 hx hZ hown (hw _ (List.mem_of_getElem? (i := 45) rfl)) (hw _ (List.mem_of_getElem? (i := 7) rfl)) (hw _ (List.mem_of_getElem? (i := 8) rfl)) e0 (g := (mkF m 1 #[rv pr0] [(.ref pr0)])) rfl (by rw [hml]; rfl) rfl (hb hby d6_1) (by decide) (W := 0) (by show 2 * 0 + _ ≤ _; exact Nat.le_of_eq rfl) (by decide)
  have pre3 : ∀ t, Steps p.tables e below (T2.setTop (mkF m 4 #[rv pr0] [])) t → Go t := fun t kt => pre1 t (st2 t kt)
  obtain ⟨fs, hr, hrun, hended, hW, hsame⟩ := X2.leave (v := none) (fun _ => rfl)
  refine ⟨_, _, (hGo _).mp (pre3 _ ?_), hrun, hended, _, _, rfl, ?_, ⟨_, rfl⟩, hW, hsame.mono (by decide) (by decide)⟩
  · exact X2.returnOut hx Bd.returns (hb hby d6_4) hr
  · show Q6 Z pr0 h0 n0 _ T2.heap _
    rw [e2]
    exact ⟨rfl, N0, rfl⟩
theorem d5_0 : decode jdk_35_method_26_code 0 = .ok (.aload_n 0, 1) := by decide +kernel
theorem d5_1 : decode jdk_35_method_26_code 1 = .ok (.invokespecial 270, 3) := by decide +kernel
theorem d5_4 : decode jdk_35_method_26_code 4 = .ok (.aload_n 0, 1) := by decide +kernel
theorem d5_5 : decode jdk_35_method_26_code 5 = .ok (.lload_n 1, 1) := by decide +kernel
theorem d5_6 : decode jdk_35_method_26_code 6 = .ok (.putfield 273, 3) := by decide +kernel
theorem d5_9 : decode jdk_35_method_26_code 9 = .ok (.return_, 1) := by decide +kernel
theorem pn_java_lang_Long : plainName "java/lang/Long" = true := by first | (simp [plainName, overriddenIn]; done) | decide +kernel
theorem pd___V : parseMethodDescriptor "()V" = some ⟨[], none⟩ := by decide +kernel
theorem ef_5 (m : MethodId) (x0 : Addr) (x1 : Int64) : entryFrame m #[(.ref x0), (.long x1)] 3 = mkF m 0 #[rv x0, jv x1, .second] [] := by first | (simp [entryFrame, mkF, argsToLocals, Value.category]; done) | rfl
def Q5 (Z : State) (pr0 : Addr) (pj1 : Int64) (h0 : Heap) (n0 : Nat) (v : Option Value) (h : Heap) (L : List Loc) : Prop := v = none ∧ Fr n0 L ∧ Keep h0 h [pr0] ∧ Fld Z h pr0 "java/lang/Long" "value" "J" (.long pj1)
set_option maxRecDepth 65536 in
set_option maxHeartbeats 40000000 in
theorem rm5 (l : Launch) (Z : State) (a0 : Array Value) (hw : ∀ d ∈ tables_1, d.before a0 Z = true) (ws : List Jvm.Cond) (pr0 : Addr) (pj1 : Int64) (h0 : Heap) (n0 : Nat) (O0 : Old Z n0 h0) (E_pr0 : Exa Z h0 pr0 "java/lang/Long") (F_value_pr0 : Fld Z h0 pr0 "java/lang/Long" "value" "J" (.long (0 : Int64))) (G_pr0 : n0 ≤ pr0) :
    MetFree l (⟨"java/lang/Long", "<init>", "(J)V"⟩ : MethodName) (head1 (Jvm.Cond.code (⟨"java/lang/Long", "<init>", "(J)V"⟩ : MethodName) jdk_35_method_26_code 3 none :: ws) ({ frames := 2, cells := 0, slots := 0, locals := 24 } : Room)) (fun a U => a = #[(.ref pr0), (.long pj1)] ∧ Z.Warmed39 U.vm ∧ U.heap = h0) (fun _ _ _ _ _ => True) (fun _ U o U' => ∃ v L, o = .returned v ∧ Q5 Z pr0 pj1 h0 n0 v U'.heap L ∧ FrameEnd U o U' L ({ frames := 2, cells := 0, slots := 0, locals := 24 } : Room).cells ({ frames := 2, cells := 0, slots := 0, locals := 24 } : Room).slots) := by
  refine MetFree.of_bodySF (plainFor_of_name pn_java_lang_Long) hisR ?_
  intro p e s m args below meth c s₁ Bd hml0 hP hK
  obtain ⟨rfl, hZ, hh⟩ := hP
  have hx := Bd.exec
  have hby := Bd.bytes
  have hml : c.maxLocals = 3 := hml0
  have hown : s.vm.findClass "java/lang/Long" = some m.cls := findClass_of_methodNamed Bd.named
  have hnm := (name_of_methodNamed Bd.named Bd.method).1
  have X0 : Stand p l e ({ frames := 2, cells := 0, slots := 0, locals := 24 } : Room) s m #[(.ref pr0), (.long pj1)] below meth c s₁ [] 0 0 := Stand.of_body Bd
  have e0 : s₁.heap = h0 := by rw [← hh, Bd.state]; rfl
  have N0 := Fr.nil n0
  obtain ⟨Go, hGo⟩ : ∃ P : State → Prop, ∀ t, P t ↔ Steps p.tables e below (s₁.setTop (entryFrame m #[(.ref pr0), (.long pj1)] 3)) t := ⟨_, fun _ => Iff.rfl⟩
  have pre0 : ∀ t, Steps p.tables e below (s₁.setTop (mkF m 0 #[rv pr0, jv pj1, .second] [])) t → Go t := fun t k => (hGo t).mpr (castTop (ef_5 m pr0 pj1) k)
  have K0 : Keep h0 h0 [pr0] := Keep.refl _ _
  have pre1 : ∀ t, Steps p.tables e below (s₁.setTop (mkF m 1 #[rv pr0, jv pj1, .second] [(.ref pr0)])) t → Go t := fun t kt => pre0 t (by
      refine y_aloadN X0.here hx (hb hby d5_0) rfl rfl (pc' := 1) rfl ?_
      exact kt)
  obtain ⟨v2, _, ⟨T2, L2, k2, n2⟩, -, X2, ⟨Lc2, hQ2, l2, y2, z2⟩, st2⟩ := X0.specialBack hx (y := (⟨"java/lang/Number", "<init>", "()V"⟩ : MethodName)) rfl hown (mvT hZ (hw _ (List.mem_of_getElem? (i := 39) rfl))) (mvT hZ (hw _ (List.mem_of_getElem? (i := 40) rfl))) (mvT hZ (hw _ (List.mem_of_getElem? (i := 44) rfl))) (by decide) (backOf (W := 0) (rm6 l Z a0 hw [] pr0 h0 n0 O0 E_pr0) hZ (hw _ (List.mem_of_getElem? (i := 44) rfl)) (hw _ (List.mem_of_getElem? (i := 43) rfl)) (by decide) (by decide)) (g := (mkF m 1 #[rv pr0, jv pj1, .second] [(.ref pr0)])) rfl (by rw [hml]; rfl) (Steps.refl _) (a := pr0) (argsL := []) (rest := []) (lenOf pd___V rfl) rfl (by show 2 * 0 + _ ≤ _; exact Nat.le_of_eq rfl) (hb hby d5_1) (fun _ _ => ⟨rfl, e0, (by decide : 0 + 0 ≤ _), (by decide : 0 + 0 ≤ _)⟩)
  dsimp only [Pt.U, Pt.locs, Pt.cells, Pt.slots] at X2 l2 y2 z2 st2 hQ2
  subst l2 y2 z2
  obtain ⟨hv2, N2q, e2q⟩ := hQ2
  have N3 := Fr.app N0 N2q
  subst hv2
  have pre4 : ∀ t, Steps p.tables e below (T2.setTop (mkF m 4 #[rv pr0, jv pj1, .second] [])) t → Go t := fun t kt => pre1 t (st2.trans kt)
  have pre5 : ∀ t, Steps p.tables e below (T2.setTop (mkF m 6 #[rv pr0, jv pj1, .second] [(.long pj1), (.ref pr0)])) t → Go t := fun t kt => pre4 t (by
      refine y_aloadN X2.here hx (hb hby d5_4) rfl rfl (pc' := 5) rfl ?_
      refine y_lloadN X2.here hx (hb hby d5_5) rfl (pc' := 6) rfl ?_
      exact kt)
  obtain ⟨T6, h6, X6, e6, W6, st6⟩ := putF X2 hx hZ hown (host := "") (Or.inl (hw _ (List.mem_of_getElem? (i := 46) rfl))) Via.refl e2q F_value_pr0 E_pr0 (Or.inr ⟨(hw _ (List.mem_of_getElem? (i := 47) rfl)), rfl, hnm⟩) (hw _ (List.mem_of_getElem? (i := 34) rfl)) (ty := .long) (by decide) rfl rfl (g := (mkF m 6 #[rv pr0, jv pj1, .second] [(.long pj1), (.ref pr0)])) rfl rfl (hb hby d5_6)
  have pre7 : ∀ t, Steps p.tables e below (T6.setTop (mkF m 9 #[rv pr0, jv pj1, .second] [])) t → Go t := fun t kt => pre5 t (st6 t kt)
  have f8 : Exa Z h6 pr0 "java/lang/Long" := (E_pr0.wr W6)
  have f10 : Fld Z h6 pr0 "java/lang/Long" "value" "J" (.long pj1) := F_value_pr0.same W6
  have N11 := Fr.snoc X6 N3 G_pr0
  have O11 := O0.wr W6 G_pr0
  have K11 : Keep h0 h6 [pr0] := K0.wr W6 (Or.inl (List.mem_of_getElem? (i := 0) rfl))
  obtain ⟨fs, hr, hrun, hended, hW, hsame⟩ := X6.leave (v := none) (fun _ => rfl)
  refine ⟨_, _, (hGo _).mp (pre7 _ ?_), hrun, hended, _, _, rfl, ?_, ⟨_, rfl⟩, hW, hsame.mono (by decide) (by decide)⟩
  · exact X6.returnOut hx Bd.returns (hb hby d5_9) hr
  · show Q5 Z pr0 pj1 h0 n0 _ T6.heap _
    rw [e6]
    exact ⟨rfl, N11, K11, f10⟩
theorem own_in {c : Cell} {x : Int64} (S : c.slots.size = (256 : Int32).toNatClampNeg) (h1 : ¬ (x < (-128 : Int64))) (h2 : ¬ ((127 : Int64) < x)) : ¬ ((x.toInt32) + (128 : Int32) < 0 ∨ c.slots.size ≤ ((x.toInt32) + (128 : Int32)).toNatClampNeg) := by
  have q1 := c_l2i x
  have q2 := c_iadd x.toInt32 128
  have q3 := x.toInt32.le_toInt
  have q4 := x.toInt32.toInt_lt
  have q5 := (x.toInt32 + 128).le_toInt
  have q6 := (x.toInt32 + 128).toInt_lt
  have e1 : (128 : Int32).toInt = 128 := rfl
  have e2 : (-128 : Int64).toInt = -128 := rfl
  have e3 : (127 : Int64).toInt = 127 := rfl
  have e4 : (0 : Int32).toInt = 0 := rfl
  have e5 : (256 : Int32).toInt = 256 := rfl
  refine inb_of S ⟨?_, ?_⟩
  · rw [Int32.lt_iff_toInt_lt]; rw [Int64.lt_iff_toInt_lt] at h1 h2; omega
  · rw [Int32.lt_iff_toInt_lt]; rw [Int64.lt_iff_toInt_lt] at h1 h2; omega
theorem d4_0 : decode jdk_35_method_24_code 0 = .ok (.sipush 128, 3) := by decide +kernel
theorem d4_3 : decode jdk_35_method_24_code 3 = .ok (.istore_n 2, 1) := by decide +kernel
theorem d4_4 : decode jdk_35_method_24_code 4 = .ok (.lload_n 0, 1) := by decide +kernel
theorem d4_5 : decode jdk_35_method_24_code 5 = .ok (.ldc2_w 230, 3) := by decide +kernel
theorem d4_8 : decode jdk_35_method_24_code 8 = .ok (.lcmp, 1) := by decide +kernel
theorem d4_9 : decode jdk_35_method_24_code 9 = .ok (.ifCond .lt 22, 3) := by decide +kernel
theorem d4_12 : decode jdk_35_method_24_code 12 = .ok (.lload_n 0, 1) := by decide +kernel
theorem d4_13 : decode jdk_35_method_24_code 13 = .ok (.ldc2_w 232, 3) := by decide +kernel
theorem d4_16 : decode jdk_35_method_24_code 16 = .ok (.lcmp, 1) := by decide +kernel
theorem d4_17 : decode jdk_35_method_24_code 17 = .ok (.ifCond .gt 14, 3) := by decide +kernel
theorem d4_20 : decode jdk_35_method_24_code 20 = .ok (.getstatic 234, 3) := by decide +kernel
theorem d4_23 : decode jdk_35_method_24_code 23 = .ok (.lload_n 0, 1) := by decide +kernel
theorem d4_24 : decode jdk_35_method_24_code 24 = .ok (.l2i, 1) := by decide +kernel
theorem d4_25 : decode jdk_35_method_24_code 25 = .ok (.sipush 128, 3) := by decide +kernel
theorem d4_28 : decode jdk_35_method_24_code 28 = .ok (.iadd, 1) := by decide +kernel
theorem d4_29 : decode jdk_35_method_24_code 29 = .ok (.aaload, 1) := by decide +kernel
theorem d4_30 : decode jdk_35_method_24_code 30 = .ok (.areturn, 1) := by decide +kernel
theorem d4_31 : decode jdk_35_method_24_code 31 = .ok (.new 1, 3) := by decide +kernel
theorem d4_34 : decode jdk_35_method_24_code 34 = .ok (.dup, 1) := by decide +kernel
theorem d4_35 : decode jdk_35_method_24_code 35 = .ok (.lload_n 0, 1) := by decide +kernel
theorem d4_36 : decode jdk_35_method_24_code 36 = .ok (.invokespecial 240, 3) := by decide +kernel
theorem d4_39 : decode jdk_35_method_24_code 39 = .ok (.areturn, 1) := by decide +kernel
theorem pd__J_V : parseMethodDescriptor "(J)V" = some ⟨[.long], none⟩ := by decide +kernel
theorem ef_4 (m : MethodId) (x0 : Int64) : entryFrame m #[(.long x0)] 3 = mkF m 0 #[jv x0, .second, .unset] [] := by first | (simp [entryFrame, mkF, argsToLocals, Value.category]; done) | rfl
def Q4 (Z : State) (pj0 : Int64) (w_cache : Addr) (cc : Cell) (h0 : Heap) (n0 : Nat) (v : Option Value) (h : Heap) (L : List Loc) : Prop := (∃ b : Addr, v = some (.ref b) ∧ Exa Z h b "java/lang/Long") ∧ Fr n0 L ∧ Keep h0 h []
set_option maxRecDepth 65536 in
set_option maxHeartbeats 40000000 in
theorem rm4 (l : Launch) (Z : State) (a0 : Array Value) (hw : ∀ d ∈ tables_1, d.before a0 Z = true) (ws : List Jvm.Cond) (pj0 : Int64) (w_cache : Addr) (cc : Cell) (h0 : Heap) (n0 : Nat) (O0 : Old Z n0 h0) (S_cache : Sta Z Z.heap "java/lang/Long$LongCache" "cache" "[Ljava/lang/Long;" (.ref w_cache)) (CA : Bxs Z w_cache cc "java/lang/Long" "J" (256 : Int32) (fun j => .long (j - 128).toInt64)) :
    MetFree l (⟨"java/lang/Long", "valueOf", "(J)Ljava/lang/Long;"⟩ : MethodName) (head1 (Jvm.Cond.code (⟨"java/lang/Long", "valueOf", "(J)Ljava/lang/Long;"⟩ : MethodName) jdk_35_method_24_code 3 (some (.object "java/lang/Long")) :: ws) ({ frames := 3, cells := 1, slots := 1, locals := 39 } : Room)) (fun a U => a = #[(.long pj0)] ∧ Z.Warmed39 U.vm ∧ U.heap = h0) (fun _ _ _ _ _ => True) (fun _ U o U' => ∃ v L, o = .returned v ∧ Q4 Z pj0 w_cache cc h0 n0 v U'.heap L ∧ FrameEnd U o U' L ({ frames := 3, cells := 1, slots := 1, locals := 39 } : Room).cells ({ frames := 3, cells := 1, slots := 1, locals := 39 } : Room).slots) := by
  refine MetFree.of_bodySF (plainFor_of_name pn_java_lang_Long) hisR ?_
  intro p e s m args below meth c s₁ Bd hml0 hP hK
  obtain ⟨rfl, hZ, hh⟩ := hP
  have hx := Bd.exec
  have hby := Bd.bytes
  have hml : c.maxLocals = 3 := hml0
  have hown : s.vm.findClass "java/lang/Long" = some m.cls := findClass_of_methodNamed Bd.named
  have hnm := (name_of_methodNamed Bd.named Bd.method).1
  have X0 : Stand p l e ({ frames := 3, cells := 1, slots := 1, locals := 39 } : Room) s m #[(.long pj0)] below meth c s₁ [] 0 0 := Stand.of_body Bd
  have e0 : s₁.heap = h0 := by rw [← hh, Bd.state]; rfl
  have N0 := Fr.nil n0
  obtain ⟨Go, hGo⟩ : ∃ P : State → Prop, ∀ t, P t ↔ Steps p.tables e below (s₁.setTop (entryFrame m #[(.long pj0)] 3)) t := ⟨_, fun _ => Iff.rfl⟩
  have pre0 : ∀ t, Steps p.tables e below (s₁.setTop (mkF m 0 #[jv pj0, .second, .unset] [])) t → Go t := fun t k => (hGo t).mpr (castTop (ef_4 m pj0) k)
  have K0 : Keep h0 h0 [] := Keep.refl _ _
  have pre1 : ∀ t, Steps p.tables e below (s₁.setTop (mkF m 9 #[jv pj0, .second, iv (128 : Int32)] [(.int (lcmpW pj0 (-128 : Int64)))])) t → Go t := fun t kt => pre0 t (by
      refine y_sipush X0.here hx (hb hby d4_0) (v := (128 : Int32)) rfl (pc' := 3) rfl ?_
      refine y_istoreN X0.here hx (hb hby d4_3) (l' := #[jv pj0, .second, iv (128 : Int32)]) rfl (pc' := 4) rfl ?_
      refine y_lloadN X0.here hx (hb hby d4_4) rfl (pc' := 5) rfl ?_
      refine X0.ldc2Long hx hown (mvT hZ (hw _ (List.mem_of_getElem? (i := 26) rfl))) (g := (mkF m 5 #[jv pj0, .second, iv (128 : Int32)] [(.long pj0)])) rfl (hb hby d4_5) _ ?_
      show Steps p.tables e below (s₁.setTop (mkF m 8 #[jv pj0, .second, iv (128 : Int32)] [(.long (-128 : Int64)), (.long pj0)])) _
      refine y_lcmp X0.here hx (hb hby d4_8) (pc' := 9) rfl ?_
      exact kt)
  by_cases hc9_2 : pj0 < (-128 : Int64)
  · have pre3 : ∀ t, Steps p.tables e below (s₁.setTop (mkF m 31 #[jv pj0, .second, iv (128 : Int32)] [])) t → Go t := fun t kt => pre1 t (by
        refine y_ifYes X0.here hx (hb hby d4_9) ((if0 _ _).trans (tlt (lq_lt hc9_2)).1) (pc' := 31) (by decide) rfl ?_
        exact kt)
    obtain ⟨T4, h4, X4, e4, E4, A4, D4, -, st4⟩ := newO X0 hx hZ hown (hw _ (List.mem_of_getElem? (i := 33) rfl)) (hw _ (List.mem_of_getElem? (i := 34) rfl)) (hw _ (List.mem_of_getElem? (i := 24) rfl)) e0 (g := (mkF m 31 #[jv pj0, .second, iv (128 : Int32)] [])) rfl (hb hby d4_31) (by decide) (by decide)
    obtain ⟨b4, g4⟩ : ∃ z, z = h0.size := ⟨_, rfl⟩
    rw [← g4] at A4 D4 st4
    have pre5 : ∀ t, Steps p.tables e below (T4.setTop (mkF m 34 #[jv pj0, .second, iv (128 : Int32)] [(.ref b4)])) t → Go t := fun t kt => pre3 t (st4 t kt)
    have G6 : n0 ≤ b4 := Nat.le_trans (O0.1 ▸ O0.2.1) (Nat.le_of_eq g4.symm)
    have Z6 : h0.size ≤ b4 := Nat.le_trans K0.1 (Nat.le_of_eq g4.symm)
    have O6 := O0.ext E4
    have K6 : Keep h0 h4 [] := K0.ext E4
    have f7 : Fld Z h4 b4 "java/lang/Long" "value" "J" (.long (0 : Int64)) := D4 (Or.inr (hw _ (List.mem_of_getElem? (i := 47) rfl))) (ty := .long) (by decide)
    have pre8 : ∀ t, Steps p.tables e below (T4.setTop (mkF m 36 #[jv pj0, .second, iv (128 : Int32)] [(.long pj0), (.ref b4), (.ref b4)])) t → Go t := fun t kt => pre5 t (by
        refine y_dup X4.here hx (hb hby d4_34) rfl (pc' := 35) rfl ?_
        refine y_lloadN X4.here hx (hb hby d4_35) rfl (pc' := 36) rfl ?_
        exact kt)
    obtain ⟨v9, _, ⟨T9, L9, k9, n9⟩, -, X9, ⟨Lc9, hQ9, l9, y9, z9⟩, st9⟩ := X4.specialBack hx (y := (⟨"java/lang/Long", "<init>", "(J)V"⟩ : MethodName)) rfl hown (mvT hZ (hw _ (List.mem_of_getElem? (i := 35) rfl))) (mvT hZ (hw _ (List.mem_of_getElem? (i := 36) rfl))) (mvT hZ (hw _ (List.mem_of_getElem? (i := 38) rfl))) (by decide) (backOf (W := 1) (rm5 l Z a0 hw [] b4 pj0 h4 n0 O6 A4 f7 G6) hZ (hw _ (List.mem_of_getElem? (i := 38) rfl)) (hw _ (List.mem_of_getElem? (i := 24) rfl)) (by decide) (by decide)) (g := (mkF m 36 #[jv pj0, .second, iv (128 : Int32)] [(.long pj0), (.ref b4), (.ref b4)])) rfl (by rw [hml]; rfl) (Steps.refl _) (a := b4) (argsL := [(.long pj0)]) (rest := [(.ref b4)]) (lenOf pd__J_V rfl) rfl (by show 2 * 0 + _ ≤ _; exact Nat.le_of_eq rfl) (hb hby d4_36) (fun _ _ => ⟨rfl, e4, (by decide : 1 + 0 ≤ _), (by decide : 1 + 0 ≤ _)⟩)
    dsimp only [Pt.U, Pt.locs, Pt.cells, Pt.slots] at X9 l9 y9 z9 st9 hQ9
    subst l9 y9 z9
    obtain ⟨hv9, N9q, K9q, p9_0⟩ := hQ9
    have N10 := Fr.app N0 N9q
    subst hv9
    have pre11 : ∀ t, Steps p.tables e below (T9.setTop (mkF m 39 #[jv pj0, .second, iv (128 : Int32)] [(.ref b4)])) t → Go t := fun t kt => pre8 t (st9.trans kt)
    obtain ⟨h9, eh9⟩ : ∃ z, T9.heap = z := ⟨_, rfl⟩
    rw [eh9] at K9q p9_0
    have f12 : Exa Z h9 b4 "java/lang/Long" := (A4.keep K9q)
    have O14 := O6.keep K9q (allS G6 all0)
    have K14 : Keep h0 h9 [] := K6.trans K9q (allS (P := fun x => x ∈ [] ∨ h0.size ≤ x) (Or.inr Z6) all0)
    obtain ⟨fs, hr, hrun, hended, hW, hsame⟩ := X9.leave (v := some (.ref b4)) (fun h => by rw [Bd.returns] at h; cases h)
    refine ⟨_, _, (hGo _).mp (pre11 _ ?_), hrun, hended, _, _, rfl, ?_, ⟨_, rfl⟩, hW, hsame.mono (by decide) (by decide)⟩
    · exact retOut X9 hx Bd.returns rfl (Or.inr (Or.inr (Or.inr (Or.inr ⟨rfl, rfl, rfl⟩)))) (hb hby d4_39) hr
    · show Q4 Z pj0 w_cache cc h0 n0 _ T9.heap _
      rw [eh9]
      exact ⟨⟨_, rfl, f12⟩, N10, K14⟩
  · have pre15 : ∀ t, Steps p.tables e below (s₁.setTop (mkF m 17 #[jv pj0, .second, iv (128 : Int32)] [(.int (lcmpW pj0 (127 : Int64)))])) t → Go t := fun t kt => pre1 t (by
        refine y_ifNo X0.here hx (hb hby d4_9) ((if0 _ _).trans (flt (lq_nlt hc9_2)).1) (pc' := 12) rfl ?_
        refine y_lloadN X0.here hx (hb hby d4_12) rfl (pc' := 13) rfl ?_
        refine X0.ldc2Long hx hown (mvT hZ (hw _ (List.mem_of_getElem? (i := 27) rfl))) (g := (mkF m 13 #[jv pj0, .second, iv (128 : Int32)] [(.long pj0)])) rfl (hb hby d4_13) _ ?_
        show Steps p.tables e below (s₁.setTop (mkF m 16 #[jv pj0, .second, iv (128 : Int32)] [(.long (127 : Int64)), (.long pj0)])) _
        refine y_lcmp X0.here hx (hb hby d4_16) (pc' := 17) rfl ?_
        exact kt)
    by_cases hc17_16 : (127 : Int64) < pj0
    · have pre17 : ∀ t, Steps p.tables e below (s₁.setTop (mkF m 31 #[jv pj0, .second, iv (128 : Int32)] [])) t → Go t := fun t kt => pre15 t (by
          refine y_ifYes X0.here hx (hb hby d4_17) ((if0 _ _).trans (tlt (lq_gt hc17_16)).2.2.1) (pc' := 31) (by decide) rfl ?_
          exact kt)
      obtain ⟨T18, h18, X18, e18, E18, A18, D18, -, st18⟩ := newO X0 hx hZ hown (hw _ (List.mem_of_getElem? (i := 33) rfl)) (hw _ (List.mem_of_getElem? (i := 34) rfl)) (hw _ (List.mem_of_getElem? (i := 24) rfl)) e0 (g := (mkF m 31 #[jv pj0, .second, iv (128 : Int32)] [])) rfl (hb hby d4_31) (by decide) (by decide)
      obtain ⟨b18, g18⟩ : ∃ z, z = h0.size := ⟨_, rfl⟩
      rw [← g18] at A18 D18 st18
      have pre19 : ∀ t, Steps p.tables e below (T18.setTop (mkF m 34 #[jv pj0, .second, iv (128 : Int32)] [(.ref b18)])) t → Go t := fun t kt => pre17 t (st18 t kt)
      have G20 : n0 ≤ b18 := Nat.le_trans (O0.1 ▸ O0.2.1) (Nat.le_of_eq g18.symm)
      have Z20 : h0.size ≤ b18 := Nat.le_trans K0.1 (Nat.le_of_eq g18.symm)
      have O20 := O0.ext E18
      have K20 : Keep h0 h18 [] := K0.ext E18
      have f21 : Fld Z h18 b18 "java/lang/Long" "value" "J" (.long (0 : Int64)) := D18 (Or.inr (hw _ (List.mem_of_getElem? (i := 47) rfl))) (ty := .long) (by decide)
      have pre22 : ∀ t, Steps p.tables e below (T18.setTop (mkF m 36 #[jv pj0, .second, iv (128 : Int32)] [(.long pj0), (.ref b18), (.ref b18)])) t → Go t := fun t kt => pre19 t (by
          refine y_dup X18.here hx (hb hby d4_34) rfl (pc' := 35) rfl ?_
          refine y_lloadN X18.here hx (hb hby d4_35) rfl (pc' := 36) rfl ?_
          exact kt)
      obtain ⟨v23, _, ⟨T23, L23, k23, n23⟩, -, X23, ⟨Lc23, hQ23, l23, y23, z23⟩, st23⟩ := X18.specialBack hx (y := (⟨"java/lang/Long", "<init>", "(J)V"⟩ : MethodName)) rfl hown (mvT hZ (hw _ (List.mem_of_getElem? (i := 35) rfl))) (mvT hZ (hw _ (List.mem_of_getElem? (i := 36) rfl))) (mvT hZ (hw _ (List.mem_of_getElem? (i := 38) rfl))) (by decide) (backOf (W := 1) (rm5 l Z a0 hw [] b18 pj0 h18 n0 O20 A18 f21 G20) hZ (hw _ (List.mem_of_getElem? (i := 38) rfl)) (hw _ (List.mem_of_getElem? (i := 24) rfl)) (by decide) (by decide)) (g := (mkF m 36 #[jv pj0, .second, iv (128 : Int32)] [(.long pj0), (.ref b18), (.ref b18)])) rfl (by rw [hml]; rfl) (Steps.refl _) (a := b18) (argsL := [(.long pj0)]) (rest := [(.ref b18)]) (lenOf pd__J_V rfl) rfl (by show 2 * 0 + _ ≤ _; exact Nat.le_of_eq rfl) (hb hby d4_36) (fun _ _ => ⟨rfl, e18, (by decide : 1 + 0 ≤ _), (by decide : 1 + 0 ≤ _)⟩)
      dsimp only [Pt.U, Pt.locs, Pt.cells, Pt.slots] at X23 l23 y23 z23 st23 hQ23
      subst l23 y23 z23
      obtain ⟨hv23, N23q, K23q, p23_0⟩ := hQ23
      have N24 := Fr.app N0 N23q
      subst hv23
      have pre25 : ∀ t, Steps p.tables e below (T23.setTop (mkF m 39 #[jv pj0, .second, iv (128 : Int32)] [(.ref b18)])) t → Go t := fun t kt => pre22 t (st23.trans kt)
      obtain ⟨h23, eh23⟩ : ∃ z, T23.heap = z := ⟨_, rfl⟩
      rw [eh23] at K23q p23_0
      have f26 : Exa Z h23 b18 "java/lang/Long" := (A18.keep K23q)
      have O28 := O20.keep K23q (allS G20 all0)
      have K28 : Keep h0 h23 [] := K20.trans K23q (allS (P := fun x => x ∈ [] ∨ h0.size ≤ x) (Or.inr Z20) all0)
      obtain ⟨fs, hr, hrun, hended, hW, hsame⟩ := X23.leave (v := some (.ref b18)) (fun h => by rw [Bd.returns] at h; cases h)
      refine ⟨_, _, (hGo _).mp (pre25 _ ?_), hrun, hended, _, _, rfl, ?_, ⟨_, rfl⟩, hW, hsame.mono (by decide) (by decide)⟩
      · exact retOut X23 hx Bd.returns rfl (Or.inr (Or.inr (Or.inr (Or.inr ⟨rfl, rfl, rfl⟩)))) (hb hby d4_39) hr
      · show Q4 Z pj0 w_cache cc h0 n0 _ T23.heap _
        rw [eh23]
        exact ⟨⟨_, rfl, f26⟩, N24, K28⟩
    · have pre29 : ∀ t, Steps p.tables e below (s₁.setTop (mkF m 20 #[jv pj0, .second, iv (128 : Int32)] [])) t → Go t := fun t kt => pre15 t (by
          refine y_ifNo X0.here hx (hb hby d4_17) ((if0 _ _).trans (flt (lq_ngt hc17_16)).2.2.1) (pc' := 20) rfl ?_
          exact kt)
      obtain ⟨T30, X30, e30, st30⟩ := getS2 X0 hx hZ hown (host := "") (Or.inl (hw _ (List.mem_of_getElem? (i := 28) rfl))) Via.refl e0 (S_cache.ext O0.2) (g := (mkF m 20 #[jv pj0, .second, iv (128 : Int32)] [])) rfl (hb hby d4_20)
      have pre31 : ∀ t, Steps p.tables e below (T30.setTop (mkF m 23 #[jv pj0, .second, iv (128 : Int32)] [(.ref w_cache)])) t → Go t := fun t kt => pre29 t (st30 t kt)
      have pre32 : ∀ t, Steps p.tables e below (T30.setTop (mkF m 29 #[jv pj0, .second, iv (128 : Int32)] [(.int ((pj0.toInt32) + (128 : Int32))), (.ref w_cache)])) t → Go t := fun t kt => pre31 t (by
          refine y_lloadN X30.here hx (hb hby d4_23) rfl (pc' := 24) rfl ?_
          refine y_l2i X30.here hx (hb hby d4_24) (z := (pj0.toInt32)) rfl (pc' := 25) rfl ?_
          refine y_sipush X30.here hx (hb hby d4_25) (v := (128 : Int32)) rfl (pc' := 28) rfl ?_
          refine y_iadd X30.here hx (hb hby d4_28) rfl (pc' := 29) rfl ?_
          exact kt)
      have hin33 : ¬ (((pj0.toInt32) + (128 : Int32)) < 0 ∨ cc.slots.size ≤ (((pj0.toInt32) + (128 : Int32))).toNatClampNeg) := own_in CA.2.1 hc9_2 hc17_16
      obtain ⟨b33, u33, B33, -⟩ := CA.2.2.2 _ hin33
      have A33 := CA.1.ext O0.2
      have pre34 : ∀ t, Steps p.tables e below (T30.setTop (mkF m 30 #[jv pj0, .second, iv (128 : Int32)] [(.ref b33)])) t → Go t := fun t kt => pre32 t (by
          refine X30.aaload hx (j := ((pj0.toInt32) + (128 : Int32))) (v := (.ref b33)) (by rw [e30]; exact A33.1) (State.isArrayOf_alike hZ.alike A33.2.1) rfl A33.2.2 hin33 u33 (g := (mkF m 29 #[jv pj0, .second, iv (128 : Int32)] [(.int ((pj0.toInt32) + (128 : Int32))), (.ref w_cache)])) rfl rfl (hb hby d4_29) _ ?_
          show Steps p.tables e below (T30.setTop (mkF m 30 #[jv pj0, .second, iv (128 : Int32)] [(.ref b33)])) _
          exact kt)
      obtain ⟨fs, hr, hrun, hended, hW, hsame⟩ := X30.leave (v := some (.ref b33)) (fun h => by rw [Bd.returns] at h; cases h)
      refine ⟨_, _, (hGo _).mp (pre34 _ ?_), hrun, hended, _, _, rfl, ?_, ⟨_, rfl⟩, hW, hsame.mono (by decide) (by decide)⟩
      · exact retOut X30 hx Bd.returns rfl (Or.inr (Or.inr (Or.inr (Or.inr ⟨rfl, rfl, rfl⟩)))) (hb hby d4_30) hr
      · show Q4 Z pj0 w_cache cc h0 n0 _ T30.heap _
        rw [e30]
        exact ⟨⟨_, rfl, (B33.ext O0.2)⟩, N0, K0⟩
theorem d1_0 : decode prog_23_method_1_code 0 = .ok (.aload_n 0, 1) := by decide +kernel
theorem d1_1 : decode prog_23_method_1_code 1 = .ok (.invokespecial 3, 3) := by decide +kernel
theorem d1_4 : decode prog_23_method_1_code 4 = .ok (.aload_n 0, 1) := by decide +kernel
theorem d1_5 : decode prog_23_method_1_code 5 = .ok (.lload_n 1, 1) := by decide +kernel
theorem d1_6 : decode prog_23_method_1_code 6 = .ok (.putfield 9, 3) := by decide +kernel
theorem d1_9 : decode prog_23_method_1_code 9 = .ok (.aload_n 0, 1) := by decide +kernel
theorem d1_10 : decode prog_23_method_1_code 10 = .ok (.lload_n 3, 1) := by decide +kernel
theorem d1_11 : decode prog_23_method_1_code 11 = .ok (.putfield 15, 3) := by decide +kernel
theorem d1_14 : decode prog_23_method_1_code 14 = .ok (.aload_n 0, 1) := by decide +kernel
theorem d1_15 : decode prog_23_method_1_code 15 = .ok (.lload 5, 2) := by decide +kernel
theorem d1_17 : decode prog_23_method_1_code 17 = .ok (.putfield 18, 3) := by decide +kernel
theorem d1_20 : decode prog_23_method_1_code 20 = .ok (.return_, 1) := by decide +kernel
theorem pn_com_example_roamd_roamd_net_Receipt : plainName "com/example/roamd/roamd/net/Receipt" = true := by first | (simp [plainName, overriddenIn]; done) | decide +kernel
theorem ef_1 (m : MethodId) (x0 : Addr) (x1 : Int64) (x2 : Int64) (x3 : Int64) : entryFrame m #[(.ref x0), (.long x1), (.long x2), (.long x3)] 7 = mkF m 0 #[rv x0, jv x1, .second, jv x2, .second, jv x3, .second] [] := by first | (simp [entryFrame, mkF, argsToLocals, Value.category]; done) | rfl
def Q1 (Z : State) (pr0 : Addr) (pj1 : Int64) (pj2 : Int64) (pj3 : Int64) (h0 : Heap) (n0 : Nat) (v : Option Value) (h : Heap) (L : List Loc) : Prop := v = none ∧ Fr n0 L ∧ Keep h0 h [pr0] ∧ Fld Z h pr0 "com/example/roamd/roamd/net/Receipt" "session" "J" (.long pj1) ∧ Fld Z h pr0 "com/example/roamd/roamd/net/Receipt" "floor" "J" (.long pj2) ∧ Fld Z h pr0 "com/example/roamd/roamd/net/Receipt" "marks" "J" (.long pj3)
set_option maxRecDepth 65536 in
set_option maxHeartbeats 40000000 in
theorem rm1 (l : Launch) (Z : State) (a0 : Array Value) (hw : ∀ d ∈ tables_1, d.before a0 Z = true) (ws : List Jvm.Cond) (pr0 : Addr) (pj1 : Int64) (pj2 : Int64) (pj3 : Int64) (h0 : Heap) (n0 : Nat) (O0 : Old Z n0 h0) (E_pr0 : Exa Z h0 pr0 "com/example/roamd/roamd/net/Receipt") (F_session_pr0 : Fld Z h0 pr0 "com/example/roamd/roamd/net/Receipt" "session" "J" (.long (0 : Int64))) (F_floor_pr0 : Fld Z h0 pr0 "com/example/roamd/roamd/net/Receipt" "floor" "J" (.long (0 : Int64))) (F_marks_pr0 : Fld Z h0 pr0 "com/example/roamd/roamd/net/Receipt" "marks" "J" (.long (0 : Int64))) (G_pr0 : n0 ≤ pr0) :
    MetFree l (⟨"com/example/roamd/roamd/net/Receipt", "<init>", "(JJJ)V"⟩ : MethodName) (head1 (Jvm.Cond.code (⟨"com/example/roamd/roamd/net/Receipt", "<init>", "(JJJ)V"⟩ : MethodName) prog_23_method_1_code 7 none :: ws) ({ frames := 1, cells := 0, slots := 0, locals := 12 } : Room)) (fun a U => a = #[(.ref pr0), (.long pj1), (.long pj2), (.long pj3)] ∧ Z.Warmed39 U.vm ∧ U.heap = h0) (fun _ _ _ _ _ => True) (fun _ U o U' => ∃ v L, o = .returned v ∧ Q1 Z pr0 pj1 pj2 pj3 h0 n0 v U'.heap L ∧ FrameEnd U o U' L ({ frames := 1, cells := 0, slots := 0, locals := 12 } : Room).cells ({ frames := 1, cells := 0, slots := 0, locals := 12 } : Room).slots) := by
  refine MetFree.of_bodySF (plainFor_of_name pn_com_example_roamd_roamd_net_Receipt) hisR ?_
  intro p e s m args below meth c s₁ Bd hml0 hP hK
  obtain ⟨rfl, hZ, hh⟩ := hP
  have hx := Bd.exec
  have hby := Bd.bytes
  have hml : c.maxLocals = 7 := hml0
  have hown : s.vm.findClass "com/example/roamd/roamd/net/Receipt" = some m.cls := findClass_of_methodNamed Bd.named
  have hnm := (name_of_methodNamed Bd.named Bd.method).1
  have X0 : Stand p l e ({ frames := 1, cells := 0, slots := 0, locals := 12 } : Room) s m #[(.ref pr0), (.long pj1), (.long pj2), (.long pj3)] below meth c s₁ [] 0 0 := Stand.of_body Bd
  have e0 : s₁.heap = h0 := by rw [← hh, Bd.state]; rfl
  have N0 := Fr.nil n0
  obtain ⟨Go, hGo⟩ : ∃ P : State → Prop, ∀ t, P t ↔ Steps p.tables e below (s₁.setTop (entryFrame m #[(.ref pr0), (.long pj1), (.long pj2), (.long pj3)] 7)) t := ⟨_, fun _ => Iff.rfl⟩
  have pre0 : ∀ t, Steps p.tables e below (s₁.setTop (mkF m 0 #[rv pr0, jv pj1, .second, jv pj2, .second, jv pj3, .second] [])) t → Go t := fun t k => (hGo t).mpr (castTop (ef_1 m pr0 pj1 pj2 pj3) k)
  have K0 : Keep h0 h0 [pr0] := Keep.refl _ _
  have pre1 : ∀ t, Steps p.tables e below (s₁.setTop (mkF m 1 #[rv pr0, jv pj1, .second, jv pj2, .second, jv pj3, .second] [(.ref pr0)])) t → Go t := fun t kt => pre0 t (by
      refine y_aloadN X0.here hx (hb hby d1_0) rfl rfl (pc' := 1) rfl ?_
      exact kt)
  obtain ⟨T2, X2, e2, st2⟩ := initO X0 hx hZ hown (hw _ (List.mem_of_getElem? (i := 6) rfl)) (hw _ (List.mem_of_getElem? (i := 7) rfl)) (hw _ (List.mem_of_getElem? (i := 8) rfl)) e0 (g := (mkF m 1 #[rv pr0, jv pj1, .second, jv pj2, .second, jv pj3, .second] [(.ref pr0)])) rfl (by rw [hml]; rfl) rfl (hb hby d1_1) (by decide) (W := 0) (by show 2 * 0 + _ ≤ _; exact Nat.le_of_eq rfl) (by decide)
  have pre3 : ∀ t, Steps p.tables e below (T2.setTop (mkF m 4 #[rv pr0, jv pj1, .second, jv pj2, .second, jv pj3, .second] [])) t → Go t := fun t kt => pre1 t (st2 t kt)
  have pre4 : ∀ t, Steps p.tables e below (T2.setTop (mkF m 6 #[rv pr0, jv pj1, .second, jv pj2, .second, jv pj3, .second] [(.long pj1), (.ref pr0)])) t → Go t := fun t kt => pre3 t (by
      refine y_aloadN X2.here hx (hb hby d1_4) rfl rfl (pc' := 5) rfl ?_
      refine y_lloadN X2.here hx (hb hby d1_5) rfl (pc' := 6) rfl ?_
      exact kt)
  obtain ⟨T5, h5, X5, e5, W5, st5⟩ := putF X2 hx hZ hown (host := "") (Or.inl (hw _ (List.mem_of_getElem? (i := 9) rfl))) Via.refl e2 F_session_pr0 E_pr0 (Or.inr ⟨(hw _ (List.mem_of_getElem? (i := 10) rfl)), rfl, hnm⟩) (hw _ (List.mem_of_getElem? (i := 1) rfl)) (ty := .long) (by decide) rfl rfl (g := (mkF m 6 #[rv pr0, jv pj1, .second, jv pj2, .second, jv pj3, .second] [(.long pj1), (.ref pr0)])) rfl rfl (hb hby d1_6)
  have pre6 : ∀ t, Steps p.tables e below (T5.setTop (mkF m 9 #[rv pr0, jv pj1, .second, jv pj2, .second, jv pj3, .second] [])) t → Go t := fun t kt => pre4 t (st5 t kt)
  have f7 : Exa Z h5 pr0 "com/example/roamd/roamd/net/Receipt" := (E_pr0.wr W5)
  have f9 : Fld Z h5 pr0 "com/example/roamd/roamd/net/Receipt" "floor" "J" (.long (0 : Int64)) := (F_floor_pr0.other W5 (Or.inr (slot_ne (Or.inr (hw _ (List.mem_of_getElem? (i := 12) rfl))) (Or.inr (hw _ (List.mem_of_getElem? (i := 10) rfl))) (by decide) (t := .long) (t' := .long) (by decide) (by decide))))
  have f10 : Fld Z h5 pr0 "com/example/roamd/roamd/net/Receipt" "marks" "J" (.long (0 : Int64)) := (F_marks_pr0.other W5 (Or.inr (slot_ne (Or.inr (hw _ (List.mem_of_getElem? (i := 14) rfl))) (Or.inr (hw _ (List.mem_of_getElem? (i := 10) rfl))) (by decide) (t := .long) (t' := .long) (by decide) (by decide))))
  have f11 : Fld Z h5 pr0 "com/example/roamd/roamd/net/Receipt" "session" "J" (.long pj1) := F_session_pr0.same W5
  have N12 := Fr.snoc X5 N0 G_pr0
  have O12 := O0.wr W5 G_pr0
  have K12 : Keep h0 h5 [pr0] := K0.wr W5 (Or.inl (List.mem_of_getElem? (i := 0) rfl))
  have pre13 : ∀ t, Steps p.tables e below (T5.setTop (mkF m 11 #[rv pr0, jv pj1, .second, jv pj2, .second, jv pj3, .second] [(.long pj2), (.ref pr0)])) t → Go t := fun t kt => pre6 t (by
      refine y_aloadN X5.here hx (hb hby d1_9) rfl rfl (pc' := 10) rfl ?_
      refine y_lloadN X5.here hx (hb hby d1_10) rfl (pc' := 11) rfl ?_
      exact kt)
  obtain ⟨T14, h14, X14, e14, W14, st14⟩ := putF X5 hx hZ hown (host := "") (Or.inl (hw _ (List.mem_of_getElem? (i := 11) rfl))) Via.refl e5 f9 f7 (Or.inr ⟨(hw _ (List.mem_of_getElem? (i := 12) rfl)), rfl, hnm⟩) (hw _ (List.mem_of_getElem? (i := 1) rfl)) (ty := .long) (by decide) rfl rfl (g := (mkF m 11 #[rv pr0, jv pj1, .second, jv pj2, .second, jv pj3, .second] [(.long pj2), (.ref pr0)])) rfl rfl (hb hby d1_11)
  have pre15 : ∀ t, Steps p.tables e below (T14.setTop (mkF m 14 #[rv pr0, jv pj1, .second, jv pj2, .second, jv pj3, .second] [])) t → Go t := fun t kt => pre13 t (st14 t kt)
  have f16 : Exa Z h14 pr0 "com/example/roamd/roamd/net/Receipt" := (f7.wr W14)
  have f18 : Fld Z h14 pr0 "com/example/roamd/roamd/net/Receipt" "marks" "J" (.long (0 : Int64)) := (f10.other W14 (Or.inr (slot_ne (Or.inr (hw _ (List.mem_of_getElem? (i := 14) rfl))) (Or.inr (hw _ (List.mem_of_getElem? (i := 12) rfl))) (by decide) (t := .long) (t' := .long) (by decide) (by decide))))
  have f19 : Fld Z h14 pr0 "com/example/roamd/roamd/net/Receipt" "session" "J" (.long pj1) := (f11.other W14 (Or.inr (slot_ne (Or.inr (hw _ (List.mem_of_getElem? (i := 10) rfl))) (Or.inr (hw _ (List.mem_of_getElem? (i := 12) rfl))) (by decide) (t := .long) (t' := .long) (by decide) (by decide))))
  have f20 : Fld Z h14 pr0 "com/example/roamd/roamd/net/Receipt" "floor" "J" (.long pj2) := f9.same W14
  have N21 := Fr.snoc X14 N12 G_pr0
  have O21 := O12.wr W14 G_pr0
  have K21 : Keep h0 h14 [pr0] := K12.wr W14 (Or.inl (List.mem_of_getElem? (i := 0) rfl))
  have pre22 : ∀ t, Steps p.tables e below (T14.setTop (mkF m 17 #[rv pr0, jv pj1, .second, jv pj2, .second, jv pj3, .second] [(.long pj3), (.ref pr0)])) t → Go t := fun t kt => pre15 t (by
      refine y_aloadN X14.here hx (hb hby d1_14) rfl rfl (pc' := 15) rfl ?_
      refine y_lload X14.here hx (hb hby d1_15) rfl (pc' := 17) rfl ?_
      exact kt)
  obtain ⟨T23, h23, X23, e23, W23, st23⟩ := putF X14 hx hZ hown (host := "") (Or.inl (hw _ (List.mem_of_getElem? (i := 13) rfl))) Via.refl e14 f18 f16 (Or.inr ⟨(hw _ (List.mem_of_getElem? (i := 14) rfl)), rfl, hnm⟩) (hw _ (List.mem_of_getElem? (i := 1) rfl)) (ty := .long) (by decide) rfl rfl (g := (mkF m 17 #[rv pr0, jv pj1, .second, jv pj2, .second, jv pj3, .second] [(.long pj3), (.ref pr0)])) rfl rfl (hb hby d1_17)
  have pre24 : ∀ t, Steps p.tables e below (T23.setTop (mkF m 20 #[rv pr0, jv pj1, .second, jv pj2, .second, jv pj3, .second] [])) t → Go t := fun t kt => pre22 t (st23 t kt)
  have f25 : Exa Z h23 pr0 "com/example/roamd/roamd/net/Receipt" := (f16.wr W23)
  have f27 : Fld Z h23 pr0 "com/example/roamd/roamd/net/Receipt" "session" "J" (.long pj1) := (f19.other W23 (Or.inr (slot_ne (Or.inr (hw _ (List.mem_of_getElem? (i := 10) rfl))) (Or.inr (hw _ (List.mem_of_getElem? (i := 14) rfl))) (by decide) (t := .long) (t' := .long) (by decide) (by decide))))
  have f28 : Fld Z h23 pr0 "com/example/roamd/roamd/net/Receipt" "floor" "J" (.long pj2) := (f20.other W23 (Or.inr (slot_ne (Or.inr (hw _ (List.mem_of_getElem? (i := 12) rfl))) (Or.inr (hw _ (List.mem_of_getElem? (i := 14) rfl))) (by decide) (t := .long) (t' := .long) (by decide) (by decide))))
  have f29 : Fld Z h23 pr0 "com/example/roamd/roamd/net/Receipt" "marks" "J" (.long pj3) := f18.same W23
  have N30 := Fr.snoc X23 N21 G_pr0
  have O30 := O21.wr W23 G_pr0
  have K30 : Keep h0 h23 [pr0] := K21.wr W23 (Or.inl (List.mem_of_getElem? (i := 0) rfl))
  obtain ⟨fs, hr, hrun, hended, hW, hsame⟩ := X23.leave (v := none) (fun _ => rfl)
  refine ⟨_, _, (hGo _).mp (pre24 _ ?_), hrun, hended, _, _, rfl, ?_, ⟨_, rfl⟩, hW, hsame.mono (by decide) (by decide)⟩
  · exact X23.returnOut hx Bd.returns (hb hby d1_20) hr
  · show Q1 Z pr0 pj1 pj2 pj3 h0 n0 _ T23.heap _
    rw [e23]
    exact ⟨rfl, N30, K30, f27, f28, f29⟩
theorem d3_0 : decode prog_23_method_9_code 0 = .ok (.aload_n 1, 1) := by decide +kernel
theorem d3_1 : decode prog_23_method_9_code 1 = .ok (.instanceof 10, 3) := by decide +kernel
theorem d3_4 : decode prog_23_method_9_code 4 = .ok (.ifCond .eq 48, 3) := by decide +kernel
theorem d3_7 : decode prog_23_method_9_code 7 = .ok (.aload_n 1, 1) := by decide +kernel
theorem d3_8 : decode prog_23_method_9_code 8 = .ok (.checkcast 10, 3) := by decide +kernel
theorem d3_11 : decode prog_23_method_9_code 11 = .ok (.astore_n 2, 1) := by decide +kernel
theorem d3_12 : decode prog_23_method_9_code 12 = .ok (.aload_n 0, 1) := by decide +kernel
theorem d3_13 : decode prog_23_method_9_code 13 = .ok (.getfield 9, 3) := by decide +kernel
theorem d3_16 : decode prog_23_method_9_code 16 = .ok (.aload_n 2, 1) := by decide +kernel
theorem d3_17 : decode prog_23_method_9_code 17 = .ok (.getfield 9, 3) := by decide +kernel
theorem d3_20 : decode prog_23_method_9_code 20 = .ok (.lcmp, 1) := by decide +kernel
theorem d3_21 : decode prog_23_method_9_code 21 = .ok (.ifCond .ne 31, 3) := by decide +kernel
theorem d3_24 : decode prog_23_method_9_code 24 = .ok (.aload_n 0, 1) := by decide +kernel
theorem d3_25 : decode prog_23_method_9_code 25 = .ok (.getfield 15, 3) := by decide +kernel
theorem d3_28 : decode prog_23_method_9_code 28 = .ok (.aload_n 2, 1) := by decide +kernel
theorem d3_29 : decode prog_23_method_9_code 29 = .ok (.getfield 15, 3) := by decide +kernel
theorem d3_32 : decode prog_23_method_9_code 32 = .ok (.lcmp, 1) := by decide +kernel
theorem d3_33 : decode prog_23_method_9_code 33 = .ok (.ifCond .ne 19, 3) := by decide +kernel
theorem d3_36 : decode prog_23_method_9_code 36 = .ok (.aload_n 0, 1) := by decide +kernel
theorem d3_37 : decode prog_23_method_9_code 37 = .ok (.getfield 18, 3) := by decide +kernel
theorem d3_40 : decode prog_23_method_9_code 40 = .ok (.aload_n 2, 1) := by decide +kernel
theorem d3_41 : decode prog_23_method_9_code 41 = .ok (.getfield 18, 3) := by decide +kernel
theorem d3_44 : decode prog_23_method_9_code 44 = .ok (.lcmp, 1) := by decide +kernel
theorem d3_45 : decode prog_23_method_9_code 45 = .ok (.ifCond .ne 7, 3) := by decide +kernel
theorem d3_48 : decode prog_23_method_9_code 48 = .ok (.iconst 1, 1) := by decide +kernel
theorem d3_49 : decode prog_23_method_9_code 49 = .ok (.goto 4, 3) := by decide +kernel
theorem d3_52 : decode prog_23_method_9_code 52 = .ok (.iconst 0, 1) := by decide +kernel
theorem d3_53 : decode prog_23_method_9_code 53 = .ok (.ireturn, 1) := by decide +kernel
theorem ef_3 (m : MethodId) (x0 : Addr) (x1 : Addr) : entryFrame m #[(.ref x0), (.ref x1)] 3 = mkF m 0 #[rv x0, rv x1, .unset] [] := by first | (simp [entryFrame, mkF, argsToLocals, Value.category]; done) | rfl
def Q3 (Z : State) (pr0 : Addr) (pr1 : Addr) (u_session_pr0 : Int64) (u_floor_pr0 : Int64) (u_marks_pr0 : Int64) (u_session_pr1 : Int64) (u_floor_pr1 : Int64) (u_marks_pr1 : Int64) (h0 : Heap) (n0 : Nat) (v : Option Value) (h : Heap) (L : List Loc) : Prop := v = some (.int (if u_session_pr0 = u_session_pr1 then (if u_floor_pr0 = u_floor_pr1 then (if u_marks_pr0 = u_marks_pr1 then (1 : Int32) else (0 : Int32)) else (0 : Int32)) else (0 : Int32))) ∧ Fr n0 L ∧ h = h0
set_option maxRecDepth 65536 in
set_option maxHeartbeats 40000000 in
theorem rm3 (l : Launch) (Z : State) (a0 : Array Value) (hw : ∀ d ∈ tables_1, d.before a0 Z = true) (ws : List Jvm.Cond) (pr0 : Addr) (pr1 : Addr) (u_session_pr0 : Int64) (u_floor_pr0 : Int64) (u_marks_pr0 : Int64) (u_session_pr1 : Int64) (u_floor_pr1 : Int64) (u_marks_pr1 : Int64) (h0 : Heap) (n0 : Nat) (O0 : Old Z n0 h0) (E_pr0 : Exa Z h0 pr0 "com/example/roamd/roamd/net/Receipt") (F_session_pr0 : Fld Z h0 pr0 "com/example/roamd/roamd/net/Receipt" "session" "J" (.long u_session_pr0)) (F_floor_pr0 : Fld Z h0 pr0 "com/example/roamd/roamd/net/Receipt" "floor" "J" (.long u_floor_pr0)) (F_marks_pr0 : Fld Z h0 pr0 "com/example/roamd/roamd/net/Receipt" "marks" "J" (.long u_marks_pr0)) (E_pr1 : Exa Z h0 pr1 "com/example/roamd/roamd/net/Receipt") (F_session_pr1 : Fld Z h0 pr1 "com/example/roamd/roamd/net/Receipt" "session" "J" (.long u_session_pr1)) (F_floor_pr1 : Fld Z h0 pr1 "com/example/roamd/roamd/net/Receipt" "floor" "J" (.long u_floor_pr1)) (F_marks_pr1 : Fld Z h0 pr1 "com/example/roamd/roamd/net/Receipt" "marks" "J" (.long u_marks_pr1)) :
    MetFree l (⟨"com/example/roamd/roamd/net/Receipt", "equals", "(Ljava/lang/Object;)Z"⟩ : MethodName) (head1 (Jvm.Cond.code (⟨"com/example/roamd/roamd/net/Receipt", "equals", "(Ljava/lang/Object;)Z"⟩ : MethodName) prog_23_method_9_code 3 (some .boolean) :: ws) ({ frames := 0, cells := 0, slots := 0, locals := 0 } : Room)) (fun a U => a = #[(.ref pr0), (.ref pr1)] ∧ Z.Warmed39 U.vm ∧ U.heap = h0) (fun _ _ _ _ _ => True) (fun _ U o U' => ∃ v L, o = .returned v ∧ Q3 Z pr0 pr1 u_session_pr0 u_floor_pr0 u_marks_pr0 u_session_pr1 u_floor_pr1 u_marks_pr1 h0 n0 v U'.heap L ∧ FrameEnd U o U' L ({ frames := 0, cells := 0, slots := 0, locals := 0 } : Room).cells ({ frames := 0, cells := 0, slots := 0, locals := 0 } : Room).slots) := by
  refine MetFree.of_bodySF (plainFor_of_name pn_com_example_roamd_roamd_net_Receipt) hisR ?_
  intro p e s m args below meth c s₁ Bd hml0 hP hK
  obtain ⟨rfl, hZ, hh⟩ := hP
  have hx := Bd.exec
  have hby := Bd.bytes
  have hml : c.maxLocals = 3 := hml0
  have hown : s.vm.findClass "com/example/roamd/roamd/net/Receipt" = some m.cls := findClass_of_methodNamed Bd.named
  have hnm := (name_of_methodNamed Bd.named Bd.method).1
  have X0 : Stand p l e ({ frames := 0, cells := 0, slots := 0, locals := 0 } : Room) s m #[(.ref pr0), (.ref pr1)] below meth c s₁ [] 0 0 := Stand.of_body Bd
  have e0 : s₁.heap = h0 := by rw [← hh, Bd.state]; rfl
  have N0 := Fr.nil n0
  obtain ⟨Go, hGo⟩ : ∃ P : State → Prop, ∀ t, P t ↔ Steps p.tables e below (s₁.setTop (entryFrame m #[(.ref pr0), (.ref pr1)] 3)) t := ⟨_, fun _ => Iff.rfl⟩
  have pre0 : ∀ t, Steps p.tables e below (s₁.setTop (mkF m 0 #[rv pr0, rv pr1, .unset] [])) t → Go t := fun t k => (hGo t).mpr (castTop (ef_3 m pr0 pr1) k)
  have pre1 : ∀ t, Steps p.tables e below (s₁.setTop (mkF m 1 #[rv pr0, rv pr1, .unset] [(.ref pr1)])) t → Go t := fun t kt => pre0 t (by
      refine y_aloadN X0.here hx (hb hby d3_0) rfl rfl (pc' := 1) rfl ?_
      exact kt)
  obtain ⟨T2, X2, e2, st2⟩ := instY X0 hx hZ hown (hw _ (List.mem_of_getElem? (i := 20) rfl)) e0 (Ins.self E_pr1) (g := (mkF m 1 #[rv pr0, rv pr1, .unset] [(.ref pr1)])) rfl rfl (hb hby d3_1)
  have pre3 : ∀ t, Steps p.tables e below (T2.setTop (mkF m 4 #[rv pr0, rv pr1, .unset] [(.int (1 : Int32))])) t → Go t := fun t kt => pre1 t (st2 t kt)
  have pre4 : ∀ t, Steps p.tables e below (T2.setTop (mkF m 8 #[rv pr0, rv pr1, .unset] [(.ref pr1)])) t → Go t := fun t kt => pre3 t (by
      refine y_ifNo X2.here hx (hb hby d3_4) ((if0 _ _).trans (feq (by decide : ¬ ((1 : Int32) = (0 : Int32)))).1) (pc' := 7) rfl ?_
      refine y_aloadN X2.here hx (hb hby d3_7) rfl rfl (pc' := 8) rfl ?_
      exact kt)
  obtain ⟨T5, X5, e5, st5⟩ := castY X2 hx hZ hown (hw _ (List.mem_of_getElem? (i := 20) rfl)) e2 (Ins.self E_pr1) (g := (mkF m 8 #[rv pr0, rv pr1, .unset] [(.ref pr1)])) rfl rfl (hb hby d3_8)
  have pre6 : ∀ t, Steps p.tables e below (T5.setTop (mkF m 11 #[rv pr0, rv pr1, .unset] [(.ref pr1)])) t → Go t := fun t kt => pre4 t (st5 t kt)
  have pre7 : ∀ t, Steps p.tables e below (T5.setTop (mkF m 13 #[rv pr0, rv pr1, rv pr1] [(.ref pr0)])) t → Go t := fun t kt => pre6 t (by
      refine y_astoreN X5.here hx (hb hby d3_11) rfl (l' := #[rv pr0, rv pr1, rv pr1]) rfl (pc' := 12) rfl ?_
      refine y_aloadN X5.here hx (hb hby d3_12) rfl rfl (pc' := 13) rfl ?_
      exact kt)
  obtain ⟨T8, X8, e8, st8⟩ := getF X5 hx hZ hown (host := "") (Or.inl (hw _ (List.mem_of_getElem? (i := 9) rfl))) Via.refl e5 F_session_pr0 (g := (mkF m 13 #[rv pr0, rv pr1, rv pr1] [(.ref pr0)])) rfl rfl (hb hby d3_13)
  have pre9 : ∀ t, Steps p.tables e below (T8.setTop (mkF m 16 #[rv pr0, rv pr1, rv pr1] [(.long u_session_pr0)])) t → Go t := fun t kt => pre7 t (st8 t kt)
  have pre10 : ∀ t, Steps p.tables e below (T8.setTop (mkF m 17 #[rv pr0, rv pr1, rv pr1] [(.ref pr1), (.long u_session_pr0)])) t → Go t := fun t kt => pre9 t (by
      refine y_aloadN X8.here hx (hb hby d3_16) rfl rfl (pc' := 17) rfl ?_
      exact kt)
  obtain ⟨T11, X11, e11, st11⟩ := getF X8 hx hZ hown (host := "") (Or.inl (hw _ (List.mem_of_getElem? (i := 9) rfl))) Via.refl e8 F_session_pr1 (g := (mkF m 17 #[rv pr0, rv pr1, rv pr1] [(.ref pr1), (.long u_session_pr0)])) rfl rfl (hb hby d3_17)
  have pre12 : ∀ t, Steps p.tables e below (T11.setTop (mkF m 20 #[rv pr0, rv pr1, rv pr1] [(.long u_session_pr1), (.long u_session_pr0)])) t → Go t := fun t kt => pre10 t (st11 t kt)
  have pre13 : ∀ t, Steps p.tables e below (T11.setTop (mkF m 21 #[rv pr0, rv pr1, rv pr1] [(.int (lcmpW u_session_pr0 u_session_pr1))])) t → Go t := fun t kt => pre12 t (by
      refine y_lcmp X11.here hx (hb hby d3_20) (pc' := 21) rfl ?_
      exact kt)
  by_cases hc21_14 : u_session_pr0 = u_session_pr1
  · have pre15 : ∀ t, Steps p.tables e below (T11.setTop (mkF m 25 #[rv pr0, rv pr1, rv pr1] [(.ref pr0)])) t → Go t := fun t kt => pre13 t (by
        refine y_ifNo X11.here hx (hb hby d3_21) ((if0 _ _).trans (teq (lq_eq hc21_14)).2) (pc' := 24) rfl ?_
        refine y_aloadN X11.here hx (hb hby d3_24) rfl rfl (pc' := 25) rfl ?_
        exact kt)
    obtain ⟨T16, X16, e16, st16⟩ := getF X11 hx hZ hown (host := "") (Or.inl (hw _ (List.mem_of_getElem? (i := 11) rfl))) Via.refl e11 F_floor_pr0 (g := (mkF m 25 #[rv pr0, rv pr1, rv pr1] [(.ref pr0)])) rfl rfl (hb hby d3_25)
    have pre17 : ∀ t, Steps p.tables e below (T16.setTop (mkF m 28 #[rv pr0, rv pr1, rv pr1] [(.long u_floor_pr0)])) t → Go t := fun t kt => pre15 t (st16 t kt)
    have pre18 : ∀ t, Steps p.tables e below (T16.setTop (mkF m 29 #[rv pr0, rv pr1, rv pr1] [(.ref pr1), (.long u_floor_pr0)])) t → Go t := fun t kt => pre17 t (by
        refine y_aloadN X16.here hx (hb hby d3_28) rfl rfl (pc' := 29) rfl ?_
        exact kt)
    obtain ⟨T19, X19, e19, st19⟩ := getF X16 hx hZ hown (host := "") (Or.inl (hw _ (List.mem_of_getElem? (i := 11) rfl))) Via.refl e16 F_floor_pr1 (g := (mkF m 29 #[rv pr0, rv pr1, rv pr1] [(.ref pr1), (.long u_floor_pr0)])) rfl rfl (hb hby d3_29)
    have pre20 : ∀ t, Steps p.tables e below (T19.setTop (mkF m 32 #[rv pr0, rv pr1, rv pr1] [(.long u_floor_pr1), (.long u_floor_pr0)])) t → Go t := fun t kt => pre18 t (st19 t kt)
    have pre21 : ∀ t, Steps p.tables e below (T19.setTop (mkF m 33 #[rv pr0, rv pr1, rv pr1] [(.int (lcmpW u_floor_pr0 u_floor_pr1))])) t → Go t := fun t kt => pre20 t (by
        refine y_lcmp X19.here hx (hb hby d3_32) (pc' := 33) rfl ?_
        exact kt)
    by_cases hc33_22 : u_floor_pr0 = u_floor_pr1
    · have pre23 : ∀ t, Steps p.tables e below (T19.setTop (mkF m 37 #[rv pr0, rv pr1, rv pr1] [(.ref pr0)])) t → Go t := fun t kt => pre21 t (by
          refine y_ifNo X19.here hx (hb hby d3_33) ((if0 _ _).trans (teq (lq_eq hc33_22)).2) (pc' := 36) rfl ?_
          refine y_aloadN X19.here hx (hb hby d3_36) rfl rfl (pc' := 37) rfl ?_
          exact kt)
      obtain ⟨T24, X24, e24, st24⟩ := getF X19 hx hZ hown (host := "") (Or.inl (hw _ (List.mem_of_getElem? (i := 13) rfl))) Via.refl e19 F_marks_pr0 (g := (mkF m 37 #[rv pr0, rv pr1, rv pr1] [(.ref pr0)])) rfl rfl (hb hby d3_37)
      have pre25 : ∀ t, Steps p.tables e below (T24.setTop (mkF m 40 #[rv pr0, rv pr1, rv pr1] [(.long u_marks_pr0)])) t → Go t := fun t kt => pre23 t (st24 t kt)
      have pre26 : ∀ t, Steps p.tables e below (T24.setTop (mkF m 41 #[rv pr0, rv pr1, rv pr1] [(.ref pr1), (.long u_marks_pr0)])) t → Go t := fun t kt => pre25 t (by
          refine y_aloadN X24.here hx (hb hby d3_40) rfl rfl (pc' := 41) rfl ?_
          exact kt)
      obtain ⟨T27, X27, e27, st27⟩ := getF X24 hx hZ hown (host := "") (Or.inl (hw _ (List.mem_of_getElem? (i := 13) rfl))) Via.refl e24 F_marks_pr1 (g := (mkF m 41 #[rv pr0, rv pr1, rv pr1] [(.ref pr1), (.long u_marks_pr0)])) rfl rfl (hb hby d3_41)
      have pre28 : ∀ t, Steps p.tables e below (T27.setTop (mkF m 44 #[rv pr0, rv pr1, rv pr1] [(.long u_marks_pr1), (.long u_marks_pr0)])) t → Go t := fun t kt => pre26 t (st27 t kt)
      have pre29 : ∀ t, Steps p.tables e below (T27.setTop (mkF m 45 #[rv pr0, rv pr1, rv pr1] [(.int (lcmpW u_marks_pr0 u_marks_pr1))])) t → Go t := fun t kt => pre28 t (by
          refine y_lcmp X27.here hx (hb hby d3_44) (pc' := 45) rfl ?_
          exact kt)
      by_cases hc45_30 : u_marks_pr0 = u_marks_pr1
      · have pre31 : ∀ t, Steps p.tables e below (T27.setTop (mkF m 53 #[rv pr0, rv pr1, rv pr1] [(.int (1 : Int32))])) t → Go t := fun t kt => pre29 t (by
            refine y_ifNo X27.here hx (hb hby d3_45) ((if0 _ _).trans (teq (lq_eq hc45_30)).2) (pc' := 48) rfl ?_
            refine y_iconst X27.here hx (hb hby d3_48) (v := (1 : Int32)) rfl (pc' := 49) rfl ?_
            refine y_goto X27.here hx (hb hby d3_49) (pc' := 53) (by decide) rfl ?_
            exact kt)
        obtain ⟨fs, hr, hrun, hended, hW, hsame⟩ := X27.leave (v := some (.int (1 : Int32))) (fun h => by rw [Bd.returns] at h; cases h)
        refine ⟨_, _, (hGo _).mp (pre31 _ ?_), hrun, hended, _, _, rfl, ?_, ⟨_, rfl⟩, hW, hsame.mono (by decide) (by decide)⟩
        · exact retN X27 hx (t := .boolean) Bd.returns (by simp) (hb hby d3_53) hr
        · show Q3 Z pr0 pr1 u_session_pr0 u_floor_pr0 u_marks_pr0 u_session_pr1 u_floor_pr1 u_marks_pr1 h0 n0 _ T27.heap _
          rw [e27]
          exact ⟨(by first | (simp only [if_pos hc21_14, if_pos hc33_22, if_pos hc45_30]; done) | (simp only [if_pos hc21_14, if_pos hc33_22, if_pos hc45_30]; exact rfl) | exact rfl), N0, rfl⟩
      · have pre32 : ∀ t, Steps p.tables e below (T27.setTop (mkF m 53 #[rv pr0, rv pr1, rv pr1] [(.int (0 : Int32))])) t → Go t := fun t kt => pre29 t (by
            refine y_ifYes X27.here hx (hb hby d3_45) ((if0 _ _).trans (feq (lq_ne hc45_30)).2) (pc' := 52) (by decide) rfl ?_
            refine y_iconst X27.here hx (hb hby d3_52) (v := (0 : Int32)) rfl (pc' := 53) rfl ?_
            exact kt)
        obtain ⟨fs, hr, hrun, hended, hW, hsame⟩ := X27.leave (v := some (.int (0 : Int32))) (fun h => by rw [Bd.returns] at h; cases h)
        refine ⟨_, _, (hGo _).mp (pre32 _ ?_), hrun, hended, _, _, rfl, ?_, ⟨_, rfl⟩, hW, hsame.mono (by decide) (by decide)⟩
        · exact retN X27 hx (t := .boolean) Bd.returns (by simp) (hb hby d3_53) hr
        · show Q3 Z pr0 pr1 u_session_pr0 u_floor_pr0 u_marks_pr0 u_session_pr1 u_floor_pr1 u_marks_pr1 h0 n0 _ T27.heap _
          rw [e27]
          exact ⟨(by first | (simp only [if_pos hc21_14, if_pos hc33_22, if_neg hc45_30]; done) | (simp only [if_pos hc21_14, if_pos hc33_22, if_neg hc45_30]; exact rfl) | exact rfl), N0, rfl⟩
    · have pre33 : ∀ t, Steps p.tables e below (T19.setTop (mkF m 53 #[rv pr0, rv pr1, rv pr1] [(.int (0 : Int32))])) t → Go t := fun t kt => pre21 t (by
          refine y_ifYes X19.here hx (hb hby d3_33) ((if0 _ _).trans (feq (lq_ne hc33_22)).2) (pc' := 52) (by decide) rfl ?_
          refine y_iconst X19.here hx (hb hby d3_52) (v := (0 : Int32)) rfl (pc' := 53) rfl ?_
          exact kt)
      obtain ⟨fs, hr, hrun, hended, hW, hsame⟩ := X19.leave (v := some (.int (0 : Int32))) (fun h => by rw [Bd.returns] at h; cases h)
      refine ⟨_, _, (hGo _).mp (pre33 _ ?_), hrun, hended, _, _, rfl, ?_, ⟨_, rfl⟩, hW, hsame.mono (by decide) (by decide)⟩
      · exact retN X19 hx (t := .boolean) Bd.returns (by simp) (hb hby d3_53) hr
      · show Q3 Z pr0 pr1 u_session_pr0 u_floor_pr0 u_marks_pr0 u_session_pr1 u_floor_pr1 u_marks_pr1 h0 n0 _ T19.heap _
        rw [e19]
        exact ⟨(by first | (simp only [if_pos hc21_14, if_neg hc33_22]; done) | (simp only [if_pos hc21_14, if_neg hc33_22]; exact rfl) | exact rfl), N0, rfl⟩
  · have pre34 : ∀ t, Steps p.tables e below (T11.setTop (mkF m 53 #[rv pr0, rv pr1, rv pr1] [(.int (0 : Int32))])) t → Go t := fun t kt => pre13 t (by
        refine y_ifYes X11.here hx (hb hby d3_21) ((if0 _ _).trans (feq (lq_ne hc21_14)).2) (pc' := 52) (by decide) rfl ?_
        refine y_iconst X11.here hx (hb hby d3_52) (v := (0 : Int32)) rfl (pc' := 53) rfl ?_
        exact kt)
    obtain ⟨fs, hr, hrun, hended, hW, hsame⟩ := X11.leave (v := some (.int (0 : Int32))) (fun h => by rw [Bd.returns] at h; cases h)
    refine ⟨_, _, (hGo _).mp (pre34 _ ?_), hrun, hended, _, _, rfl, ?_, ⟨_, rfl⟩, hW, hsame.mono (by decide) (by decide)⟩
    · exact retN X11 hx (t := .boolean) Bd.returns (by simp) (hb hby d3_53) hr
    · show Q3 Z pr0 pr1 u_session_pr0 u_floor_pr0 u_marks_pr0 u_session_pr1 u_floor_pr1 u_marks_pr1 h0 n0 _ T11.heap _
      rw [e11]
      exact ⟨(by first | (simp only [if_neg hc21_14]; done) | (simp only [if_neg hc21_14]; exact rfl) | exact rfl), N0, rfl⟩
theorem ef_3n (m : MethodId) (x0 : Addr) : entryFrame m #[(.ref x0), .null] 3 = mkF m 0 #[rv x0, .val .null, .unset] [] := by first | (simp [entryFrame, mkF, argsToLocals, Value.category]; done) | rfl
def Q3n (Z : State) (pr0 : Addr) (h0 : Heap) (n0 : Nat) (v : Option Value) (h : Heap) (L : List Loc) : Prop := v = some (.int (0 : Int32)) ∧ Fr n0 L ∧ h = h0
set_option maxRecDepth 65536 in
set_option maxHeartbeats 40000000 in
theorem rm3n (l : Launch) (Z : State) (a0 : Array Value) (hw : ∀ d ∈ tables_1, d.before a0 Z = true) (ws : List Jvm.Cond) (pr0 : Addr) (h0 : Heap) (n0 : Nat) (O0 : Old Z n0 h0) :
    MetFree l (⟨"com/example/roamd/roamd/net/Receipt", "equals", "(Ljava/lang/Object;)Z"⟩ : MethodName) (head1 (Jvm.Cond.code (⟨"com/example/roamd/roamd/net/Receipt", "equals", "(Ljava/lang/Object;)Z"⟩ : MethodName) prog_23_method_9_code 3 (some .boolean) :: ws) ({ frames := 0, cells := 0, slots := 0, locals := 0 } : Room)) (fun a U => a = #[(.ref pr0), .null] ∧ Z.Warmed39 U.vm ∧ U.heap = h0) (fun _ _ _ _ _ => True) (fun _ U o U' => ∃ v L, o = .returned v ∧ Q3n Z pr0 h0 n0 v U'.heap L ∧ FrameEnd U o U' L ({ frames := 0, cells := 0, slots := 0, locals := 0 } : Room).cells ({ frames := 0, cells := 0, slots := 0, locals := 0 } : Room).slots) := by
  refine MetFree.of_bodySF (plainFor_of_name pn_com_example_roamd_roamd_net_Receipt) hisR ?_
  intro p e s m args below meth c s₁ Bd hml0 hP hK
  obtain ⟨rfl, hZ, hh⟩ := hP
  have hx := Bd.exec
  have hby := Bd.bytes
  have hml : c.maxLocals = 3 := hml0
  have hown : s.vm.findClass "com/example/roamd/roamd/net/Receipt" = some m.cls := findClass_of_methodNamed Bd.named
  have hnm := (name_of_methodNamed Bd.named Bd.method).1
  have X0 : Stand p l e ({ frames := 0, cells := 0, slots := 0, locals := 0 } : Room) s m #[(.ref pr0), .null] below meth c s₁ [] 0 0 := Stand.of_body Bd
  have e0 : s₁.heap = h0 := by rw [← hh, Bd.state]; rfl
  have N0 := Fr.nil n0
  obtain ⟨Go, hGo⟩ : ∃ P : State → Prop, ∀ t, P t ↔ Steps p.tables e below (s₁.setTop (entryFrame m #[(.ref pr0), .null] 3)) t := ⟨_, fun _ => Iff.rfl⟩
  have pre0 : ∀ t, Steps p.tables e below (s₁.setTop (mkF m 0 #[rv pr0, .val .null, .unset] [])) t → Go t := fun t k => (hGo t).mpr (castTop (ef_3n m pr0) k)
  have pre1 : ∀ t, Steps p.tables e below (s₁.setTop (mkF m 1 #[rv pr0, .val .null, .unset] [.null])) t → Go t := fun t kt => pre0 t (by
      refine y_aloadN X0.here hx (hb hby d3_0) rfl rfl (pc' := 1) rfl ?_
      exact kt)
  have pre2 : ∀ t, Steps p.tables e below (s₁.setTop (mkF m 53 #[rv pr0, .val .null, .unset] [(.int (0 : Int32))])) t → Go t := fun t kt => pre1 t (by
      refine X0.instanceofNull hx (g := (mkF m 1 #[rv pr0, .val .null, .unset] [.null])) rfl rfl (hb hby d3_1) _ ?_
      show Steps p.tables e below (s₁.setTop (mkF m 4 #[rv pr0, .val .null, .unset] [(.int (0 : Int32))])) _
      refine y_ifYes X0.here hx (hb hby d3_4) ((if0 _ _).trans (teq (rfl : (0 : Int32) = (0 : Int32))).1) (pc' := 52) (by decide) rfl ?_
      refine y_iconst X0.here hx (hb hby d3_52) (v := (0 : Int32)) rfl (pc' := 53) rfl ?_
      exact kt)
  obtain ⟨fs, hr, hrun, hended, hW, hsame⟩ := X0.leave (v := some (.int (0 : Int32))) (fun h => by rw [Bd.returns] at h; cases h)
  refine ⟨_, _, (hGo _).mp (pre2 _ ?_), hrun, hended, _, _, rfl, ?_, ⟨_, rfl⟩, hW, hsame.mono (by decide) (by decide)⟩
  · exact retN X0 hx (t := .boolean) Bd.returns (by simp) (hb hby d3_53) hr
  · show Q3n Z pr0 h0 n0 _ s₁.heap _
    rw [e0]
    exact ⟨rfl, N0, rfl⟩
theorem ef_3x (m : MethodId) (x0 : Addr) (x1 : Addr) : entryFrame m #[(.ref x0), (.ref x1)] 3 = mkF m 0 #[rv x0, rv x1, .unset] [] := by first | (simp [entryFrame, mkF, argsToLocals, Value.category]; done) | rfl
def Q3x (Z : State) (pr0 : Addr) (pr1 : Addr) (h0 : Heap) (n0 : Nat) (v : Option Value) (h : Heap) (L : List Loc) : Prop := v = some (.int (0 : Int32)) ∧ Fr n0 L ∧ h = h0
set_option maxRecDepth 65536 in
set_option maxHeartbeats 40000000 in
theorem rm3x (l : Launch) (Z : State) (a0 : Array Value) (hw : ∀ d ∈ tables_1, d.before a0 Z = true) (ws : List Jvm.Cond) (pr0 : Addr) (pr1 : Addr) (h0 : Heap) (n0 : Nat) (O0 : Old Z n0 h0) (E_pr1 : Exa Z h0 pr1 "java/lang/Long") (NI_pr1 : Nas Z "java/lang/Long" "com/example/roamd/roamd/net/Receipt") :
    MetFree l (⟨"com/example/roamd/roamd/net/Receipt", "equals", "(Ljava/lang/Object;)Z"⟩ : MethodName) (head1 (Jvm.Cond.code (⟨"com/example/roamd/roamd/net/Receipt", "equals", "(Ljava/lang/Object;)Z"⟩ : MethodName) prog_23_method_9_code 3 (some .boolean) :: ws) ({ frames := 0, cells := 0, slots := 0, locals := 0 } : Room)) (fun a U => a = #[(.ref pr0), (.ref pr1)] ∧ Z.Warmed39 U.vm ∧ U.heap = h0) (fun _ _ _ _ _ => True) (fun _ U o U' => ∃ v L, o = .returned v ∧ Q3x Z pr0 pr1 h0 n0 v U'.heap L ∧ FrameEnd U o U' L ({ frames := 0, cells := 0, slots := 0, locals := 0 } : Room).cells ({ frames := 0, cells := 0, slots := 0, locals := 0 } : Room).slots) := by
  refine MetFree.of_bodySF (plainFor_of_name pn_com_example_roamd_roamd_net_Receipt) hisR ?_
  intro p e s m args below meth c s₁ Bd hml0 hP hK
  obtain ⟨rfl, hZ, hh⟩ := hP
  have hx := Bd.exec
  have hby := Bd.bytes
  have hml : c.maxLocals = 3 := hml0
  have hown : s.vm.findClass "com/example/roamd/roamd/net/Receipt" = some m.cls := findClass_of_methodNamed Bd.named
  have hnm := (name_of_methodNamed Bd.named Bd.method).1
  have X0 : Stand p l e ({ frames := 0, cells := 0, slots := 0, locals := 0 } : Room) s m #[(.ref pr0), (.ref pr1)] below meth c s₁ [] 0 0 := Stand.of_body Bd
  have e0 : s₁.heap = h0 := by rw [← hh, Bd.state]; rfl
  have N0 := Fr.nil n0
  obtain ⟨Go, hGo⟩ : ∃ P : State → Prop, ∀ t, P t ↔ Steps p.tables e below (s₁.setTop (entryFrame m #[(.ref pr0), (.ref pr1)] 3)) t := ⟨_, fun _ => Iff.rfl⟩
  have pre0 : ∀ t, Steps p.tables e below (s₁.setTop (mkF m 0 #[rv pr0, rv pr1, .unset] [])) t → Go t := fun t k => (hGo t).mpr (castTop (ef_3x m pr0 pr1) k)
  have pre1 : ∀ t, Steps p.tables e below (s₁.setTop (mkF m 1 #[rv pr0, rv pr1, .unset] [(.ref pr1)])) t → Go t := fun t kt => pre0 t (by
      refine y_aloadN X0.here hx (hb hby d3_0) rfl rfl (pc' := 1) rfl ?_
      exact kt)
  obtain ⟨T2, X2, e2, st2⟩ := instNo X0 hx hZ hown (hw _ (List.mem_of_getElem? (i := 20) rfl)) e0 E_pr1 NI_pr1 (g := (mkF m 1 #[rv pr0, rv pr1, .unset] [(.ref pr1)])) rfl rfl (hb hby d3_1)
  have pre3 : ∀ t, Steps p.tables e below (T2.setTop (mkF m 4 #[rv pr0, rv pr1, .unset] [(.int (0 : Int32))])) t → Go t := fun t kt => pre1 t (st2 t kt)
  have pre4 : ∀ t, Steps p.tables e below (T2.setTop (mkF m 53 #[rv pr0, rv pr1, .unset] [(.int (0 : Int32))])) t → Go t := fun t kt => pre3 t (by
      refine y_ifYes X2.here hx (hb hby d3_4) ((if0 _ _).trans (teq (rfl : (0 : Int32) = (0 : Int32))).1) (pc' := 52) (by decide) rfl ?_
      refine y_iconst X2.here hx (hb hby d3_52) (v := (0 : Int32)) rfl (pc' := 53) rfl ?_
      exact kt)
  obtain ⟨fs, hr, hrun, hended, hW, hsame⟩ := X2.leave (v := some (.int (0 : Int32))) (fun h => by rw [Bd.returns] at h; cases h)
  refine ⟨_, _, (hGo _).mp (pre4 _ ?_), hrun, hended, _, _, rfl, ?_, ⟨_, rfl⟩, hW, hsame.mono (by decide) (by decide)⟩
  · exact retN X2 hx (t := .boolean) Bd.returns (by simp) (hb hby d3_53) hr
  · show Q3x Z pr0 pr1 h0 n0 _ T2.heap _
    rw [e2]
    exact ⟨rfl, N0, rfl⟩
theorem law0_113 (pj0 : Int64) (pj1 : Int64) (pj2 : Int64) (x2 : Int64) (x9 : Int64) (x16 : Int64) (x64 : Int32) (x79 : Int32) (hx64 : x64 = (if x2 = pj0 then (if x9 = pj1 then (if x16 = pj2 then (1 : Int32) else (0 : Int32)) else (0 : Int32)) else (0 : Int32))) (hx79 : x79 = (if pj0 = x2 then (if pj1 = x9 then (if pj2 = x16 then (1 : Int32) else (0 : Int32)) else (0 : Int32)) else (0 : Int32))) : x79 = x64 := by
  grind
theorem law0_116 (pj0 : Int64) (pj1 : Int64) (pj2 : Int64) (x2 : Int64) (x9 : Int64) (x16 : Int64) (x64 : Int32) (x79 : Int32) (x84 : Int32) (hx64 : x64 = (if x2 = pj0 then (if x9 = pj1 then (if x16 = pj2 then (1 : Int32) else (0 : Int32)) else (0 : Int32)) else (0 : Int32))) (hx84 : x84 = (if x2 = pj0 then (if x9 = pj1 then (if x16 = pj2 then (1 : Int32) else (0 : Int32)) else (0 : Int32)) else (0 : Int32))) (hf164_111 : x79 = x64) : x84 = x64 := by
  grind
theorem pn_com_example_roamd_roamd_net_ReceiptEqualsPinLaw : plainName "com/example/roamd/roamd/net/ReceiptEqualsPinLaw" = true := by first | (simp [plainName, overriddenIn]; done) | decide +kernel
theorem pd__JJJ_V : parseMethodDescriptor "(JJJ)V" = some ⟨[.long, .long, .long], none⟩ := by decide +kernel
theorem pd__Ljava_lang_Object__Z : parseMethodDescriptor "(Ljava/lang/Object;)Z" = some ⟨[(.object "java/lang/Object")], some .boolean⟩ := by decide +kernel
theorem pd__J_Ljava_lang_Long_ : parseMethodDescriptor "(J)Ljava/lang/Long;" = some ⟨[.long], some (.object "java/lang/Long")⟩ := by decide +kernel
theorem ef_0 (m : MethodId) (x0 : Int64) (x1 : Int64) (x2 : Int64) (x3 : Int64) (x4 : Int64) (x5 : Int32) : entryFrame m #[(.long x0), (.long x1), (.long x2), (.long x3), (.long x4), (.int x5)] maxLocals = mkF m 0 #[jv x0, .second, jv x1, .second, jv x2, .second, jv x3, .second, jv x4, .second, iv x5, .unset, .unset, .unset, .unset, .unset, .unset, .unset, .unset, .unset, .unset, .unset, .unset, .unset, .unset, .unset, .unset] [] := by first | (simp [entryFrame, mkF, argsToLocals, Value.category, maxLocals]; done) | rfl
def Q0 (Z : State) (pj0 : Int64) (pj1 : Int64) (pj2 : Int64) (pj3 : Int64) (pj4 : Int64) (pi5 : Int32) (w_cache : Addr) (cc : Cell) (h0 : Heap) (n0 : Nat) (v : Option Value) (h : Heap) (L : List Loc) : Prop := v = some (.int (1 : Int32)) ∧ Fr n0 L
set_option maxRecDepth 65536 in
set_option maxHeartbeats 40000000 in
theorem rm0 (l : Launch) (Z : State) (a0 : Array Value) (hw : ∀ d ∈ tables_1, d.before a0 Z = true) (ws : List Jvm.Cond) (pj0 : Int64) (pj1 : Int64) (pj2 : Int64) (pj3 : Int64) (pj4 : Int64) (pi5 : Int32) (w_cache : Addr) (cc : Cell) (h0 : Heap) (n0 : Nat) (O0 : Old Z n0 h0) (S_cache : Sta Z Z.heap "java/lang/Long$LongCache" "cache" "[Ljava/lang/Long;" (.ref w_cache)) (CA : Bxs Z w_cache cc "java/lang/Long" "J" (256 : Int32) (fun j => .long (j - 128).toInt64)) (NI_pr1 : Nas Z "java/lang/Long" "com/example/roamd/roamd/net/Receipt") :
    MetFree l x (head1 (Jvm.Cond.code x code maxLocals ret :: ws) room_1) (fun a U => a = #[(.long pj0), (.long pj1), (.long pj2), (.long pj3), (.long pj4), (.int pi5)] ∧ Z.Warmed39 U.vm ∧ U.heap = h0) (fun _ _ _ _ _ => True) (fun _ U o U' => ∃ v L, o = .returned v ∧ Q0 Z pj0 pj1 pj2 pj3 pj4 pi5 w_cache cc h0 n0 v U'.heap L ∧ FrameEnd U o U' L room_1.cells room_1.slots) := by
  refine MetFree.of_bodySF (plainFor_of_name pn_com_example_roamd_roamd_net_ReceiptEqualsPinLaw) hisR ?_
  intro p e s m args below meth c s₁ Bd hml0 hP hK
  obtain ⟨rfl, hZ, hh⟩ := hP
  have hx := Bd.exec
  have hby := Bd.bytes
  have hml : c.maxLocals = 27 := hml0
  have hown : s.vm.findClass "com/example/roamd/roamd/net/ReceiptEqualsPinLaw" = some m.cls := findClass_of_methodNamed Bd.named
  have hnm := (name_of_methodNamed Bd.named Bd.method).1
  have X0 : Stand p l e room_1 s m #[(.long pj0), (.long pj1), (.long pj2), (.long pj3), (.long pj4), (.int pi5)] below meth c s₁ [] 0 0 := Stand.of_body Bd
  have e0 : s₁.heap = h0 := by rw [← hh, Bd.state]; rfl
  have N0 := Fr.nil n0
  obtain ⟨Go, hGo⟩ : ∃ P : State → Prop, ∀ t, P t ↔ Steps p.tables e below (s₁.setTop (entryFrame m #[(.long pj0), (.long pj1), (.long pj2), (.long pj3), (.long pj4), (.int pi5)] maxLocals)) t := ⟨_, fun _ => Iff.rfl⟩
  have pre0 : ∀ t, Steps p.tables e below (s₁.setTop (mkF m 0 #[jv pj0, .second, jv pj1, .second, jv pj2, .second, jv pj3, .second, jv pj4, .second, iv pi5, .unset, .unset, .unset, .unset, .unset, .unset, .unset, .unset, .unset, .unset, .unset, .unset, .unset, .unset, .unset, .unset] [])) t → Go t := fun t k => (hGo t).mpr (castTop (ef_0 m pj0 pj1 pj2 pj3 pj4 pi5) k)
  have pre1 : ∀ t, Steps p.tables e below (s₁.setTop (mkF m 4 #[jv pj0, .second, jv pj1, .second, jv pj2, .second, jv pj3, .second, jv pj4, .second, iv pi5, .unset, .unset, .unset, .unset, .unset, .unset, .unset, .unset, .unset, .unset, .unset, .unset, .unset, .unset, .unset, .unset] [(.int (pi5 &&& (1 : Int32)))])) t → Go t := fun t kt => pre0 t (by
      refine y_iload X0.here hx (hb hby at_0) rfl (pc' := 2) rfl ?_
      refine y_iconst X0.here hx (hb hby at_2) (v := (1 : Int32)) rfl (pc' := 3) rfl ?_
      refine y_iand X0.here hx (hb hby at_3) rfl (pc' := 4) rfl ?_
      exact kt)
  obtain ⟨x2, hx2⟩ : ∃ z : Int64, z = (if (pi5 &&& (1 : Int32)) = (0 : Int32) then pj3 else pj0) := ⟨_, rfl⟩
  obtain ⟨T3, ⟨X3, q3⟩, st3⟩ : ∃ T', Nx X0 T' ∧ ∀ t, Steps p.tables e below (T'.setTop (mkF m 13 #[jv pj0, .second, jv pj1, .second, jv pj2, .second, jv pj3, .second, jv pj4, .second, iv pi5, .unset, .unset, .unset, .unset, .unset, .unset, .unset, .unset, .unset, .unset, .unset, .unset, .unset, .unset, .unset, .unset] [(.long x2)])) t → Steps p.tables e below (s₁.setTop (mkF m 4 #[jv pj0, .second, jv pj1, .second, jv pj2, .second, jv pj3, .second, jv pj4, .second, iv pi5, .unset, .unset, .unset, .unset, .unset, .unset, .unset, .unset, .unset, .unset, .unset, .unset, .unset, .unset, .unset, .unset] [(.int (pi5 &&& (1 : Int32)))])) t := by
    have pre3_ : ∀ t, Steps p.tables e below (s₁.setTop (mkF m 4 #[jv pj0, .second, jv pj1, .second, jv pj2, .second, jv pj3, .second, jv pj4, .second, iv pi5, .unset, .unset, .unset, .unset, .unset, .unset, .unset, .unset, .unset, .unset, .unset, .unset, .unset, .unset, .unset, .unset] [(.int (pi5 &&& (1 : Int32)))])) t → Steps p.tables e below (s₁.setTop (mkF m 4 #[jv pj0, .second, jv pj1, .second, jv pj2, .second, jv pj3, .second, jv pj4, .second, iv pi5, .unset, .unset, .unset, .unset, .unset, .unset, .unset, .unset, .unset, .unset, .unset, .unset, .unset, .unset, .unset, .unset] [(.int (pi5 &&& (1 : Int32)))])) t := fun t kt => kt
    subst hx2
    by_cases hm4_4 : (pi5 &&& (1 : Int32)) = (0 : Int32)
    · have pre5 : ∀ t, Steps p.tables e below (s₁.setTop (mkF m 13 #[jv pj0, .second, jv pj1, .second, jv pj2, .second, jv pj3, .second, jv pj4, .second, iv pi5, .unset, .unset, .unset, .unset, .unset, .unset, .unset, .unset, .unset, .unset, .unset, .unset, .unset, .unset, .unset, .unset] [(.long pj3)])) t → Steps p.tables e below (s₁.setTop (mkF m 4 #[jv pj0, .second, jv pj1, .second, jv pj2, .second, jv pj3, .second, jv pj4, .second, iv pi5, .unset, .unset, .unset, .unset, .unset, .unset, .unset, .unset, .unset, .unset, .unset, .unset, .unset, .unset, .unset, .unset] [(.int (pi5 &&& (1 : Int32)))])) t := fun t kt => pre3_ t (by
          refine y_ifYes X0.here hx (hb hby at_4) ((if0 _ _).trans (teq hm4_4).1) (pc' := 11) (by decide) rfl ?_
          refine y_lload X0.here hx (hb hby at_11) rfl (pc' := 13) rfl ?_
          exact kt)
      refine ⟨s₁, ⟨X0, e0.trans e0.symm⟩, fun t kt => pre5 t ?_⟩
      (try simp only [if_pos hm4_4] at kt)
      exact kt
    · have pre6 : ∀ t, Steps p.tables e below (s₁.setTop (mkF m 13 #[jv pj0, .second, jv pj1, .second, jv pj2, .second, jv pj3, .second, jv pj4, .second, iv pi5, .unset, .unset, .unset, .unset, .unset, .unset, .unset, .unset, .unset, .unset, .unset, .unset, .unset, .unset, .unset, .unset] [(.long pj0)])) t → Steps p.tables e below (s₁.setTop (mkF m 4 #[jv pj0, .second, jv pj1, .second, jv pj2, .second, jv pj3, .second, jv pj4, .second, iv pi5, .unset, .unset, .unset, .unset, .unset, .unset, .unset, .unset, .unset, .unset, .unset, .unset, .unset, .unset, .unset, .unset] [(.int (pi5 &&& (1 : Int32)))])) t := fun t kt => pre3_ t (by
          refine y_ifNo X0.here hx (hb hby at_4) ((if0 _ _).trans (feq hm4_4).1) (pc' := 7) rfl ?_
          refine y_lloadN X0.here hx (hb hby at_7) rfl (pc' := 8) rfl ?_
          refine y_goto X0.here hx (hb hby at_8) (pc' := 13) (by decide) rfl ?_
          exact kt)
      refine ⟨s₁, ⟨X0, e0.trans e0.symm⟩, fun t kt => pre6 t ?_⟩
      (try simp only [if_neg hm4_4] at kt)
      exact kt
  have e3 : T3.heap = h0 := q3.trans e0
  have pre7 : ∀ t, Steps p.tables e below (T3.setTop (mkF m 13 #[jv pj0, .second, jv pj1, .second, jv pj2, .second, jv pj3, .second, jv pj4, .second, iv pi5, .unset, .unset, .unset, .unset, .unset, .unset, .unset, .unset, .unset, .unset, .unset, .unset, .unset, .unset, .unset, .unset] [(.long x2)])) t → Go t := fun t kt => pre1 t (st3 t kt)
  have pre8 : ∀ t, Steps p.tables e below (T3.setTop (mkF m 19 #[jv pj0, .second, jv pj1, .second, jv pj2, .second, jv pj3, .second, jv pj4, .second, iv pi5, jv x2, .second, .unset, .unset, .unset, .unset, .unset, .unset, .unset, .unset, .unset, .unset, .unset, .unset, .unset, .unset] [(.int (pi5 &&& (2 : Int32)))])) t → Go t := fun t kt => pre7 t (by
      refine y_lstore X3.here hx (hb hby at_13) (l' := #[jv pj0, .second, jv pj1, .second, jv pj2, .second, jv pj3, .second, jv pj4, .second, iv pi5, jv x2, .second, .unset, .unset, .unset, .unset, .unset, .unset, .unset, .unset, .unset, .unset, .unset, .unset, .unset, .unset]) rfl (pc' := 15) rfl ?_
      refine y_iload X3.here hx (hb hby at_15) rfl (pc' := 17) rfl ?_
      refine y_iconst X3.here hx (hb hby at_17) (v := (2 : Int32)) rfl (pc' := 18) rfl ?_
      refine y_iand X3.here hx (hb hby at_18) rfl (pc' := 19) rfl ?_
      exact kt)
  obtain ⟨x9, hx9⟩ : ∃ z : Int64, z = (if (pi5 &&& (2 : Int32)) = (0 : Int32) then pj4 else pj1) := ⟨_, rfl⟩
  obtain ⟨T10, ⟨X10, q10⟩, st10⟩ : ∃ T', Nx X3 T' ∧ ∀ t, Steps p.tables e below (T'.setTop (mkF m 28 #[jv pj0, .second, jv pj1, .second, jv pj2, .second, jv pj3, .second, jv pj4, .second, iv pi5, jv x2, .second, .unset, .unset, .unset, .unset, .unset, .unset, .unset, .unset, .unset, .unset, .unset, .unset, .unset, .unset] [(.long x9)])) t → Steps p.tables e below (T3.setTop (mkF m 19 #[jv pj0, .second, jv pj1, .second, jv pj2, .second, jv pj3, .second, jv pj4, .second, iv pi5, jv x2, .second, .unset, .unset, .unset, .unset, .unset, .unset, .unset, .unset, .unset, .unset, .unset, .unset, .unset, .unset] [(.int (pi5 &&& (2 : Int32)))])) t := by
    have pre10_ : ∀ t, Steps p.tables e below (T3.setTop (mkF m 19 #[jv pj0, .second, jv pj1, .second, jv pj2, .second, jv pj3, .second, jv pj4, .second, iv pi5, jv x2, .second, .unset, .unset, .unset, .unset, .unset, .unset, .unset, .unset, .unset, .unset, .unset, .unset, .unset, .unset] [(.int (pi5 &&& (2 : Int32)))])) t → Steps p.tables e below (T3.setTop (mkF m 19 #[jv pj0, .second, jv pj1, .second, jv pj2, .second, jv pj3, .second, jv pj4, .second, iv pi5, jv x2, .second, .unset, .unset, .unset, .unset, .unset, .unset, .unset, .unset, .unset, .unset, .unset, .unset, .unset, .unset] [(.int (pi5 &&& (2 : Int32)))])) t := fun t kt => kt
    subst hx9
    by_cases hm19_11 : (pi5 &&& (2 : Int32)) = (0 : Int32)
    · have pre12 : ∀ t, Steps p.tables e below (T3.setTop (mkF m 28 #[jv pj0, .second, jv pj1, .second, jv pj2, .second, jv pj3, .second, jv pj4, .second, iv pi5, jv x2, .second, .unset, .unset, .unset, .unset, .unset, .unset, .unset, .unset, .unset, .unset, .unset, .unset, .unset, .unset] [(.long pj4)])) t → Steps p.tables e below (T3.setTop (mkF m 19 #[jv pj0, .second, jv pj1, .second, jv pj2, .second, jv pj3, .second, jv pj4, .second, iv pi5, jv x2, .second, .unset, .unset, .unset, .unset, .unset, .unset, .unset, .unset, .unset, .unset, .unset, .unset, .unset, .unset] [(.int (pi5 &&& (2 : Int32)))])) t := fun t kt => pre10_ t (by
          refine y_ifYes X3.here hx (hb hby at_19) ((if0 _ _).trans (teq hm19_11).1) (pc' := 26) (by decide) rfl ?_
          refine y_lload X3.here hx (hb hby at_26) rfl (pc' := 28) rfl ?_
          exact kt)
      refine ⟨T3, ⟨X3, e3.trans e3.symm⟩, fun t kt => pre12 t ?_⟩
      (try simp only [if_pos hm19_11] at kt)
      exact kt
    · have pre13 : ∀ t, Steps p.tables e below (T3.setTop (mkF m 28 #[jv pj0, .second, jv pj1, .second, jv pj2, .second, jv pj3, .second, jv pj4, .second, iv pi5, jv x2, .second, .unset, .unset, .unset, .unset, .unset, .unset, .unset, .unset, .unset, .unset, .unset, .unset, .unset, .unset] [(.long pj1)])) t → Steps p.tables e below (T3.setTop (mkF m 19 #[jv pj0, .second, jv pj1, .second, jv pj2, .second, jv pj3, .second, jv pj4, .second, iv pi5, jv x2, .second, .unset, .unset, .unset, .unset, .unset, .unset, .unset, .unset, .unset, .unset, .unset, .unset, .unset, .unset] [(.int (pi5 &&& (2 : Int32)))])) t := fun t kt => pre10_ t (by
          refine y_ifNo X3.here hx (hb hby at_19) ((if0 _ _).trans (feq hm19_11).1) (pc' := 22) rfl ?_
          refine y_lloadN X3.here hx (hb hby at_22) rfl (pc' := 23) rfl ?_
          refine y_goto X3.here hx (hb hby at_23) (pc' := 28) (by decide) rfl ?_
          exact kt)
      refine ⟨T3, ⟨X3, e3.trans e3.symm⟩, fun t kt => pre13 t ?_⟩
      (try simp only [if_neg hm19_11] at kt)
      exact kt
  have e10 : T10.heap = h0 := q10.trans e3
  have pre14 : ∀ t, Steps p.tables e below (T10.setTop (mkF m 28 #[jv pj0, .second, jv pj1, .second, jv pj2, .second, jv pj3, .second, jv pj4, .second, iv pi5, jv x2, .second, .unset, .unset, .unset, .unset, .unset, .unset, .unset, .unset, .unset, .unset, .unset, .unset, .unset, .unset] [(.long x9)])) t → Go t := fun t kt => pre8 t (st10 t kt)
  have pre15 : ∀ t, Steps p.tables e below (T10.setTop (mkF m 34 #[jv pj0, .second, jv pj1, .second, jv pj2, .second, jv pj3, .second, jv pj4, .second, iv pi5, jv x2, .second, jv x9, .second, .unset, .unset, .unset, .unset, .unset, .unset, .unset, .unset, .unset, .unset, .unset, .unset] [(.int (pi5 &&& (4 : Int32)))])) t → Go t := fun t kt => pre14 t (by
      refine y_lstore X10.here hx (hb hby at_28) (l' := #[jv pj0, .second, jv pj1, .second, jv pj2, .second, jv pj3, .second, jv pj4, .second, iv pi5, jv x2, .second, jv x9, .second, .unset, .unset, .unset, .unset, .unset, .unset, .unset, .unset, .unset, .unset, .unset, .unset]) rfl (pc' := 30) rfl ?_
      refine y_iload X10.here hx (hb hby at_30) rfl (pc' := 32) rfl ?_
      refine y_iconst X10.here hx (hb hby at_32) (v := (4 : Int32)) rfl (pc' := 33) rfl ?_
      refine y_iand X10.here hx (hb hby at_33) rfl (pc' := 34) rfl ?_
      exact kt)
  obtain ⟨x16, hx16⟩ : ∃ z : Int64, z = (if (pi5 &&& (4 : Int32)) = (0 : Int32) then (pj3 ^^^ pj4) else pj2) := ⟨_, rfl⟩
  obtain ⟨T17, ⟨X17, q17⟩, st17⟩ : ∃ T', Nx X10 T' ∧ ∀ t, Steps p.tables e below (T'.setTop (mkF m 47 #[jv pj0, .second, jv pj1, .second, jv pj2, .second, jv pj3, .second, jv pj4, .second, iv pi5, jv x2, .second, jv x9, .second, .unset, .unset, .unset, .unset, .unset, .unset, .unset, .unset, .unset, .unset, .unset, .unset] [(.long x16)])) t → Steps p.tables e below (T10.setTop (mkF m 34 #[jv pj0, .second, jv pj1, .second, jv pj2, .second, jv pj3, .second, jv pj4, .second, iv pi5, jv x2, .second, jv x9, .second, .unset, .unset, .unset, .unset, .unset, .unset, .unset, .unset, .unset, .unset, .unset, .unset] [(.int (pi5 &&& (4 : Int32)))])) t := by
    have pre17_ : ∀ t, Steps p.tables e below (T10.setTop (mkF m 34 #[jv pj0, .second, jv pj1, .second, jv pj2, .second, jv pj3, .second, jv pj4, .second, iv pi5, jv x2, .second, jv x9, .second, .unset, .unset, .unset, .unset, .unset, .unset, .unset, .unset, .unset, .unset, .unset, .unset] [(.int (pi5 &&& (4 : Int32)))])) t → Steps p.tables e below (T10.setTop (mkF m 34 #[jv pj0, .second, jv pj1, .second, jv pj2, .second, jv pj3, .second, jv pj4, .second, iv pi5, jv x2, .second, jv x9, .second, .unset, .unset, .unset, .unset, .unset, .unset, .unset, .unset, .unset, .unset, .unset, .unset] [(.int (pi5 &&& (4 : Int32)))])) t := fun t kt => kt
    subst hx16
    by_cases hm34_18 : (pi5 &&& (4 : Int32)) = (0 : Int32)
    · have pre19 : ∀ t, Steps p.tables e below (T10.setTop (mkF m 47 #[jv pj0, .second, jv pj1, .second, jv pj2, .second, jv pj3, .second, jv pj4, .second, iv pi5, jv x2, .second, jv x9, .second, .unset, .unset, .unset, .unset, .unset, .unset, .unset, .unset, .unset, .unset, .unset, .unset] [(.long (pj3 ^^^ pj4))])) t → Steps p.tables e below (T10.setTop (mkF m 34 #[jv pj0, .second, jv pj1, .second, jv pj2, .second, jv pj3, .second, jv pj4, .second, iv pi5, jv x2, .second, jv x9, .second, .unset, .unset, .unset, .unset, .unset, .unset, .unset, .unset, .unset, .unset, .unset, .unset] [(.int (pi5 &&& (4 : Int32)))])) t := fun t kt => pre17_ t (by
          refine y_ifYes X10.here hx (hb hby at_34) ((if0 _ _).trans (teq hm34_18).1) (pc' := 42) (by decide) rfl ?_
          refine y_lload X10.here hx (hb hby at_42) rfl (pc' := 44) rfl ?_
          refine y_lload X10.here hx (hb hby at_44) rfl (pc' := 46) rfl ?_
          refine y_lxor X10.here hx (hb hby at_46) rfl (pc' := 47) rfl ?_
          exact kt)
      refine ⟨T10, ⟨X10, e10.trans e10.symm⟩, fun t kt => pre19 t ?_⟩
      (try simp only [if_pos hm34_18] at kt)
      exact kt
    · have pre20 : ∀ t, Steps p.tables e below (T10.setTop (mkF m 47 #[jv pj0, .second, jv pj1, .second, jv pj2, .second, jv pj3, .second, jv pj4, .second, iv pi5, jv x2, .second, jv x9, .second, .unset, .unset, .unset, .unset, .unset, .unset, .unset, .unset, .unset, .unset, .unset, .unset] [(.long pj2)])) t → Steps p.tables e below (T10.setTop (mkF m 34 #[jv pj0, .second, jv pj1, .second, jv pj2, .second, jv pj3, .second, jv pj4, .second, iv pi5, jv x2, .second, jv x9, .second, .unset, .unset, .unset, .unset, .unset, .unset, .unset, .unset, .unset, .unset, .unset, .unset] [(.int (pi5 &&& (4 : Int32)))])) t := fun t kt => pre17_ t (by
          refine y_ifNo X10.here hx (hb hby at_34) ((if0 _ _).trans (feq hm34_18).1) (pc' := 37) rfl ?_
          refine y_lload X10.here hx (hb hby at_37) rfl (pc' := 39) rfl ?_
          refine y_goto X10.here hx (hb hby at_39) (pc' := 47) (by decide) rfl ?_
          exact kt)
      refine ⟨T10, ⟨X10, e10.trans e10.symm⟩, fun t kt => pre20 t ?_⟩
      (try simp only [if_neg hm34_18] at kt)
      exact kt
  have e17 : T17.heap = h0 := q17.trans e10
  have pre21 : ∀ t, Steps p.tables e below (T17.setTop (mkF m 47 #[jv pj0, .second, jv pj1, .second, jv pj2, .second, jv pj3, .second, jv pj4, .second, iv pi5, jv x2, .second, jv x9, .second, .unset, .unset, .unset, .unset, .unset, .unset, .unset, .unset, .unset, .unset, .unset, .unset] [(.long x16)])) t → Go t := fun t kt => pre15 t (st17 t kt)
  have pre22 : ∀ t, Steps p.tables e below (T17.setTop (mkF m 49 #[jv pj0, .second, jv pj1, .second, jv pj2, .second, jv pj3, .second, jv pj4, .second, iv pi5, jv x2, .second, jv x9, .second, jv x16, .second, .unset, .unset, .unset, .unset, .unset, .unset, .unset, .unset, .unset, .unset] [])) t → Go t := fun t kt => pre21 t (by
      refine y_lstore X17.here hx (hb hby at_47) (l' := #[jv pj0, .second, jv pj1, .second, jv pj2, .second, jv pj3, .second, jv pj4, .second, iv pi5, jv x2, .second, jv x9, .second, jv x16, .second, .unset, .unset, .unset, .unset, .unset, .unset, .unset, .unset, .unset, .unset]) rfl (pc' := 49) rfl ?_
      exact kt)
  obtain ⟨T23, h23, X23, e23, E23, A23, D23, -, st23⟩ := newO X17 hx hZ hown (hw _ (List.mem_of_getElem? (i := 0) rfl)) (hw _ (List.mem_of_getElem? (i := 1) rfl)) (hw _ (List.mem_of_getElem? (i := 2) rfl)) e17 (g := (mkF m 49 #[jv pj0, .second, jv pj1, .second, jv pj2, .second, jv pj3, .second, jv pj4, .second, iv pi5, jv x2, .second, jv x9, .second, jv x16, .second, .unset, .unset, .unset, .unset, .unset, .unset, .unset, .unset, .unset, .unset] [])) rfl (hb hby at_49) (by decide) (by decide)
  obtain ⟨b23, g23⟩ : ∃ z, z = h0.size := ⟨_, rfl⟩
  rw [← g23] at A23 D23 st23
  have pre24 : ∀ t, Steps p.tables e below (T23.setTop (mkF m 52 #[jv pj0, .second, jv pj1, .second, jv pj2, .second, jv pj3, .second, jv pj4, .second, iv pi5, jv x2, .second, jv x9, .second, jv x16, .second, .unset, .unset, .unset, .unset, .unset, .unset, .unset, .unset, .unset, .unset] [(.ref b23)])) t → Go t := fun t kt => pre22 t (st23 t kt)
  have G25 : n0 ≤ b23 := Nat.le_trans (O0.1 ▸ O0.2.1) (Nat.le_of_eq g23.symm)
  have O25 := O0.ext E23
  have f26 : Fld Z h23 b23 "com/example/roamd/roamd/net/Receipt" "session" "J" (.long (0 : Int64)) := D23 (Or.inr (hw _ (List.mem_of_getElem? (i := 10) rfl))) (ty := .long) (by decide)
  have f27 : Fld Z h23 b23 "com/example/roamd/roamd/net/Receipt" "floor" "J" (.long (0 : Int64)) := D23 (Or.inr (hw _ (List.mem_of_getElem? (i := 12) rfl))) (ty := .long) (by decide)
  have f28 : Fld Z h23 b23 "com/example/roamd/roamd/net/Receipt" "marks" "J" (.long (0 : Int64)) := D23 (Or.inr (hw _ (List.mem_of_getElem? (i := 14) rfl))) (ty := .long) (by decide)
  have pre29 : ∀ t, Steps p.tables e below (T23.setTop (mkF m 57 #[jv pj0, .second, jv pj1, .second, jv pj2, .second, jv pj3, .second, jv pj4, .second, iv pi5, jv x2, .second, jv x9, .second, jv x16, .second, .unset, .unset, .unset, .unset, .unset, .unset, .unset, .unset, .unset, .unset] [(.long pj2), (.long pj1), (.long pj0), (.ref b23), (.ref b23)])) t → Go t := fun t kt => pre24 t (by
      refine y_dup X23.here hx (hb hby at_52) rfl (pc' := 53) rfl ?_
      refine y_lloadN X23.here hx (hb hby at_53) rfl (pc' := 54) rfl ?_
      refine y_lloadN X23.here hx (hb hby at_54) rfl (pc' := 55) rfl ?_
      refine y_lload X23.here hx (hb hby at_55) rfl (pc' := 57) rfl ?_
      exact kt)
  obtain ⟨v30, _, ⟨T30, L30, k30, n30⟩, -, X30, ⟨Lc30, hQ30, l30, y30, z30⟩, st30⟩ := X23.specialBack hx (y := (⟨"com/example/roamd/roamd/net/Receipt", "<init>", "(JJJ)V"⟩ : MethodName)) rfl hown (mvT hZ (hw _ (List.mem_of_getElem? (i := 3) rfl))) (mvT hZ (hw _ (List.mem_of_getElem? (i := 4) rfl))) (mvT hZ (hw _ (List.mem_of_getElem? (i := 5) rfl))) (by decide) (backOf (W := 1) (rm1 l Z a0 hw [] b23 pj0 pj1 pj2 h23 n0 O25 A23 f26 f27 f28 G25) hZ (hw _ (List.mem_of_getElem? (i := 5) rfl)) (hw _ (List.mem_of_getElem? (i := 2) rfl)) (by decide) (by decide)) (g := (mkF m 57 #[jv pj0, .second, jv pj1, .second, jv pj2, .second, jv pj3, .second, jv pj4, .second, iv pi5, jv x2, .second, jv x9, .second, jv x16, .second, .unset, .unset, .unset, .unset, .unset, .unset, .unset, .unset, .unset, .unset] [(.long pj2), (.long pj1), (.long pj0), (.ref b23), (.ref b23)])) rfl (by rw [hml]; rfl) (Steps.refl _) (a := b23) (argsL := [(.long pj0), (.long pj1), (.long pj2)]) (rest := [(.ref b23)]) (lenOf pd__JJJ_V rfl) rfl (by show 2 * 0 + _ ≤ _; exact Nat.le_of_eq rfl) (hb hby at_57) (fun _ _ => ⟨rfl, e23, (by decide : 1 + 0 ≤ _), (by decide : 3 + 0 ≤ _)⟩)
  dsimp only [Pt.U, Pt.locs, Pt.cells, Pt.slots] at X30 l30 y30 z30 st30 hQ30
  subst l30 y30 z30
  obtain ⟨hv30, N30q, K30q, p30_0, p30_1, p30_2⟩ := hQ30
  have N31 := Fr.app N0 N30q
  subst hv30
  have pre32 : ∀ t, Steps p.tables e below (T30.setTop (mkF m 60 #[jv pj0, .second, jv pj1, .second, jv pj2, .second, jv pj3, .second, jv pj4, .second, iv pi5, jv x2, .second, jv x9, .second, jv x16, .second, .unset, .unset, .unset, .unset, .unset, .unset, .unset, .unset, .unset, .unset] [(.ref b23)])) t → Go t := fun t kt => pre29 t (st30.trans kt)
  obtain ⟨h30, eh30⟩ : ∃ z, T30.heap = z := ⟨_, rfl⟩
  rw [eh30] at K30q p30_0 p30_1 p30_2
  have f33 : Exa Z h30 b23 "com/example/roamd/roamd/net/Receipt" := (A23.keep K30q)
  have O37 := O25.keep K30q (allS G25 all0)
  have pre38 : ∀ t, Steps p.tables e below (T30.setTop (mkF m 62 #[jv pj0, .second, jv pj1, .second, jv pj2, .second, jv pj3, .second, jv pj4, .second, iv pi5, jv x2, .second, jv x9, .second, jv x16, .second, rv b23, .unset, .unset, .unset, .unset, .unset, .unset, .unset, .unset, .unset] [])) t → Go t := fun t kt => pre32 t (by
      refine y_astore X30.here hx (hb hby at_60) rfl (l' := #[jv pj0, .second, jv pj1, .second, jv pj2, .second, jv pj3, .second, jv pj4, .second, iv pi5, jv x2, .second, jv x9, .second, jv x16, .second, rv b23, .unset, .unset, .unset, .unset, .unset, .unset, .unset, .unset, .unset]) rfl (pc' := 62) rfl ?_
      exact kt)
  obtain ⟨T39, h39, X39, e39, E39, A39, D39, -, st39⟩ := newO X30 hx hZ hown (hw _ (List.mem_of_getElem? (i := 0) rfl)) (hw _ (List.mem_of_getElem? (i := 1) rfl)) (hw _ (List.mem_of_getElem? (i := 2) rfl)) eh30 (g := (mkF m 62 #[jv pj0, .second, jv pj1, .second, jv pj2, .second, jv pj3, .second, jv pj4, .second, iv pi5, jv x2, .second, jv x9, .second, jv x16, .second, rv b23, .unset, .unset, .unset, .unset, .unset, .unset, .unset, .unset, .unset] [])) rfl (hb hby at_62) (by decide) (by decide)
  obtain ⟨b39, g39⟩ : ∃ z, z = h30.size := ⟨_, rfl⟩
  rw [← g39] at A39 D39 st39
  have pre40 : ∀ t, Steps p.tables e below (T39.setTop (mkF m 65 #[jv pj0, .second, jv pj1, .second, jv pj2, .second, jv pj3, .second, jv pj4, .second, iv pi5, jv x2, .second, jv x9, .second, jv x16, .second, rv b23, .unset, .unset, .unset, .unset, .unset, .unset, .unset, .unset, .unset] [(.ref b39)])) t → Go t := fun t kt => pre38 t (st39 t kt)
  have lt41 : b23 < b39 := Nat.lt_of_lt_of_le f33.lt (Nat.le_of_eq g39.symm)
  have ne41 : b23 ≠ b39 := Nat.ne_of_lt lt41
  have G42 : n0 ≤ b39 := Nat.le_trans (O37.1 ▸ O37.2.1) (Nat.le_of_eq g39.symm)
  have f43 : Exa Z h39 b23 "com/example/roamd/roamd/net/Receipt" := (f33.ext E39)
  have f44 : Fld Z h39 b23 "com/example/roamd/roamd/net/Receipt" "session" "J" (.long pj0) := (p30_0.ext E39)
  have f45 : Fld Z h39 b23 "com/example/roamd/roamd/net/Receipt" "floor" "J" (.long pj1) := (p30_1.ext E39)
  have f46 : Fld Z h39 b23 "com/example/roamd/roamd/net/Receipt" "marks" "J" (.long pj2) := (p30_2.ext E39)
  have O42 := O37.ext E39
  have f47 : Fld Z h39 b39 "com/example/roamd/roamd/net/Receipt" "session" "J" (.long (0 : Int64)) := D39 (Or.inr (hw _ (List.mem_of_getElem? (i := 10) rfl))) (ty := .long) (by decide)
  have f48 : Fld Z h39 b39 "com/example/roamd/roamd/net/Receipt" "floor" "J" (.long (0 : Int64)) := D39 (Or.inr (hw _ (List.mem_of_getElem? (i := 12) rfl))) (ty := .long) (by decide)
  have f49 : Fld Z h39 b39 "com/example/roamd/roamd/net/Receipt" "marks" "J" (.long (0 : Int64)) := D39 (Or.inr (hw _ (List.mem_of_getElem? (i := 14) rfl))) (ty := .long) (by decide)
  have pre50 : ∀ t, Steps p.tables e below (T39.setTop (mkF m 72 #[jv pj0, .second, jv pj1, .second, jv pj2, .second, jv pj3, .second, jv pj4, .second, iv pi5, jv x2, .second, jv x9, .second, jv x16, .second, rv b23, .unset, .unset, .unset, .unset, .unset, .unset, .unset, .unset, .unset] [(.long x16), (.long x9), (.long x2), (.ref b39), (.ref b39)])) t → Go t := fun t kt => pre40 t (by
      refine y_dup X39.here hx (hb hby at_65) rfl (pc' := 66) rfl ?_
      refine y_lload X39.here hx (hb hby at_66) rfl (pc' := 68) rfl ?_
      refine y_lload X39.here hx (hb hby at_68) rfl (pc' := 70) rfl ?_
      refine y_lload X39.here hx (hb hby at_70) rfl (pc' := 72) rfl ?_
      exact kt)
  obtain ⟨v51, _, ⟨T51, L51, k51, n51⟩, -, X51, ⟨Lc51, hQ51, l51, y51, z51⟩, st51⟩ := X39.specialBack hx (y := (⟨"com/example/roamd/roamd/net/Receipt", "<init>", "(JJJ)V"⟩ : MethodName)) rfl hown (mvT hZ (hw _ (List.mem_of_getElem? (i := 3) rfl))) (mvT hZ (hw _ (List.mem_of_getElem? (i := 4) rfl))) (mvT hZ (hw _ (List.mem_of_getElem? (i := 5) rfl))) (by decide) (backOf (W := 1) (rm1 l Z a0 hw [] b39 x2 x9 x16 h39 n0 O42 A39 f47 f48 f49 G42) hZ (hw _ (List.mem_of_getElem? (i := 5) rfl)) (hw _ (List.mem_of_getElem? (i := 2) rfl)) (by decide) (by decide)) (g := (mkF m 72 #[jv pj0, .second, jv pj1, .second, jv pj2, .second, jv pj3, .second, jv pj4, .second, iv pi5, jv x2, .second, jv x9, .second, jv x16, .second, rv b23, .unset, .unset, .unset, .unset, .unset, .unset, .unset, .unset, .unset] [(.long x16), (.long x9), (.long x2), (.ref b39), (.ref b39)])) rfl (by rw [hml]; rfl) (Steps.refl _) (a := b39) (argsL := [(.long x2), (.long x9), (.long x16)]) (rest := [(.ref b39)]) (lenOf pd__JJJ_V rfl) rfl (by show 2 * 0 + _ ≤ _; exact Nat.le_of_eq rfl) (hb hby at_72) (fun _ _ => ⟨rfl, e39, (by decide : 2 + 0 ≤ _), (by decide : 6 + 0 ≤ _)⟩)
  dsimp only [Pt.U, Pt.locs, Pt.cells, Pt.slots] at X51 l51 y51 z51 st51 hQ51
  subst l51 y51 z51
  obtain ⟨hv51, N51q, K51q, p51_0, p51_1, p51_2⟩ := hQ51
  have N52 := Fr.app N31 N51q
  subst hv51
  have pre53 : ∀ t, Steps p.tables e below (T51.setTop (mkF m 75 #[jv pj0, .second, jv pj1, .second, jv pj2, .second, jv pj3, .second, jv pj4, .second, iv pi5, jv x2, .second, jv x9, .second, jv x16, .second, rv b23, .unset, .unset, .unset, .unset, .unset, .unset, .unset, .unset, .unset] [(.ref b39)])) t → Go t := fun t kt => pre50 t (st51.trans kt)
  obtain ⟨h51, eh51⟩ : ∃ z, T51.heap = z := ⟨_, rfl⟩
  rw [eh51] at K51q p51_0 p51_1 p51_2
  have f54 : Exa Z h51 b23 "com/example/roamd/roamd/net/Receipt" := (f43.keep K51q)
  have f55 : Fld Z h51 b23 "com/example/roamd/roamd/net/Receipt" "session" "J" (.long pj0) := (f44.keep K51q (ninS ne41 nin0))
  have f56 : Fld Z h51 b23 "com/example/roamd/roamd/net/Receipt" "floor" "J" (.long pj1) := (f45.keep K51q (ninS ne41 nin0))
  have f57 : Fld Z h51 b23 "com/example/roamd/roamd/net/Receipt" "marks" "J" (.long pj2) := (f46.keep K51q (ninS ne41 nin0))
  have f58 : Exa Z h51 b39 "com/example/roamd/roamd/net/Receipt" := (A39.keep K51q)
  have O62 := O42.keep K51q (allS G42 all0)
  have pre63 : ∀ t, Steps p.tables e below (T51.setTop (mkF m 81 #[jv pj0, .second, jv pj1, .second, jv pj2, .second, jv pj3, .second, jv pj4, .second, iv pi5, jv x2, .second, jv x9, .second, jv x16, .second, rv b23, rv b39, .unset, .unset, .unset, .unset, .unset, .unset, .unset, .unset] [(.int (lcmpW x2 pj0))])) t → Go t := fun t kt => pre53 t (by
      refine y_astore X51.here hx (hb hby at_75) rfl (l' := #[jv pj0, .second, jv pj1, .second, jv pj2, .second, jv pj3, .second, jv pj4, .second, iv pi5, jv x2, .second, jv x9, .second, jv x16, .second, rv b23, rv b39, .unset, .unset, .unset, .unset, .unset, .unset, .unset, .unset]) rfl (pc' := 77) rfl ?_
      refine y_lload X51.here hx (hb hby at_77) rfl (pc' := 79) rfl ?_
      refine y_lloadN X51.here hx (hb hby at_79) rfl (pc' := 80) rfl ?_
      refine y_lcmp X51.here hx (hb hby at_80) (pc' := 81) rfl ?_
      exact kt)
  obtain ⟨x64, hx64⟩ : ∃ z : Int32, z = (if x2 = pj0 then (if x9 = pj1 then (if x16 = pj2 then (1 : Int32) else (0 : Int32)) else (0 : Int32)) else (0 : Int32)) := ⟨_, rfl⟩
  obtain ⟨T65, ⟨X65, q65⟩, st65⟩ : ∃ T', Nx X51 T' ∧ ∀ t, Steps p.tables e below (T'.setTop (mkF m 104 #[jv pj0, .second, jv pj1, .second, jv pj2, .second, jv pj3, .second, jv pj4, .second, iv pi5, jv x2, .second, jv x9, .second, jv x16, .second, rv b23, rv b39, .unset, .unset, .unset, .unset, .unset, .unset, .unset, .unset] [(.int x64)])) t → Steps p.tables e below (T51.setTop (mkF m 81 #[jv pj0, .second, jv pj1, .second, jv pj2, .second, jv pj3, .second, jv pj4, .second, iv pi5, jv x2, .second, jv x9, .second, jv x16, .second, rv b23, rv b39, .unset, .unset, .unset, .unset, .unset, .unset, .unset, .unset] [(.int (lcmpW x2 pj0))])) t := by
    have pre65_ : ∀ t, Steps p.tables e below (T51.setTop (mkF m 81 #[jv pj0, .second, jv pj1, .second, jv pj2, .second, jv pj3, .second, jv pj4, .second, iv pi5, jv x2, .second, jv x9, .second, jv x16, .second, rv b23, rv b39, .unset, .unset, .unset, .unset, .unset, .unset, .unset, .unset] [(.int (lcmpW x2 pj0))])) t → Steps p.tables e below (T51.setTop (mkF m 81 #[jv pj0, .second, jv pj1, .second, jv pj2, .second, jv pj3, .second, jv pj4, .second, iv pi5, jv x2, .second, jv x9, .second, jv x16, .second, rv b23, rv b39, .unset, .unset, .unset, .unset, .unset, .unset, .unset, .unset] [(.int (lcmpW x2 pj0))])) t := fun t kt => kt
    subst hx64
    by_cases hm81_66 : x2 = pj0
    · have pre67 : ∀ t, Steps p.tables e below (T51.setTop (mkF m 88 #[jv pj0, .second, jv pj1, .second, jv pj2, .second, jv pj3, .second, jv pj4, .second, iv pi5, jv x2, .second, jv x9, .second, jv x16, .second, rv b23, rv b39, .unset, .unset, .unset, .unset, .unset, .unset, .unset, .unset] [(.int (lcmpW x9 pj1))])) t → Steps p.tables e below (T51.setTop (mkF m 81 #[jv pj0, .second, jv pj1, .second, jv pj2, .second, jv pj3, .second, jv pj4, .second, iv pi5, jv x2, .second, jv x9, .second, jv x16, .second, rv b23, rv b39, .unset, .unset, .unset, .unset, .unset, .unset, .unset, .unset] [(.int (lcmpW x2 pj0))])) t := fun t kt => pre65_ t (by
          refine y_ifNo X51.here hx (hb hby at_81) ((if0 _ _).trans (teq (lq_eq hm81_66)).2) (pc' := 84) rfl ?_
          refine y_lload X51.here hx (hb hby at_84) rfl (pc' := 86) rfl ?_
          refine y_lloadN X51.here hx (hb hby at_86) rfl (pc' := 87) rfl ?_
          refine y_lcmp X51.here hx (hb hby at_87) (pc' := 88) rfl ?_
          exact kt)
      by_cases hm88_68 : x9 = pj1
      · have pre69 : ∀ t, Steps p.tables e below (T51.setTop (mkF m 96 #[jv pj0, .second, jv pj1, .second, jv pj2, .second, jv pj3, .second, jv pj4, .second, iv pi5, jv x2, .second, jv x9, .second, jv x16, .second, rv b23, rv b39, .unset, .unset, .unset, .unset, .unset, .unset, .unset, .unset] [(.int (lcmpW x16 pj2))])) t → Steps p.tables e below (T51.setTop (mkF m 81 #[jv pj0, .second, jv pj1, .second, jv pj2, .second, jv pj3, .second, jv pj4, .second, iv pi5, jv x2, .second, jv x9, .second, jv x16, .second, rv b23, rv b39, .unset, .unset, .unset, .unset, .unset, .unset, .unset, .unset] [(.int (lcmpW x2 pj0))])) t := fun t kt => pre67 t (by
            refine y_ifNo X51.here hx (hb hby at_88) ((if0 _ _).trans (teq (lq_eq hm88_68)).2) (pc' := 91) rfl ?_
            refine y_lload X51.here hx (hb hby at_91) rfl (pc' := 93) rfl ?_
            refine y_lload X51.here hx (hb hby at_93) rfl (pc' := 95) rfl ?_
            refine y_lcmp X51.here hx (hb hby at_95) (pc' := 96) rfl ?_
            exact kt)
        by_cases hm96_70 : x16 = pj2
        · have pre71 : ∀ t, Steps p.tables e below (T51.setTop (mkF m 104 #[jv pj0, .second, jv pj1, .second, jv pj2, .second, jv pj3, .second, jv pj4, .second, iv pi5, jv x2, .second, jv x9, .second, jv x16, .second, rv b23, rv b39, .unset, .unset, .unset, .unset, .unset, .unset, .unset, .unset] [(.int (1 : Int32))])) t → Steps p.tables e below (T51.setTop (mkF m 81 #[jv pj0, .second, jv pj1, .second, jv pj2, .second, jv pj3, .second, jv pj4, .second, iv pi5, jv x2, .second, jv x9, .second, jv x16, .second, rv b23, rv b39, .unset, .unset, .unset, .unset, .unset, .unset, .unset, .unset] [(.int (lcmpW x2 pj0))])) t := fun t kt => pre69 t (by
              refine y_ifNo X51.here hx (hb hby at_96) ((if0 _ _).trans (teq (lq_eq hm96_70)).2) (pc' := 99) rfl ?_
              refine y_iconst X51.here hx (hb hby at_99) (v := (1 : Int32)) rfl (pc' := 100) rfl ?_
              refine y_goto X51.here hx (hb hby at_100) (pc' := 104) (by decide) rfl ?_
              exact kt)
          refine ⟨T51, ⟨X51, eh51.trans eh51.symm⟩, fun t kt => pre71 t ?_⟩
          (try simp only [if_pos hm81_66, if_pos hm88_68, if_pos hm96_70] at kt)
          exact kt
        · have pre72 : ∀ t, Steps p.tables e below (T51.setTop (mkF m 104 #[jv pj0, .second, jv pj1, .second, jv pj2, .second, jv pj3, .second, jv pj4, .second, iv pi5, jv x2, .second, jv x9, .second, jv x16, .second, rv b23, rv b39, .unset, .unset, .unset, .unset, .unset, .unset, .unset, .unset] [(.int (0 : Int32))])) t → Steps p.tables e below (T51.setTop (mkF m 81 #[jv pj0, .second, jv pj1, .second, jv pj2, .second, jv pj3, .second, jv pj4, .second, iv pi5, jv x2, .second, jv x9, .second, jv x16, .second, rv b23, rv b39, .unset, .unset, .unset, .unset, .unset, .unset, .unset, .unset] [(.int (lcmpW x2 pj0))])) t := fun t kt => pre69 t (by
              refine y_ifYes X51.here hx (hb hby at_96) ((if0 _ _).trans (feq (lq_ne hm96_70)).2) (pc' := 103) (by decide) rfl ?_
              refine y_iconst X51.here hx (hb hby at_103) (v := (0 : Int32)) rfl (pc' := 104) rfl ?_
              exact kt)
          refine ⟨T51, ⟨X51, eh51.trans eh51.symm⟩, fun t kt => pre72 t ?_⟩
          (try simp only [if_pos hm81_66, if_pos hm88_68, if_neg hm96_70] at kt)
          exact kt
      · have pre73 : ∀ t, Steps p.tables e below (T51.setTop (mkF m 104 #[jv pj0, .second, jv pj1, .second, jv pj2, .second, jv pj3, .second, jv pj4, .second, iv pi5, jv x2, .second, jv x9, .second, jv x16, .second, rv b23, rv b39, .unset, .unset, .unset, .unset, .unset, .unset, .unset, .unset] [(.int (0 : Int32))])) t → Steps p.tables e below (T51.setTop (mkF m 81 #[jv pj0, .second, jv pj1, .second, jv pj2, .second, jv pj3, .second, jv pj4, .second, iv pi5, jv x2, .second, jv x9, .second, jv x16, .second, rv b23, rv b39, .unset, .unset, .unset, .unset, .unset, .unset, .unset, .unset] [(.int (lcmpW x2 pj0))])) t := fun t kt => pre67 t (by
            refine y_ifYes X51.here hx (hb hby at_88) ((if0 _ _).trans (feq (lq_ne hm88_68)).2) (pc' := 103) (by decide) rfl ?_
            refine y_iconst X51.here hx (hb hby at_103) (v := (0 : Int32)) rfl (pc' := 104) rfl ?_
            exact kt)
        refine ⟨T51, ⟨X51, eh51.trans eh51.symm⟩, fun t kt => pre73 t ?_⟩
        (try simp only [if_pos hm81_66, if_neg hm88_68] at kt)
        exact kt
    · have pre74 : ∀ t, Steps p.tables e below (T51.setTop (mkF m 104 #[jv pj0, .second, jv pj1, .second, jv pj2, .second, jv pj3, .second, jv pj4, .second, iv pi5, jv x2, .second, jv x9, .second, jv x16, .second, rv b23, rv b39, .unset, .unset, .unset, .unset, .unset, .unset, .unset, .unset] [(.int (0 : Int32))])) t → Steps p.tables e below (T51.setTop (mkF m 81 #[jv pj0, .second, jv pj1, .second, jv pj2, .second, jv pj3, .second, jv pj4, .second, iv pi5, jv x2, .second, jv x9, .second, jv x16, .second, rv b23, rv b39, .unset, .unset, .unset, .unset, .unset, .unset, .unset, .unset] [(.int (lcmpW x2 pj0))])) t := fun t kt => pre65_ t (by
          refine y_ifYes X51.here hx (hb hby at_81) ((if0 _ _).trans (feq (lq_ne hm81_66)).2) (pc' := 103) (by decide) rfl ?_
          refine y_iconst X51.here hx (hb hby at_103) (v := (0 : Int32)) rfl (pc' := 104) rfl ?_
          exact kt)
      refine ⟨T51, ⟨X51, eh51.trans eh51.symm⟩, fun t kt => pre74 t ?_⟩
      (try simp only [if_neg hm81_66] at kt)
      exact kt
  have e65 : T65.heap = h51 := q65.trans eh51
  have pre75 : ∀ t, Steps p.tables e below (T65.setTop (mkF m 104 #[jv pj0, .second, jv pj1, .second, jv pj2, .second, jv pj3, .second, jv pj4, .second, iv pi5, jv x2, .second, jv x9, .second, jv x16, .second, rv b23, rv b39, .unset, .unset, .unset, .unset, .unset, .unset, .unset, .unset] [(.int x64)])) t → Go t := fun t kt => pre63 t (st65 t kt)
  have pre76 : ∀ t, Steps p.tables e below (T65.setTop (mkF m 110 #[jv pj0, .second, jv pj1, .second, jv pj2, .second, jv pj3, .second, jv pj4, .second, iv pi5, jv x2, .second, jv x9, .second, jv x16, .second, rv b23, rv b39, iv x64, .unset, .unset, .unset, .unset, .unset, .unset, .unset] [(.ref b39), (.ref b23)])) t → Go t := fun t kt => pre75 t (by
      refine y_istore X65.here hx (hb hby at_104) (l' := #[jv pj0, .second, jv pj1, .second, jv pj2, .second, jv pj3, .second, jv pj4, .second, iv pi5, jv x2, .second, jv x9, .second, jv x16, .second, rv b23, rv b39, iv x64, .unset, .unset, .unset, .unset, .unset, .unset, .unset]) rfl (pc' := 106) rfl ?_
      refine y_aload X65.here hx (hb hby at_106) rfl rfl (pc' := 108) rfl ?_
      refine y_aload X65.here hx (hb hby at_108) rfl rfl (pc' := 110) rfl ?_
      exact kt)
  obtain ⟨cq77, kq77, q77a, q77b, q77c⟩ := isOf hZ e65 f54
  obtain ⟨v77, _, ⟨T77, L77, k77, n77⟩, -, X77, ⟨Lc77, hQ77, l77, y77, z77⟩, st77⟩ := X65.virtualBack hx (y := (⟨"com/example/roamd/roamd/net/Receipt", "equals", "(Ljava/lang/Object;)Z"⟩ : MethodName)) (z := (⟨"com/example/roamd/roamd/net/Receipt", "equals", "(Ljava/lang/Object;)Z"⟩ : MethodName)) hown (mvT hZ (hw _ (List.mem_of_getElem? (i := 15) rfl))) (mvT hZ (hw _ (List.mem_of_getElem? (i := 16) rfl))) (notFace_of_selects (args := #[]) (mvT hZ (hw _ (List.mem_of_getElem? (i := 18) rfl)))) (mvT hZ (hw _ (List.mem_of_getElem? (i := 18) rfl))) (mvT hZ (hw _ (List.mem_of_getElem? (i := 17) rfl))) (by decide) (backOf (W := 0) (rm3 l Z a0 hw [] b23 b39 pj0 pj1 pj2 x2 x9 x16 h51 n0 O62 f54 f55 f56 f57 f58 p51_0 p51_1 p51_2) hZ (hw _ (List.mem_of_getElem? (i := 19) rfl)) (hw _ (List.mem_of_getElem? (i := 2) rfl)) (by decide) (by decide)) q77a q77c (g := (mkF m 110 #[jv pj0, .second, jv pj1, .second, jv pj2, .second, jv pj3, .second, jv pj4, .second, iv pi5, jv x2, .second, jv x9, .second, jv x16, .second, rv b23, rv b39, iv x64, .unset, .unset, .unset, .unset, .unset, .unset, .unset] [(.ref b39), (.ref b23)])) rfl (by rw [hml]; rfl) (Steps.refl _) (argsL := [(.ref b39)]) (rest := []) (lenOf pd__Ljava_lang_Object__Z rfl) rfl (by show 2 * 0 + _ ≤ _; exact Nat.le_of_eq rfl) (hb hby at_110) (fun _ _ => ⟨rfl, e65, (by decide : 2 + 0 ≤ _), (by decide : 6 + 0 ≤ _)⟩)
  dsimp only [Pt.U, Pt.locs, Pt.cells, Pt.slots] at X77 l77 y77 z77 st77 hQ77
  subst l77 y77 z77
  obtain ⟨hv77, N77q, e77q⟩ := hQ77
  have N78 := Fr.app N52 N77q
  have hw77 := hv77
  obtain ⟨x79, hx79⟩ : ∃ z : Int32, z = (if pj0 = x2 then (if pj1 = x9 then (if pj2 = x16 then (1 : Int32) else (0 : Int32)) else (0 : Int32)) else (0 : Int32)) := ⟨_, rfl⟩
  rw [← hx79] at hw77
  subst hw77
  have pre80 : ∀ t, Steps p.tables e below (T77.setTop (mkF m 113 #[jv pj0, .second, jv pj1, .second, jv pj2, .second, jv pj3, .second, jv pj4, .second, iv pi5, jv x2, .second, jv x9, .second, jv x16, .second, rv b23, rv b39, iv x64, .unset, .unset, .unset, .unset, .unset, .unset, .unset] [(.int x79)])) t → Go t := fun t kt => pre76 t (st77.trans kt)
  have pre81 : ∀ t, Steps p.tables e below (T77.setTop (mkF m 119 #[jv pj0, .second, jv pj1, .second, jv pj2, .second, jv pj3, .second, jv pj4, .second, iv pi5, jv x2, .second, jv x9, .second, jv x16, .second, rv b23, rv b39, iv x64, iv x79, .unset, .unset, .unset, .unset, .unset, .unset] [(.ref b23), (.ref b39)])) t → Go t := fun t kt => pre80 t (by
      refine y_istore X77.here hx (hb hby at_113) (l' := #[jv pj0, .second, jv pj1, .second, jv pj2, .second, jv pj3, .second, jv pj4, .second, iv pi5, jv x2, .second, jv x9, .second, jv x16, .second, rv b23, rv b39, iv x64, iv x79, .unset, .unset, .unset, .unset, .unset, .unset]) rfl (pc' := 115) rfl ?_
      refine y_aload X77.here hx (hb hby at_115) rfl rfl (pc' := 117) rfl ?_
      refine y_aload X77.here hx (hb hby at_117) rfl rfl (pc' := 119) rfl ?_
      exact kt)
  obtain ⟨cq82, kq82, q82a, q82b, q82c⟩ := isOf hZ e77q f58
  obtain ⟨v82, _, ⟨T82, L82, k82, n82⟩, -, X82, ⟨Lc82, hQ82, l82, y82, z82⟩, st82⟩ := X77.virtualBack hx (y := (⟨"com/example/roamd/roamd/net/Receipt", "equals", "(Ljava/lang/Object;)Z"⟩ : MethodName)) (z := (⟨"com/example/roamd/roamd/net/Receipt", "equals", "(Ljava/lang/Object;)Z"⟩ : MethodName)) hown (mvT hZ (hw _ (List.mem_of_getElem? (i := 15) rfl))) (mvT hZ (hw _ (List.mem_of_getElem? (i := 16) rfl))) (notFace_of_selects (args := #[]) (mvT hZ (hw _ (List.mem_of_getElem? (i := 18) rfl)))) (mvT hZ (hw _ (List.mem_of_getElem? (i := 18) rfl))) (mvT hZ (hw _ (List.mem_of_getElem? (i := 17) rfl))) (by decide) (backOf (W := 0) (rm3 l Z a0 hw [] b39 b23 x2 x9 x16 pj0 pj1 pj2 h51 n0 O62 f58 p51_0 p51_1 p51_2 f54 f55 f56 f57) hZ (hw _ (List.mem_of_getElem? (i := 19) rfl)) (hw _ (List.mem_of_getElem? (i := 2) rfl)) (by decide) (by decide)) q82a q82c (g := (mkF m 119 #[jv pj0, .second, jv pj1, .second, jv pj2, .second, jv pj3, .second, jv pj4, .second, iv pi5, jv x2, .second, jv x9, .second, jv x16, .second, rv b23, rv b39, iv x64, iv x79, .unset, .unset, .unset, .unset, .unset, .unset] [(.ref b23), (.ref b39)])) rfl (by rw [hml]; rfl) (Steps.refl _) (argsL := [(.ref b23)]) (rest := []) (lenOf pd__Ljava_lang_Object__Z rfl) rfl (by show 2 * 0 + _ ≤ _; exact Nat.le_of_eq rfl) (hb hby at_119) (fun _ _ => ⟨rfl, e77q, (by decide : 2 + 0 ≤ _), (by decide : 6 + 0 ≤ _)⟩)
  dsimp only [Pt.U, Pt.locs, Pt.cells, Pt.slots] at X82 l82 y82 z82 st82 hQ82
  subst l82 y82 z82
  obtain ⟨hv82, N82q, e82q⟩ := hQ82
  have N83 := Fr.app N78 N82q
  have hw82 := hv82
  obtain ⟨x84, hx84⟩ : ∃ z : Int32, z = (if x2 = pj0 then (if x9 = pj1 then (if x16 = pj2 then (1 : Int32) else (0 : Int32)) else (0 : Int32)) else (0 : Int32)) := ⟨_, rfl⟩
  rw [← hx84] at hw82
  subst hw82
  have pre85 : ∀ t, Steps p.tables e below (T82.setTop (mkF m 122 #[jv pj0, .second, jv pj1, .second, jv pj2, .second, jv pj3, .second, jv pj4, .second, iv pi5, jv x2, .second, jv x9, .second, jv x16, .second, rv b23, rv b39, iv x64, iv x79, .unset, .unset, .unset, .unset, .unset, .unset] [(.int x84)])) t → Go t := fun t kt => pre81 t (st82.trans kt)
  have pre86 : ∀ t, Steps p.tables e below (T82.setTop (mkF m 128 #[jv pj0, .second, jv pj1, .second, jv pj2, .second, jv pj3, .second, jv pj4, .second, iv pi5, jv x2, .second, jv x9, .second, jv x16, .second, rv b23, rv b39, iv x64, iv x79, iv x84, .unset, .unset, .unset, .unset, .unset] [(.ref b23), (.ref b23)])) t → Go t := fun t kt => pre85 t (by
      refine y_istore X82.here hx (hb hby at_122) (l' := #[jv pj0, .second, jv pj1, .second, jv pj2, .second, jv pj3, .second, jv pj4, .second, iv pi5, jv x2, .second, jv x9, .second, jv x16, .second, rv b23, rv b39, iv x64, iv x79, iv x84, .unset, .unset, .unset, .unset, .unset]) rfl (pc' := 124) rfl ?_
      refine y_aload X82.here hx (hb hby at_124) rfl rfl (pc' := 126) rfl ?_
      refine y_aload X82.here hx (hb hby at_126) rfl rfl (pc' := 128) rfl ?_
      exact kt)
  obtain ⟨cq87, kq87, q87a, q87b, q87c⟩ := isOf hZ e82q f54
  obtain ⟨v87, _, ⟨T87, L87, k87, n87⟩, -, X87, ⟨Lc87, hQ87, l87, y87, z87⟩, st87⟩ := X82.virtualBack hx (y := (⟨"com/example/roamd/roamd/net/Receipt", "equals", "(Ljava/lang/Object;)Z"⟩ : MethodName)) (z := (⟨"com/example/roamd/roamd/net/Receipt", "equals", "(Ljava/lang/Object;)Z"⟩ : MethodName)) hown (mvT hZ (hw _ (List.mem_of_getElem? (i := 15) rfl))) (mvT hZ (hw _ (List.mem_of_getElem? (i := 16) rfl))) (notFace_of_selects (args := #[]) (mvT hZ (hw _ (List.mem_of_getElem? (i := 18) rfl)))) (mvT hZ (hw _ (List.mem_of_getElem? (i := 18) rfl))) (mvT hZ (hw _ (List.mem_of_getElem? (i := 17) rfl))) (by decide) (backOf (W := 0) (rm3 l Z a0 hw [] b23 b23 pj0 pj1 pj2 pj0 pj1 pj2 h51 n0 O62 f54 f55 f56 f57 f54 f55 f56 f57) hZ (hw _ (List.mem_of_getElem? (i := 19) rfl)) (hw _ (List.mem_of_getElem? (i := 2) rfl)) (by decide) (by decide)) q87a q87c (g := (mkF m 128 #[jv pj0, .second, jv pj1, .second, jv pj2, .second, jv pj3, .second, jv pj4, .second, iv pi5, jv x2, .second, jv x9, .second, jv x16, .second, rv b23, rv b39, iv x64, iv x79, iv x84, .unset, .unset, .unset, .unset, .unset] [(.ref b23), (.ref b23)])) rfl (by rw [hml]; rfl) (Steps.refl _) (argsL := [(.ref b23)]) (rest := []) (lenOf pd__Ljava_lang_Object__Z rfl) rfl (by show 2 * 0 + _ ≤ _; exact Nat.le_of_eq rfl) (hb hby at_128) (fun _ _ => ⟨rfl, e82q, (by decide : 2 + 0 ≤ _), (by decide : 6 + 0 ≤ _)⟩)
  dsimp only [Pt.U, Pt.locs, Pt.cells, Pt.slots] at X87 l87 y87 z87 st87 hQ87
  subst l87 y87 z87
  obtain ⟨hv87, N87q, e87q⟩ := hQ87
  have N88 := Fr.app N83 N87q
  have hw87 : v87 = some (.int (1 : Int32)) := by rw [hv87, if_pos (rfl : pj0 = pj0), if_pos (rfl : pj1 = pj1), if_pos (rfl : pj2 = pj2)]
  subst hw87
  have pre89 : ∀ t, Steps p.tables e below (T87.setTop (mkF m 131 #[jv pj0, .second, jv pj1, .second, jv pj2, .second, jv pj3, .second, jv pj4, .second, iv pi5, jv x2, .second, jv x9, .second, jv x16, .second, rv b23, rv b39, iv x64, iv x79, iv x84, .unset, .unset, .unset, .unset, .unset] [(.int (1 : Int32))])) t → Go t := fun t kt => pre86 t (st87.trans kt)
  have pre90 : ∀ t, Steps p.tables e below (T87.setTop (mkF m 140 #[jv pj0, .second, jv pj1, .second, jv pj2, .second, jv pj3, .second, jv pj4, .second, iv pi5, jv x2, .second, jv x9, .second, jv x16, .second, rv b23, rv b39, iv x64, iv x79, iv x84, iv (1 : Int32), .val .null, .unset, .unset, .unset] [.null, (.ref b23)])) t → Go t := fun t kt => pre89 t (by
      refine y_istore X87.here hx (hb hby at_131) (l' := #[jv pj0, .second, jv pj1, .second, jv pj2, .second, jv pj3, .second, jv pj4, .second, iv pi5, jv x2, .second, jv x9, .second, jv x16, .second, rv b23, rv b39, iv x64, iv x79, iv x84, iv (1 : Int32), .unset, .unset, .unset, .unset]) rfl (pc' := 133) rfl ?_
      refine y_aconstNull X87.here hx (hb hby at_133) (pc' := 134) rfl ?_
      refine y_astore X87.here hx (hb hby at_134) rfl (l' := #[jv pj0, .second, jv pj1, .second, jv pj2, .second, jv pj3, .second, jv pj4, .second, iv pi5, jv x2, .second, jv x9, .second, jv x16, .second, rv b23, rv b39, iv x64, iv x79, iv x84, iv (1 : Int32), .val .null, .unset, .unset, .unset]) rfl (pc' := 136) rfl ?_
      refine y_aload X87.here hx (hb hby at_136) rfl rfl (pc' := 138) rfl ?_
      refine y_aload X87.here hx (hb hby at_138) rfl rfl (pc' := 140) rfl ?_
      exact kt)
  obtain ⟨cq91, kq91, q91a, q91b, q91c⟩ := isOf hZ e87q f54
  obtain ⟨v91, _, ⟨T91, L91, k91, n91⟩, -, X91, ⟨Lc91, hQ91, l91, y91, z91⟩, st91⟩ := X87.virtualBack hx (y := (⟨"com/example/roamd/roamd/net/Receipt", "equals", "(Ljava/lang/Object;)Z"⟩ : MethodName)) (z := (⟨"com/example/roamd/roamd/net/Receipt", "equals", "(Ljava/lang/Object;)Z"⟩ : MethodName)) hown (mvT hZ (hw _ (List.mem_of_getElem? (i := 15) rfl))) (mvT hZ (hw _ (List.mem_of_getElem? (i := 16) rfl))) (notFace_of_selects (args := #[]) (mvT hZ (hw _ (List.mem_of_getElem? (i := 18) rfl)))) (mvT hZ (hw _ (List.mem_of_getElem? (i := 18) rfl))) (mvT hZ (hw _ (List.mem_of_getElem? (i := 17) rfl))) (by decide) (backOf (W := 0) (rm3n l Z a0 hw [] b23 h51 n0 O62 ) hZ (hw _ (List.mem_of_getElem? (i := 19) rfl)) (hw _ (List.mem_of_getElem? (i := 2) rfl)) (by decide) (by decide)) q91a q91c (g := (mkF m 140 #[jv pj0, .second, jv pj1, .second, jv pj2, .second, jv pj3, .second, jv pj4, .second, iv pi5, jv x2, .second, jv x9, .second, jv x16, .second, rv b23, rv b39, iv x64, iv x79, iv x84, iv (1 : Int32), .val .null, .unset, .unset, .unset] [.null, (.ref b23)])) rfl (by rw [hml]; rfl) (Steps.refl _) (argsL := [.null]) (rest := []) (lenOf pd__Ljava_lang_Object__Z rfl) rfl (by show 2 * 0 + _ ≤ _; exact Nat.le_of_eq rfl) (hb hby at_140) (fun _ _ => ⟨rfl, e87q, (by decide : 2 + 0 ≤ _), (by decide : 6 + 0 ≤ _)⟩)
  dsimp only [Pt.U, Pt.locs, Pt.cells, Pt.slots] at X91 l91 y91 z91 st91 hQ91
  subst l91 y91 z91
  obtain ⟨hv91, N91q, e91q⟩ := hQ91
  have N92 := Fr.app N88 N91q
  have hw91 := hv91
  subst hw91
  have pre93 : ∀ t, Steps p.tables e below (T91.setTop (mkF m 143 #[jv pj0, .second, jv pj1, .second, jv pj2, .second, jv pj3, .second, jv pj4, .second, iv pi5, jv x2, .second, jv x9, .second, jv x16, .second, rv b23, rv b39, iv x64, iv x79, iv x84, iv (1 : Int32), .val .null, .unset, .unset, .unset] [(.int (0 : Int32))])) t → Go t := fun t kt => pre90 t (st91.trans kt)
  have pre94 : ∀ t, Steps p.tables e below (T91.setTop (mkF m 146 #[jv pj0, .second, jv pj1, .second, jv pj2, .second, jv pj3, .second, jv pj4, .second, iv pi5, jv x2, .second, jv x9, .second, jv x16, .second, rv b23, rv b39, iv x64, iv x79, iv x84, iv (1 : Int32), .val .null, iv (0 : Int32), .unset, .unset] [(.long pj0)])) t → Go t := fun t kt => pre93 t (by
      refine y_istore X91.here hx (hb hby at_143) (l' := #[jv pj0, .second, jv pj1, .second, jv pj2, .second, jv pj3, .second, jv pj4, .second, iv pi5, jv x2, .second, jv x9, .second, jv x16, .second, rv b23, rv b39, iv x64, iv x79, iv x84, iv (1 : Int32), .val .null, iv (0 : Int32), .unset, .unset]) rfl (pc' := 145) rfl ?_
      refine y_lloadN X91.here hx (hb hby at_145) rfl (pc' := 146) rfl ?_
      exact kt)
  obtain ⟨v95, _, ⟨T95, L95, k95, n95⟩, -, X95, ⟨Lc95, hQ95, l95, y95, z95⟩, st95⟩ := Jvm.LawKit.callS X91 hx (y := (⟨"java/lang/Long", "valueOf", "(J)Ljava/lang/Long;"⟩ : MethodName)) hown (mvT hZ (hw _ (List.mem_of_getElem? (i := 22) rfl))) (mvT hZ (hw _ (List.mem_of_getElem? (i := 23) rfl))) (mvT hZ (hw _ (List.mem_of_getElem? (i := 24) rfl))) (mvT hZ (hw _ (List.mem_of_getElem? (i := 25) rfl))) (by decide) (backOf (W := 0) (rm4 l Z a0 hw [] pj0 w_cache cc h51 n0 O62 S_cache CA) hZ (hw _ (List.mem_of_getElem? (i := 25) rfl)) (hw _ (List.mem_of_getElem? (i := 24) rfl)) (by decide) (by decide)) (g := (mkF m 146 #[jv pj0, .second, jv pj1, .second, jv pj2, .second, jv pj3, .second, jv pj4, .second, iv pi5, jv x2, .second, jv x9, .second, jv x16, .second, rv b23, rv b39, iv x64, iv x79, iv x84, iv (1 : Int32), .val .null, iv (0 : Int32), .unset, .unset] [(.long pj0)])) rfl (by rw [hml]; rfl) (argsL := [(.long pj0)]) (rest := []) (lenOf pd__J_Ljava_lang_Long_ rfl) rfl (by show 2 * 0 + _ ≤ _; exact Nat.le_of_eq rfl) (hb hby at_146) (fun _ _ => ⟨rfl, e91q, (by decide : 2 + 1 ≤ _), (by decide : 6 + 1 ≤ _)⟩)
  dsimp only [Pt.U, Pt.locs, Pt.cells, Pt.slots] at X95 l95 y95 z95 st95 hQ95
  subst l95 y95 z95
  obtain ⟨⟨b95, hv95, B95⟩, N95q, K95q⟩ := hQ95
  have N96 := Fr.app N92 N95q
  subst hv95
  have pre97 : ∀ t, Steps p.tables e below (T95.setTop (mkF m 149 #[jv pj0, .second, jv pj1, .second, jv pj2, .second, jv pj3, .second, jv pj4, .second, iv pi5, jv x2, .second, jv x9, .second, jv x16, .second, rv b23, rv b39, iv x64, iv x79, iv x84, iv (1 : Int32), .val .null, iv (0 : Int32), .unset, .unset] [(.ref b95)])) t → Go t := fun t kt => pre94 t (st95 t kt)
  obtain ⟨h95, eh95⟩ : ∃ z, T95.heap = z := ⟨_, rfl⟩
  rw [eh95] at K95q B95
  have f98 : Exa Z h95 b23 "com/example/roamd/roamd/net/Receipt" := (f54.keep K95q)
  have f99 : Fld Z h95 b23 "com/example/roamd/roamd/net/Receipt" "session" "J" (.long pj0) := (f55.keep K95q nin0)
  have f100 : Fld Z h95 b23 "com/example/roamd/roamd/net/Receipt" "floor" "J" (.long pj1) := (f56.keep K95q nin0)
  have f101 : Fld Z h95 b23 "com/example/roamd/roamd/net/Receipt" "marks" "J" (.long pj2) := (f57.keep K95q nin0)
  have f102 : Exa Z h95 b39 "com/example/roamd/roamd/net/Receipt" := (f58.keep K95q)
  have f103 : Fld Z h95 b39 "com/example/roamd/roamd/net/Receipt" "session" "J" (.long x2) := (p51_0.keep K95q nin0)
  have f104 : Fld Z h95 b39 "com/example/roamd/roamd/net/Receipt" "floor" "J" (.long x9) := (p51_1.keep K95q nin0)
  have f105 : Fld Z h95 b39 "com/example/roamd/roamd/net/Receipt" "marks" "J" (.long x16) := (p51_2.keep K95q nin0)
  have O106 := O62.keep K95q all0
  have pre107 : ∀ t, Steps p.tables e below (T95.setTop (mkF m 155 #[jv pj0, .second, jv pj1, .second, jv pj2, .second, jv pj3, .second, jv pj4, .second, iv pi5, jv x2, .second, jv x9, .second, jv x16, .second, rv b23, rv b39, iv x64, iv x79, iv x84, iv (1 : Int32), .val .null, iv (0 : Int32), rv b95, .unset] [(.ref b95), (.ref b23)])) t → Go t := fun t kt => pre97 t (by
      refine y_astore X95.here hx (hb hby at_149) rfl (l' := #[jv pj0, .second, jv pj1, .second, jv pj2, .second, jv pj3, .second, jv pj4, .second, iv pi5, jv x2, .second, jv x9, .second, jv x16, .second, rv b23, rv b39, iv x64, iv x79, iv x84, iv (1 : Int32), .val .null, iv (0 : Int32), rv b95, .unset]) rfl (pc' := 151) rfl ?_
      refine y_aload X95.here hx (hb hby at_151) rfl rfl (pc' := 153) rfl ?_
      refine y_aload X95.here hx (hb hby at_153) rfl rfl (pc' := 155) rfl ?_
      exact kt)
  obtain ⟨cq108, kq108, q108a, q108b, q108c⟩ := isOf hZ eh95 f98
  obtain ⟨v108, _, ⟨T108, L108, k108, n108⟩, -, X108, ⟨Lc108, hQ108, l108, y108, z108⟩, st108⟩ := X95.virtualBack hx (y := (⟨"com/example/roamd/roamd/net/Receipt", "equals", "(Ljava/lang/Object;)Z"⟩ : MethodName)) (z := (⟨"com/example/roamd/roamd/net/Receipt", "equals", "(Ljava/lang/Object;)Z"⟩ : MethodName)) hown (mvT hZ (hw _ (List.mem_of_getElem? (i := 15) rfl))) (mvT hZ (hw _ (List.mem_of_getElem? (i := 16) rfl))) (notFace_of_selects (args := #[]) (mvT hZ (hw _ (List.mem_of_getElem? (i := 18) rfl)))) (mvT hZ (hw _ (List.mem_of_getElem? (i := 18) rfl))) (mvT hZ (hw _ (List.mem_of_getElem? (i := 17) rfl))) (by decide) (backOf (W := 0) (rm3x l Z a0 hw [] b23 b95 h95 n0 O106 B95 NI_pr1) hZ (hw _ (List.mem_of_getElem? (i := 19) rfl)) (hw _ (List.mem_of_getElem? (i := 2) rfl)) (by decide) (by decide)) q108a q108c (g := (mkF m 155 #[jv pj0, .second, jv pj1, .second, jv pj2, .second, jv pj3, .second, jv pj4, .second, iv pi5, jv x2, .second, jv x9, .second, jv x16, .second, rv b23, rv b39, iv x64, iv x79, iv x84, iv (1 : Int32), .val .null, iv (0 : Int32), rv b95, .unset] [(.ref b95), (.ref b23)])) rfl (by rw [hml]; rfl) (Steps.refl _) (argsL := [(.ref b95)]) (rest := []) (lenOf pd__Ljava_lang_Object__Z rfl) rfl (by show 2 * 0 + _ ≤ _; exact Nat.le_of_eq rfl) (hb hby at_155) (fun _ _ => ⟨rfl, eh95, (by decide : 3 + 0 ≤ _), (by decide : 7 + 0 ≤ _)⟩)
  dsimp only [Pt.U, Pt.locs, Pt.cells, Pt.slots] at X108 l108 y108 z108 st108 hQ108
  subst l108 y108 z108
  obtain ⟨hv108, N108q, e108q⟩ := hQ108
  have N109 := Fr.app N96 N108q
  have hw108 := hv108
  subst hw108
  have pre110 : ∀ t, Steps p.tables e below (T108.setTop (mkF m 158 #[jv pj0, .second, jv pj1, .second, jv pj2, .second, jv pj3, .second, jv pj4, .second, iv pi5, jv x2, .second, jv x9, .second, jv x16, .second, rv b23, rv b39, iv x64, iv x79, iv x84, iv (1 : Int32), .val .null, iv (0 : Int32), rv b95, .unset] [(.int (0 : Int32))])) t → Go t := fun t kt => pre107 t (st108.trans kt)
  have pre112 : ∀ t, Steps p.tables e below (T108.setTop (mkF m 164 #[jv pj0, .second, jv pj1, .second, jv pj2, .second, jv pj3, .second, jv pj4, .second, iv pi5, jv x2, .second, jv x9, .second, jv x16, .second, rv b23, rv b39, iv x64, iv x79, iv x84, iv (1 : Int32), .val .null, iv (0 : Int32), rv b95, iv (0 : Int32)] [(.int x64), (.int x79)])) t → Go t := fun t kt => pre110 t (by
      refine y_istore X108.here hx (hb hby at_158) (l' := #[jv pj0, .second, jv pj1, .second, jv pj2, .second, jv pj3, .second, jv pj4, .second, iv pi5, jv x2, .second, jv x9, .second, jv x16, .second, rv b23, rv b39, iv x64, iv x79, iv x84, iv (1 : Int32), .val .null, iv (0 : Int32), rv b95, iv (0 : Int32)]) rfl (pc' := 160) rfl ?_
      refine y_iload X108.here hx (hb hby at_160) rfl (pc' := 162) rfl ?_
      refine y_iload X108.here hx (hb hby at_162) rfl (pc' := 164) rfl ?_
      exact kt)
  have hf164_111 : x79 = x64 := by
      exact law0_113 pj0 pj1 pj2 x2 x9 x16 x64 x79 hx64 hx79
  have pre115 : ∀ t, Steps p.tables e below (T108.setTop (mkF m 171 #[jv pj0, .second, jv pj1, .second, jv pj2, .second, jv pj3, .second, jv pj4, .second, iv pi5, jv x2, .second, jv x9, .second, jv x16, .second, rv b23, rv b39, iv x64, iv x79, iv x84, iv (1 : Int32), .val .null, iv (0 : Int32), rv b95, iv (0 : Int32)] [(.int x64), (.int x84)])) t → Go t := fun t kt => pre112 t (by
      refine y_icmpNo X108.here hx (hb hby at_164) (teq hf164_111).2 (pc' := 167) rfl ?_
      refine y_iload X108.here hx (hb hby at_167) rfl (pc' := 169) rfl ?_
      refine y_iload X108.here hx (hb hby at_169) rfl (pc' := 171) rfl ?_
      exact kt)
  have hf171_114 : x84 = x64 := by
      exact law0_116 pj0 pj1 pj2 x2 x9 x16 x64 x79 x84 hx64 hx84 hf164_111
  have pre117 : ∀ t, Steps p.tables e below (T108.setTop (mkF m 194 #[jv pj0, .second, jv pj1, .second, jv pj2, .second, jv pj3, .second, jv pj4, .second, iv pi5, jv x2, .second, jv x9, .second, jv x16, .second, rv b23, rv b39, iv x64, iv x79, iv x84, iv (1 : Int32), .val .null, iv (0 : Int32), rv b95, iv (0 : Int32)] [(.int (1 : Int32))])) t → Go t := fun t kt => pre115 t (by
      refine y_icmpNo X108.here hx (hb hby at_171) (teq hf171_114).2 (pc' := 174) rfl ?_
      refine y_iload X108.here hx (hb hby at_174) rfl (pc' := 176) rfl ?_
      refine y_ifNo X108.here hx (hb hby at_176) ((if0 _ _).trans (feq (by decide : ¬ ((1 : Int32) = (0 : Int32)))).1) (pc' := 179) rfl ?_
      refine y_iload X108.here hx (hb hby at_179) rfl (pc' := 181) rfl ?_
      refine y_ifNo X108.here hx (hb hby at_181) ((if0 _ _).trans (teq (rfl : (0 : Int32) = (0 : Int32))).2) (pc' := 184) rfl ?_
      refine y_iload X108.here hx (hb hby at_184) rfl (pc' := 186) rfl ?_
      refine y_ifNo X108.here hx (hb hby at_186) ((if0 _ _).trans (teq (rfl : (0 : Int32) = (0 : Int32))).2) (pc' := 189) rfl ?_
      refine y_iconst X108.here hx (hb hby at_189) (v := (1 : Int32)) rfl (pc' := 190) rfl ?_
      refine y_goto X108.here hx (hb hby at_190) (pc' := 194) (by decide) rfl ?_
      exact kt)
  obtain ⟨fs, hr, hrun, hended, hW, hsame⟩ := X108.leave (v := some (.int (1 : Int32))) (fun h => by rw [Bd.returns] at h; cases h)
  refine ⟨_, _, (hGo _).mp (pre117 _ ?_), hrun, hended, _, _, rfl, ?_, ⟨_, rfl⟩, hW, hsame.mono (by decide) (by decide)⟩
  · exact retN X108 hx (t := .boolean) Bd.returns (by simp) (hb hby at_194) hr
  · show Q0 Z pj0 pj1 pj2 pj3 pj4 pi5 w_cache cc h0 n0 _ T108.heap _
    rw [e108q]
    exact ⟨rfl, N109⟩
set_option maxRecDepth 65536 in
set_option maxHeartbeats 40000000 in
theorem comes_1 {Post : Tables → Env → Array Value → State → Outcome → State → Prop} (hpost : ∀ tb e args s v u, (limb_1_1.after args s (.returned v) u = true ∧ limb_1_2.after args s (.returned v) u = true ∧ True) → FrameEnd s (.returned v) u (Jvm.fieldLocs frame_1_writes args s ++ Jvm.arrayLocs frame_1_arrays args s ++ Jvm.staticLocs frame_1_statics s) 16 128 → Post tb e args s (.returned v) u) :
    ArmFor flags0 classFile x code maxLocals ret World_1 tables_1 room_1 Calls_1 rest_1 Pre_1 Post := by
  intro l hfl _ _ p e ha hc hk s m args below hf hA hF happ hP
  obtain ⟨hcalls, hrest, hpre⟩ := hP
  obtain ⟨-, -, -, hnamed, -, -, -, hat⟩ := (Spec.applies_iff hf).mp happ
  obtain ⟨hg, hn⟩ := and_e (Cond.before_iff.mp (show (Jvm.Cond.and given_1 narrow_1).before args s = true from hpre))
  obtain ⟨g0, gr0⟩ := and_e hg
  obtain ⟨g1, gr1⟩ := and_e gr0
  obtain ⟨g2, gr2⟩ := and_e gr1
  obtain ⟨g3, gr3⟩ := and_e gr2
  obtain ⟨g4, gr4⟩ := and_e gr3
  obtain ⟨g5, gr5⟩ := and_e gr4
  obtain ⟨w0, w1, w2, w3, w4, w5, rfl⟩ : ∃ w0 w1 w2 w3 w4 w5 : Value, args = #[w0, w1, w2, w3, w4, w5] := by
    have hs : args.size = 6 := by simpa [Cond.value, given_1] using g0
    obtain ⟨L⟩ := args
    match L, hs with
    | [w0, w1, w2, w3, w4, w5], _ => exact ⟨w0, w1, w2, w3, w4, w5, rfl⟩
  have hw := fun d (hd : d ∈ tables_1) => atoms_spec (ws := Jvm.Cond.code x code maxLocals ret :: tables_1) hat d (List.mem_cons_of_mem _ hd)
  have hfit : Fit s := fun {y c} hc i hi => by
    obtain ⟨ha, rfl⟩ := Array.getElem?_eq_some_iff.mp hc
    have q := List.all_eq_true.mp ((Array.all_eq_true_iff_forall_mem.mp hF) _ (Array.getElem_mem ha)) i (List.mem_range.mpr hi)
    simpa [Array.getElem?_eq_getElem hi] using q
  obtain ⟨hsets, hown0⟩ := atoms_of _ (rest_1_c_eq ▸ (show rest_1_c.before _ s = true from hrest))
  obtain ⟨i0, ei0⟩ := isL_v g1
  obtain rfl : w0 = (.long i0) := Option.some.inj ei0
  obtain ⟨i1, ei1⟩ := isL_v g2
  obtain rfl : w1 = (.long i1) := Option.some.inj ei1
  obtain ⟨i2, ei2⟩ := isL_v g3
  obtain rfl : w2 = (.long i2) := Option.some.inj ei2
  obtain ⟨i3, ei3⟩ := isL_v g4
  obtain rfl : w3 = (.long i3) := Option.some.inj ei3
  obtain ⟨i4, ei4⟩ := isL_v g5
  obtain rfl : w4 = (.long i4) := Option.some.inj ei4
  obtain ⟨i5, ei5⟩ := is_v gr5
  obtain rfl : w5 = (.int i5) := Option.some.inj ei5
  obtain ⟨w_cache, evc⟩ := arr_v (Cond.before_iff.mp (hsets _ (List.mem_of_getElem? (i := 2) rfl)))
  have S_cache := Sta.start evc (Or.inl (hsets _ (List.mem_of_getElem? (i := 1) rfl)))
  obtain ⟨cc, Ac⟩ := Arr.start evc (Cond.before_iff.mp (hsets _ (List.mem_of_getElem? (i := 2) rfl)))
  obtain ⟨lc1, lc2⟩ := own_len evc (Ac.fin (Vm.Alike.refl _)) (own_eqI (Cond.before_iff.mp (hsets _ (List.mem_of_getElem? (i := 4) rfl))))
  have CA : Bxs s w_cache cc "java/lang/Long" "J" (256 : Int32) (fun j => .long (j - 128).toInt64) := Bxs.start (fun _ => evc) Ac lc1 lc2 (by decide) (Cond.before_iff.mp (hsets _ (List.mem_of_getElem? (i := 5) rfl))) (fun X j nn h => eqv_l (i2l_at (Term.sub_int (idx_at nn) (Term.int_eval _))) h)
  have NI_pr1 : Nas s "java/lang/Long" "com/example/roamd/roamd/net/Receipt" := own_nas (hw _ (List.mem_of_getElem? (i := 30) rfl)) (hw _ (List.mem_of_getElem? (i := 1) rfl)) (NS.step (hw _ (List.mem_of_getElem? (i := 30) rfl)) (NS.step (hw _ (List.mem_of_getElem? (i := 31) rfl)) (own_root (hw _ (List.mem_of_getElem? (i := 32) rfl)) (hw _ (List.mem_of_getElem? (i := 1) rfl)) (by decide)) (by decide)) (by decide)) (by decide)
  obtain ⟨n, o, h1, h2, h3, _, L, rfl, ⟨rfl, N⟩, hq⟩ := rm0 l s _ hw tables_1 i0 i1 i2 i3 i4 i5 w_cache cc s.heap s.heap.size (Old.start s) S_cache CA NI_pr1 p e ha hc hk s m _ below hf ((Spec.applies_iff_loose hf).mp happ).1 ⟨rfl, State.Warmed39.refl s, rfl⟩ trivial
  refine ⟨n, _, h1, h2, h3, hpost _ _ _ _ _ _ ⟨Cond.after_iff.mpr rfl, Cond.after_iff.mpr (eq_i res_at (Term.int_eval (1)) rfl), trivial⟩ ⟨hq.1, hq.2.1, (hq.2.2.sift fun y hy => Or.inr (N y hy)).mono (by decide) (by decide)⟩⟩
theorem main_1_1 : Claimed_1_1 := comes_1 fun _ _ _ _ _ _ h hF => ⟨h.1, hF⟩
theorem main_1_2 : Claimed_1_2 := comes_1 fun _ _ _ _ _ _ h hF => ⟨h.2.1, hF⟩
end Jvm.Pilot.@@N@@
namespace Jvm.Pilot.@@N@@
open Jvm Jvm.ClassFile Sem Op Lib Jvm.Free Jvm.Stand Jvm.Pilot.@@N@@.Jvm.D
/-! MADE BY PROGRAM (witnessworld.py) out of the Statement's table words and the real class files: 16 classes; the members and pool entries that the words name. The judged class is class 1, her method 1. -/
namespace start1
open Jvm.ClassFile
def u (s : String) : CpInfo := .utf8 (stringToUtf16 s)
/-- a pool by its gaps: so many unusable entries, then the entry; so many at the end -/
def gap : Nat → List CpInfo → List CpInfo
  | 0, r => r
  | n + 1, r => .unusable :: gap n r
def poolList (es : List (Nat × CpInfo)) (last : Nat) : List CpInfo := es.foldr (fun e r => gap e.1 (e.2 :: r)) (gap last [])
def pool (es : List (Nat × CpInfo)) (last : Nat) : Array CpInfo := ⟨poolList es last⟩
def fileOf (pool : Array CpInfo) (this : Nat) (attrs : Array Attribute := #[]) (ms : Array MethodInfo := #[]) (fl : Nat := 33) (sup : Nat := 0) (ifs : Array Nat := #[]) (fds : Array FieldInfo := #[]) : ClassFile where
  minorVersion := 0
  majorVersion := 65
  constantPool := pool
  accessFlags := fl
  thisClass := this
  superClass := sup
  interfaces := ifs
  fields := fds
  methods := ms
  attributes := attrs
def plain (name : String) (sup : Option ClassId) : Class where
  name := name
  kind := .ordinary
  loader := none
  accessFlags := 33
  super := sup
  interfaces := #[]
  cf := none
  fields := #[]
  methods := #[]
  instanceTypes := #[]
  staticTypes := #[]
  resolved := #[]
  callSites := []
  init := .initialized
  statics := none
  mirror := none

def pool0 : Array CpInfo := pool [(5, u "<init>"), (0, u "()V"), (1, .class_ 10), (1, u "java/lang/Object")] 113

def k0c0 : Code := { maxStack := 0, maxLocals := 1, code := object_method_1_code, exceptionTable := #[], attributes := #[] }
def k0m0 : Method := { name := "<init>", desc := "()V", sig := { parameters := [], returnType := none }, accessFlags := 1, code := some k0c0 }
/-- java/lang/Object -/
def k0 : Class := { plain "java/lang/Object" none with
  accessFlags := 33
  interfaces := #[]
  cf := some (fileOf pool0 8 #[] #[{ accessFlags := 1, nameIndex := 5, descriptorIndex := 6, attributes := #[] }] 33 0 #[] #[])
  fields := #[]
  methods := #[k0m0]
  instanceTypes := #[]
  staticTypes := #[]
  resolved := Array.replicate 124 none
  statics := none }

def pool1 : Array CpInfo := pool [(2, .class_ 4), (1, u "java/lang/Object"), (0, u "<init>"), (0, u "()V"), (0, .class_ 8), (0, u "com/example/roamd/roamd/net/Receipt"), (0, .methodref 7 10), (0, .nameAndType 5 11), (0, u "(JJJ)V"), (0, .methodref 7 13), (0, .nameAndType 14 15), (0, u "equals"), (0, u "(Ljava/lang/Object;)Z"), (0, .methodref 17 18), (0, .class_ 19), (0, .nameAndType 20 21), (0, u "java/lang/Long"), (0, u "valueOf"), (0, u "(J)Ljava/lang/Long;"), (0, .class_ 23), (0, u "com/example/roamd/roamd/net/ReceiptEqualsPinLaw"), (2, u "law"), (0, u "(JJJJJI)Z")] 3

def k1m0 : Method := { name := "<init>", desc := "()V", sig := { parameters := [], returnType := none }, accessFlags := 1, code := none }
def k1c1 : Code := { maxStack := 8, maxLocals := 27, code := code, exceptionTable := #[], attributes := #[] }
def k1m1 : Method := { name := "law", desc := "(JJJJJI)Z", sig := { parameters := [.long, .long, .long, .long, .long, .int], returnType := some .boolean }, accessFlags := 9, code := some k1c1 }
/-- com/example/roamd/roamd/net/ReceiptEqualsPinLaw -/
def k1 : Class := { plain "com/example/roamd/roamd/net/ReceiptEqualsPinLaw" (some 0) with
  accessFlags := 49
  interfaces := #[]
  cf := some (fileOf pool1 22 #[] #[{ accessFlags := 1, nameIndex := 5, descriptorIndex := 6, attributes := #[] }, { accessFlags := 9, nameIndex := 26, descriptorIndex := 27, attributes := #[] }] 49 2 #[] #[])
  fields := #[]
  methods := #[k1m0, k1m1]
  instanceTypes := #[]
  staticTypes := #[]
  resolved := Array.replicate 31 none
  statics := none }

def pool2 : Array CpInfo := pool [(3, .methodref 4 5), (0, .class_ 6), (0, .nameAndType 7 8), (0, u "java/lang/Object"), (0, u "<init>"), (0, u "()V"), (0, .fieldref 10 11), (0, .class_ 12), (0, .nameAndType 13 14), (0, u "com/example/roamd/roamd/net/Receipt"), (0, u "session"), (0, u "J"), (0, .fieldref 10 16), (0, .nameAndType 17 14), (0, u "floor"), (0, .fieldref 10 19), (0, .nameAndType 20 14), (0, u "marks"), (26, u "(JJJ)V"), (27, u "SPAN"), (0, u "I"), (10, u "equals"), (0, u "(Ljava/lang/Object;)Z")] 21

def k2c0 : Code := { maxStack := 3, maxLocals := 7, code := prog_23_method_1_code, exceptionTable := #[], attributes := #[] }
def k2m0 : Method := { name := "<init>", desc := "(JJJ)V", sig := { parameters := [.long, .long, .long], returnType := none }, accessFlags := 1, code := some k2c0 }
def k2c1 : Code := { maxStack := 4, maxLocals := 3, code := prog_23_method_9_code, exceptionTable := #[], attributes := #[] }
def k2m1 : Method := { name := "equals", desc := "(Ljava/lang/Object;)Z", sig := { parameters := [(.object "java/lang/Object")], returnType := some .boolean }, accessFlags := 1, code := some k2c1 }
/-- com/example/roamd/roamd/net/Receipt -/
def k2 : Class := { plain "com/example/roamd/roamd/net/Receipt" (some 0) with
  accessFlags := 33
  interfaces := #[]
  cf := some (fileOf pool2 10 #[] #[{ accessFlags := 1, nameIndex := 7, descriptorIndex := 47, attributes := #[] }, { accessFlags := 1, nameIndex := 87, descriptorIndex := 88, attributes := #[] }] 33 4 #[] #[{ accessFlags := 25, nameIndex := 75, descriptorIndex := 76, attributes := #[] }, { accessFlags := 18, nameIndex := 13, descriptorIndex := 14, attributes := #[] }, { accessFlags := 18, nameIndex := 17, descriptorIndex := 14, attributes := #[] }, { accessFlags := 18, nameIndex := 20, descriptorIndex := 14, attributes := #[] }])
  fields := #[{ name := "SPAN", type := .int, accessFlags := 25, slot := 0, constantValue := 0 }, { name := "session", type := .long, accessFlags := 18, slot := 0, constantValue := 0 }, { name := "floor", type := .long, accessFlags := 18, slot := 1, constantValue := 0 }, { name := "marks", type := .long, accessFlags := 18, slot := 2, constantValue := 0 }]
  methods := #[k2m0, k2m1]
  instanceTypes := #[.long, .long, .long]
  staticTypes := #[.int]
  resolved := Array.replicate 110 none
  statics := none }

def pool3 : Array CpInfo := pool [(1, .class_ 2), (0, u "java/io/Serializable"), (0, .class_ 4), (0, u "java/lang/Object")] 2

/-- java/io/Serializable -/
def k3 : Class := { plain "java/io/Serializable" (some 0) with
  accessFlags := 1537
  interfaces := #[]
  cf := some (fileOf pool3 1 #[] #[] 1537 3 #[] #[])
  fields := #[]
  methods := #[]
  instanceTypes := #[]
  staticTypes := #[]
  resolved := Array.replicate 7 none
  statics := none }

def pool4 : Array CpInfo := pool [(1, .methodref 2 3), (0, .class_ 4), (0, .nameAndType 5 6), (0, u "java/lang/Object"), (0, u "<init>"), (0, u "()V"), (1, .class_ 10), (1, u "java/lang/Number"), (2, .class_ 14), (0, u "java/io/Serializable"), (0, u "serialVersionUID"), (0, u "J")] 20

def k4c0 : Code := { maxStack := 1, maxLocals := 1, code := jdk_18_method_1_code, exceptionTable := #[], attributes := #[] }
def k4m0 : Method := { name := "<init>", desc := "()V", sig := { parameters := [], returnType := none }, accessFlags := 1, code := some k4c0 }
/-- java/lang/Number -/
def k4 : Class := { plain "java/lang/Number" (some 0) with
  accessFlags := 1057
  interfaces := #[3]
  cf := some (fileOf pool4 8 #[] #[{ accessFlags := 1, nameIndex := 5, descriptorIndex := 6, attributes := #[] }] 1057 2 #[13] #[{ accessFlags := 26, nameIndex := 15, descriptorIndex := 16, attributes := #[] }])
  fields := #[{ name := "serialVersionUID", type := .long, accessFlags := 26, slot := 0, constantValue := 0 }]
  methods := #[k4m0]
  instanceTypes := #[]
  staticTypes := #[.long]
  resolved := Array.replicate 37 none
  statics := none }

def pool5 : Array CpInfo := pool [(1, .class_ 2), (0, u "java/lang/Comparable"), (0, .class_ 4), (0, u "java/lang/Object")] 7

/-- java/lang/Comparable -/
def k5 : Class := { plain "java/lang/Comparable" (some 0) with
  accessFlags := 1537
  interfaces := #[]
  cf := some (fileOf pool5 1 #[] #[] 1537 3 #[] #[])
  fields := #[]
  methods := #[]
  instanceTypes := #[]
  staticTypes := #[]
  resolved := Array.replicate 12 none
  statics := none }

def pool6 : Array CpInfo := pool [(1, .class_ 2), (0, u "java/lang/constant/Constable"), (0, .class_ 4), (0, u "java/lang/Object")] 6

/-- java/lang/constant/Constable -/
def k6 : Class := { plain "java/lang/constant/Constable" (some 0) with
  accessFlags := 1537
  interfaces := #[]
  cf := some (fileOf pool6 1 #[] #[] 1537 3 #[] #[])
  fields := #[]
  methods := #[]
  instanceTypes := #[]
  staticTypes := #[]
  resolved := Array.replicate 11 none
  statics := none }

def pool7 : Array CpInfo := pool [(1, .class_ 2), (0, u "java/lang/constant/ConstantDesc"), (0, .class_ 4), (0, u "java/lang/Object")] 32

/-- java/lang/constant/ConstantDesc -/
def k7 : Class := { plain "java/lang/constant/ConstantDesc" (some 0) with
  accessFlags := 1537
  interfaces := #[]
  cf := some (fileOf pool7 1 #[] #[] 1537 3 #[] #[])
  fields := #[]
  methods := #[]
  instanceTypes := #[]
  staticTypes := #[]
  resolved := Array.replicate 37 none
  statics := none }

def pool8 : Array CpInfo := pool [(1, .class_ 2), (0, u "java/lang/Long"), (55, .nameAndType 59 60), (0, u "<init>"), (0, u "()V"), (24, u "valueOf"), (143, u "(J)Ljava/lang/Long;"), (0, .long 18446744073709551488), (1, .long 127), (1, .fieldref 235 236), (0, .class_ 237), (0, .nameAndType 238 239), (0, u "java/lang/Long$LongCache"), (0, u "cache"), (0, u "[Ljava/lang/Long;"), (0, .methodref 1 241), (0, .nameAndType 59 242), (0, u "(J)V"), (27, .methodref 271 58), (0, .class_ 272), (0, u "java/lang/Number"), (0, .fieldref 1 274), (0, .nameAndType 275 276), (0, u "value"), (0, u "J"), (84, u "TYPE"), (0, u "Ljava/lang/Class;"), (0, .class_ 364), (0, u "java/lang/Comparable"), (0, .class_ 366), (0, u "java/lang/constant/Constable"), (0, .class_ 368), (0, u "java/lang/constant/ConstantDesc"), (0, u "MIN_VALUE"), (1, u "MAX_VALUE"), (4, u "SIZE"), (0, u "I"), (1, u "BYTES"), (1, u "serialVersionUID")] 142

def k8c0 : Code := { maxStack := 4, maxLocals := 3, code := jdk_35_method_24_code, exceptionTable := #[], attributes := #[] }
def k8m0 : Method := { name := "valueOf", desc := "(J)Ljava/lang/Long;", sig := { parameters := [.long], returnType := some (.object "java/lang/Long") }, accessFlags := 9, code := some k8c0 }
def k8c1 : Code := { maxStack := 3, maxLocals := 3, code := jdk_35_method_26_code, exceptionTable := #[], attributes := #[] }
def k8m1 : Method := { name := "<init>", desc := "(J)V", sig := { parameters := [.long], returnType := none }, accessFlags := 1, code := some k8c1 }
/-- java/lang/Long -/
def k8 : Class := { plain "java/lang/Long" (some 4) with
  accessFlags := 49
  interfaces := #[5, 6, 7]
  cf := some (fileOf pool8 1 #[.nestMembers #[235]] #[{ accessFlags := 9, nameIndex := 85, descriptorIndex := 229, attributes := #[] }, { accessFlags := 1, nameIndex := 59, descriptorIndex := 242, attributes := #[] }] 49 271 #[363, 365, 367] #[{ accessFlags := 25, nameIndex := 369, descriptorIndex := 276, attributes := #[] }, { accessFlags := 25, nameIndex := 371, descriptorIndex := 276, attributes := #[] }, { accessFlags := 25, nameIndex := 361, descriptorIndex := 362, attributes := #[] }, { accessFlags := 18, nameIndex := 275, descriptorIndex := 276, attributes := #[] }, { accessFlags := 25, nameIndex := 376, descriptorIndex := 377, attributes := #[] }, { accessFlags := 25, nameIndex := 379, descriptorIndex := 377, attributes := #[] }, { accessFlags := 26, nameIndex := 381, descriptorIndex := 276, attributes := #[] }])
  fields := #[{ name := "MIN_VALUE", type := .long, accessFlags := 25, slot := 0, constantValue := 0 }, { name := "MAX_VALUE", type := .long, accessFlags := 25, slot := 1, constantValue := 0 }, { name := "TYPE", type := (.object "java/lang/Class"), accessFlags := 25, slot := 2, constantValue := 0 }, { name := "value", type := .long, accessFlags := 18, slot := 0, constantValue := 0 }, { name := "SIZE", type := .int, accessFlags := 25, slot := 3, constantValue := 0 }, { name := "BYTES", type := .int, accessFlags := 25, slot := 4, constantValue := 0 }, { name := "serialVersionUID", type := .long, accessFlags := 26, slot := 5, constantValue := 0 }]
  methods := #[k8m0, k8m1]
  instanceTypes := #[.long]
  staticTypes := #[.long, .long, (.object "java/lang/Class"), .int, .int, .long]
  resolved := Array.replicate 524 none
  statics := none }

def pool9 : Array CpInfo := pool [(2, .class_ 4), (1, u "java/lang/Object"), (0, u "<init>"), (0, u "()V"), (0, .class_ 8), (0, u "java/lang/Long"), (7, .class_ 18), (1, u "java/lang/Long$LongCache"), (0, u "$assertionsDisabled"), (0, u "Z"), (8, u "archivedCache"), (0, u "[Ljava/lang/Long;"), (7, u "cache")] 24

def k9m0 : Method := { name := "<init>", desc := "()V", sig := { parameters := [], returnType := none }, accessFlags := 2, code := none }
/-- java/lang/Long$LongCache -/
def k9 : Class := { plain "java/lang/Long$LongCache" (some 0) with
  accessFlags := 48
  interfaces := #[]
  cf := some (fileOf pool9 16 #[.nestHost 7] #[{ accessFlags := 2, nameIndex := 5, descriptorIndex := 6, attributes := #[] }] 48 2 #[] #[{ accessFlags := 24, nameIndex := 38, descriptorIndex := 30, attributes := #[] }, { accessFlags := 8, nameIndex := 29, descriptorIndex := 30, attributes := #[] }, { accessFlags := 4120, nameIndex := 19, descriptorIndex := 20, attributes := #[] }])
  fields := #[{ name := "cache", type := (.array (.object "java/lang/Long")), accessFlags := 24, slot := 0, constantValue := 0 }, { name := "archivedCache", type := (.array (.object "java/lang/Long")), accessFlags := 8, slot := 1, constantValue := 0 }, { name := "$assertionsDisabled", type := .boolean, accessFlags := 4120, slot := 2, constantValue := 0 }]
  methods := #[k9m0]
  instanceTypes := #[]
  staticTypes := #[(.array (.object "java/lang/Long")), (.array (.object "java/lang/Long")), .boolean]
  resolved := Array.replicate 63 none
  statics := some 0 }

def pool10 : Array CpInfo := pool [(1, u "java/lang/Cloneable"), (0, .class_ 1), (0, u "java/lang/Object"), (0, .class_ 3)] 3

/-- java/lang/Cloneable -/
def k10 : Class := { plain "java/lang/Cloneable" (some 0) with
  accessFlags := 1537
  interfaces := #[]
  cf := some (fileOf pool10 2 #[] #[] 1537 4 #[] #[])
  fields := #[]
  methods := #[]
  instanceTypes := #[]
  staticTypes := #[]
  resolved := Array.replicate 8 none
  statics := none }

/-- the primitive byte -/
def k11 : Class := { plain "byte" none with kind := .primitive 'B', accessFlags := 0x411 }
/-- [B -/
def k12 : Class := { plain "[B" (some 0) with kind := .array 11 .byte, interfaces := #[10, 3], accessFlags := 1041 }

/-- the primitive int -/
def k13 : Class := { plain "int" none with kind := .primitive 'I', accessFlags := 0x411 }
/-- [I -/
def k14 : Class := { plain "[I" (some 0) with kind := .array 13 .int, interfaces := #[10, 3], accessFlags := 1041 }

/-- [Ljava/lang/Long; -/
def k15 : Class := { plain "[Ljava/lang/Long;" (some 0) with kind := .array 8 (.object "java/lang/Long"), interfaces := #[10, 3], accessFlags := 1041 }

def heap : Heap := #[{ cls := 9, slots := #[.ref 1, .null, .int 0], vm := .statics 9 },
  { cls := 15, slots := #[.ref 2, .ref 3, .ref 4, .ref 5, .ref 6, .ref 7, .ref 8, .ref 9, .ref 10, .ref 11, .ref 12, .ref 13, .ref 14, .ref 15, .ref 16, .ref 17, .ref 18, .ref 19, .ref 20, .ref 21, .ref 22, .ref 23, .ref 24, .ref 25, .ref 26, .ref 27, .ref 28, .ref 29, .ref 30, .ref 31, .ref 32, .ref 33, .ref 34, .ref 35, .ref 36, .ref 37, .ref 38, .ref 39, .ref 40, .ref 41, .ref 42, .ref 43, .ref 44, .ref 45, .ref 46, .ref 47, .ref 48, .ref 49, .ref 50, .ref 51, .ref 52, .ref 53, .ref 54, .ref 55, .ref 56, .ref 57, .ref 58, .ref 59, .ref 60, .ref 61, .ref 62, .ref 63, .ref 64, .ref 65, .ref 66, .ref 67, .ref 68, .ref 69, .ref 70, .ref 71, .ref 72, .ref 73, .ref 74, .ref 75, .ref 76, .ref 77, .ref 78, .ref 79, .ref 80, .ref 81, .ref 82, .ref 83, .ref 84, .ref 85, .ref 86, .ref 87, .ref 88, .ref 89, .ref 90, .ref 91, .ref 92, .ref 93, .ref 94, .ref 95, .ref 96, .ref 97, .ref 98, .ref 99, .ref 100, .ref 101, .ref 102, .ref 103, .ref 104, .ref 105, .ref 106, .ref 107, .ref 108, .ref 109, .ref 110, .ref 111, .ref 112, .ref 113, .ref 114, .ref 115, .ref 116, .ref 117, .ref 118, .ref 119, .ref 120, .ref 121, .ref 122, .ref 123, .ref 124, .ref 125, .ref 126, .ref 127, .ref 128, .ref 129, .ref 130, .ref 131, .ref 132, .ref 133, .ref 134, .ref 135, .ref 136, .ref 137, .ref 138, .ref 139, .ref 140, .ref 141, .ref 142, .ref 143, .ref 144, .ref 145, .ref 146, .ref 147, .ref 148, .ref 149, .ref 150, .ref 151, .ref 152, .ref 153, .ref 154, .ref 155, .ref 156, .ref 157, .ref 158, .ref 159, .ref 160, .ref 161, .ref 162, .ref 163, .ref 164, .ref 165, .ref 166, .ref 167, .ref 168, .ref 169, .ref 170, .ref 171, .ref 172, .ref 173, .ref 174, .ref 175, .ref 176, .ref 177, .ref 178, .ref 179, .ref 180, .ref 181, .ref 182, .ref 183, .ref 184, .ref 185, .ref 186, .ref 187, .ref 188, .ref 189, .ref 190, .ref 191, .ref 192, .ref 193, .ref 194, .ref 195, .ref 196, .ref 197, .ref 198, .ref 199, .ref 200, .ref 201, .ref 202, .ref 203, .ref 204, .ref 205, .ref 206, .ref 207, .ref 208, .ref 209, .ref 210, .ref 211, .ref 212, .ref 213, .ref 214, .ref 215, .ref 216, .ref 217, .ref 218, .ref 219, .ref 220, .ref 221, .ref 222, .ref 223, .ref 224, .ref 225, .ref 226, .ref 227, .ref 228, .ref 229, .ref 230, .ref 231, .ref 232, .ref 233, .ref 234, .ref 235, .ref 236, .ref 237, .ref 238, .ref 239, .ref 240, .ref 241, .ref 242, .ref 243, .ref 244, .ref 245, .ref 246, .ref 247, .ref 248, .ref 249, .ref 250, .ref 251, .ref 252, .ref 253, .ref 254, .ref 255, .ref 256, .ref 257], vm := .none },
  { cls := 8, slots := #[.long (-128)], vm := .none },
  { cls := 8, slots := #[.long (-127)], vm := .none },
  { cls := 8, slots := #[.long (-126)], vm := .none },
  { cls := 8, slots := #[.long (-125)], vm := .none },
  { cls := 8, slots := #[.long (-124)], vm := .none },
  { cls := 8, slots := #[.long (-123)], vm := .none },
  { cls := 8, slots := #[.long (-122)], vm := .none },
  { cls := 8, slots := #[.long (-121)], vm := .none },
  { cls := 8, slots := #[.long (-120)], vm := .none },
  { cls := 8, slots := #[.long (-119)], vm := .none },
  { cls := 8, slots := #[.long (-118)], vm := .none },
  { cls := 8, slots := #[.long (-117)], vm := .none },
  { cls := 8, slots := #[.long (-116)], vm := .none },
  { cls := 8, slots := #[.long (-115)], vm := .none },
  { cls := 8, slots := #[.long (-114)], vm := .none },
  { cls := 8, slots := #[.long (-113)], vm := .none },
  { cls := 8, slots := #[.long (-112)], vm := .none },
  { cls := 8, slots := #[.long (-111)], vm := .none },
  { cls := 8, slots := #[.long (-110)], vm := .none },
  { cls := 8, slots := #[.long (-109)], vm := .none },
  { cls := 8, slots := #[.long (-108)], vm := .none },
  { cls := 8, slots := #[.long (-107)], vm := .none },
  { cls := 8, slots := #[.long (-106)], vm := .none },
  { cls := 8, slots := #[.long (-105)], vm := .none },
  { cls := 8, slots := #[.long (-104)], vm := .none },
  { cls := 8, slots := #[.long (-103)], vm := .none },
  { cls := 8, slots := #[.long (-102)], vm := .none },
  { cls := 8, slots := #[.long (-101)], vm := .none },
  { cls := 8, slots := #[.long (-100)], vm := .none },
  { cls := 8, slots := #[.long (-99)], vm := .none },
  { cls := 8, slots := #[.long (-98)], vm := .none },
  { cls := 8, slots := #[.long (-97)], vm := .none },
  { cls := 8, slots := #[.long (-96)], vm := .none },
  { cls := 8, slots := #[.long (-95)], vm := .none },
  { cls := 8, slots := #[.long (-94)], vm := .none },
  { cls := 8, slots := #[.long (-93)], vm := .none },
  { cls := 8, slots := #[.long (-92)], vm := .none },
  { cls := 8, slots := #[.long (-91)], vm := .none },
  { cls := 8, slots := #[.long (-90)], vm := .none },
  { cls := 8, slots := #[.long (-89)], vm := .none },
  { cls := 8, slots := #[.long (-88)], vm := .none },
  { cls := 8, slots := #[.long (-87)], vm := .none },
  { cls := 8, slots := #[.long (-86)], vm := .none },
  { cls := 8, slots := #[.long (-85)], vm := .none },
  { cls := 8, slots := #[.long (-84)], vm := .none },
  { cls := 8, slots := #[.long (-83)], vm := .none },
  { cls := 8, slots := #[.long (-82)], vm := .none },
  { cls := 8, slots := #[.long (-81)], vm := .none },
  { cls := 8, slots := #[.long (-80)], vm := .none },
  { cls := 8, slots := #[.long (-79)], vm := .none },
  { cls := 8, slots := #[.long (-78)], vm := .none },
  { cls := 8, slots := #[.long (-77)], vm := .none },
  { cls := 8, slots := #[.long (-76)], vm := .none },
  { cls := 8, slots := #[.long (-75)], vm := .none },
  { cls := 8, slots := #[.long (-74)], vm := .none },
  { cls := 8, slots := #[.long (-73)], vm := .none },
  { cls := 8, slots := #[.long (-72)], vm := .none },
  { cls := 8, slots := #[.long (-71)], vm := .none },
  { cls := 8, slots := #[.long (-70)], vm := .none },
  { cls := 8, slots := #[.long (-69)], vm := .none },
  { cls := 8, slots := #[.long (-68)], vm := .none },
  { cls := 8, slots := #[.long (-67)], vm := .none },
  { cls := 8, slots := #[.long (-66)], vm := .none },
  { cls := 8, slots := #[.long (-65)], vm := .none },
  { cls := 8, slots := #[.long (-64)], vm := .none },
  { cls := 8, slots := #[.long (-63)], vm := .none },
  { cls := 8, slots := #[.long (-62)], vm := .none },
  { cls := 8, slots := #[.long (-61)], vm := .none },
  { cls := 8, slots := #[.long (-60)], vm := .none },
  { cls := 8, slots := #[.long (-59)], vm := .none },
  { cls := 8, slots := #[.long (-58)], vm := .none },
  { cls := 8, slots := #[.long (-57)], vm := .none },
  { cls := 8, slots := #[.long (-56)], vm := .none },
  { cls := 8, slots := #[.long (-55)], vm := .none },
  { cls := 8, slots := #[.long (-54)], vm := .none },
  { cls := 8, slots := #[.long (-53)], vm := .none },
  { cls := 8, slots := #[.long (-52)], vm := .none },
  { cls := 8, slots := #[.long (-51)], vm := .none },
  { cls := 8, slots := #[.long (-50)], vm := .none },
  { cls := 8, slots := #[.long (-49)], vm := .none },
  { cls := 8, slots := #[.long (-48)], vm := .none },
  { cls := 8, slots := #[.long (-47)], vm := .none },
  { cls := 8, slots := #[.long (-46)], vm := .none },
  { cls := 8, slots := #[.long (-45)], vm := .none },
  { cls := 8, slots := #[.long (-44)], vm := .none },
  { cls := 8, slots := #[.long (-43)], vm := .none },
  { cls := 8, slots := #[.long (-42)], vm := .none },
  { cls := 8, slots := #[.long (-41)], vm := .none },
  { cls := 8, slots := #[.long (-40)], vm := .none },
  { cls := 8, slots := #[.long (-39)], vm := .none },
  { cls := 8, slots := #[.long (-38)], vm := .none },
  { cls := 8, slots := #[.long (-37)], vm := .none },
  { cls := 8, slots := #[.long (-36)], vm := .none },
  { cls := 8, slots := #[.long (-35)], vm := .none },
  { cls := 8, slots := #[.long (-34)], vm := .none },
  { cls := 8, slots := #[.long (-33)], vm := .none },
  { cls := 8, slots := #[.long (-32)], vm := .none },
  { cls := 8, slots := #[.long (-31)], vm := .none },
  { cls := 8, slots := #[.long (-30)], vm := .none },
  { cls := 8, slots := #[.long (-29)], vm := .none },
  { cls := 8, slots := #[.long (-28)], vm := .none },
  { cls := 8, slots := #[.long (-27)], vm := .none },
  { cls := 8, slots := #[.long (-26)], vm := .none },
  { cls := 8, slots := #[.long (-25)], vm := .none },
  { cls := 8, slots := #[.long (-24)], vm := .none },
  { cls := 8, slots := #[.long (-23)], vm := .none },
  { cls := 8, slots := #[.long (-22)], vm := .none },
  { cls := 8, slots := #[.long (-21)], vm := .none },
  { cls := 8, slots := #[.long (-20)], vm := .none },
  { cls := 8, slots := #[.long (-19)], vm := .none },
  { cls := 8, slots := #[.long (-18)], vm := .none },
  { cls := 8, slots := #[.long (-17)], vm := .none },
  { cls := 8, slots := #[.long (-16)], vm := .none },
  { cls := 8, slots := #[.long (-15)], vm := .none },
  { cls := 8, slots := #[.long (-14)], vm := .none },
  { cls := 8, slots := #[.long (-13)], vm := .none },
  { cls := 8, slots := #[.long (-12)], vm := .none },
  { cls := 8, slots := #[.long (-11)], vm := .none },
  { cls := 8, slots := #[.long (-10)], vm := .none },
  { cls := 8, slots := #[.long (-9)], vm := .none },
  { cls := 8, slots := #[.long (-8)], vm := .none },
  { cls := 8, slots := #[.long (-7)], vm := .none },
  { cls := 8, slots := #[.long (-6)], vm := .none },
  { cls := 8, slots := #[.long (-5)], vm := .none },
  { cls := 8, slots := #[.long (-4)], vm := .none },
  { cls := 8, slots := #[.long (-3)], vm := .none },
  { cls := 8, slots := #[.long (-2)], vm := .none },
  { cls := 8, slots := #[.long (-1)], vm := .none },
  { cls := 8, slots := #[.long 0], vm := .none },
  { cls := 8, slots := #[.long 1], vm := .none },
  { cls := 8, slots := #[.long 2], vm := .none },
  { cls := 8, slots := #[.long 3], vm := .none },
  { cls := 8, slots := #[.long 4], vm := .none },
  { cls := 8, slots := #[.long 5], vm := .none },
  { cls := 8, slots := #[.long 6], vm := .none },
  { cls := 8, slots := #[.long 7], vm := .none },
  { cls := 8, slots := #[.long 8], vm := .none },
  { cls := 8, slots := #[.long 9], vm := .none },
  { cls := 8, slots := #[.long 10], vm := .none },
  { cls := 8, slots := #[.long 11], vm := .none },
  { cls := 8, slots := #[.long 12], vm := .none },
  { cls := 8, slots := #[.long 13], vm := .none },
  { cls := 8, slots := #[.long 14], vm := .none },
  { cls := 8, slots := #[.long 15], vm := .none },
  { cls := 8, slots := #[.long 16], vm := .none },
  { cls := 8, slots := #[.long 17], vm := .none },
  { cls := 8, slots := #[.long 18], vm := .none },
  { cls := 8, slots := #[.long 19], vm := .none },
  { cls := 8, slots := #[.long 20], vm := .none },
  { cls := 8, slots := #[.long 21], vm := .none },
  { cls := 8, slots := #[.long 22], vm := .none },
  { cls := 8, slots := #[.long 23], vm := .none },
  { cls := 8, slots := #[.long 24], vm := .none },
  { cls := 8, slots := #[.long 25], vm := .none },
  { cls := 8, slots := #[.long 26], vm := .none },
  { cls := 8, slots := #[.long 27], vm := .none },
  { cls := 8, slots := #[.long 28], vm := .none },
  { cls := 8, slots := #[.long 29], vm := .none },
  { cls := 8, slots := #[.long 30], vm := .none },
  { cls := 8, slots := #[.long 31], vm := .none },
  { cls := 8, slots := #[.long 32], vm := .none },
  { cls := 8, slots := #[.long 33], vm := .none },
  { cls := 8, slots := #[.long 34], vm := .none },
  { cls := 8, slots := #[.long 35], vm := .none },
  { cls := 8, slots := #[.long 36], vm := .none },
  { cls := 8, slots := #[.long 37], vm := .none },
  { cls := 8, slots := #[.long 38], vm := .none },
  { cls := 8, slots := #[.long 39], vm := .none },
  { cls := 8, slots := #[.long 40], vm := .none },
  { cls := 8, slots := #[.long 41], vm := .none },
  { cls := 8, slots := #[.long 42], vm := .none },
  { cls := 8, slots := #[.long 43], vm := .none },
  { cls := 8, slots := #[.long 44], vm := .none },
  { cls := 8, slots := #[.long 45], vm := .none },
  { cls := 8, slots := #[.long 46], vm := .none },
  { cls := 8, slots := #[.long 47], vm := .none },
  { cls := 8, slots := #[.long 48], vm := .none },
  { cls := 8, slots := #[.long 49], vm := .none },
  { cls := 8, slots := #[.long 50], vm := .none },
  { cls := 8, slots := #[.long 51], vm := .none },
  { cls := 8, slots := #[.long 52], vm := .none },
  { cls := 8, slots := #[.long 53], vm := .none },
  { cls := 8, slots := #[.long 54], vm := .none },
  { cls := 8, slots := #[.long 55], vm := .none },
  { cls := 8, slots := #[.long 56], vm := .none },
  { cls := 8, slots := #[.long 57], vm := .none },
  { cls := 8, slots := #[.long 58], vm := .none },
  { cls := 8, slots := #[.long 59], vm := .none },
  { cls := 8, slots := #[.long 60], vm := .none },
  { cls := 8, slots := #[.long 61], vm := .none },
  { cls := 8, slots := #[.long 62], vm := .none },
  { cls := 8, slots := #[.long 63], vm := .none },
  { cls := 8, slots := #[.long 64], vm := .none },
  { cls := 8, slots := #[.long 65], vm := .none },
  { cls := 8, slots := #[.long 66], vm := .none },
  { cls := 8, slots := #[.long 67], vm := .none },
  { cls := 8, slots := #[.long 68], vm := .none },
  { cls := 8, slots := #[.long 69], vm := .none },
  { cls := 8, slots := #[.long 70], vm := .none },
  { cls := 8, slots := #[.long 71], vm := .none },
  { cls := 8, slots := #[.long 72], vm := .none },
  { cls := 8, slots := #[.long 73], vm := .none },
  { cls := 8, slots := #[.long 74], vm := .none },
  { cls := 8, slots := #[.long 75], vm := .none },
  { cls := 8, slots := #[.long 76], vm := .none },
  { cls := 8, slots := #[.long 77], vm := .none },
  { cls := 8, slots := #[.long 78], vm := .none },
  { cls := 8, slots := #[.long 79], vm := .none },
  { cls := 8, slots := #[.long 80], vm := .none },
  { cls := 8, slots := #[.long 81], vm := .none },
  { cls := 8, slots := #[.long 82], vm := .none },
  { cls := 8, slots := #[.long 83], vm := .none },
  { cls := 8, slots := #[.long 84], vm := .none },
  { cls := 8, slots := #[.long 85], vm := .none },
  { cls := 8, slots := #[.long 86], vm := .none },
  { cls := 8, slots := #[.long 87], vm := .none },
  { cls := 8, slots := #[.long 88], vm := .none },
  { cls := 8, slots := #[.long 89], vm := .none },
  { cls := 8, slots := #[.long 90], vm := .none },
  { cls := 8, slots := #[.long 91], vm := .none },
  { cls := 8, slots := #[.long 92], vm := .none },
  { cls := 8, slots := #[.long 93], vm := .none },
  { cls := 8, slots := #[.long 94], vm := .none },
  { cls := 8, slots := #[.long 95], vm := .none },
  { cls := 8, slots := #[.long 96], vm := .none },
  { cls := 8, slots := #[.long 97], vm := .none },
  { cls := 8, slots := #[.long 98], vm := .none },
  { cls := 8, slots := #[.long 99], vm := .none },
  { cls := 8, slots := #[.long 100], vm := .none },
  { cls := 8, slots := #[.long 101], vm := .none },
  { cls := 8, slots := #[.long 102], vm := .none },
  { cls := 8, slots := #[.long 103], vm := .none },
  { cls := 8, slots := #[.long 104], vm := .none },
  { cls := 8, slots := #[.long 105], vm := .none },
  { cls := 8, slots := #[.long 106], vm := .none },
  { cls := 8, slots := #[.long 107], vm := .none },
  { cls := 8, slots := #[.long 108], vm := .none },
  { cls := 8, slots := #[.long 109], vm := .none },
  { cls := 8, slots := #[.long 110], vm := .none },
  { cls := 8, slots := #[.long 111], vm := .none },
  { cls := 8, slots := #[.long 112], vm := .none },
  { cls := 8, slots := #[.long 113], vm := .none },
  { cls := 8, slots := #[.long 114], vm := .none },
  { cls := 8, slots := #[.long 115], vm := .none },
  { cls := 8, slots := #[.long 116], vm := .none },
  { cls := 8, slots := #[.long 117], vm := .none },
  { cls := 8, slots := #[.long 118], vm := .none },
  { cls := 8, slots := #[.long 119], vm := .none },
  { cls := 8, slots := #[.long 120], vm := .none },
  { cls := 8, slots := #[.long 121], vm := .none },
  { cls := 8, slots := #[.long 122], vm := .none },
  { cls := 8, slots := #[.long 123], vm := .none },
  { cls := 8, slots := #[.long 124], vm := .none },
  { cls := 8, slots := #[.long 125], vm := .none },
  { cls := 8, slots := #[.long 126], vm := .none },
  { cls := 8, slots := #[.long 127], vm := .none }]
def classes : Array Class := #[k0, k1, k2, k3, k4, k5, k6, k7, k8, k9, k10, k11, k12, k13, k14, k15]
def interned : List (Array UInt16 × Addr) := []
def slotsUsed : Nat := 515
def theMethod : MethodId := ⟨1, 1⟩
def args0 : Array Value := #[.long 5, .long 1, .long 5, .long 3, .long 7, .int 2]
def aboutOver (below : List Frame) : State where
  vm := { classes := classes, interned := interned.toArray }
  heap := heap
  slotsUsed := slotsUsed
  threads := #[{ frames := .invoking theMethod args0 :: below }]
def below0 : List Frame := [.native { method := ⟨0, 0⟩, args := #[] }]
def about1 : State := aboutOver below0
def p0 : Program := .bare "" "" ""
def e0 : Env := launch0.env 0 0 0
theorem w_frames : about1.frames = Frame.invoking theMethod args0 :: below0 := rfl
set_option maxRecDepth 65536 in
theorem w_args : argsFit about1.vm theMethod args0 = true := by decide +kernel
set_option maxRecDepth 65536 in
theorem w_heap : heapFits about1 = true := by decide +kernel
set_option maxRecDepth 65536 in
theorem w_runnable : about1.curStatus? = some .runnable := by decide +kernel
set_option maxRecDepth 65536 in
theorem w_alone : about1.alone = true := by decide +kernel
set_option maxRecDepth 65536 in
theorem w_named : about1.methodNamed? x = some theMethod := by decide +kernel
set_option maxRecDepth 65536 in
theorem w_hears : about1.hears theMethod below0 = true := by decide +kernel
set_option maxRecDepth 65536 in
theorem w_ripe : about1.ripe theMethod args0 below0 = true := by decide +kernel
theorem w_running : about1.status = .running := rfl
set_option maxRecDepth 65536 in
theorem w_room : about1.hasRoom e0.platform room_1 = true :=
  launch0.hasRoom_least _ room_1 (by decide +kernel) (by decide +kernel) (by decide +kernel) (by decide +kernel) (by decide +kernel) (by decide +kernel)
theorem allAtoms_all (ts : List Jvm.Cond) (a : Array Jvm.Value) (st : Jvm.State) : (allAtoms ts).before a st = ts.all (fun c => c.before a st) := by
  induction ts with
  | nil => rfl
  | cons c t ih =>
    show (Jvm.Cond.and c (allAtoms t)).before a st = _
    rw [Jvm.Cond.before_and, ih, List.all_cons]
def words1 : List Jvm.Cond := Jvm.Cond.code x code maxLocals ret :: tables_1
/-- a 'code' word, met by the world's own term for the bytes: nothing is compared byte by byte -/
theorem code_word {y : MethodName} {bytes : ByteArray} {mx : Nat} {rt : Option FieldType} {a : Array Value} {s : State} {m : MethodId} {meth : Method} {c : Code} (h1 : s.methodNamed? y = some m) (h2 : s.vm.method? m = some meth) (h3 : meth.code = some c) (h4 : c.code = bytes)
    (h5 : (c.maxLocals == mx && c.exceptionTable.isEmpty && decide (c.maxStack ≤ mostOperands) && decide (meth.sig.returnType = rt) && !meth.locks && decide (parseMethodDescriptor y.desc = some meth.sig)) = true) : (Jvm.Cond.code y bytes mx rt).before a s = true := by
  simp only [Bool.and_eq_true, beq_iff_eq, Bool.not_eq_true', decide_eq_true_eq] at h5
  obtain ⟨⟨⟨⟨⟨g1, g2⟩, g3⟩, g4⟩, g5⟩, g6⟩ := h5
  simp [Cond.before, Cond.holds, Cond.value, h1, h2, h3, h4, g1, g2, g3, g4, g5, g6]
def isCode : Jvm.Cond → Bool
  | .code _ _ _ _ => true
  | _ => false
theorem all_split {L : List Jvm.Cond} {P : Jvm.Cond → Bool} (h1 : L.all (fun c => isCode c || P c) = true) (h2 : ∀ c ∈ L.filter isCode, P c = true) : L.all P = true := by
  refine List.all_eq_true.mpr fun c hc => ?_
  have h := List.all_eq_true.mp h1 c hc
  rcases Bool.eq_false_or_eq_true (isCode c) with hi | hi
  · exact h2 c (List.mem_filter.mpr ⟨hc, hi⟩)
  · simpa [hi] using h
set_option maxRecDepth 65536 in
theorem w_c0 : (Jvm.Cond.code x code maxLocals ret).before args0 about1 = true := code_word (m := ⟨1, 1⟩) (meth := k1m1) (c := k1c1) (by decide +kernel) rfl rfl rfl (by decide +kernel)
set_option maxRecDepth 65536 in
theorem w_c1 : (Jvm.Cond.code ({ cls := "com/example/roamd/roamd/net/Receipt", name := "<init>", desc := "(JJJ)V" } : Jvm.MethodName) prog_23_method_1_code (7 : Nat) (Option.none : Option Jvm.ClassFile.FieldType)).before args0 about1 = true := code_word (m := ⟨2, 0⟩) (meth := k2m0) (c := k2c0) (by decide +kernel) rfl rfl rfl (by decide +kernel)
set_option maxRecDepth 65536 in
theorem w_c2 : (Jvm.Cond.code ({ cls := "java/lang/Object", name := "<init>", desc := "()V" } : Jvm.MethodName) object_method_1_code (1 : Nat) (Option.none : Option Jvm.ClassFile.FieldType)).before args0 about1 = true := code_word (m := ⟨0, 0⟩) (meth := k0m0) (c := k0c0) (by decide +kernel) rfl rfl rfl (by decide +kernel)
set_option maxRecDepth 65536 in
theorem w_c3 : (Jvm.Cond.code ({ cls := "com/example/roamd/roamd/net/Receipt", name := "equals", desc := "(Ljava/lang/Object;)Z" } : Jvm.MethodName) prog_23_method_9_code (3 : Nat) (Option.some Jvm.ClassFile.FieldType.boolean)).before args0 about1 = true := code_word (m := ⟨2, 1⟩) (meth := k2m1) (c := k2c1) (by decide +kernel) rfl rfl rfl (by decide +kernel)
set_option maxRecDepth 65536 in
theorem w_c4 : (Jvm.Cond.code ({ cls := "java/lang/Long", name := "valueOf", desc := "(J)Ljava/lang/Long;" } : Jvm.MethodName) jdk_35_method_24_code (3 : Nat) (Option.some (Jvm.ClassFile.FieldType.object "java/lang/Long"))).before args0 about1 = true := code_word (m := ⟨8, 0⟩) (meth := k8m0) (c := k8c0) (by decide +kernel) rfl rfl rfl (by decide +kernel)
set_option maxRecDepth 65536 in
theorem w_c5 : (Jvm.Cond.code ({ cls := "java/lang/Long", name := "<init>", desc := "(J)V" } : Jvm.MethodName) jdk_35_method_26_code (3 : Nat) (Option.none : Option Jvm.ClassFile.FieldType)).before args0 about1 = true := code_word (m := ⟨8, 1⟩) (meth := k8m1) (c := k8c1) (by decide +kernel) rfl rfl rfl (by decide +kernel)
set_option maxRecDepth 65536 in
theorem w_c6 : (Jvm.Cond.code ({ cls := "java/lang/Number", name := "<init>", desc := "()V" } : Jvm.MethodName) jdk_18_method_1_code (1 : Nat) (Option.none : Option Jvm.ClassFile.FieldType)).before args0 about1 = true := code_word (m := ⟨4, 0⟩) (meth := k4m0) (c := k4c0) (by decide +kernel) rfl rfl rfl (by decide +kernel)
def codes1 : List Jvm.Cond := [Jvm.Cond.code x code maxLocals ret, Jvm.Cond.code ({ cls := "com/example/roamd/roamd/net/Receipt", name := "<init>", desc := "(JJJ)V" } : Jvm.MethodName) prog_23_method_1_code (7 : Nat) (Option.none : Option Jvm.ClassFile.FieldType), Jvm.Cond.code ({ cls := "java/lang/Object", name := "<init>", desc := "()V" } : Jvm.MethodName) object_method_1_code (1 : Nat) (Option.none : Option Jvm.ClassFile.FieldType), Jvm.Cond.code ({ cls := "com/example/roamd/roamd/net/Receipt", name := "equals", desc := "(Ljava/lang/Object;)Z" } : Jvm.MethodName) prog_23_method_9_code (3 : Nat) (Option.some Jvm.ClassFile.FieldType.boolean), Jvm.Cond.code ({ cls := "java/lang/Long", name := "valueOf", desc := "(J)Ljava/lang/Long;" } : Jvm.MethodName) jdk_35_method_24_code (3 : Nat) (Option.some (Jvm.ClassFile.FieldType.object "java/lang/Long")), Jvm.Cond.code ({ cls := "java/lang/Long", name := "<init>", desc := "(J)V" } : Jvm.MethodName) jdk_35_method_26_code (3 : Nat) (Option.none : Option Jvm.ClassFile.FieldType), Jvm.Cond.code ({ cls := "java/lang/Number", name := "<init>", desc := "()V" } : Jvm.MethodName) jdk_18_method_1_code (1 : Nat) (Option.none : Option Jvm.ClassFile.FieldType)]
set_option maxRecDepth 65536 in
theorem codes_eq : words1.filter isCode = codes1 := rfl
theorem w_codes : ∀ c ∈ words1.filter isCode, c.before args0 about1 = true := by
  rw [codes_eq]
  intro c hc
  simp only [codes1, List.mem_cons, List.not_mem_nil, or_false] at hc
  rcases hc with rfl | rfl | rfl | rfl | rfl | rfl | rfl
  · exact w_c0
  · exact w_c1
  · exact w_c2
  · exact w_c3
  · exact w_c4
  · exact w_c5
  · exact w_c6
set_option maxRecDepth 65536 in
theorem w_t1 : (words1.take 24).all (fun c => isCode c || c.before args0 about1) = true := by decide +kernel
set_option maxRecDepth 65536 in
theorem w_t2 : ((words1.drop 24).take 24).all (fun c => isCode c || c.before args0 about1) = true := by decide +kernel
set_option maxRecDepth 65536 in
theorem w_t3 : ((words1.drop 24).drop 24).all (fun c => isCode c || c.before args0 about1) = true := by decide +kernel
theorem w_tables : (allAtoms (Jvm.Cond.code x code maxLocals ret :: tables_1)).before args0 about1 = true := by
  rw [allAtoms_all]
  show words1.all (fun c => c.before args0 about1) = true
  refine all_split ?_ w_codes
  rw [← List.take_append_drop 24 words1, List.all_append, w_t1, ← List.take_append_drop 24 (words1.drop 24), List.all_append, w_t2, w_t3]
  rfl
set_option maxRecDepth 65536 in
theorem w_rest : rest_1_c.before args0 about1 = true := by decide +kernel
set_option maxRecDepth 65536 in
theorem w_case : (Jvm.Cond.and given_1 narrow_1).before args0 about1 = true := by decide +kernel
theorem w_applies : (headSpec (Jvm.Cond.code x code maxLocals ret :: tables_1) room_1).applies x e0.platform about1 = true :=
  (Spec.applies_iff w_frames).mpr ⟨w_running, w_runnable, w_alone, w_named, w_hears, w_ripe, w_room, w_tables⟩
theorem atStart : AtStart classFile x code maxLocals ret World_1 tables_1 room_1 Calls_1 rest_1 Pre_1 launch0 p0 e0 about1 theMethod args0 below0 :=
  ⟨lists_1, trivial, launch0.admits_env _ _ _, launch0.least_env, fairChoices_fair.cas, fairChoices_fair.clock, w_frames, w_args, w_heap, w_applies, trivial, w_rest, w_case⟩
end start1
theorem witness_1 : WitnessClaimed_1 := ⟨start1.p0, start1.e0, start1.about1, start1.theMethod, start1.args0, start1.below0, start1.atStart⟩
end Jvm.Pilot.@@N@@
