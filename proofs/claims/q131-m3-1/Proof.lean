import JvmDerived
import JvmDerived.Pilot.@@N@@Statement
import JvmDerived.Pilot.@@N@@Code
set_option linter.unusedVariables false
set_option linter.unusedSimpArgs false
namespace Jvm.Pilot.@@N@@
open Jvm Jvm.ClassFile Sem Op Lib Jvm.Free Jvm.Stand Jvm.LawKit Jvm.RoadKit Bundle Jvm.Pilot.@@N@@.Jvm.D
/-- the run stands at T' as it stood at T: the heap is the same -/
def Nx {p : Program} {l : Launch} {e : Env} {R : Room} {s : State} {m : MethodId} {args : Array Value} {below : List Frame} {meth : Method} {c : Code} {T : State} {locs : List Loc} {cells slots : Nat} (X : Stand p l e R s m args below meth c T locs cells slots) (T' : State) : Prop := Stand p l e R s m args below meth c T' locs cells slots ∧ T'.heap = T.heap
theorem lq_eq {x y : Int64} (h : x = y) : lcmpW x y = 0 := (lcW x y).trans ((lc_eq x y).mpr h)
theorem lq_ne {x y : Int64} (h : ¬ x = y) : ¬ lcmpW x y = 0 := fun q => h ((lc_eq x y).mp ((lcW x y).symm.trans q))
theorem lq_lt {x y : Int64} (h : x < y) : lcmpW x y < 0 := by rw [lcW]; exact (lc_lt x y).mpr h
theorem lq_nlt {x y : Int64} (h : ¬ x < y) : ¬ lcmpW x y < 0 := by rw [lcW]; exact fun q => h ((lc_lt x y).mp q)
theorem lq_gt {x y : Int64} (h : y < x) : 0 < lcmpW x y := by rw [lcW]; exact (lc_gt x y).mpr h
theorem lq_ngt {x y : Int64} (h : ¬ y < x) : ¬ 0 < lcmpW x y := by rw [lcW]; exact fun q => h ((lc_gt x y).mp q)
theorem own_eqI {args : Array Value} {first s : State} {o : Option Outcome} {idx : List Nat} {t : Term} {k : Int32} (h : (Jvm.Cond.eq t (.int k)).value args first o s idx = some true) : t.eval args first o idx s = some (.int k) := by
  simp only [Cond.value, Term.eval] at h
  cases ht : t.eval args first o idx s with
  | none => simp [ht] at h
  | some x => cases x <;> simp [ht] at h ⊢; exact h
theorem own_eqL {args : Array Value} {first s : State} {o : Option Outcome} {idx : List Nat} {t : Term} {k : Int64} (h : (Jvm.Cond.eq t (.long k)).value args first o s idx = some true) : t.eval args first o idx s = some (.long k) := by
  simp only [Cond.value, Term.eval] at h
  cases ht : t.eval args first o idx s with
  | none => simp [ht] at h
  | some x => cases x <;> simp [ht] at h ⊢; exact h
abbrev jv (x : Int64) : Slot := .val (.long x)
theorem y_iloadN {tb : Tables} [Ours tb] {e : Env} {below : List Frame} {T target : State} {m : MethodId} {c : Code} (h : At T m c below) (hx : tb.exec = Jvm.exec) {pc pc' : Nat} {L : Array Slot} {S : List Value} {k : Fin 4} {v : Int32} (hd : decode c.code pc = .ok (.iload_n k, 1)) (hl : L[k.val]? = some (.val (.int v))) (hp : pc + 1 = pc') (hr : Steps tb e below (T.setTop (mkF m pc' L (.int v :: S))) target) : Steps tb e below (T.setTop (mkF m pc L S)) target := by subst hp; exact XS.iloadN h hx rfl hd hl hr
theorem y_lloadN {tb : Tables} [Ours tb] {e : Env} {below : List Frame} {T target : State} {m : MethodId} {c : Code} (h : At T m c below) (hx : tb.exec = Jvm.exec) {pc pc' : Nat} {L : Array Slot} {S : List Value} {k : Fin 4} {v : Int64} (hd : decode c.code pc = .ok (.lload_n k, 1)) (hl : L[k.val]? = some (.val (.long v))) (hp : pc + 1 = pc') (hr : Steps tb e below (T.setTop (mkF m pc' L (.long v :: S))) target) : Steps tb e below (T.setTop (mkF m pc L S)) target := by subst hp; exact XS.lloadN h hx rfl hd hl hr
theorem y_aloadN {tb : Tables} [Ours tb] {e : Env} {below : List Frame} {T target : State} {m : MethodId} {c : Code} (h : At T m c below) (hx : tb.exec = Jvm.exec) {pc pc' : Nat} {L : Array Slot} {S : List Value} {k : Fin 4} {v : Value} (hd : decode c.code pc = .ok (.aload_n k, 1)) (hl : L[k.val]? = some (.val v)) (hv : v.isRef = true) (hp : pc + 1 = pc') (hr : Steps tb e below (T.setTop (mkF m pc' L (v :: S))) target) : Steps tb e below (T.setTop (mkF m pc L S)) target := by subst hp; exact XS.aloadN h hx rfl hd hl hv hr
theorem y_istoreN {tb : Tables} [Ours tb] {e : Env} {below : List Frame} {T target : State} {m : MethodId} {c : Code} (h : At T m c below) (hx : tb.exec = Jvm.exec) {pc pc' : Nat} {L : Array Slot} {S : List Value} {k : Fin 4} {v : Int32} {l' : Array Slot} (hd : decode c.code pc = .ok (.istore_n k, 1)) (hl : storeLocals L k.val (.int v) = some l') (hp : pc + 1 = pc') (hr : Steps tb e below (T.setTop (mkF m pc' l' S)) target) : Steps tb e below (T.setTop (mkF m pc L (.int v :: S))) target := by subst hp; exact XS.istoreN h hx rfl hd rfl hl hr
theorem y_lstoreN {tb : Tables} [Ours tb] {e : Env} {below : List Frame} {T target : State} {m : MethodId} {c : Code} (h : At T m c below) (hx : tb.exec = Jvm.exec) {pc pc' : Nat} {L : Array Slot} {S : List Value} {k : Fin 4} {v : Int64} {l' : Array Slot} (hd : decode c.code pc = .ok (.lstore_n k, 1)) (hl : storeLocals L k.val (.long v) = some l') (hp : pc + 1 = pc') (hr : Steps tb e below (T.setTop (mkF m pc' l' S)) target) : Steps tb e below (T.setTop (mkF m pc L (.long v :: S))) target := by subst hp; exact XS.lstoreN h hx rfl hd rfl hl hr
theorem y_astoreN {tb : Tables} [Ours tb] {e : Env} {below : List Frame} {T target : State} {m : MethodId} {c : Code} (h : At T m c below) (hx : tb.exec = Jvm.exec) {pc pc' : Nat} {L : Array Slot} {S : List Value} {k : Fin 4} {v : Value} {l' : Array Slot} (hd : decode c.code pc = .ok (.astore_n k, 1)) (hv : v.isRef = true) (hl : storeLocals L k.val v = some l') (hp : pc + 1 = pc') (hr : Steps tb e below (T.setTop (mkF m pc' l' S)) target) : Steps tb e below (T.setTop (mkF m pc L (v :: S))) target := by subst hp; exact XS.astoreN h hx rfl hd rfl hv hl hr
theorem y_iload {tb : Tables} [Ours tb] {e : Env} {below : List Frame} {T target : State} {m : MethodId} {c : Code} (h : At T m c below) (hx : tb.exec = Jvm.exec) {pc pc' : Nat} {L : Array Slot} {S : List Value} {k : Nat} {v : Int32} (hd : decode c.code pc = .ok (.iload k, 2)) (hl : L[k]? = some (.val (.int v))) (hp : pc + 2 = pc') (hr : Steps tb e below (T.setTop (mkF m pc' L (.int v :: S))) target) : Steps tb e below (T.setTop (mkF m pc L S)) target := by subst hp; exact XS.iload h hx rfl hd hl hr
theorem y_lload {tb : Tables} [Ours tb] {e : Env} {below : List Frame} {T target : State} {m : MethodId} {c : Code} (h : At T m c below) (hx : tb.exec = Jvm.exec) {pc pc' : Nat} {L : Array Slot} {S : List Value} {k : Nat} {v : Int64} (hd : decode c.code pc = .ok (.lload k, 2)) (hl : L[k]? = some (.val (.long v))) (hp : pc + 2 = pc') (hr : Steps tb e below (T.setTop (mkF m pc' L (.long v :: S))) target) : Steps tb e below (T.setTop (mkF m pc L S)) target := by subst hp; exact XS.lload h hx rfl hd hl hr
theorem y_aload {tb : Tables} [Ours tb] {e : Env} {below : List Frame} {T target : State} {m : MethodId} {c : Code} (h : At T m c below) (hx : tb.exec = Jvm.exec) {pc pc' : Nat} {L : Array Slot} {S : List Value} {k : Nat} {v : Value} (hd : decode c.code pc = .ok (.aload k, 2)) (hl : L[k]? = some (.val v)) (hv : v.isRef = true) (hp : pc + 2 = pc') (hr : Steps tb e below (T.setTop (mkF m pc' L (v :: S))) target) : Steps tb e below (T.setTop (mkF m pc L S)) target := by subst hp; exact XS.aload h hx rfl hd hl hv hr
theorem y_istore {tb : Tables} [Ours tb] {e : Env} {below : List Frame} {T target : State} {m : MethodId} {c : Code} (h : At T m c below) (hx : tb.exec = Jvm.exec) {pc pc' : Nat} {L : Array Slot} {S : List Value} {k : Nat} {v : Int32} {l' : Array Slot} (hd : decode c.code pc = .ok (.istore k, 2)) (hl : storeLocals L k (.int v) = some l') (hp : pc + 2 = pc') (hr : Steps tb e below (T.setTop (mkF m pc' l' S)) target) : Steps tb e below (T.setTop (mkF m pc L (.int v :: S))) target := by subst hp; exact XS.istore h hx rfl hd rfl hl hr
theorem y_lstore {tb : Tables} [Ours tb] {e : Env} {below : List Frame} {T target : State} {m : MethodId} {c : Code} (h : At T m c below) (hx : tb.exec = Jvm.exec) {pc pc' : Nat} {L : Array Slot} {S : List Value} {k : Nat} {v : Int64} {l' : Array Slot} (hd : decode c.code pc = .ok (.lstore k, 2)) (hl : storeLocals L k (.long v) = some l') (hp : pc + 2 = pc') (hr : Steps tb e below (T.setTop (mkF m pc' l' S)) target) : Steps tb e below (T.setTop (mkF m pc L (.long v :: S))) target := by subst hp; exact XS.lstore h hx rfl hd rfl hl hr
theorem y_astore {tb : Tables} [Ours tb] {e : Env} {below : List Frame} {T target : State} {m : MethodId} {c : Code} (h : At T m c below) (hx : tb.exec = Jvm.exec) {pc pc' : Nat} {L : Array Slot} {S : List Value} {k : Nat} {v : Value} {l' : Array Slot} (hd : decode c.code pc = .ok (.astore k, 2)) (hv : v.isRef = true) (hl : storeLocals L k v = some l') (hp : pc + 2 = pc') (hr : Steps tb e below (T.setTop (mkF m pc' l' S)) target) : Steps tb e below (T.setTop (mkF m pc L (v :: S))) target := by subst hp; exact XS.astore h hx rfl hd rfl hv hl hr
theorem y_iconst {tb : Tables} [Ours tb] {e : Env} {below : List Frame} {T target : State} {m : MethodId} {c : Code} (h : At T m c below) (hx : tb.exec = Jvm.exec) {pc pc' : Nat} {L : Array Slot} {S : List Value} {i : Int} {v : Int32} (hd : decode c.code pc = .ok (.iconst i, 1)) (hv : Int32.ofInt i = v) (hp : pc + 1 = pc') (hr : Steps tb e below (T.setTop (mkF m pc' L (.int v :: S))) target) : Steps tb e below (T.setTop (mkF m pc L S)) target := by subst hp; exact XS.iconst h hx rfl hd (by rw [hv]; exact hr)
theorem y_bipush {tb : Tables} [Ours tb] {e : Env} {below : List Frame} {T target : State} {m : MethodId} {c : Code} (h : At T m c below) (hx : tb.exec = Jvm.exec) {pc pc' : Nat} {L : Array Slot} {S : List Value} {i : Int} {v : Int32} (hd : decode c.code pc = .ok (.bipush i, 2)) (hv : (Int8.ofInt i).toInt32 = v) (hp : pc + 2 = pc') (hr : Steps tb e below (T.setTop (mkF m pc' L (.int v :: S))) target) : Steps tb e below (T.setTop (mkF m pc L S)) target := by subst hp; exact XS.bipush h hx rfl hd (by rw [hv]; exact hr)
theorem y_sipush {tb : Tables} [Ours tb] {e : Env} {below : List Frame} {T target : State} {m : MethodId} {c : Code} (h : At T m c below) (hx : tb.exec = Jvm.exec) {pc pc' : Nat} {L : Array Slot} {S : List Value} {i : Int} {v : Int32} (hd : decode c.code pc = .ok (.sipush i, 3)) (hv : (Int16.ofInt i).toInt32 = v) (hp : pc + 3 = pc') (hr : Steps tb e below (T.setTop (mkF m pc' L (.int v :: S))) target) : Steps tb e below (T.setTop (mkF m pc L S)) target := by subst hp; exact XS.sipush h hx rfl hd (by rw [hv]; exact hr)
theorem y_lconst {tb : Tables} [Ours tb] {e : Env} {below : List Frame} {T target : State} {m : MethodId} {c : Code} (h : At T m c below) (hx : tb.exec = Jvm.exec) {pc pc' : Nat} {L : Array Slot} {S : List Value} {k : Fin 2} {v : Int64} (hd : decode c.code pc = .ok (.lconst k, 1)) (hv : Int64.ofNat k.val = v) (hp : pc + 1 = pc') (hr : Steps tb e below (T.setTop (mkF m pc' L (.long v :: S))) target) : Steps tb e below (T.setTop (mkF m pc L S)) target := by subst hp; exact XS.lconst h hx rfl hd (by first | exact hv ▸ hr | (rw [hv]; exact hr) | (subst hv; exact hr))
theorem y_aconstNull {tb : Tables} [Ours tb] {e : Env} {below : List Frame} {T target : State} {m : MethodId} {c : Code} (h : At T m c below) (hx : tb.exec = Jvm.exec) {pc pc' : Nat} {L : Array Slot} {S : List Value} (hd : decode c.code pc = .ok (.aconst_null, 1)) (hp : pc + 1 = pc') (hr : Steps tb e below (T.setTop (mkF m pc' L (.null :: S))) target) : Steps tb e below (T.setTop (mkF m pc L S)) target := by subst hp; exact XS.aconstNull h hx rfl hd hr
theorem y_iadd {tb : Tables} [Ours tb] {e : Env} {below : List Frame} {T target : State} {m : MethodId} {c : Code} (h : At T m c below) (hx : tb.exec = Jvm.exec) {pc pc' : Nat} {L : Array Slot} {S : List Value} {x y z : Int32} (hd : decode c.code pc = .ok (.iadd, 1)) (hz : x + y = z) (hp : pc + 1 = pc') (hr : Steps tb e below (T.setTop (mkF m pc' L (.int z :: S))) target) : Steps tb e below (T.setTop (mkF m pc L (.int y :: .int x :: S))) target := by subst hp; exact XS.iadd h hx rfl hd rfl (by rw [hz]; exact hr)
theorem y_isub {tb : Tables} [Ours tb] {e : Env} {below : List Frame} {T target : State} {m : MethodId} {c : Code} (h : At T m c below) (hx : tb.exec = Jvm.exec) {pc pc' : Nat} {L : Array Slot} {S : List Value} {x y z : Int32} (hd : decode c.code pc = .ok (.isub, 1)) (hz : x - y = z) (hp : pc + 1 = pc') (hr : Steps tb e below (T.setTop (mkF m pc' L (.int z :: S))) target) : Steps tb e below (T.setTop (mkF m pc L (.int y :: .int x :: S))) target := by subst hp; exact XS.isub h hx rfl hd rfl (by rw [hz]; exact hr)
theorem y_imul {tb : Tables} [Ours tb] {e : Env} {below : List Frame} {T target : State} {m : MethodId} {c : Code} (h : At T m c below) (hx : tb.exec = Jvm.exec) {pc pc' : Nat} {L : Array Slot} {S : List Value} {x y z : Int32} (hd : decode c.code pc = .ok (.imul, 1)) (hz : x * y = z) (hp : pc + 1 = pc') (hr : Steps tb e below (T.setTop (mkF m pc' L (.int z :: S))) target) : Steps tb e below (T.setTop (mkF m pc L (.int y :: .int x :: S))) target := by subst hp; exact XS.imul h hx rfl hd rfl (by rw [hz]; exact hr)
theorem y_iand {tb : Tables} [Ours tb] {e : Env} {below : List Frame} {T target : State} {m : MethodId} {c : Code} (h : At T m c below) (hx : tb.exec = Jvm.exec) {pc pc' : Nat} {L : Array Slot} {S : List Value} {x y z : Int32} (hd : decode c.code pc = .ok (.iand, 1)) (hz : x &&& y = z) (hp : pc + 1 = pc') (hr : Steps tb e below (T.setTop (mkF m pc' L (.int z :: S))) target) : Steps tb e below (T.setTop (mkF m pc L (.int y :: .int x :: S))) target := by subst hp; exact XS.iand h hx rfl hd rfl (by rw [hz]; exact hr)
theorem y_ior {tb : Tables} [Ours tb] {e : Env} {below : List Frame} {T target : State} {m : MethodId} {c : Code} (h : At T m c below) (hx : tb.exec = Jvm.exec) {pc pc' : Nat} {L : Array Slot} {S : List Value} {x y z : Int32} (hd : decode c.code pc = .ok (.ior, 1)) (hz : x ||| y = z) (hp : pc + 1 = pc') (hr : Steps tb e below (T.setTop (mkF m pc' L (.int z :: S))) target) : Steps tb e below (T.setTop (mkF m pc L (.int y :: .int x :: S))) target := by subst hp; exact XS.ior h hx rfl hd rfl (by rw [hz]; exact hr)
theorem y_ixor {tb : Tables} [Ours tb] {e : Env} {below : List Frame} {T target : State} {m : MethodId} {c : Code} (h : At T m c below) (hx : tb.exec = Jvm.exec) {pc pc' : Nat} {L : Array Slot} {S : List Value} {x y z : Int32} (hd : decode c.code pc = .ok (.ixor, 1)) (hz : x ^^^ y = z) (hp : pc + 1 = pc') (hr : Steps tb e below (T.setTop (mkF m pc' L (.int z :: S))) target) : Steps tb e below (T.setTop (mkF m pc L (.int y :: .int x :: S))) target := by subst hp; exact XS.ixor h hx rfl hd rfl (by rw [hz]; exact hr)
theorem y_ladd {tb : Tables} [Ours tb] {e : Env} {below : List Frame} {T target : State} {m : MethodId} {c : Code} (h : At T m c below) (hx : tb.exec = Jvm.exec) {pc pc' : Nat} {L : Array Slot} {S : List Value} {x y z : Int64} (hd : decode c.code pc = .ok (.ladd, 1)) (hz : x + y = z) (hp : pc + 1 = pc') (hr : Steps tb e below (T.setTop (mkF m pc' L (.long z :: S))) target) : Steps tb e below (T.setTop (mkF m pc L (.long y :: .long x :: S))) target := by subst hp; exact XS.ladd h hx rfl hd rfl (by rw [hz]; exact hr)
theorem y_lsub {tb : Tables} [Ours tb] {e : Env} {below : List Frame} {T target : State} {m : MethodId} {c : Code} (h : At T m c below) (hx : tb.exec = Jvm.exec) {pc pc' : Nat} {L : Array Slot} {S : List Value} {x y z : Int64} (hd : decode c.code pc = .ok (.lsub, 1)) (hz : x - y = z) (hp : pc + 1 = pc') (hr : Steps tb e below (T.setTop (mkF m pc' L (.long z :: S))) target) : Steps tb e below (T.setTop (mkF m pc L (.long y :: .long x :: S))) target := by subst hp; exact XS.lsub h hx rfl hd rfl (by rw [hz]; exact hr)
theorem y_lmul {tb : Tables} [Ours tb] {e : Env} {below : List Frame} {T target : State} {m : MethodId} {c : Code} (h : At T m c below) (hx : tb.exec = Jvm.exec) {pc pc' : Nat} {L : Array Slot} {S : List Value} {x y z : Int64} (hd : decode c.code pc = .ok (.lmul, 1)) (hz : x * y = z) (hp : pc + 1 = pc') (hr : Steps tb e below (T.setTop (mkF m pc' L (.long z :: S))) target) : Steps tb e below (T.setTop (mkF m pc L (.long y :: .long x :: S))) target := by subst hp; exact XS.lmul h hx rfl hd rfl (by rw [hz]; exact hr)
theorem y_land {tb : Tables} [Ours tb] {e : Env} {below : List Frame} {T target : State} {m : MethodId} {c : Code} (h : At T m c below) (hx : tb.exec = Jvm.exec) {pc pc' : Nat} {L : Array Slot} {S : List Value} {x y z : Int64} (hd : decode c.code pc = .ok (.land, 1)) (hz : x &&& y = z) (hp : pc + 1 = pc') (hr : Steps tb e below (T.setTop (mkF m pc' L (.long z :: S))) target) : Steps tb e below (T.setTop (mkF m pc L (.long y :: .long x :: S))) target := by subst hp; exact XS.land h hx rfl hd rfl (by rw [hz]; exact hr)
theorem y_lor {tb : Tables} [Ours tb] {e : Env} {below : List Frame} {T target : State} {m : MethodId} {c : Code} (h : At T m c below) (hx : tb.exec = Jvm.exec) {pc pc' : Nat} {L : Array Slot} {S : List Value} {x y z : Int64} (hd : decode c.code pc = .ok (.lor, 1)) (hz : x ||| y = z) (hp : pc + 1 = pc') (hr : Steps tb e below (T.setTop (mkF m pc' L (.long z :: S))) target) : Steps tb e below (T.setTop (mkF m pc L (.long y :: .long x :: S))) target := by subst hp; exact XS.lor h hx rfl hd rfl (by rw [hz]; exact hr)
theorem y_lxor {tb : Tables} [Ours tb] {e : Env} {below : List Frame} {T target : State} {m : MethodId} {c : Code} (h : At T m c below) (hx : tb.exec = Jvm.exec) {pc pc' : Nat} {L : Array Slot} {S : List Value} {x y z : Int64} (hd : decode c.code pc = .ok (.lxor, 1)) (hz : x ^^^ y = z) (hp : pc + 1 = pc') (hr : Steps tb e below (T.setTop (mkF m pc' L (.long z :: S))) target) : Steps tb e below (T.setTop (mkF m pc L (.long y :: .long x :: S))) target := by subst hp; exact XS.lxor h hx rfl hd rfl (by rw [hz]; exact hr)
theorem y_ineg {tb : Tables} [Ours tb] {e : Env} {below : List Frame} {T target : State} {m : MethodId} {c : Code} (h : At T m c below) (hx : tb.exec = Jvm.exec) {pc pc' : Nat} {L : Array Slot} {S : List Value} {x : Int32} {z : Int32} (hd : decode c.code pc = .ok (.ineg, 1)) (hz : -x = z) (hp : pc + 1 = pc') (hr : Steps tb e below (T.setTop (mkF m pc' L (.int z :: S))) target) : Steps tb e below (T.setTop (mkF m pc L (.int x :: S))) target := by subst hp; exact XS.ineg h hx rfl hd rfl (by subst hz; exact hr)
theorem y_lneg {tb : Tables} [Ours tb] {e : Env} {below : List Frame} {T target : State} {m : MethodId} {c : Code} (h : At T m c below) (hx : tb.exec = Jvm.exec) {pc pc' : Nat} {L : Array Slot} {S : List Value} {x : Int64} {z : Int64} (hd : decode c.code pc = .ok (.lneg, 1)) (hz : -x = z) (hp : pc + 1 = pc') (hr : Steps tb e below (T.setTop (mkF m pc' L (.long z :: S))) target) : Steps tb e below (T.setTop (mkF m pc L (.long x :: S))) target := by subst hp; exact XS.lneg h hx rfl hd rfl (by subst hz; exact hr)
theorem y_i2l {tb : Tables} [Ours tb] {e : Env} {below : List Frame} {T target : State} {m : MethodId} {c : Code} (h : At T m c below) (hx : tb.exec = Jvm.exec) {pc pc' : Nat} {L : Array Slot} {S : List Value} {x : Int32} {z : Int64} (hd : decode c.code pc = .ok (.i2l, 1)) (hz : x.toInt64 = z) (hp : pc + 1 = pc') (hr : Steps tb e below (T.setTop (mkF m pc' L (.long z :: S))) target) : Steps tb e below (T.setTop (mkF m pc L (.int x :: S))) target := by subst hp; exact XS.i2l h hx rfl hd rfl (by subst hz; exact hr)
theorem y_l2i {tb : Tables} [Ours tb] {e : Env} {below : List Frame} {T target : State} {m : MethodId} {c : Code} (h : At T m c below) (hx : tb.exec = Jvm.exec) {pc pc' : Nat} {L : Array Slot} {S : List Value} {x : Int64} {z : Int32} (hd : decode c.code pc = .ok (.l2i, 1)) (hz : x.toInt32 = z) (hp : pc + 1 = pc') (hr : Steps tb e below (T.setTop (mkF m pc' L (.int z :: S))) target) : Steps tb e below (T.setTop (mkF m pc L (.long x :: S))) target := by subst hp; exact XS.l2i h hx rfl hd rfl (by subst hz; exact hr)
theorem y_i2b {tb : Tables} [Ours tb] {e : Env} {below : List Frame} {T target : State} {m : MethodId} {c : Code} (h : At T m c below) (hx : tb.exec = Jvm.exec) {pc pc' : Nat} {L : Array Slot} {S : List Value} {x : Int32} {z : Int32} (hd : decode c.code pc = .ok (.i2b, 1)) (hz : x.toInt8.toInt32 = z) (hp : pc + 1 = pc') (hr : Steps tb e below (T.setTop (mkF m pc' L (.int z :: S))) target) : Steps tb e below (T.setTop (mkF m pc L (.int x :: S))) target := by subst hp; exact XS.i2b h hx rfl hd rfl (by subst hz; exact hr)
theorem y_i2s {tb : Tables} [Ours tb] {e : Env} {below : List Frame} {T target : State} {m : MethodId} {c : Code} (h : At T m c below) (hx : tb.exec = Jvm.exec) {pc pc' : Nat} {L : Array Slot} {S : List Value} {x : Int32} {z : Int32} (hd : decode c.code pc = .ok (.i2s, 1)) (hz : x.toInt16.toInt32 = z) (hp : pc + 1 = pc') (hr : Steps tb e below (T.setTop (mkF m pc' L (.int z :: S))) target) : Steps tb e below (T.setTop (mkF m pc L (.int x :: S))) target := by subst hp; exact XS.i2s h hx rfl hd rfl (by subst hz; exact hr)
theorem y_i2c {tb : Tables} [Ours tb] {e : Env} {below : List Frame} {T target : State} {m : MethodId} {c : Code} (h : At T m c below) (hx : tb.exec = Jvm.exec) {pc pc' : Nat} {L : Array Slot} {S : List Value} {x : Int32} {z : Int32} (hd : decode c.code pc = .ok (.i2c, 1)) (hz : x.toUInt32.toUInt16.toUInt32.toInt32 = z) (hp : pc + 1 = pc') (hr : Steps tb e below (T.setTop (mkF m pc' L (.int z :: S))) target) : Steps tb e below (T.setTop (mkF m pc L (.int x :: S))) target := by subst hp; exact XS.i2c h hx rfl hd rfl (by subst hz; exact hr)
theorem y_ishl {tb : Tables} [Ours tb] {e : Env} {below : List Frame} {T target : State} {m : MethodId} {c : Code} (h : At T m c below) (hx : tb.exec = Jvm.exec) {pc pc' : Nat} {L : Array Slot} {S : List Value} {x z : Int32} {y : Int32} (hd : decode c.code pc = .ok (.ishl, 1)) (hz : (x <<< (y &&& 31)) = z) (hp : pc + 1 = pc') (hr : Steps tb e below (T.setTop (mkF m pc' L (.int z :: S))) target) : Steps tb e below (T.setTop (mkF m pc L (.int y :: .int x :: S))) target := by subst hp; exact XS.ishl h hx rfl hd rfl (by subst hz; exact hr)
theorem y_ishr {tb : Tables} [Ours tb] {e : Env} {below : List Frame} {T target : State} {m : MethodId} {c : Code} (h : At T m c below) (hx : tb.exec = Jvm.exec) {pc pc' : Nat} {L : Array Slot} {S : List Value} {x z : Int32} {y : Int32} (hd : decode c.code pc = .ok (.ishr, 1)) (hz : (x >>> (y &&& 31)) = z) (hp : pc + 1 = pc') (hr : Steps tb e below (T.setTop (mkF m pc' L (.int z :: S))) target) : Steps tb e below (T.setTop (mkF m pc L (.int y :: .int x :: S))) target := by subst hp; exact XS.ishr h hx rfl hd rfl (by subst hz; exact hr)
theorem y_iushr {tb : Tables} [Ours tb] {e : Env} {below : List Frame} {T target : State} {m : MethodId} {c : Code} (h : At T m c below) (hx : tb.exec = Jvm.exec) {pc pc' : Nat} {L : Array Slot} {S : List Value} {x z : Int32} {y : Int32} (hd : decode c.code pc = .ok (.iushr, 1)) (hz : ((x.toUInt32 >>> (y &&& 31).toUInt32).toInt32) = z) (hp : pc + 1 = pc') (hr : Steps tb e below (T.setTop (mkF m pc' L (.int z :: S))) target) : Steps tb e below (T.setTop (mkF m pc L (.int y :: .int x :: S))) target := by subst hp; exact XS.iushr h hx rfl hd rfl (by subst hz; exact hr)
theorem y_lshl {tb : Tables} [Ours tb] {e : Env} {below : List Frame} {T target : State} {m : MethodId} {c : Code} (h : At T m c below) (hx : tb.exec = Jvm.exec) {pc pc' : Nat} {L : Array Slot} {S : List Value} {x z : Int64} {y : Int32} (hd : decode c.code pc = .ok (.lshl, 1)) (hz : (x <<< (y &&& 0x3f).toInt64) = z) (hp : pc + 1 = pc') (hr : Steps tb e below (T.setTop (mkF m pc' L (.long z :: S))) target) : Steps tb e below (T.setTop (mkF m pc L (.int y :: .long x :: S))) target := by subst hp; exact XS.lshl h hx rfl hd rfl (by subst hz; exact hr)
theorem y_lshr {tb : Tables} [Ours tb] {e : Env} {below : List Frame} {T target : State} {m : MethodId} {c : Code} (h : At T m c below) (hx : tb.exec = Jvm.exec) {pc pc' : Nat} {L : Array Slot} {S : List Value} {x z : Int64} {y : Int32} (hd : decode c.code pc = .ok (.lshr, 1)) (hz : (x >>> (y &&& 0x3f).toInt64) = z) (hp : pc + 1 = pc') (hr : Steps tb e below (T.setTop (mkF m pc' L (.long z :: S))) target) : Steps tb e below (T.setTop (mkF m pc L (.int y :: .long x :: S))) target := by subst hp; exact XS.lshr h hx rfl hd rfl (by subst hz; exact hr)
theorem y_lushr {tb : Tables} [Ours tb] {e : Env} {below : List Frame} {T target : State} {m : MethodId} {c : Code} (h : At T m c below) (hx : tb.exec = Jvm.exec) {pc pc' : Nat} {L : Array Slot} {S : List Value} {x z : Int64} {y : Int32} (hd : decode c.code pc = .ok (.lushr, 1)) (hz : ((x.toUInt64 >>> (y &&& 0x3f).toInt64.toUInt64).toInt64) = z) (hp : pc + 1 = pc') (hr : Steps tb e below (T.setTop (mkF m pc' L (.long z :: S))) target) : Steps tb e below (T.setTop (mkF m pc L (.int y :: .long x :: S))) target := by subst hp; exact XS.lushr h hx rfl hd rfl (by subst hz; exact hr)
theorem y_lcmp {tb : Tables} [Ours tb] {e : Env} {below : List Frame} {T target : State} {m : MethodId} {c : Code} (h : At T m c below) (hx : tb.exec = Jvm.exec) {pc pc' : Nat} {L : Array Slot} {S : List Value} {x y : Int64} (hd : decode c.code pc = .ok (.lcmp, 1)) (hp : pc + 1 = pc') (hr : Steps tb e below (T.setTop (mkF m pc' L (.int (lcmpW x y) :: S))) target) : Steps tb e below (T.setTop (mkF m pc L (.long y :: .long x :: S))) target := by subst hp; exact XS.lcmp h hx rfl hd rfl hr
theorem y_iinc {tb : Tables} [Ours tb] {e : Env} {below : List Frame} {T target : State} {m : MethodId} {c : Code} (h : At T m c below) (hx : tb.exec = Jvm.exec) {pc pc' : Nat} {L : Array Slot} {S : List Value} {k : Nat} {cst : Int} {x : Int32} {l' : Array Slot} (hd : decode c.code pc = .ok (.iinc k cst, 3)) (hl : L[k]? = some (.val (.int x))) (hl' : storeLocals L k (.int (x + Int32.ofInt cst)) = some l') (hp : pc + 3 = pc') (hr : Steps tb e below (T.setTop (mkF m pc' l' S)) target) : Steps tb e below (T.setTop (mkF m pc L S)) target := by subst hp; exact XS.iinc h hx rfl hd hl hl' hr
theorem y_dup {tb : Tables} [Ours tb] {e : Env} {below : List Frame} {T target : State} {m : MethodId} {c : Code} (h : At T m c below) (hx : tb.exec = Jvm.exec) {pc pc' : Nat} {L : Array Slot} {S : List Value} {v : Value} (hd : decode c.code pc = .ok (.dup, 1)) (hc : v.category = 1) (hp : pc + 1 = pc') (hr : Steps tb e below (T.setTop (mkF m pc' L (v :: v :: S))) target) : Steps tb e below (T.setTop (mkF m pc L (v :: S))) target := by subst hp; exact XS.dup h hx rfl hd rfl hc hr
theorem y_goto {tb : Tables} [Ours tb] {e : Env} {below : List Frame} {T target : State} {m : MethodId} {c : Code} (h : At T m c below) (hx : tb.exec = Jvm.exec) {pc pc' : Nat} {L : Array Slot} {S : List Value} {o : Int} (hd : decode c.code pc = .ok (.goto o, 3)) (ho : 0 ≤ (pc : Int) + o) (hp : ((pc : Int) + o).toNat = pc') (hr : Steps tb e below (T.setTop (mkF m pc' L S)) target) : Steps tb e below (T.setTop (mkF m pc L S)) target := XS.goto h hx rfl rfl hd ho hp hr
theorem y_ifYes {tb : Tables} [Ours tb] {e : Env} {below : List Frame} {T target : State} {m : MethodId} {c : Code} (h : At T m c below) (hx : tb.exec = Jvm.exec) {pc pc' : Nat} {L : Array Slot} {S : List Value} {cd : ClassFile.Cond} {x : Int32} {o : Int} (hd : decode c.code pc = .ok (.ifCond cd o, 3)) (hc : ifCond.holds cd x = true) (ho : 0 ≤ (pc : Int) + o) (hp : ((pc : Int) + o).toNat = pc') (hr : Steps tb e below (T.setTop (mkF m pc' L S)) target) : Steps tb e below (T.setTop (mkF m pc L (.int x :: S))) target := XS.ifYes h hx rfl rfl hd rfl hc ho hp hr
theorem y_ifNo {tb : Tables} [Ours tb] {e : Env} {below : List Frame} {T target : State} {m : MethodId} {c : Code} (h : At T m c below) (hx : tb.exec = Jvm.exec) {pc pc' : Nat} {L : Array Slot} {S : List Value} {cd : ClassFile.Cond} {x : Int32} {o : Int} (hd : decode c.code pc = .ok (.ifCond cd o, 3)) (hc : ifCond.holds cd x = false) (hp : pc + 3 = pc') (hr : Steps tb e below (T.setTop (mkF m pc' L S)) target) : Steps tb e below (T.setTop (mkF m pc L (.int x :: S))) target := by subst hp; exact XS.ifNo h hx rfl hd rfl hc hr
theorem y_icmpYes {tb : Tables} [Ours tb] {e : Env} {below : List Frame} {T target : State} {m : MethodId} {c : Code} (h : At T m c below) (hx : tb.exec = Jvm.exec) {pc pc' : Nat} {L : Array Slot} {S : List Value} {cd : ClassFile.Cond} {x y : Int32} {o : Int} (hd : decode c.code pc = .ok (.if_icmp cd o, 3)) (hc : if_icmp.holds cd x y = true) (ho : 0 ≤ (pc : Int) + o) (hp : ((pc : Int) + o).toNat = pc') (hr : Steps tb e below (T.setTop (mkF m pc' L S)) target) : Steps tb e below (T.setTop (mkF m pc L (.int y :: .int x :: S))) target := XS.icmpYes h hx rfl rfl hd rfl hc ho hp hr
theorem y_icmpNo {tb : Tables} [Ours tb] {e : Env} {below : List Frame} {T target : State} {m : MethodId} {c : Code} (h : At T m c below) (hx : tb.exec = Jvm.exec) {pc pc' : Nat} {L : Array Slot} {S : List Value} {cd : ClassFile.Cond} {x y : Int32} {o : Int} (hd : decode c.code pc = .ok (.if_icmp cd o, 3)) (hc : if_icmp.holds cd x y = false) (hp : pc + 3 = pc') (hr : Steps tb e below (T.setTop (mkF m pc' L S)) target) : Steps tb e below (T.setTop (mkF m pc L (.int y :: .int x :: S))) target := by subst hp; exact XS.icmpNo h hx rfl hd rfl hc hr
theorem own_nar01 {x : Int32} (h : x = 0 ∨ x = 1) : nar .boolean x = x := by rcases h with rfl | rfl <;> rfl
theorem own_ite01 {c : Prop} [Decidable c] : (if c then (0 : Int32) else (1 : Int32)) = 0 ∨ (if c then (0 : Int32) else (1 : Int32)) = 1 := by split <;> simp
theorem own_narI {c : Prop} [Decidable c] : nar .boolean (if c then (1 : Int32) else (0 : Int32)) = (if c then (1 : Int32) else (0 : Int32)) := by split <;> rfl
theorem own_ne1 (a : Int32) : ¬ a = a + 1 := fun h => by
  have q := c_iadd a 1
  rw [← h] at q
  have e : (1 : Int32).toInt = 1 := rfl
  omega
theorem own_of {x k : Int32} (h : x.toInt = k.toInt) : x = k := Int32.toInt_inj.mp h
theorem own_and3 (k : Int32) : k &&& 3 = 0 ∨ k &&& 3 = 1 ∨ k &&& 3 = 2 ∨ k &&& 3 = 3 := by
  have q : (k &&& 3).toInt = k.toInt % 4 := c_mask k 3 2 (by decide) (by decide)
  generalize k &&& 3 = x at q ⊢
  have : x.toInt = 0 ∨ x.toInt = 1 ∨ x.toInt = 2 ∨ x.toInt = 3 := by omega
  rcases this with h | h | h | h
  · exact Or.inl (own_of h)
  · exact Or.inr (Or.inl (own_of h))
  · exact Or.inr (Or.inr (Or.inl (own_of h)))
  · exact Or.inr (Or.inr (Or.inr (own_of h)))
theorem own_n0 : nar .boolean (0 : Int32) = 0 := rfl
theorem own_n1 : nar .boolean (1 : Int32) = 1 := rfl
theorem own_c (k : Int32) : 1 ≤ ((1 : Int32) + (k &&& (15 : Int32))).toInt ∧ ((1 : Int32) + (k &&& (15 : Int32))).toInt ≤ 16 := by
  have q : (k &&& (15 : Int32)).toInt = k.toInt % 16 := c_mask k 15 4 (by decide) (by decide)
  have q1 := c_iadd 1 (k &&& (15 : Int32))
  have q2 := ((1 : Int32) + (k &&& (15 : Int32))).le_toInt
  have q3 := ((1 : Int32) + (k &&& (15 : Int32))).toInt_lt
  have e : (1 : Int32).toInt = 1 := rfl
  omega
theorem own_pos {x : Int32} (h : 1 ≤ x.toInt ∧ x.toInt ≤ 16) : (0 : Int32) < x ∧ ¬ x = 0 := by
  have e : (0 : Int32).toInt = 0 := rfl
  refine ⟨by rw [Int32.lt_iff_toInt_lt]; omega, fun q => ?_⟩
  subst q; omega
theorem own_pos2 {x y : Int32} (h : 1 ≤ x.toInt ∧ x.toInt ≤ 16) (g : 1 ≤ y.toInt ∧ y.toInt ≤ 16) : (0 : Int32) < x + y ∧ ¬ x + y = 0 := by
  have e : (0 : Int32).toInt = 0 := rfl
  have q1 := c_iadd x y
  have q2 := (x + y).le_toInt
  have q3 := (x + y).toInt_lt
  refine ⟨by rw [Int32.lt_iff_toInt_lt]; omega, fun q => ?_⟩
  rw [q] at q1 q2 q3; omega
theorem own_tri {x y : Int32} (h : 1 ≤ x.toInt ∧ x.toInt ≤ 16) (g : 1 ≤ y.toInt ∧ y.toInt ≤ 16) : (x < (16 : Int32) ∧ x + y < (16 : Int32)) ∨ (x < (16 : Int32) ∧ ¬ x + y < (16 : Int32)) ∨ (¬ x < (16 : Int32) ∧ ¬ x + y < (16 : Int32)) := by
  have e : (16 : Int32).toInt = 16 := rfl
  have q1 := c_iadd x y
  have q2 := (x + y).le_toInt
  have q3 := (x + y).toInt_lt
  simp only [Int32.lt_iff_toInt_lt]; omega

theorem d1_0 : decode prog_16_method_1_code 0 = .ok (.aload_n 0, 1) := by decide +kernel
theorem d1_1 : decode prog_16_method_1_code 1 = .ok (.invokespecial 1, 3) := by decide +kernel
theorem d1_4 : decode prog_16_method_1_code 4 = .ok (.return_, 1) := by decide +kernel
theorem pn_com_example_roamd_roamd_net_DelayedAck : plainName "com/example/roamd/roamd/net/DelayedAck" = true := by first | (simp [plainName, overriddenIn]; done) | decide +kernel
theorem ef_1 (m : MethodId) (x0 : Addr) : entryFrame m #[(.ref x0)] 1 = mkF m 0 #[rv x0] [] := by first | (simp [entryFrame, mkF, argsToLocals, Value.category]; done) | rfl
def Q1 (Z : State) (pr0 : Addr) (h0 : Heap) (n0 : Nat) (v : Option Value) (h : Heap) (L : List Loc) : Prop := v = none ∧ Fr n0 L ∧ h = h0
set_option maxRecDepth 65536 in
set_option maxHeartbeats 40000000 in
theorem rm1 (l : Launch) (Z : State) (a0 : Array Value) (hw : ∀ d ∈ tables_1, d.before a0 Z = true) (ws : List Jvm.Cond) (pr0 : Addr) (h0 : Heap) (n0 : Nat) (O0 : Old Z n0 h0) (E_pr0 : Exa Z h0 pr0 "com/example/roamd/roamd/net/DelayedAck") :
    MetFree l (⟨"com/example/roamd/roamd/net/DelayedAck", "<init>", "()V"⟩ : MethodName) (head1 (Jvm.Cond.code (⟨"com/example/roamd/roamd/net/DelayedAck", "<init>", "()V"⟩ : MethodName) prog_16_method_1_code 1 none :: ws) ({ frames := 1, cells := 0, slots := 0, locals := 12 } : Room)) (fun a U => a = #[(.ref pr0)] ∧ Z.Warmed39 U.vm ∧ U.heap = h0) (fun _ _ _ _ _ => True) (fun _ U o U' => ∃ v L, o = .returned v ∧ Q1 Z pr0 h0 n0 v U'.heap L ∧ FrameEnd U o U' L ({ frames := 1, cells := 0, slots := 0, locals := 12 } : Room).cells ({ frames := 1, cells := 0, slots := 0, locals := 12 } : Room).slots) := by
  refine MetFree.of_bodySF (plainFor_of_name pn_com_example_roamd_roamd_net_DelayedAck) hisR ?_
  intro p e s m args below meth c s₁ Bd hml0 hP hK
  obtain ⟨rfl, hZ, hh⟩ := hP
  have hx := Bd.exec
  have hby := Bd.bytes
  have hml : c.maxLocals = 1 := hml0
  have hown : s.vm.findClass "com/example/roamd/roamd/net/DelayedAck" = some m.cls := findClass_of_methodNamed Bd.named
  have hnm := (name_of_methodNamed Bd.named Bd.method).1
  have X0 : Stand p l e ({ frames := 1, cells := 0, slots := 0, locals := 12 } : Room) s m #[(.ref pr0)] below meth c s₁ [] 0 0 := Stand.of_body Bd
  have e0 : s₁.heap = h0 := by rw [← hh, Bd.state]; rfl
  have N0 := Fr.nil n0
  obtain ⟨Go, hGo⟩ : ∃ P : State → Prop, ∀ t, P t ↔ Steps p.tables e below (s₁.setTop (entryFrame m #[(.ref pr0)] 1)) t := ⟨_, fun _ => Iff.rfl⟩
  have pre0 : ∀ t, Steps p.tables e below (s₁.setTop (mkF m 0 #[rv pr0] [])) t → Go t := fun t k => (hGo t).mpr (castTop (ef_1 m pr0) k)
  have pre1 : ∀ t, Steps p.tables e below (s₁.setTop (mkF m 1 #[rv pr0] [(.ref pr0)])) t → Go t := fun t kt => pre0 t (by
      refine y_aloadN X0.here hx (hb hby d1_0) rfl rfl (pc' := 1) rfl ?_
      exact kt)
  obtain ⟨T2, X2, e2, st2⟩ := initO X0 hx hZ hown (hw _ (List.mem_of_getElem? (i := 6) rfl)) (hw _ (List.mem_of_getElem? (i := 7) rfl)) (hw _ (List.mem_of_getElem? (i := 8) rfl)) e0 (g := (mkF m 1 #[rv pr0] [(.ref pr0)])) rfl (by rw [hml]; rfl) rfl (hb hby d1_1) (by decide) (W := 0) (by show 2 * 0 + _ ≤ _; exact Nat.le_of_eq rfl) (by decide)
  have pre3 : ∀ t, Steps p.tables e below (T2.setTop (mkF m 4 #[rv pr0] [])) t → Go t := fun t kt => pre1 t (st2 t kt)
  obtain ⟨fs, hr, hrun, hended, hW, hsame⟩ := X2.leave (v := none) (fun _ => rfl)
  refine ⟨_, _, (hGo _).mp (pre3 _ ?_), hrun, hended, _, _, rfl, ?_, ⟨_, rfl⟩, hW, hsame.mono (by decide) (by decide)⟩
  · exact X2.returnOut hx Bd.returns (hb hby d1_4) hr
  · show Q1 Z pr0 h0 n0 _ T2.heap _
    rw [e2]
    exact ⟨rfl, N0, rfl⟩
theorem d4_0 : decode prog_16_method_2_code 0 = .ok (.aload_n 0, 1) := by decide +kernel
theorem d4_1 : decode prog_16_method_2_code 1 = .ok (.getfield 7, 3) := by decide +kernel
theorem d4_4 : decode prog_16_method_2_code 4 = .ok (.ifCond .ne 55, 3) := by decide +kernel
theorem d4_7 : decode prog_16_method_2_code 7 = .ok (.aload_n 0, 1) := by decide +kernel
theorem d4_8 : decode prog_16_method_2_code 8 = .ok (.lload 4, 2) := by decide +kernel
theorem d4_10 : decode prog_16_method_2_code 10 = .ok (.putfield 13, 3) := by decide +kernel
theorem d4_13 : decode prog_16_method_2_code 13 = .ok (.aload_n 0, 1) := by decide +kernel
theorem d4_14 : decode prog_16_method_2_code 14 = .ok (.getfield 17, 3) := by decide +kernel
theorem d4_17 : decode prog_16_method_2_code 17 = .ok (.ifCond .eq 21, 3) := by decide +kernel
theorem d4_20 : decode prog_16_method_2_code 20 = .ok (.lload 4, 2) := by decide +kernel
theorem d4_22 : decode prog_16_method_2_code 22 = .ok (.aload_n 0, 1) := by decide +kernel
theorem d4_23 : decode prog_16_method_2_code 23 = .ok (.getfield 21, 3) := by decide +kernel
theorem d4_26 : decode prog_16_method_2_code 26 = .ok (.lsub, 1) := by decide +kernel
theorem d4_27 : decode prog_16_method_2_code 27 = .ok (.getstatic 24, 3) := by decide +kernel
theorem d4_30 : decode prog_16_method_2_code 30 = .ok (.lcmp, 1) := by decide +kernel
theorem d4_31 : decode prog_16_method_2_code 31 = .ok (.ifCond .gt 7, 3) := by decide +kernel
theorem d4_34 : decode prog_16_method_2_code 34 = .ok (.iconst 1, 1) := by decide +kernel
theorem d4_35 : decode prog_16_method_2_code 35 = .ok (.goto 4, 3) := by decide +kernel
theorem d4_38 : decode prog_16_method_2_code 38 = .ok (.iconst 0, 1) := by decide +kernel
theorem d4_39 : decode prog_16_method_2_code 39 = .ok (.istore 6, 2) := by decide +kernel
theorem d4_41 : decode prog_16_method_2_code 41 = .ok (.aload_n 0, 1) := by decide +kernel
theorem d4_42 : decode prog_16_method_2_code 42 = .ok (.iload 6, 2) := by decide +kernel
theorem d4_44 : decode prog_16_method_2_code 44 = .ok (.ifCond .eq 9, 3) := by decide +kernel
theorem d4_47 : decode prog_16_method_2_code 47 = .ok (.getstatic 24, 3) := by decide +kernel
theorem d4_50 : decode prog_16_method_2_code 50 = .ok (.goto 6, 3) := by decide +kernel
theorem d4_53 : decode prog_16_method_2_code 53 = .ok (.getstatic 27, 3) := by decide +kernel
theorem d4_56 : decode prog_16_method_2_code 56 = .ok (.putfield 30, 3) := by decide +kernel
theorem d4_59 : decode prog_16_method_2_code 59 = .ok (.aload_n 0, 1) := by decide +kernel
theorem d4_60 : decode prog_16_method_2_code 60 = .ok (.iconst 1, 1) := by decide +kernel
theorem d4_61 : decode prog_16_method_2_code 61 = .ok (.putfield 17, 3) := by decide +kernel
theorem d4_64 : decode prog_16_method_2_code 64 = .ok (.aload_n 0, 1) := by decide +kernel
theorem d4_65 : decode prog_16_method_2_code 65 = .ok (.lload 4, 2) := by decide +kernel
theorem d4_67 : decode prog_16_method_2_code 67 = .ok (.putfield 21, 3) := by decide +kernel
theorem d4_70 : decode prog_16_method_2_code 70 = .ok (.aload_n 0, 1) := by decide +kernel
theorem d4_71 : decode prog_16_method_2_code 71 = .ok (.dup, 1) := by decide +kernel
theorem d4_72 : decode prog_16_method_2_code 72 = .ok (.getfield 7, 3) := by decide +kernel
theorem d4_75 : decode prog_16_method_2_code 75 = .ok (.iload_n 1, 1) := by decide +kernel
theorem d4_76 : decode prog_16_method_2_code 76 = .ok (.iadd, 1) := by decide +kernel
theorem d4_77 : decode prog_16_method_2_code 77 = .ok (.putfield 7, 3) := by decide +kernel
theorem d4_80 : decode prog_16_method_2_code 80 = .ok (.aload_n 0, 1) := by decide +kernel
theorem d4_81 : decode prog_16_method_2_code 81 = .ok (.dup, 1) := by decide +kernel
theorem d4_82 : decode prog_16_method_2_code 82 = .ok (.getfield 33, 3) := by decide +kernel
theorem d4_85 : decode prog_16_method_2_code 85 = .ok (.iload_n 2, 1) := by decide +kernel
theorem d4_86 : decode prog_16_method_2_code 86 = .ok (.iload_n 1, 1) := by decide +kernel
theorem d4_87 : decode prog_16_method_2_code 87 = .ok (.if_icmp .ne 16, 3) := by decide +kernel
theorem d4_90 : decode prog_16_method_2_code 90 = .ok (.iload_n 3, 1) := by decide +kernel
theorem d4_91 : decode prog_16_method_2_code 91 = .ok (.ifCond .eq 12, 3) := by decide +kernel
theorem d4_94 : decode prog_16_method_2_code 94 = .ok (.aload_n 0, 1) := by decide +kernel
theorem d4_95 : decode prog_16_method_2_code 95 = .ok (.getfield 7, 3) := by decide +kernel
theorem d4_98 : decode prog_16_method_2_code 98 = .ok (.bipush 16, 2) := by decide +kernel
theorem d4_100 : decode prog_16_method_2_code 100 = .ok (.if_icmp .lt 7, 3) := by decide +kernel
theorem d4_103 : decode prog_16_method_2_code 103 = .ok (.iconst 1, 1) := by decide +kernel
theorem d4_104 : decode prog_16_method_2_code 104 = .ok (.goto 4, 3) := by decide +kernel
theorem d4_107 : decode prog_16_method_2_code 107 = .ok (.iconst 0, 1) := by decide +kernel
theorem d4_108 : decode prog_16_method_2_code 108 = .ok (.ior, 1) := by decide +kernel
theorem d4_109 : decode prog_16_method_2_code 109 = .ok (.putfield 33, 3) := by decide +kernel
theorem d4_112 : decode prog_16_method_2_code 112 = .ok (.return_, 1) := by decide +kernel
theorem ef_4 (m : MethodId) (x0 : Addr) (x1 : Int32) (x2 : Int32) (x3 : Int32) (x4 : Int64) : entryFrame m #[(.ref x0), (.int x1), (.int x2), (.int x3), (.long x4)] 7 = mkF m 0 #[rv x0, iv x1, iv x2, iv x3, jv x4, .second, .unset] [] := by first | (simp [entryFrame, mkF, argsToLocals, Value.category]; done) | rfl
def Q4 (Z : State) (pr0 : Addr) (pi1 : Int32) (pi2 : Int32) (pi3 : Int32) (pj4 : Int64) (u_waiting_pr0 : Int32) (u_firstAt_pr0 : Int64) (u_arrivedBefore_pr0 : Int32) (u_lastArrivedAt_pr0 : Int64) (u_holdNanos_pr0 : Int64) (u_urgent_pr0 : Int32) (h0 : Heap) (n0 : Nat) (v : Option Value) (h : Heap) (L : List Loc) : Prop := v = none ∧ Fr n0 L ∧ Keep h0 h [pr0] ∧ Fld Z h pr0 "com/example/roamd/roamd/net/DelayedAck" "waiting" "I" (.int (u_waiting_pr0 + pi1)) ∧ Fld Z h pr0 "com/example/roamd/roamd/net/DelayedAck" "firstAt" "J" (.long (if u_waiting_pr0 = (0 : Int32) then pj4 else u_firstAt_pr0)) ∧ Fld Z h pr0 "com/example/roamd/roamd/net/DelayedAck" "arrivedBefore" "Z" (.int (1 : Int32)) ∧ Fld Z h pr0 "com/example/roamd/roamd/net/DelayedAck" "lastArrivedAt" "J" (.long pj4) ∧ Fld Z h pr0 "com/example/roamd/roamd/net/DelayedAck" "holdNanos" "J" (.long (if u_waiting_pr0 = (0 : Int32) then (if (if u_arrivedBefore_pr0 = (0 : Int32) then (0 : Int32) else (if (700000000 : Int64) < (pj4 - u_lastArrivedAt_pr0) then (0 : Int32) else (1 : Int32))) = (0 : Int32) then (150000000 : Int64) else (700000000 : Int64)) else u_holdNanos_pr0)) ∧ Fld Z h pr0 "com/example/roamd/roamd/net/DelayedAck" "urgent" "Z" (.int (nar .boolean (u_urgent_pr0 ||| (if pi2 = pi1 then (if pi3 = (0 : Int32) then (1 : Int32) else (if (u_waiting_pr0 + pi1) < (16 : Int32) then (0 : Int32) else (1 : Int32))) else (1 : Int32)))))
set_option maxRecDepth 65536 in
set_option maxHeartbeats 40000000 in
theorem rm4 (l : Launch) (Z : State) (a0 : Array Value) (hw : ∀ d ∈ tables_1, d.before a0 Z = true) (ws : List Jvm.Cond) (pr0 : Addr) (pi1 : Int32) (pi2 : Int32) (pi3 : Int32) (pj4 : Int64) (u_waiting_pr0 : Int32) (u_firstAt_pr0 : Int64) (u_arrivedBefore_pr0 : Int32) (u_lastArrivedAt_pr0 : Int64) (u_holdNanos_pr0 : Int64) (u_urgent_pr0 : Int32) (h0 : Heap) (n0 : Nat) (O0 : Old Z n0 h0) (S_DELAY_NANOS : Sta Z Z.heap "com/example/roamd/roamd/net/DelayedAck" "DELAY_NANOS" "J" (.long (700000000 : Int64))) (S_ALONE_DELAY_NANOS : Sta Z Z.heap "com/example/roamd/roamd/net/DelayedAck" "ALONE_DELAY_NANOS" "J" (.long (150000000 : Int64))) (E_pr0 : Exa Z h0 pr0 "com/example/roamd/roamd/net/DelayedAck") (F_waiting_pr0 : Fld Z h0 pr0 "com/example/roamd/roamd/net/DelayedAck" "waiting" "I" (.int u_waiting_pr0)) (F_firstAt_pr0 : Fld Z h0 pr0 "com/example/roamd/roamd/net/DelayedAck" "firstAt" "J" (.long u_firstAt_pr0)) (F_arrivedBefore_pr0 : Fld Z h0 pr0 "com/example/roamd/roamd/net/DelayedAck" "arrivedBefore" "Z" (.int u_arrivedBefore_pr0)) (F_lastArrivedAt_pr0 : Fld Z h0 pr0 "com/example/roamd/roamd/net/DelayedAck" "lastArrivedAt" "J" (.long u_lastArrivedAt_pr0)) (F_holdNanos_pr0 : Fld Z h0 pr0 "com/example/roamd/roamd/net/DelayedAck" "holdNanos" "J" (.long u_holdNanos_pr0)) (F_urgent_pr0 : Fld Z h0 pr0 "com/example/roamd/roamd/net/DelayedAck" "urgent" "Z" (.int u_urgent_pr0)) (G_pr0 : n0 ≤ pr0) :
    MetFree l (⟨"com/example/roamd/roamd/net/DelayedAck", "arrived", "(IIZJ)V"⟩ : MethodName) (head1 (Jvm.Cond.code (⟨"com/example/roamd/roamd/net/DelayedAck", "arrived", "(IIZJ)V"⟩ : MethodName) prog_16_method_2_code 7 none :: ws) ({ frames := 0, cells := 0, slots := 0, locals := 0 } : Room)) (fun a U => a = #[(.ref pr0), (.int pi1), (.int pi2), (.int pi3), (.long pj4)] ∧ Z.Warmed39 U.vm ∧ U.heap = h0) (fun _ _ _ _ _ => True) (fun _ U o U' => ∃ v L, o = .returned v ∧ Q4 Z pr0 pi1 pi2 pi3 pj4 u_waiting_pr0 u_firstAt_pr0 u_arrivedBefore_pr0 u_lastArrivedAt_pr0 u_holdNanos_pr0 u_urgent_pr0 h0 n0 v U'.heap L ∧ FrameEnd U o U' L ({ frames := 0, cells := 0, slots := 0, locals := 0 } : Room).cells ({ frames := 0, cells := 0, slots := 0, locals := 0 } : Room).slots) := by
  refine MetFree.of_bodySF (plainFor_of_name pn_com_example_roamd_roamd_net_DelayedAck) hisR ?_
  intro p e s m args below meth c s₁ Bd hml0 hP hK
  obtain ⟨rfl, hZ, hh⟩ := hP
  have hx := Bd.exec
  have hby := Bd.bytes
  have hml : c.maxLocals = 7 := hml0
  have hown : s.vm.findClass "com/example/roamd/roamd/net/DelayedAck" = some m.cls := findClass_of_methodNamed Bd.named
  have hnm := (name_of_methodNamed Bd.named Bd.method).1
  have X0 : Stand p l e ({ frames := 0, cells := 0, slots := 0, locals := 0 } : Room) s m #[(.ref pr0), (.int pi1), (.int pi2), (.int pi3), (.long pj4)] below meth c s₁ [] 0 0 := Stand.of_body Bd
  have e0 : s₁.heap = h0 := by rw [← hh, Bd.state]; rfl
  have N0 := Fr.nil n0
  obtain ⟨Go, hGo⟩ : ∃ P : State → Prop, ∀ t, P t ↔ Steps p.tables e below (s₁.setTop (entryFrame m #[(.ref pr0), (.int pi1), (.int pi2), (.int pi3), (.long pj4)] 7)) t := ⟨_, fun _ => Iff.rfl⟩
  have pre0 : ∀ t, Steps p.tables e below (s₁.setTop (mkF m 0 #[rv pr0, iv pi1, iv pi2, iv pi3, jv pj4, .second, .unset] [])) t → Go t := fun t k => (hGo t).mpr (castTop (ef_4 m pr0 pi1 pi2 pi3 pj4) k)
  have K0 : Keep h0 h0 [pr0] := Keep.refl _ _
  have pre1 : ∀ t, Steps p.tables e below (s₁.setTop (mkF m 1 #[rv pr0, iv pi1, iv pi2, iv pi3, jv pj4, .second, .unset] [(.ref pr0)])) t → Go t := fun t kt => pre0 t (by
      refine y_aloadN X0.here hx (hb hby d4_0) rfl rfl (pc' := 1) rfl ?_
      exact kt)
  obtain ⟨T2, X2, e2, st2⟩ := getF X0 hx hZ hown (host := "") (Or.inl (hw _ (List.mem_of_getElem? (i := 16) rfl))) Via.refl e0 F_waiting_pr0 (g := (mkF m 1 #[rv pr0, iv pi1, iv pi2, iv pi3, jv pj4, .second, .unset] [(.ref pr0)])) rfl rfl (hb hby d4_1)
  have pre3 : ∀ t, Steps p.tables e below (T2.setTop (mkF m 4 #[rv pr0, iv pi1, iv pi2, iv pi3, jv pj4, .second, .unset] [(.int u_waiting_pr0)])) t → Go t := fun t kt => pre1 t (st2 t kt)
  by_cases hc4_4 : u_waiting_pr0 = (0 : Int32)
  · have pre5 : ∀ t, Steps p.tables e below (T2.setTop (mkF m 10 #[rv pr0, iv pi1, iv pi2, iv pi3, jv pj4, .second, .unset] [(.long pj4), (.ref pr0)])) t → Go t := fun t kt => pre3 t (by
        refine y_ifNo X2.here hx (hb hby d4_4) ((if0 _ _).trans (teq hc4_4).2) (pc' := 7) rfl ?_
        refine y_aloadN X2.here hx (hb hby d4_7) rfl rfl (pc' := 8) rfl ?_
        refine y_lload X2.here hx (hb hby d4_8) rfl (pc' := 10) rfl ?_
        exact kt)
    obtain ⟨T6, h6, X6, e6, W6, st6⟩ := putF X2 hx hZ hown (host := "") (Or.inl (hw _ (List.mem_of_getElem? (i := 23) rfl))) Via.refl e2 F_firstAt_pr0 E_pr0 (Or.inl (hw _ (List.mem_of_getElem? (i := 24) rfl))) (hw _ (List.mem_of_getElem? (i := 1) rfl)) (ty := .long) (by decide) rfl rfl (g := (mkF m 10 #[rv pr0, iv pi1, iv pi2, iv pi3, jv pj4, .second, .unset] [(.long pj4), (.ref pr0)])) rfl rfl (hb hby d4_10)
    have pre7 : ∀ t, Steps p.tables e below (T6.setTop (mkF m 13 #[rv pr0, iv pi1, iv pi2, iv pi3, jv pj4, .second, .unset] [])) t → Go t := fun t kt => pre5 t (st6 t kt)
    have f8 : Exa Z h6 pr0 "com/example/roamd/roamd/net/DelayedAck" := (E_pr0.wr W6)
    have f9 : Fld Z h6 pr0 "com/example/roamd/roamd/net/DelayedAck" "waiting" "I" (.int u_waiting_pr0) := (F_waiting_pr0.other W6 (Or.inr (slot_ne (Or.inl (hw _ (List.mem_of_getElem? (i := 17) rfl))) (Or.inl (hw _ (List.mem_of_getElem? (i := 24) rfl))) (by decide) (t := .int) (t' := .long) (by decide) (by decide))))
    have f11 : Fld Z h6 pr0 "com/example/roamd/roamd/net/DelayedAck" "arrivedBefore" "Z" (.int u_arrivedBefore_pr0) := (F_arrivedBefore_pr0.other W6 (Or.inr (slot_ne (Or.inl (hw _ (List.mem_of_getElem? (i := 26) rfl))) (Or.inl (hw _ (List.mem_of_getElem? (i := 24) rfl))) (by decide) (t := .boolean) (t' := .long) (by decide) (by decide))))
    have f12 : Fld Z h6 pr0 "com/example/roamd/roamd/net/DelayedAck" "lastArrivedAt" "J" (.long u_lastArrivedAt_pr0) := (F_lastArrivedAt_pr0.other W6 (Or.inr (slot_ne (Or.inl (hw _ (List.mem_of_getElem? (i := 32) rfl))) (Or.inl (hw _ (List.mem_of_getElem? (i := 24) rfl))) (by decide) (t := .long) (t' := .long) (by decide) (by decide))))
    have f13 : Fld Z h6 pr0 "com/example/roamd/roamd/net/DelayedAck" "holdNanos" "J" (.long u_holdNanos_pr0) := (F_holdNanos_pr0.other W6 (Or.inr (slot_ne (Or.inl (hw _ (List.mem_of_getElem? (i := 30) rfl))) (Or.inl (hw _ (List.mem_of_getElem? (i := 24) rfl))) (by decide) (t := .long) (t' := .long) (by decide) (by decide))))
    have f14 : Fld Z h6 pr0 "com/example/roamd/roamd/net/DelayedAck" "urgent" "Z" (.int u_urgent_pr0) := (F_urgent_pr0.other W6 (Or.inr (slot_ne (Or.inl (hw _ (List.mem_of_getElem? (i := 15) rfl))) (Or.inl (hw _ (List.mem_of_getElem? (i := 24) rfl))) (by decide) (t := .boolean) (t' := .long) (by decide) (by decide))))
    have f15 : Fld Z h6 pr0 "com/example/roamd/roamd/net/DelayedAck" "firstAt" "J" (.long pj4) := F_firstAt_pr0.same W6
    have N16 := Fr.snoc X6 N0 G_pr0
    have O16 := O0.wr W6 G_pr0
    have K16 : Keep h0 h6 [pr0] := K0.wr W6 (Or.inl (List.mem_of_getElem? (i := 0) rfl))
    have pre17 : ∀ t, Steps p.tables e below (T6.setTop (mkF m 14 #[rv pr0, iv pi1, iv pi2, iv pi3, jv pj4, .second, .unset] [(.ref pr0)])) t → Go t := fun t kt => pre7 t (by
        refine y_aloadN X6.here hx (hb hby d4_13) rfl rfl (pc' := 14) rfl ?_
        exact kt)
    obtain ⟨T18, X18, e18, st18⟩ := getF X6 hx hZ hown (host := "") (Or.inl (hw _ (List.mem_of_getElem? (i := 25) rfl))) Via.refl e6 f11 (g := (mkF m 14 #[rv pr0, iv pi1, iv pi2, iv pi3, jv pj4, .second, .unset] [(.ref pr0)])) rfl rfl (hb hby d4_14)
    have pre19 : ∀ t, Steps p.tables e below (T18.setTop (mkF m 17 #[rv pr0, iv pi1, iv pi2, iv pi3, jv pj4, .second, .unset] [(.int u_arrivedBefore_pr0)])) t → Go t := fun t kt => pre17 t (st18 t kt)
    obtain ⟨x20, hx20⟩ : ∃ z : Int32, z = (if u_arrivedBefore_pr0 = (0 : Int32) then (0 : Int32) else (if (700000000 : Int64) < (pj4 - u_lastArrivedAt_pr0) then (0 : Int32) else (1 : Int32))) := ⟨_, rfl⟩
    obtain ⟨T21, ⟨X21, q21⟩, st21⟩ : ∃ T', Nx X18 T' ∧ ∀ t, Steps p.tables e below (T'.setTop (mkF m 39 #[rv pr0, iv pi1, iv pi2, iv pi3, jv pj4, .second, .unset] [(.int x20)])) t → Steps p.tables e below (T18.setTop (mkF m 17 #[rv pr0, iv pi1, iv pi2, iv pi3, jv pj4, .second, .unset] [(.int u_arrivedBefore_pr0)])) t := by
      have pre21_ : ∀ t, Steps p.tables e below (T18.setTop (mkF m 17 #[rv pr0, iv pi1, iv pi2, iv pi3, jv pj4, .second, .unset] [(.int u_arrivedBefore_pr0)])) t → Steps p.tables e below (T18.setTop (mkF m 17 #[rv pr0, iv pi1, iv pi2, iv pi3, jv pj4, .second, .unset] [(.int u_arrivedBefore_pr0)])) t := fun t kt => kt
      subst hx20
      by_cases hm17_22 : u_arrivedBefore_pr0 = (0 : Int32)
      · have pre23 : ∀ t, Steps p.tables e below (T18.setTop (mkF m 39 #[rv pr0, iv pi1, iv pi2, iv pi3, jv pj4, .second, .unset] [(.int (0 : Int32))])) t → Steps p.tables e below (T18.setTop (mkF m 17 #[rv pr0, iv pi1, iv pi2, iv pi3, jv pj4, .second, .unset] [(.int u_arrivedBefore_pr0)])) t := fun t kt => pre21_ t (by
            refine y_ifYes X18.here hx (hb hby d4_17) ((if0 _ _).trans (teq hm17_22).1) (pc' := 38) (by decide) rfl ?_
            refine y_iconst X18.here hx (hb hby d4_38) (v := (0 : Int32)) rfl (pc' := 39) rfl ?_
            exact kt)
        refine ⟨T18, ⟨X18, e18.trans e18.symm⟩, fun t kt => pre23 t ?_⟩
        (try simp only [if_pos hm17_22] at kt)
        exact kt
      · have pre24 : ∀ t, Steps p.tables e below (T18.setTop (mkF m 23 #[rv pr0, iv pi1, iv pi2, iv pi3, jv pj4, .second, .unset] [(.ref pr0), (.long pj4)])) t → Steps p.tables e below (T18.setTop (mkF m 17 #[rv pr0, iv pi1, iv pi2, iv pi3, jv pj4, .second, .unset] [(.int u_arrivedBefore_pr0)])) t := fun t kt => pre21_ t (by
            refine y_ifNo X18.here hx (hb hby d4_17) ((if0 _ _).trans (feq hm17_22).1) (pc' := 20) rfl ?_
            refine y_lload X18.here hx (hb hby d4_20) rfl (pc' := 22) rfl ?_
            refine y_aloadN X18.here hx (hb hby d4_22) rfl rfl (pc' := 23) rfl ?_
            exact kt)
        obtain ⟨T25, X25, e25, st25⟩ := getF X18 hx hZ hown (host := "") (Or.inl (hw _ (List.mem_of_getElem? (i := 31) rfl))) Via.refl e18 f12 (g := (mkF m 23 #[rv pr0, iv pi1, iv pi2, iv pi3, jv pj4, .second, .unset] [(.ref pr0), (.long pj4)])) rfl rfl (hb hby d4_23)
        have pre26 : ∀ t, Steps p.tables e below (T25.setTop (mkF m 26 #[rv pr0, iv pi1, iv pi2, iv pi3, jv pj4, .second, .unset] [(.long u_lastArrivedAt_pr0), (.long pj4)])) t → Steps p.tables e below (T18.setTop (mkF m 17 #[rv pr0, iv pi1, iv pi2, iv pi3, jv pj4, .second, .unset] [(.int u_arrivedBefore_pr0)])) t := fun t kt => pre24 t (st25 t kt)
        have pre27 : ∀ t, Steps p.tables e below (T25.setTop (mkF m 27 #[rv pr0, iv pi1, iv pi2, iv pi3, jv pj4, .second, .unset] [(.long (pj4 - u_lastArrivedAt_pr0))])) t → Steps p.tables e below (T18.setTop (mkF m 17 #[rv pr0, iv pi1, iv pi2, iv pi3, jv pj4, .second, .unset] [(.int u_arrivedBefore_pr0)])) t := fun t kt => pre26 t (by
            refine y_lsub X25.here hx (hb hby d4_26) rfl (pc' := 27) rfl ?_
            exact kt)
        obtain ⟨T28, X28, e28, st28⟩ := getS2 X25 hx hZ hown (host := "") (Or.inl (hw _ (List.mem_of_getElem? (i := 38) rfl))) Via.refl e25 (S_DELAY_NANOS.ext O16.2) (g := (mkF m 27 #[rv pr0, iv pi1, iv pi2, iv pi3, jv pj4, .second, .unset] [(.long (pj4 - u_lastArrivedAt_pr0))])) rfl (hb hby d4_27)
        have pre29 : ∀ t, Steps p.tables e below (T28.setTop (mkF m 30 #[rv pr0, iv pi1, iv pi2, iv pi3, jv pj4, .second, .unset] [(.long (700000000 : Int64)), (.long (pj4 - u_lastArrivedAt_pr0))])) t → Steps p.tables e below (T18.setTop (mkF m 17 #[rv pr0, iv pi1, iv pi2, iv pi3, jv pj4, .second, .unset] [(.int u_arrivedBefore_pr0)])) t := fun t kt => pre27 t (st28 t kt)
        have pre30 : ∀ t, Steps p.tables e below (T28.setTop (mkF m 31 #[rv pr0, iv pi1, iv pi2, iv pi3, jv pj4, .second, .unset] [(.int (lcmpW (pj4 - u_lastArrivedAt_pr0) (700000000 : Int64)))])) t → Steps p.tables e below (T18.setTop (mkF m 17 #[rv pr0, iv pi1, iv pi2, iv pi3, jv pj4, .second, .unset] [(.int u_arrivedBefore_pr0)])) t := fun t kt => pre29 t (by
            refine y_lcmp X28.here hx (hb hby d4_30) (pc' := 31) rfl ?_
            exact kt)
        by_cases hm31_31 : (700000000 : Int64) < (pj4 - u_lastArrivedAt_pr0)
        · have pre32 : ∀ t, Steps p.tables e below (T28.setTop (mkF m 39 #[rv pr0, iv pi1, iv pi2, iv pi3, jv pj4, .second, .unset] [(.int (0 : Int32))])) t → Steps p.tables e below (T18.setTop (mkF m 17 #[rv pr0, iv pi1, iv pi2, iv pi3, jv pj4, .second, .unset] [(.int u_arrivedBefore_pr0)])) t := fun t kt => pre30 t (by
              refine y_ifYes X28.here hx (hb hby d4_31) ((if0 _ _).trans (tlt (lq_gt hm31_31)).2.2.1) (pc' := 38) (by decide) rfl ?_
              refine y_iconst X28.here hx (hb hby d4_38) (v := (0 : Int32)) rfl (pc' := 39) rfl ?_
              exact kt)
          refine ⟨T28, ⟨X28, e28.trans e18.symm⟩, fun t kt => pre32 t ?_⟩
          (try simp only [if_neg hm17_22, if_pos hm31_31] at kt)
          exact kt
        · have pre33 : ∀ t, Steps p.tables e below (T28.setTop (mkF m 39 #[rv pr0, iv pi1, iv pi2, iv pi3, jv pj4, .second, .unset] [(.int (1 : Int32))])) t → Steps p.tables e below (T18.setTop (mkF m 17 #[rv pr0, iv pi1, iv pi2, iv pi3, jv pj4, .second, .unset] [(.int u_arrivedBefore_pr0)])) t := fun t kt => pre30 t (by
              refine y_ifNo X28.here hx (hb hby d4_31) ((if0 _ _).trans (flt (lq_ngt hm31_31)).2.2.1) (pc' := 34) rfl ?_
              refine y_iconst X28.here hx (hb hby d4_34) (v := (1 : Int32)) rfl (pc' := 35) rfl ?_
              refine y_goto X28.here hx (hb hby d4_35) (pc' := 39) (by decide) rfl ?_
              exact kt)
          refine ⟨T28, ⟨X28, e28.trans e18.symm⟩, fun t kt => pre33 t ?_⟩
          (try simp only [if_neg hm17_22, if_neg hm31_31] at kt)
          exact kt
    have e21 : T21.heap = h6 := q21.trans e18
    have pre34 : ∀ t, Steps p.tables e below (T21.setTop (mkF m 39 #[rv pr0, iv pi1, iv pi2, iv pi3, jv pj4, .second, .unset] [(.int x20)])) t → Go t := fun t kt => pre19 t (st21 t kt)
    have pre35 : ∀ t, Steps p.tables e below (T21.setTop (mkF m 44 #[rv pr0, iv pi1, iv pi2, iv pi3, jv pj4, .second, iv x20] [(.int x20), (.ref pr0)])) t → Go t := fun t kt => pre34 t (by
        refine y_istore X21.here hx (hb hby d4_39) (l' := #[rv pr0, iv pi1, iv pi2, iv pi3, jv pj4, .second, iv x20]) rfl (pc' := 41) rfl ?_
        refine y_aloadN X21.here hx (hb hby d4_41) rfl rfl (pc' := 42) rfl ?_
        refine y_iload X21.here hx (hb hby d4_42) rfl (pc' := 44) rfl ?_
        exact kt)
    obtain ⟨x36, hx36⟩ : ∃ z : Int64, z = (if x20 = (0 : Int32) then (150000000 : Int64) else (700000000 : Int64)) := ⟨_, rfl⟩
    obtain ⟨T37, ⟨X37, q37⟩, st37⟩ : ∃ T', Nx X21 T' ∧ ∀ t, Steps p.tables e below (T'.setTop (mkF m 56 #[rv pr0, iv pi1, iv pi2, iv pi3, jv pj4, .second, iv x20] [(.long x36), (.ref pr0)])) t → Steps p.tables e below (T21.setTop (mkF m 44 #[rv pr0, iv pi1, iv pi2, iv pi3, jv pj4, .second, iv x20] [(.int x20), (.ref pr0)])) t := by
      have pre37_ : ∀ t, Steps p.tables e below (T21.setTop (mkF m 44 #[rv pr0, iv pi1, iv pi2, iv pi3, jv pj4, .second, iv x20] [(.int x20), (.ref pr0)])) t → Steps p.tables e below (T21.setTop (mkF m 44 #[rv pr0, iv pi1, iv pi2, iv pi3, jv pj4, .second, iv x20] [(.int x20), (.ref pr0)])) t := fun t kt => kt
      subst hx36
      by_cases hm44_38 : x20 = (0 : Int32)
      · have pre39 : ∀ t, Steps p.tables e below (T21.setTop (mkF m 53 #[rv pr0, iv pi1, iv pi2, iv pi3, jv pj4, .second, iv x20] [(.ref pr0)])) t → Steps p.tables e below (T21.setTop (mkF m 44 #[rv pr0, iv pi1, iv pi2, iv pi3, jv pj4, .second, iv x20] [(.int x20), (.ref pr0)])) t := fun t kt => pre37_ t (by
            refine y_ifYes X21.here hx (hb hby d4_44) ((if0 _ _).trans (teq hm44_38).1) (pc' := 53) (by decide) rfl ?_
            exact kt)
        obtain ⟨T40, X40, e40, st40⟩ := getS2 X21 hx hZ hown (host := "") (Or.inl (hw _ (List.mem_of_getElem? (i := 27) rfl))) Via.refl e21 (S_ALONE_DELAY_NANOS.ext O16.2) (g := (mkF m 53 #[rv pr0, iv pi1, iv pi2, iv pi3, jv pj4, .second, iv x20] [(.ref pr0)])) rfl (hb hby d4_53)
        have pre41 : ∀ t, Steps p.tables e below (T40.setTop (mkF m 56 #[rv pr0, iv pi1, iv pi2, iv pi3, jv pj4, .second, iv x20] [(.long (150000000 : Int64)), (.ref pr0)])) t → Steps p.tables e below (T21.setTop (mkF m 44 #[rv pr0, iv pi1, iv pi2, iv pi3, jv pj4, .second, iv x20] [(.int x20), (.ref pr0)])) t := fun t kt => pre39 t (st40 t kt)
        refine ⟨T40, ⟨X40, e40.trans e21.symm⟩, fun t kt => pre41 t ?_⟩
        (try simp only [if_pos hm44_38] at kt)
        exact kt
      · have pre42 : ∀ t, Steps p.tables e below (T21.setTop (mkF m 47 #[rv pr0, iv pi1, iv pi2, iv pi3, jv pj4, .second, iv x20] [(.ref pr0)])) t → Steps p.tables e below (T21.setTop (mkF m 44 #[rv pr0, iv pi1, iv pi2, iv pi3, jv pj4, .second, iv x20] [(.int x20), (.ref pr0)])) t := fun t kt => pre37_ t (by
            refine y_ifNo X21.here hx (hb hby d4_44) ((if0 _ _).trans (feq hm44_38).1) (pc' := 47) rfl ?_
            exact kt)
        obtain ⟨T43, X43, e43, st43⟩ := getS2 X21 hx hZ hown (host := "") (Or.inl (hw _ (List.mem_of_getElem? (i := 38) rfl))) Via.refl e21 (S_DELAY_NANOS.ext O16.2) (g := (mkF m 47 #[rv pr0, iv pi1, iv pi2, iv pi3, jv pj4, .second, iv x20] [(.ref pr0)])) rfl (hb hby d4_47)
        have pre44 : ∀ t, Steps p.tables e below (T43.setTop (mkF m 50 #[rv pr0, iv pi1, iv pi2, iv pi3, jv pj4, .second, iv x20] [(.long (700000000 : Int64)), (.ref pr0)])) t → Steps p.tables e below (T21.setTop (mkF m 44 #[rv pr0, iv pi1, iv pi2, iv pi3, jv pj4, .second, iv x20] [(.int x20), (.ref pr0)])) t := fun t kt => pre42 t (st43 t kt)
        have pre45 : ∀ t, Steps p.tables e below (T43.setTop (mkF m 56 #[rv pr0, iv pi1, iv pi2, iv pi3, jv pj4, .second, iv x20] [(.long (700000000 : Int64)), (.ref pr0)])) t → Steps p.tables e below (T21.setTop (mkF m 44 #[rv pr0, iv pi1, iv pi2, iv pi3, jv pj4, .second, iv x20] [(.int x20), (.ref pr0)])) t := fun t kt => pre44 t (by
            refine y_goto X43.here hx (hb hby d4_50) (pc' := 56) (by decide) rfl ?_
            exact kt)
        refine ⟨T43, ⟨X43, e43.trans e21.symm⟩, fun t kt => pre45 t ?_⟩
        (try simp only [if_neg hm44_38] at kt)
        exact kt
    have e37 : T37.heap = h6 := q37.trans e21
    have pre46 : ∀ t, Steps p.tables e below (T37.setTop (mkF m 56 #[rv pr0, iv pi1, iv pi2, iv pi3, jv pj4, .second, iv x20] [(.long x36), (.ref pr0)])) t → Go t := fun t kt => pre35 t (st37 t kt)
    obtain ⟨T47, h47, X47, e47, W47, st47⟩ := putF X37 hx hZ hown (host := "") (Or.inl (hw _ (List.mem_of_getElem? (i := 29) rfl))) Via.refl e37 f13 f8 (Or.inl (hw _ (List.mem_of_getElem? (i := 30) rfl))) (hw _ (List.mem_of_getElem? (i := 1) rfl)) (ty := .long) (by decide) rfl rfl (g := (mkF m 56 #[rv pr0, iv pi1, iv pi2, iv pi3, jv pj4, .second, iv x20] [(.long x36), (.ref pr0)])) rfl rfl (hb hby d4_56)
    have pre48 : ∀ t, Steps p.tables e below (T47.setTop (mkF m 59 #[rv pr0, iv pi1, iv pi2, iv pi3, jv pj4, .second, iv x20] [])) t → Go t := fun t kt => pre46 t (st47 t kt)
    have f49 : Exa Z h47 pr0 "com/example/roamd/roamd/net/DelayedAck" := (f8.wr W47)
    have f50 : Fld Z h47 pr0 "com/example/roamd/roamd/net/DelayedAck" "waiting" "I" (.int u_waiting_pr0) := (f9.other W47 (Or.inr (slot_ne (Or.inl (hw _ (List.mem_of_getElem? (i := 17) rfl))) (Or.inl (hw _ (List.mem_of_getElem? (i := 30) rfl))) (by decide) (t := .int) (t' := .long) (by decide) (by decide))))
    have f51 : Fld Z h47 pr0 "com/example/roamd/roamd/net/DelayedAck" "arrivedBefore" "Z" (.int u_arrivedBefore_pr0) := (f11.other W47 (Or.inr (slot_ne (Or.inl (hw _ (List.mem_of_getElem? (i := 26) rfl))) (Or.inl (hw _ (List.mem_of_getElem? (i := 30) rfl))) (by decide) (t := .boolean) (t' := .long) (by decide) (by decide))))
    have f52 : Fld Z h47 pr0 "com/example/roamd/roamd/net/DelayedAck" "lastArrivedAt" "J" (.long u_lastArrivedAt_pr0) := (f12.other W47 (Or.inr (slot_ne (Or.inl (hw _ (List.mem_of_getElem? (i := 32) rfl))) (Or.inl (hw _ (List.mem_of_getElem? (i := 30) rfl))) (by decide) (t := .long) (t' := .long) (by decide) (by decide))))
    have f54 : Fld Z h47 pr0 "com/example/roamd/roamd/net/DelayedAck" "urgent" "Z" (.int u_urgent_pr0) := (f14.other W47 (Or.inr (slot_ne (Or.inl (hw _ (List.mem_of_getElem? (i := 15) rfl))) (Or.inl (hw _ (List.mem_of_getElem? (i := 30) rfl))) (by decide) (t := .boolean) (t' := .long) (by decide) (by decide))))
    have f55 : Fld Z h47 pr0 "com/example/roamd/roamd/net/DelayedAck" "firstAt" "J" (.long pj4) := (f15.other W47 (Or.inr (slot_ne (Or.inl (hw _ (List.mem_of_getElem? (i := 24) rfl))) (Or.inl (hw _ (List.mem_of_getElem? (i := 30) rfl))) (by decide) (t := .long) (t' := .long) (by decide) (by decide))))
    have f56 : Fld Z h47 pr0 "com/example/roamd/roamd/net/DelayedAck" "holdNanos" "J" (.long x36) := f13.same W47
    have N57 := Fr.snoc X47 N16 G_pr0
    have O57 := O16.wr W47 G_pr0
    have K57 : Keep h0 h47 [pr0] := K16.wr W47 (Or.inl (List.mem_of_getElem? (i := 0) rfl))
    have pre58 : ∀ t, Steps p.tables e below (T47.setTop (mkF m 61 #[rv pr0, iv pi1, iv pi2, iv pi3, jv pj4, .second, iv x20] [(.int (1 : Int32)), (.ref pr0)])) t → Go t := fun t kt => pre48 t (by
        refine y_aloadN X47.here hx (hb hby d4_59) rfl rfl (pc' := 60) rfl ?_
        refine y_iconst X47.here hx (hb hby d4_60) (v := (1 : Int32)) rfl (pc' := 61) rfl ?_
        exact kt)
    obtain ⟨T59, h59, X59, e59, W59, st59⟩ := putFN X47 hx hZ hown (hw _ (List.mem_of_getElem? (i := 25) rfl)) Via.refl e47 f51 f49 (Or.inl (hw _ (List.mem_of_getElem? (i := 26) rfl))) (hw _ (List.mem_of_getElem? (i := 1) rfl)) (ty := .boolean) (v' := (.int (1 : Int32))) (by decide) rfl (by decide) (g := (mkF m 61 #[rv pr0, iv pi1, iv pi2, iv pi3, jv pj4, .second, iv x20] [(.int (1 : Int32)), (.ref pr0)])) rfl rfl (hb hby d4_61)
    have pre60 : ∀ t, Steps p.tables e below (T59.setTop (mkF m 64 #[rv pr0, iv pi1, iv pi2, iv pi3, jv pj4, .second, iv x20] [])) t → Go t := fun t kt => pre58 t (st59 t kt)
    have f61 : Exa Z h59 pr0 "com/example/roamd/roamd/net/DelayedAck" := (f49.wr W59)
    have f62 : Fld Z h59 pr0 "com/example/roamd/roamd/net/DelayedAck" "waiting" "I" (.int u_waiting_pr0) := (f50.other W59 (Or.inr (slot_ne (Or.inl (hw _ (List.mem_of_getElem? (i := 17) rfl))) (Or.inl (hw _ (List.mem_of_getElem? (i := 26) rfl))) (by decide) (t := .int) (t' := .boolean) (by decide) (by decide))))
    have f64 : Fld Z h59 pr0 "com/example/roamd/roamd/net/DelayedAck" "lastArrivedAt" "J" (.long u_lastArrivedAt_pr0) := (f52.other W59 (Or.inr (slot_ne (Or.inl (hw _ (List.mem_of_getElem? (i := 32) rfl))) (Or.inl (hw _ (List.mem_of_getElem? (i := 26) rfl))) (by decide) (t := .long) (t' := .boolean) (by decide) (by decide))))
    have f65 : Fld Z h59 pr0 "com/example/roamd/roamd/net/DelayedAck" "urgent" "Z" (.int u_urgent_pr0) := (f54.other W59 (Or.inr (slot_ne (Or.inl (hw _ (List.mem_of_getElem? (i := 15) rfl))) (Or.inl (hw _ (List.mem_of_getElem? (i := 26) rfl))) (by decide) (t := .boolean) (t' := .boolean) (by decide) (by decide))))
    have f66 : Fld Z h59 pr0 "com/example/roamd/roamd/net/DelayedAck" "firstAt" "J" (.long pj4) := (f55.other W59 (Or.inr (slot_ne (Or.inl (hw _ (List.mem_of_getElem? (i := 24) rfl))) (Or.inl (hw _ (List.mem_of_getElem? (i := 26) rfl))) (by decide) (t := .long) (t' := .boolean) (by decide) (by decide))))
    have f67 : Fld Z h59 pr0 "com/example/roamd/roamd/net/DelayedAck" "holdNanos" "J" (.long x36) := (f56.other W59 (Or.inr (slot_ne (Or.inl (hw _ (List.mem_of_getElem? (i := 30) rfl))) (Or.inl (hw _ (List.mem_of_getElem? (i := 26) rfl))) (by decide) (t := .long) (t' := .boolean) (by decide) (by decide))))
    have f68 : Fld Z h59 pr0 "com/example/roamd/roamd/net/DelayedAck" "arrivedBefore" "Z" (.int (1 : Int32)) := f51.same W59
    have N69 := Fr.snoc X59 N57 G_pr0
    have O69 := O57.wr W59 G_pr0
    have K69 : Keep h0 h59 [pr0] := K57.wr W59 (Or.inl (List.mem_of_getElem? (i := 0) rfl))
    have pre70 : ∀ t, Steps p.tables e below (T59.setTop (mkF m 67 #[rv pr0, iv pi1, iv pi2, iv pi3, jv pj4, .second, iv x20] [(.long pj4), (.ref pr0)])) t → Go t := fun t kt => pre60 t (by
        refine y_aloadN X59.here hx (hb hby d4_64) rfl rfl (pc' := 65) rfl ?_
        refine y_lload X59.here hx (hb hby d4_65) rfl (pc' := 67) rfl ?_
        exact kt)
    obtain ⟨T71, h71, X71, e71, W71, st71⟩ := putF X59 hx hZ hown (host := "") (Or.inl (hw _ (List.mem_of_getElem? (i := 31) rfl))) Via.refl e59 f64 f61 (Or.inl (hw _ (List.mem_of_getElem? (i := 32) rfl))) (hw _ (List.mem_of_getElem? (i := 1) rfl)) (ty := .long) (by decide) rfl rfl (g := (mkF m 67 #[rv pr0, iv pi1, iv pi2, iv pi3, jv pj4, .second, iv x20] [(.long pj4), (.ref pr0)])) rfl rfl (hb hby d4_67)
    have pre72 : ∀ t, Steps p.tables e below (T71.setTop (mkF m 70 #[rv pr0, iv pi1, iv pi2, iv pi3, jv pj4, .second, iv x20] [])) t → Go t := fun t kt => pre70 t (st71 t kt)
    have f73 : Exa Z h71 pr0 "com/example/roamd/roamd/net/DelayedAck" := (f61.wr W71)
    have f74 : Fld Z h71 pr0 "com/example/roamd/roamd/net/DelayedAck" "waiting" "I" (.int u_waiting_pr0) := (f62.other W71 (Or.inr (slot_ne (Or.inl (hw _ (List.mem_of_getElem? (i := 17) rfl))) (Or.inl (hw _ (List.mem_of_getElem? (i := 32) rfl))) (by decide) (t := .int) (t' := .long) (by decide) (by decide))))
    have f76 : Fld Z h71 pr0 "com/example/roamd/roamd/net/DelayedAck" "urgent" "Z" (.int u_urgent_pr0) := (f65.other W71 (Or.inr (slot_ne (Or.inl (hw _ (List.mem_of_getElem? (i := 15) rfl))) (Or.inl (hw _ (List.mem_of_getElem? (i := 32) rfl))) (by decide) (t := .boolean) (t' := .long) (by decide) (by decide))))
    have f77 : Fld Z h71 pr0 "com/example/roamd/roamd/net/DelayedAck" "firstAt" "J" (.long pj4) := (f66.other W71 (Or.inr (slot_ne (Or.inl (hw _ (List.mem_of_getElem? (i := 24) rfl))) (Or.inl (hw _ (List.mem_of_getElem? (i := 32) rfl))) (by decide) (t := .long) (t' := .long) (by decide) (by decide))))
    have f78 : Fld Z h71 pr0 "com/example/roamd/roamd/net/DelayedAck" "holdNanos" "J" (.long x36) := (f67.other W71 (Or.inr (slot_ne (Or.inl (hw _ (List.mem_of_getElem? (i := 30) rfl))) (Or.inl (hw _ (List.mem_of_getElem? (i := 32) rfl))) (by decide) (t := .long) (t' := .long) (by decide) (by decide))))
    have f79 : Fld Z h71 pr0 "com/example/roamd/roamd/net/DelayedAck" "arrivedBefore" "Z" (.int (1 : Int32)) := (f68.other W71 (Or.inr (slot_ne (Or.inl (hw _ (List.mem_of_getElem? (i := 26) rfl))) (Or.inl (hw _ (List.mem_of_getElem? (i := 32) rfl))) (by decide) (t := .boolean) (t' := .long) (by decide) (by decide))))
    have f80 : Fld Z h71 pr0 "com/example/roamd/roamd/net/DelayedAck" "lastArrivedAt" "J" (.long pj4) := f64.same W71
    have N81 := Fr.snoc X71 N69 G_pr0
    have O81 := O69.wr W71 G_pr0
    have K81 : Keep h0 h71 [pr0] := K69.wr W71 (Or.inl (List.mem_of_getElem? (i := 0) rfl))
    have pre82 : ∀ t, Steps p.tables e below (T71.setTop (mkF m 72 #[rv pr0, iv pi1, iv pi2, iv pi3, jv pj4, .second, iv x20] [(.ref pr0), (.ref pr0)])) t → Go t := fun t kt => pre72 t (by
        refine y_aloadN X71.here hx (hb hby d4_70) rfl rfl (pc' := 71) rfl ?_
        refine y_dup X71.here hx (hb hby d4_71) rfl (pc' := 72) rfl ?_
        exact kt)
    obtain ⟨T83, X83, e83, st83⟩ := getF X71 hx hZ hown (host := "") (Or.inl (hw _ (List.mem_of_getElem? (i := 16) rfl))) Via.refl e71 f74 (g := (mkF m 72 #[rv pr0, iv pi1, iv pi2, iv pi3, jv pj4, .second, iv x20] [(.ref pr0), (.ref pr0)])) rfl rfl (hb hby d4_72)
    have pre84 : ∀ t, Steps p.tables e below (T83.setTop (mkF m 75 #[rv pr0, iv pi1, iv pi2, iv pi3, jv pj4, .second, iv x20] [(.int u_waiting_pr0), (.ref pr0)])) t → Go t := fun t kt => pre82 t (st83 t kt)
    have pre85 : ∀ t, Steps p.tables e below (T83.setTop (mkF m 77 #[rv pr0, iv pi1, iv pi2, iv pi3, jv pj4, .second, iv x20] [(.int (u_waiting_pr0 + pi1)), (.ref pr0)])) t → Go t := fun t kt => pre84 t (by
        refine y_iloadN X83.here hx (hb hby d4_75) rfl (pc' := 76) rfl ?_
        refine y_iadd X83.here hx (hb hby d4_76) rfl (pc' := 77) rfl ?_
        exact kt)
    obtain ⟨x86, hx86⟩ : ∃ z : Int32, z = (u_waiting_pr0 + pi1) := ⟨_, rfl⟩
    have pre87 : ∀ t, Steps p.tables e below (T83.setTop (mkF m 77 #[rv pr0, iv pi1, iv pi2, iv pi3, jv pj4, .second, iv x20] [(.int x86), (.ref pr0)])) t → Go t := by subst hx86; exact pre85
    obtain ⟨T88, h88, X88, e88, W88, st88⟩ := putF X83 hx hZ hown (host := "") (Or.inl (hw _ (List.mem_of_getElem? (i := 16) rfl))) Via.refl e83 f74 f73 (Or.inl (hw _ (List.mem_of_getElem? (i := 17) rfl))) (hw _ (List.mem_of_getElem? (i := 1) rfl)) (ty := .int) (by decide) rfl rfl (g := (mkF m 77 #[rv pr0, iv pi1, iv pi2, iv pi3, jv pj4, .second, iv x20] [(.int x86), (.ref pr0)])) rfl rfl (hb hby d4_77)
    have pre89 : ∀ t, Steps p.tables e below (T88.setTop (mkF m 80 #[rv pr0, iv pi1, iv pi2, iv pi3, jv pj4, .second, iv x20] [])) t → Go t := fun t kt => pre87 t (st88 t kt)
    have f90 : Exa Z h88 pr0 "com/example/roamd/roamd/net/DelayedAck" := (f73.wr W88)
    have f92 : Fld Z h88 pr0 "com/example/roamd/roamd/net/DelayedAck" "urgent" "Z" (.int u_urgent_pr0) := (f76.other W88 (Or.inr (slot_ne (Or.inl (hw _ (List.mem_of_getElem? (i := 15) rfl))) (Or.inl (hw _ (List.mem_of_getElem? (i := 17) rfl))) (by decide) (t := .boolean) (t' := .int) (by decide) (by decide))))
    have f93 : Fld Z h88 pr0 "com/example/roamd/roamd/net/DelayedAck" "firstAt" "J" (.long pj4) := (f77.other W88 (Or.inr (slot_ne (Or.inl (hw _ (List.mem_of_getElem? (i := 24) rfl))) (Or.inl (hw _ (List.mem_of_getElem? (i := 17) rfl))) (by decide) (t := .long) (t' := .int) (by decide) (by decide))))
    have f94 : Fld Z h88 pr0 "com/example/roamd/roamd/net/DelayedAck" "holdNanos" "J" (.long x36) := (f78.other W88 (Or.inr (slot_ne (Or.inl (hw _ (List.mem_of_getElem? (i := 30) rfl))) (Or.inl (hw _ (List.mem_of_getElem? (i := 17) rfl))) (by decide) (t := .long) (t' := .int) (by decide) (by decide))))
    have f95 : Fld Z h88 pr0 "com/example/roamd/roamd/net/DelayedAck" "arrivedBefore" "Z" (.int (1 : Int32)) := (f79.other W88 (Or.inr (slot_ne (Or.inl (hw _ (List.mem_of_getElem? (i := 26) rfl))) (Or.inl (hw _ (List.mem_of_getElem? (i := 17) rfl))) (by decide) (t := .boolean) (t' := .int) (by decide) (by decide))))
    have f96 : Fld Z h88 pr0 "com/example/roamd/roamd/net/DelayedAck" "lastArrivedAt" "J" (.long pj4) := (f80.other W88 (Or.inr (slot_ne (Or.inl (hw _ (List.mem_of_getElem? (i := 32) rfl))) (Or.inl (hw _ (List.mem_of_getElem? (i := 17) rfl))) (by decide) (t := .long) (t' := .int) (by decide) (by decide))))
    have f97 : Fld Z h88 pr0 "com/example/roamd/roamd/net/DelayedAck" "waiting" "I" (.int x86) := f74.same W88
    have N98 := Fr.snoc X88 N81 G_pr0
    have O98 := O81.wr W88 G_pr0
    have K98 : Keep h0 h88 [pr0] := K81.wr W88 (Or.inl (List.mem_of_getElem? (i := 0) rfl))
    have pre99 : ∀ t, Steps p.tables e below (T88.setTop (mkF m 82 #[rv pr0, iv pi1, iv pi2, iv pi3, jv pj4, .second, iv x20] [(.ref pr0), (.ref pr0)])) t → Go t := fun t kt => pre89 t (by
        refine y_aloadN X88.here hx (hb hby d4_80) rfl rfl (pc' := 81) rfl ?_
        refine y_dup X88.here hx (hb hby d4_81) rfl (pc' := 82) rfl ?_
        exact kt)
    obtain ⟨T100, X100, e100, st100⟩ := getF X88 hx hZ hown (host := "") (Or.inl (hw _ (List.mem_of_getElem? (i := 14) rfl))) Via.refl e88 f92 (g := (mkF m 82 #[rv pr0, iv pi1, iv pi2, iv pi3, jv pj4, .second, iv x20] [(.ref pr0), (.ref pr0)])) rfl rfl (hb hby d4_82)
    have pre101 : ∀ t, Steps p.tables e below (T100.setTop (mkF m 85 #[rv pr0, iv pi1, iv pi2, iv pi3, jv pj4, .second, iv x20] [(.int u_urgent_pr0), (.ref pr0)])) t → Go t := fun t kt => pre99 t (st100 t kt)
    have pre102 : ∀ t, Steps p.tables e below (T100.setTop (mkF m 87 #[rv pr0, iv pi1, iv pi2, iv pi3, jv pj4, .second, iv x20] [(.int pi1), (.int pi2), (.int u_urgent_pr0), (.ref pr0)])) t → Go t := fun t kt => pre101 t (by
        refine y_iloadN X100.here hx (hb hby d4_85) rfl (pc' := 86) rfl ?_
        refine y_iloadN X100.here hx (hb hby d4_86) rfl (pc' := 87) rfl ?_
        exact kt)
    obtain ⟨x103, hx103⟩ : ∃ z : Int32, z = (if pi2 = pi1 then (if pi3 = (0 : Int32) then (1 : Int32) else (if x86 < (16 : Int32) then (0 : Int32) else (1 : Int32))) else (1 : Int32)) := ⟨_, rfl⟩
    obtain ⟨T104, ⟨X104, q104⟩, st104⟩ : ∃ T', Nx X100 T' ∧ ∀ t, Steps p.tables e below (T'.setTop (mkF m 108 #[rv pr0, iv pi1, iv pi2, iv pi3, jv pj4, .second, iv x20] [(.int x103), (.int u_urgent_pr0), (.ref pr0)])) t → Steps p.tables e below (T100.setTop (mkF m 87 #[rv pr0, iv pi1, iv pi2, iv pi3, jv pj4, .second, iv x20] [(.int pi1), (.int pi2), (.int u_urgent_pr0), (.ref pr0)])) t := by
      have pre104_ : ∀ t, Steps p.tables e below (T100.setTop (mkF m 87 #[rv pr0, iv pi1, iv pi2, iv pi3, jv pj4, .second, iv x20] [(.int pi1), (.int pi2), (.int u_urgent_pr0), (.ref pr0)])) t → Steps p.tables e below (T100.setTop (mkF m 87 #[rv pr0, iv pi1, iv pi2, iv pi3, jv pj4, .second, iv x20] [(.int pi1), (.int pi2), (.int u_urgent_pr0), (.ref pr0)])) t := fun t kt => kt
      subst hx103
      by_cases hm87_105 : pi2 = pi1
      · have pre106 : ∀ t, Steps p.tables e below (T100.setTop (mkF m 91 #[rv pr0, iv pi1, iv pi2, iv pi3, jv pj4, .second, iv x20] [(.int pi3), (.int u_urgent_pr0), (.ref pr0)])) t → Steps p.tables e below (T100.setTop (mkF m 87 #[rv pr0, iv pi1, iv pi2, iv pi3, jv pj4, .second, iv x20] [(.int pi1), (.int pi2), (.int u_urgent_pr0), (.ref pr0)])) t := fun t kt => pre104_ t (by
            refine y_icmpNo X100.here hx (hb hby d4_87) (teq hm87_105).2 (pc' := 90) rfl ?_
            refine y_iloadN X100.here hx (hb hby d4_90) rfl (pc' := 91) rfl ?_
            exact kt)
        by_cases hm91_107 : pi3 = (0 : Int32)
        · have pre108 : ∀ t, Steps p.tables e below (T100.setTop (mkF m 108 #[rv pr0, iv pi1, iv pi2, iv pi3, jv pj4, .second, iv x20] [(.int (1 : Int32)), (.int u_urgent_pr0), (.ref pr0)])) t → Steps p.tables e below (T100.setTop (mkF m 87 #[rv pr0, iv pi1, iv pi2, iv pi3, jv pj4, .second, iv x20] [(.int pi1), (.int pi2), (.int u_urgent_pr0), (.ref pr0)])) t := fun t kt => pre106 t (by
              refine y_ifYes X100.here hx (hb hby d4_91) ((if0 _ _).trans (teq hm91_107).1) (pc' := 103) (by decide) rfl ?_
              refine y_iconst X100.here hx (hb hby d4_103) (v := (1 : Int32)) rfl (pc' := 104) rfl ?_
              refine y_goto X100.here hx (hb hby d4_104) (pc' := 108) (by decide) rfl ?_
              exact kt)
          refine ⟨T100, ⟨X100, e100.trans e100.symm⟩, fun t kt => pre108 t ?_⟩
          (try simp only [if_pos hm87_105, if_pos hm91_107] at kt)
          exact kt
        · have pre109 : ∀ t, Steps p.tables e below (T100.setTop (mkF m 95 #[rv pr0, iv pi1, iv pi2, iv pi3, jv pj4, .second, iv x20] [(.ref pr0), (.int u_urgent_pr0), (.ref pr0)])) t → Steps p.tables e below (T100.setTop (mkF m 87 #[rv pr0, iv pi1, iv pi2, iv pi3, jv pj4, .second, iv x20] [(.int pi1), (.int pi2), (.int u_urgent_pr0), (.ref pr0)])) t := fun t kt => pre106 t (by
              refine y_ifNo X100.here hx (hb hby d4_91) ((if0 _ _).trans (feq hm91_107).1) (pc' := 94) rfl ?_
              refine y_aloadN X100.here hx (hb hby d4_94) rfl rfl (pc' := 95) rfl ?_
              exact kt)
          obtain ⟨T110, X110, e110, st110⟩ := getF X100 hx hZ hown (host := "") (Or.inl (hw _ (List.mem_of_getElem? (i := 16) rfl))) Via.refl e100 f97 (g := (mkF m 95 #[rv pr0, iv pi1, iv pi2, iv pi3, jv pj4, .second, iv x20] [(.ref pr0), (.int u_urgent_pr0), (.ref pr0)])) rfl rfl (hb hby d4_95)
          have pre111 : ∀ t, Steps p.tables e below (T110.setTop (mkF m 98 #[rv pr0, iv pi1, iv pi2, iv pi3, jv pj4, .second, iv x20] [(.int x86), (.int u_urgent_pr0), (.ref pr0)])) t → Steps p.tables e below (T100.setTop (mkF m 87 #[rv pr0, iv pi1, iv pi2, iv pi3, jv pj4, .second, iv x20] [(.int pi1), (.int pi2), (.int u_urgent_pr0), (.ref pr0)])) t := fun t kt => pre109 t (st110 t kt)
          have pre112 : ∀ t, Steps p.tables e below (T110.setTop (mkF m 100 #[rv pr0, iv pi1, iv pi2, iv pi3, jv pj4, .second, iv x20] [(.int (16 : Int32)), (.int x86), (.int u_urgent_pr0), (.ref pr0)])) t → Steps p.tables e below (T100.setTop (mkF m 87 #[rv pr0, iv pi1, iv pi2, iv pi3, jv pj4, .second, iv x20] [(.int pi1), (.int pi2), (.int u_urgent_pr0), (.ref pr0)])) t := fun t kt => pre111 t (by
              refine y_bipush X110.here hx (hb hby d4_98) (v := (16 : Int32)) rfl (pc' := 100) rfl ?_
              exact kt)
          by_cases hm100_113 : x86 < (16 : Int32)
          · have pre114 : ∀ t, Steps p.tables e below (T110.setTop (mkF m 108 #[rv pr0, iv pi1, iv pi2, iv pi3, jv pj4, .second, iv x20] [(.int (0 : Int32)), (.int u_urgent_pr0), (.ref pr0)])) t → Steps p.tables e below (T100.setTop (mkF m 87 #[rv pr0, iv pi1, iv pi2, iv pi3, jv pj4, .second, iv x20] [(.int pi1), (.int pi2), (.int u_urgent_pr0), (.ref pr0)])) t := fun t kt => pre112 t (by
                refine y_icmpYes X110.here hx (hb hby d4_100) (tlt hm100_113).1 (pc' := 107) (by decide) rfl ?_
                refine y_iconst X110.here hx (hb hby d4_107) (v := (0 : Int32)) rfl (pc' := 108) rfl ?_
                exact kt)
            refine ⟨T110, ⟨X110, e110.trans e100.symm⟩, fun t kt => pre114 t ?_⟩
            (try simp only [if_pos hm87_105, if_neg hm91_107, if_pos hm100_113] at kt)
            exact kt
          · have pre115 : ∀ t, Steps p.tables e below (T110.setTop (mkF m 108 #[rv pr0, iv pi1, iv pi2, iv pi3, jv pj4, .second, iv x20] [(.int (1 : Int32)), (.int u_urgent_pr0), (.ref pr0)])) t → Steps p.tables e below (T100.setTop (mkF m 87 #[rv pr0, iv pi1, iv pi2, iv pi3, jv pj4, .second, iv x20] [(.int pi1), (.int pi2), (.int u_urgent_pr0), (.ref pr0)])) t := fun t kt => pre112 t (by
                refine y_icmpNo X110.here hx (hb hby d4_100) (flt hm100_113).1 (pc' := 103) rfl ?_
                refine y_iconst X110.here hx (hb hby d4_103) (v := (1 : Int32)) rfl (pc' := 104) rfl ?_
                refine y_goto X110.here hx (hb hby d4_104) (pc' := 108) (by decide) rfl ?_
                exact kt)
            refine ⟨T110, ⟨X110, e110.trans e100.symm⟩, fun t kt => pre115 t ?_⟩
            (try simp only [if_pos hm87_105, if_neg hm91_107, if_neg hm100_113] at kt)
            exact kt
      · have pre116 : ∀ t, Steps p.tables e below (T100.setTop (mkF m 108 #[rv pr0, iv pi1, iv pi2, iv pi3, jv pj4, .second, iv x20] [(.int (1 : Int32)), (.int u_urgent_pr0), (.ref pr0)])) t → Steps p.tables e below (T100.setTop (mkF m 87 #[rv pr0, iv pi1, iv pi2, iv pi3, jv pj4, .second, iv x20] [(.int pi1), (.int pi2), (.int u_urgent_pr0), (.ref pr0)])) t := fun t kt => pre104_ t (by
            refine y_icmpYes X100.here hx (hb hby d4_87) (feq hm87_105).2 (pc' := 103) (by decide) rfl ?_
            refine y_iconst X100.here hx (hb hby d4_103) (v := (1 : Int32)) rfl (pc' := 104) rfl ?_
            refine y_goto X100.here hx (hb hby d4_104) (pc' := 108) (by decide) rfl ?_
            exact kt)
        refine ⟨T100, ⟨X100, e100.trans e100.symm⟩, fun t kt => pre116 t ?_⟩
        (try simp only [if_neg hm87_105] at kt)
        exact kt
    have e104 : T104.heap = h88 := q104.trans e100
    have pre117 : ∀ t, Steps p.tables e below (T104.setTop (mkF m 108 #[rv pr0, iv pi1, iv pi2, iv pi3, jv pj4, .second, iv x20] [(.int x103), (.int u_urgent_pr0), (.ref pr0)])) t → Go t := fun t kt => pre102 t (st104 t kt)
    have pre118 : ∀ t, Steps p.tables e below (T104.setTop (mkF m 109 #[rv pr0, iv pi1, iv pi2, iv pi3, jv pj4, .second, iv x20] [(.int (u_urgent_pr0 ||| x103)), (.ref pr0)])) t → Go t := fun t kt => pre117 t (by
        refine y_ior X104.here hx (hb hby d4_108) rfl (pc' := 109) rfl ?_
        exact kt)
    obtain ⟨x119, hx119⟩ : ∃ z : Int32, z = (u_urgent_pr0 ||| x103) := ⟨_, rfl⟩
    have pre120 : ∀ t, Steps p.tables e below (T104.setTop (mkF m 109 #[rv pr0, iv pi1, iv pi2, iv pi3, jv pj4, .second, iv x20] [(.int x119), (.ref pr0)])) t → Go t := by subst hx119; exact pre118
    obtain ⟨T121, h121, X121, e121, W121, st121⟩ := putFN X104 hx hZ hown (hw _ (List.mem_of_getElem? (i := 14) rfl)) Via.refl e104 f92 f90 (Or.inl (hw _ (List.mem_of_getElem? (i := 15) rfl))) (hw _ (List.mem_of_getElem? (i := 1) rfl)) (ty := .boolean) (v' := (.int (nar .boolean x119))) (by decide) rfl (fits_nar_bool _) (g := (mkF m 109 #[rv pr0, iv pi1, iv pi2, iv pi3, jv pj4, .second, iv x20] [(.int x119), (.ref pr0)])) rfl rfl (hb hby d4_109)
    have pre122 : ∀ t, Steps p.tables e below (T121.setTop (mkF m 112 #[rv pr0, iv pi1, iv pi2, iv pi3, jv pj4, .second, iv x20] [])) t → Go t := fun t kt => pre120 t (st121 t kt)
    have f123 : Exa Z h121 pr0 "com/example/roamd/roamd/net/DelayedAck" := (f90.wr W121)
    have f125 : Fld Z h121 pr0 "com/example/roamd/roamd/net/DelayedAck" "firstAt" "J" (.long pj4) := (f93.other W121 (Or.inr (slot_ne (Or.inl (hw _ (List.mem_of_getElem? (i := 24) rfl))) (Or.inl (hw _ (List.mem_of_getElem? (i := 15) rfl))) (by decide) (t := .long) (t' := .boolean) (by decide) (by decide))))
    have f126 : Fld Z h121 pr0 "com/example/roamd/roamd/net/DelayedAck" "holdNanos" "J" (.long x36) := (f94.other W121 (Or.inr (slot_ne (Or.inl (hw _ (List.mem_of_getElem? (i := 30) rfl))) (Or.inl (hw _ (List.mem_of_getElem? (i := 15) rfl))) (by decide) (t := .long) (t' := .boolean) (by decide) (by decide))))
    have f127 : Fld Z h121 pr0 "com/example/roamd/roamd/net/DelayedAck" "arrivedBefore" "Z" (.int (1 : Int32)) := (f95.other W121 (Or.inr (slot_ne (Or.inl (hw _ (List.mem_of_getElem? (i := 26) rfl))) (Or.inl (hw _ (List.mem_of_getElem? (i := 15) rfl))) (by decide) (t := .boolean) (t' := .boolean) (by decide) (by decide))))
    have f128 : Fld Z h121 pr0 "com/example/roamd/roamd/net/DelayedAck" "lastArrivedAt" "J" (.long pj4) := (f96.other W121 (Or.inr (slot_ne (Or.inl (hw _ (List.mem_of_getElem? (i := 32) rfl))) (Or.inl (hw _ (List.mem_of_getElem? (i := 15) rfl))) (by decide) (t := .long) (t' := .boolean) (by decide) (by decide))))
    have f129 : Fld Z h121 pr0 "com/example/roamd/roamd/net/DelayedAck" "waiting" "I" (.int x86) := (f97.other W121 (Or.inr (slot_ne (Or.inl (hw _ (List.mem_of_getElem? (i := 17) rfl))) (Or.inl (hw _ (List.mem_of_getElem? (i := 15) rfl))) (by decide) (t := .int) (t' := .boolean) (by decide) (by decide))))
    have f130 : Fld Z h121 pr0 "com/example/roamd/roamd/net/DelayedAck" "urgent" "Z" (.int (nar .boolean x119)) := f92.same W121
    have N131 := Fr.snoc X121 N98 G_pr0
    have O131 := O98.wr W121 G_pr0
    have K131 : Keep h0 h121 [pr0] := K98.wr W121 (Or.inl (List.mem_of_getElem? (i := 0) rfl))
    obtain ⟨fs, hr, hrun, hended, hW, hsame⟩ := X121.leave (v := none) (fun _ => rfl)
    refine ⟨_, _, (hGo _).mp (pre122 _ ?_), hrun, hended, _, _, rfl, ?_, ⟨_, rfl⟩, hW, hsame.mono (by decide) (by decide)⟩
    · exact X121.returnOut hx Bd.returns (hb hby d4_112) hr
    · show Q4 Z pr0 pi1 pi2 pi3 pj4 u_waiting_pr0 u_firstAt_pr0 u_arrivedBefore_pr0 u_lastArrivedAt_pr0 u_holdNanos_pr0 u_urgent_pr0 h0 n0 _ T121.heap _
      rw [e121]
      subst hx20 hx36 hx86 hx103 hx119
      exact ⟨rfl, N131, K131, f129, (by first | (simp only [if_pos hc4_4]; done) | (simp only [if_pos hc4_4]; exact f125) | exact f125), f127, f128, (by first | (simp only [if_pos hc4_4]; done) | (simp only [if_pos hc4_4]; exact f126) | exact f126), (by first | (simp only [if_pos hc4_4]; done) | (simp only [if_pos hc4_4]; exact f130) | exact f130)⟩
  · have pre132 : ∀ t, Steps p.tables e below (T2.setTop (mkF m 61 #[rv pr0, iv pi1, iv pi2, iv pi3, jv pj4, .second, .unset] [(.int (1 : Int32)), (.ref pr0)])) t → Go t := fun t kt => pre3 t (by
        refine y_ifYes X2.here hx (hb hby d4_4) ((if0 _ _).trans (feq hc4_4).2) (pc' := 59) (by decide) rfl ?_
        refine y_aloadN X2.here hx (hb hby d4_59) rfl rfl (pc' := 60) rfl ?_
        refine y_iconst X2.here hx (hb hby d4_60) (v := (1 : Int32)) rfl (pc' := 61) rfl ?_
        exact kt)
    obtain ⟨T133, h133, X133, e133, W133, st133⟩ := putFN X2 hx hZ hown (hw _ (List.mem_of_getElem? (i := 25) rfl)) Via.refl e2 F_arrivedBefore_pr0 E_pr0 (Or.inl (hw _ (List.mem_of_getElem? (i := 26) rfl))) (hw _ (List.mem_of_getElem? (i := 1) rfl)) (ty := .boolean) (v' := (.int (1 : Int32))) (by decide) rfl (by decide) (g := (mkF m 61 #[rv pr0, iv pi1, iv pi2, iv pi3, jv pj4, .second, .unset] [(.int (1 : Int32)), (.ref pr0)])) rfl rfl (hb hby d4_61)
    have pre134 : ∀ t, Steps p.tables e below (T133.setTop (mkF m 64 #[rv pr0, iv pi1, iv pi2, iv pi3, jv pj4, .second, .unset] [])) t → Go t := fun t kt => pre132 t (st133 t kt)
    have f135 : Exa Z h133 pr0 "com/example/roamd/roamd/net/DelayedAck" := (E_pr0.wr W133)
    have f136 : Fld Z h133 pr0 "com/example/roamd/roamd/net/DelayedAck" "waiting" "I" (.int u_waiting_pr0) := (F_waiting_pr0.other W133 (Or.inr (slot_ne (Or.inl (hw _ (List.mem_of_getElem? (i := 17) rfl))) (Or.inl (hw _ (List.mem_of_getElem? (i := 26) rfl))) (by decide) (t := .int) (t' := .boolean) (by decide) (by decide))))
    have f137 : Fld Z h133 pr0 "com/example/roamd/roamd/net/DelayedAck" "firstAt" "J" (.long u_firstAt_pr0) := (F_firstAt_pr0.other W133 (Or.inr (slot_ne (Or.inl (hw _ (List.mem_of_getElem? (i := 24) rfl))) (Or.inl (hw _ (List.mem_of_getElem? (i := 26) rfl))) (by decide) (t := .long) (t' := .boolean) (by decide) (by decide))))
    have f139 : Fld Z h133 pr0 "com/example/roamd/roamd/net/DelayedAck" "lastArrivedAt" "J" (.long u_lastArrivedAt_pr0) := (F_lastArrivedAt_pr0.other W133 (Or.inr (slot_ne (Or.inl (hw _ (List.mem_of_getElem? (i := 32) rfl))) (Or.inl (hw _ (List.mem_of_getElem? (i := 26) rfl))) (by decide) (t := .long) (t' := .boolean) (by decide) (by decide))))
    have f140 : Fld Z h133 pr0 "com/example/roamd/roamd/net/DelayedAck" "holdNanos" "J" (.long u_holdNanos_pr0) := (F_holdNanos_pr0.other W133 (Or.inr (slot_ne (Or.inl (hw _ (List.mem_of_getElem? (i := 30) rfl))) (Or.inl (hw _ (List.mem_of_getElem? (i := 26) rfl))) (by decide) (t := .long) (t' := .boolean) (by decide) (by decide))))
    have f141 : Fld Z h133 pr0 "com/example/roamd/roamd/net/DelayedAck" "urgent" "Z" (.int u_urgent_pr0) := (F_urgent_pr0.other W133 (Or.inr (slot_ne (Or.inl (hw _ (List.mem_of_getElem? (i := 15) rfl))) (Or.inl (hw _ (List.mem_of_getElem? (i := 26) rfl))) (by decide) (t := .boolean) (t' := .boolean) (by decide) (by decide))))
    have f142 : Fld Z h133 pr0 "com/example/roamd/roamd/net/DelayedAck" "arrivedBefore" "Z" (.int (1 : Int32)) := F_arrivedBefore_pr0.same W133
    have N143 := Fr.snoc X133 N0 G_pr0
    have O143 := O0.wr W133 G_pr0
    have K143 : Keep h0 h133 [pr0] := K0.wr W133 (Or.inl (List.mem_of_getElem? (i := 0) rfl))
    have pre144 : ∀ t, Steps p.tables e below (T133.setTop (mkF m 67 #[rv pr0, iv pi1, iv pi2, iv pi3, jv pj4, .second, .unset] [(.long pj4), (.ref pr0)])) t → Go t := fun t kt => pre134 t (by
        refine y_aloadN X133.here hx (hb hby d4_64) rfl rfl (pc' := 65) rfl ?_
        refine y_lload X133.here hx (hb hby d4_65) rfl (pc' := 67) rfl ?_
        exact kt)
    obtain ⟨T145, h145, X145, e145, W145, st145⟩ := putF X133 hx hZ hown (host := "") (Or.inl (hw _ (List.mem_of_getElem? (i := 31) rfl))) Via.refl e133 f139 f135 (Or.inl (hw _ (List.mem_of_getElem? (i := 32) rfl))) (hw _ (List.mem_of_getElem? (i := 1) rfl)) (ty := .long) (by decide) rfl rfl (g := (mkF m 67 #[rv pr0, iv pi1, iv pi2, iv pi3, jv pj4, .second, .unset] [(.long pj4), (.ref pr0)])) rfl rfl (hb hby d4_67)
    have pre146 : ∀ t, Steps p.tables e below (T145.setTop (mkF m 70 #[rv pr0, iv pi1, iv pi2, iv pi3, jv pj4, .second, .unset] [])) t → Go t := fun t kt => pre144 t (st145 t kt)
    have f147 : Exa Z h145 pr0 "com/example/roamd/roamd/net/DelayedAck" := (f135.wr W145)
    have f148 : Fld Z h145 pr0 "com/example/roamd/roamd/net/DelayedAck" "waiting" "I" (.int u_waiting_pr0) := (f136.other W145 (Or.inr (slot_ne (Or.inl (hw _ (List.mem_of_getElem? (i := 17) rfl))) (Or.inl (hw _ (List.mem_of_getElem? (i := 32) rfl))) (by decide) (t := .int) (t' := .long) (by decide) (by decide))))
    have f149 : Fld Z h145 pr0 "com/example/roamd/roamd/net/DelayedAck" "firstAt" "J" (.long u_firstAt_pr0) := (f137.other W145 (Or.inr (slot_ne (Or.inl (hw _ (List.mem_of_getElem? (i := 24) rfl))) (Or.inl (hw _ (List.mem_of_getElem? (i := 32) rfl))) (by decide) (t := .long) (t' := .long) (by decide) (by decide))))
    have f151 : Fld Z h145 pr0 "com/example/roamd/roamd/net/DelayedAck" "holdNanos" "J" (.long u_holdNanos_pr0) := (f140.other W145 (Or.inr (slot_ne (Or.inl (hw _ (List.mem_of_getElem? (i := 30) rfl))) (Or.inl (hw _ (List.mem_of_getElem? (i := 32) rfl))) (by decide) (t := .long) (t' := .long) (by decide) (by decide))))
    have f152 : Fld Z h145 pr0 "com/example/roamd/roamd/net/DelayedAck" "urgent" "Z" (.int u_urgent_pr0) := (f141.other W145 (Or.inr (slot_ne (Or.inl (hw _ (List.mem_of_getElem? (i := 15) rfl))) (Or.inl (hw _ (List.mem_of_getElem? (i := 32) rfl))) (by decide) (t := .boolean) (t' := .long) (by decide) (by decide))))
    have f153 : Fld Z h145 pr0 "com/example/roamd/roamd/net/DelayedAck" "arrivedBefore" "Z" (.int (1 : Int32)) := (f142.other W145 (Or.inr (slot_ne (Or.inl (hw _ (List.mem_of_getElem? (i := 26) rfl))) (Or.inl (hw _ (List.mem_of_getElem? (i := 32) rfl))) (by decide) (t := .boolean) (t' := .long) (by decide) (by decide))))
    have f154 : Fld Z h145 pr0 "com/example/roamd/roamd/net/DelayedAck" "lastArrivedAt" "J" (.long pj4) := f139.same W145
    have N155 := Fr.snoc X145 N143 G_pr0
    have O155 := O143.wr W145 G_pr0
    have K155 : Keep h0 h145 [pr0] := K143.wr W145 (Or.inl (List.mem_of_getElem? (i := 0) rfl))
    have pre156 : ∀ t, Steps p.tables e below (T145.setTop (mkF m 72 #[rv pr0, iv pi1, iv pi2, iv pi3, jv pj4, .second, .unset] [(.ref pr0), (.ref pr0)])) t → Go t := fun t kt => pre146 t (by
        refine y_aloadN X145.here hx (hb hby d4_70) rfl rfl (pc' := 71) rfl ?_
        refine y_dup X145.here hx (hb hby d4_71) rfl (pc' := 72) rfl ?_
        exact kt)
    obtain ⟨T157, X157, e157, st157⟩ := getF X145 hx hZ hown (host := "") (Or.inl (hw _ (List.mem_of_getElem? (i := 16) rfl))) Via.refl e145 f148 (g := (mkF m 72 #[rv pr0, iv pi1, iv pi2, iv pi3, jv pj4, .second, .unset] [(.ref pr0), (.ref pr0)])) rfl rfl (hb hby d4_72)
    have pre158 : ∀ t, Steps p.tables e below (T157.setTop (mkF m 75 #[rv pr0, iv pi1, iv pi2, iv pi3, jv pj4, .second, .unset] [(.int u_waiting_pr0), (.ref pr0)])) t → Go t := fun t kt => pre156 t (st157 t kt)
    have pre159 : ∀ t, Steps p.tables e below (T157.setTop (mkF m 77 #[rv pr0, iv pi1, iv pi2, iv pi3, jv pj4, .second, .unset] [(.int (u_waiting_pr0 + pi1)), (.ref pr0)])) t → Go t := fun t kt => pre158 t (by
        refine y_iloadN X157.here hx (hb hby d4_75) rfl (pc' := 76) rfl ?_
        refine y_iadd X157.here hx (hb hby d4_76) rfl (pc' := 77) rfl ?_
        exact kt)
    obtain ⟨x160, hx160⟩ : ∃ z : Int32, z = (u_waiting_pr0 + pi1) := ⟨_, rfl⟩
    have pre161 : ∀ t, Steps p.tables e below (T157.setTop (mkF m 77 #[rv pr0, iv pi1, iv pi2, iv pi3, jv pj4, .second, .unset] [(.int x160), (.ref pr0)])) t → Go t := by subst hx160; exact pre159
    obtain ⟨T162, h162, X162, e162, W162, st162⟩ := putF X157 hx hZ hown (host := "") (Or.inl (hw _ (List.mem_of_getElem? (i := 16) rfl))) Via.refl e157 f148 f147 (Or.inl (hw _ (List.mem_of_getElem? (i := 17) rfl))) (hw _ (List.mem_of_getElem? (i := 1) rfl)) (ty := .int) (by decide) rfl rfl (g := (mkF m 77 #[rv pr0, iv pi1, iv pi2, iv pi3, jv pj4, .second, .unset] [(.int x160), (.ref pr0)])) rfl rfl (hb hby d4_77)
    have pre163 : ∀ t, Steps p.tables e below (T162.setTop (mkF m 80 #[rv pr0, iv pi1, iv pi2, iv pi3, jv pj4, .second, .unset] [])) t → Go t := fun t kt => pre161 t (st162 t kt)
    have f164 : Exa Z h162 pr0 "com/example/roamd/roamd/net/DelayedAck" := (f147.wr W162)
    have f166 : Fld Z h162 pr0 "com/example/roamd/roamd/net/DelayedAck" "firstAt" "J" (.long u_firstAt_pr0) := (f149.other W162 (Or.inr (slot_ne (Or.inl (hw _ (List.mem_of_getElem? (i := 24) rfl))) (Or.inl (hw _ (List.mem_of_getElem? (i := 17) rfl))) (by decide) (t := .long) (t' := .int) (by decide) (by decide))))
    have f167 : Fld Z h162 pr0 "com/example/roamd/roamd/net/DelayedAck" "holdNanos" "J" (.long u_holdNanos_pr0) := (f151.other W162 (Or.inr (slot_ne (Or.inl (hw _ (List.mem_of_getElem? (i := 30) rfl))) (Or.inl (hw _ (List.mem_of_getElem? (i := 17) rfl))) (by decide) (t := .long) (t' := .int) (by decide) (by decide))))
    have f168 : Fld Z h162 pr0 "com/example/roamd/roamd/net/DelayedAck" "urgent" "Z" (.int u_urgent_pr0) := (f152.other W162 (Or.inr (slot_ne (Or.inl (hw _ (List.mem_of_getElem? (i := 15) rfl))) (Or.inl (hw _ (List.mem_of_getElem? (i := 17) rfl))) (by decide) (t := .boolean) (t' := .int) (by decide) (by decide))))
    have f169 : Fld Z h162 pr0 "com/example/roamd/roamd/net/DelayedAck" "arrivedBefore" "Z" (.int (1 : Int32)) := (f153.other W162 (Or.inr (slot_ne (Or.inl (hw _ (List.mem_of_getElem? (i := 26) rfl))) (Or.inl (hw _ (List.mem_of_getElem? (i := 17) rfl))) (by decide) (t := .boolean) (t' := .int) (by decide) (by decide))))
    have f170 : Fld Z h162 pr0 "com/example/roamd/roamd/net/DelayedAck" "lastArrivedAt" "J" (.long pj4) := (f154.other W162 (Or.inr (slot_ne (Or.inl (hw _ (List.mem_of_getElem? (i := 32) rfl))) (Or.inl (hw _ (List.mem_of_getElem? (i := 17) rfl))) (by decide) (t := .long) (t' := .int) (by decide) (by decide))))
    have f171 : Fld Z h162 pr0 "com/example/roamd/roamd/net/DelayedAck" "waiting" "I" (.int x160) := f148.same W162
    have N172 := Fr.snoc X162 N155 G_pr0
    have O172 := O155.wr W162 G_pr0
    have K172 : Keep h0 h162 [pr0] := K155.wr W162 (Or.inl (List.mem_of_getElem? (i := 0) rfl))
    have pre173 : ∀ t, Steps p.tables e below (T162.setTop (mkF m 82 #[rv pr0, iv pi1, iv pi2, iv pi3, jv pj4, .second, .unset] [(.ref pr0), (.ref pr0)])) t → Go t := fun t kt => pre163 t (by
        refine y_aloadN X162.here hx (hb hby d4_80) rfl rfl (pc' := 81) rfl ?_
        refine y_dup X162.here hx (hb hby d4_81) rfl (pc' := 82) rfl ?_
        exact kt)
    obtain ⟨T174, X174, e174, st174⟩ := getF X162 hx hZ hown (host := "") (Or.inl (hw _ (List.mem_of_getElem? (i := 14) rfl))) Via.refl e162 f168 (g := (mkF m 82 #[rv pr0, iv pi1, iv pi2, iv pi3, jv pj4, .second, .unset] [(.ref pr0), (.ref pr0)])) rfl rfl (hb hby d4_82)
    have pre175 : ∀ t, Steps p.tables e below (T174.setTop (mkF m 85 #[rv pr0, iv pi1, iv pi2, iv pi3, jv pj4, .second, .unset] [(.int u_urgent_pr0), (.ref pr0)])) t → Go t := fun t kt => pre173 t (st174 t kt)
    have pre176 : ∀ t, Steps p.tables e below (T174.setTop (mkF m 87 #[rv pr0, iv pi1, iv pi2, iv pi3, jv pj4, .second, .unset] [(.int pi1), (.int pi2), (.int u_urgent_pr0), (.ref pr0)])) t → Go t := fun t kt => pre175 t (by
        refine y_iloadN X174.here hx (hb hby d4_85) rfl (pc' := 86) rfl ?_
        refine y_iloadN X174.here hx (hb hby d4_86) rfl (pc' := 87) rfl ?_
        exact kt)
    obtain ⟨x177, hx177⟩ : ∃ z : Int32, z = (if pi2 = pi1 then (if pi3 = (0 : Int32) then (1 : Int32) else (if x160 < (16 : Int32) then (0 : Int32) else (1 : Int32))) else (1 : Int32)) := ⟨_, rfl⟩
    obtain ⟨T178, ⟨X178, q178⟩, st178⟩ : ∃ T', Nx X174 T' ∧ ∀ t, Steps p.tables e below (T'.setTop (mkF m 108 #[rv pr0, iv pi1, iv pi2, iv pi3, jv pj4, .second, .unset] [(.int x177), (.int u_urgent_pr0), (.ref pr0)])) t → Steps p.tables e below (T174.setTop (mkF m 87 #[rv pr0, iv pi1, iv pi2, iv pi3, jv pj4, .second, .unset] [(.int pi1), (.int pi2), (.int u_urgent_pr0), (.ref pr0)])) t := by
      have pre178_ : ∀ t, Steps p.tables e below (T174.setTop (mkF m 87 #[rv pr0, iv pi1, iv pi2, iv pi3, jv pj4, .second, .unset] [(.int pi1), (.int pi2), (.int u_urgent_pr0), (.ref pr0)])) t → Steps p.tables e below (T174.setTop (mkF m 87 #[rv pr0, iv pi1, iv pi2, iv pi3, jv pj4, .second, .unset] [(.int pi1), (.int pi2), (.int u_urgent_pr0), (.ref pr0)])) t := fun t kt => kt
      subst hx177
      by_cases hm87_179 : pi2 = pi1
      · have pre180 : ∀ t, Steps p.tables e below (T174.setTop (mkF m 91 #[rv pr0, iv pi1, iv pi2, iv pi3, jv pj4, .second, .unset] [(.int pi3), (.int u_urgent_pr0), (.ref pr0)])) t → Steps p.tables e below (T174.setTop (mkF m 87 #[rv pr0, iv pi1, iv pi2, iv pi3, jv pj4, .second, .unset] [(.int pi1), (.int pi2), (.int u_urgent_pr0), (.ref pr0)])) t := fun t kt => pre178_ t (by
            refine y_icmpNo X174.here hx (hb hby d4_87) (teq hm87_179).2 (pc' := 90) rfl ?_
            refine y_iloadN X174.here hx (hb hby d4_90) rfl (pc' := 91) rfl ?_
            exact kt)
        by_cases hm91_181 : pi3 = (0 : Int32)
        · have pre182 : ∀ t, Steps p.tables e below (T174.setTop (mkF m 108 #[rv pr0, iv pi1, iv pi2, iv pi3, jv pj4, .second, .unset] [(.int (1 : Int32)), (.int u_urgent_pr0), (.ref pr0)])) t → Steps p.tables e below (T174.setTop (mkF m 87 #[rv pr0, iv pi1, iv pi2, iv pi3, jv pj4, .second, .unset] [(.int pi1), (.int pi2), (.int u_urgent_pr0), (.ref pr0)])) t := fun t kt => pre180 t (by
              refine y_ifYes X174.here hx (hb hby d4_91) ((if0 _ _).trans (teq hm91_181).1) (pc' := 103) (by decide) rfl ?_
              refine y_iconst X174.here hx (hb hby d4_103) (v := (1 : Int32)) rfl (pc' := 104) rfl ?_
              refine y_goto X174.here hx (hb hby d4_104) (pc' := 108) (by decide) rfl ?_
              exact kt)
          refine ⟨T174, ⟨X174, e174.trans e174.symm⟩, fun t kt => pre182 t ?_⟩
          (try simp only [if_pos hm87_179, if_pos hm91_181] at kt)
          exact kt
        · have pre183 : ∀ t, Steps p.tables e below (T174.setTop (mkF m 95 #[rv pr0, iv pi1, iv pi2, iv pi3, jv pj4, .second, .unset] [(.ref pr0), (.int u_urgent_pr0), (.ref pr0)])) t → Steps p.tables e below (T174.setTop (mkF m 87 #[rv pr0, iv pi1, iv pi2, iv pi3, jv pj4, .second, .unset] [(.int pi1), (.int pi2), (.int u_urgent_pr0), (.ref pr0)])) t := fun t kt => pre180 t (by
              refine y_ifNo X174.here hx (hb hby d4_91) ((if0 _ _).trans (feq hm91_181).1) (pc' := 94) rfl ?_
              refine y_aloadN X174.here hx (hb hby d4_94) rfl rfl (pc' := 95) rfl ?_
              exact kt)
          obtain ⟨T184, X184, e184, st184⟩ := getF X174 hx hZ hown (host := "") (Or.inl (hw _ (List.mem_of_getElem? (i := 16) rfl))) Via.refl e174 f171 (g := (mkF m 95 #[rv pr0, iv pi1, iv pi2, iv pi3, jv pj4, .second, .unset] [(.ref pr0), (.int u_urgent_pr0), (.ref pr0)])) rfl rfl (hb hby d4_95)
          have pre185 : ∀ t, Steps p.tables e below (T184.setTop (mkF m 98 #[rv pr0, iv pi1, iv pi2, iv pi3, jv pj4, .second, .unset] [(.int x160), (.int u_urgent_pr0), (.ref pr0)])) t → Steps p.tables e below (T174.setTop (mkF m 87 #[rv pr0, iv pi1, iv pi2, iv pi3, jv pj4, .second, .unset] [(.int pi1), (.int pi2), (.int u_urgent_pr0), (.ref pr0)])) t := fun t kt => pre183 t (st184 t kt)
          have pre186 : ∀ t, Steps p.tables e below (T184.setTop (mkF m 100 #[rv pr0, iv pi1, iv pi2, iv pi3, jv pj4, .second, .unset] [(.int (16 : Int32)), (.int x160), (.int u_urgent_pr0), (.ref pr0)])) t → Steps p.tables e below (T174.setTop (mkF m 87 #[rv pr0, iv pi1, iv pi2, iv pi3, jv pj4, .second, .unset] [(.int pi1), (.int pi2), (.int u_urgent_pr0), (.ref pr0)])) t := fun t kt => pre185 t (by
              refine y_bipush X184.here hx (hb hby d4_98) (v := (16 : Int32)) rfl (pc' := 100) rfl ?_
              exact kt)
          by_cases hm100_187 : x160 < (16 : Int32)
          · have pre188 : ∀ t, Steps p.tables e below (T184.setTop (mkF m 108 #[rv pr0, iv pi1, iv pi2, iv pi3, jv pj4, .second, .unset] [(.int (0 : Int32)), (.int u_urgent_pr0), (.ref pr0)])) t → Steps p.tables e below (T174.setTop (mkF m 87 #[rv pr0, iv pi1, iv pi2, iv pi3, jv pj4, .second, .unset] [(.int pi1), (.int pi2), (.int u_urgent_pr0), (.ref pr0)])) t := fun t kt => pre186 t (by
                refine y_icmpYes X184.here hx (hb hby d4_100) (tlt hm100_187).1 (pc' := 107) (by decide) rfl ?_
                refine y_iconst X184.here hx (hb hby d4_107) (v := (0 : Int32)) rfl (pc' := 108) rfl ?_
                exact kt)
            refine ⟨T184, ⟨X184, e184.trans e174.symm⟩, fun t kt => pre188 t ?_⟩
            (try simp only [if_pos hm87_179, if_neg hm91_181, if_pos hm100_187] at kt)
            exact kt
          · have pre189 : ∀ t, Steps p.tables e below (T184.setTop (mkF m 108 #[rv pr0, iv pi1, iv pi2, iv pi3, jv pj4, .second, .unset] [(.int (1 : Int32)), (.int u_urgent_pr0), (.ref pr0)])) t → Steps p.tables e below (T174.setTop (mkF m 87 #[rv pr0, iv pi1, iv pi2, iv pi3, jv pj4, .second, .unset] [(.int pi1), (.int pi2), (.int u_urgent_pr0), (.ref pr0)])) t := fun t kt => pre186 t (by
                refine y_icmpNo X184.here hx (hb hby d4_100) (flt hm100_187).1 (pc' := 103) rfl ?_
                refine y_iconst X184.here hx (hb hby d4_103) (v := (1 : Int32)) rfl (pc' := 104) rfl ?_
                refine y_goto X184.here hx (hb hby d4_104) (pc' := 108) (by decide) rfl ?_
                exact kt)
            refine ⟨T184, ⟨X184, e184.trans e174.symm⟩, fun t kt => pre189 t ?_⟩
            (try simp only [if_pos hm87_179, if_neg hm91_181, if_neg hm100_187] at kt)
            exact kt
      · have pre190 : ∀ t, Steps p.tables e below (T174.setTop (mkF m 108 #[rv pr0, iv pi1, iv pi2, iv pi3, jv pj4, .second, .unset] [(.int (1 : Int32)), (.int u_urgent_pr0), (.ref pr0)])) t → Steps p.tables e below (T174.setTop (mkF m 87 #[rv pr0, iv pi1, iv pi2, iv pi3, jv pj4, .second, .unset] [(.int pi1), (.int pi2), (.int u_urgent_pr0), (.ref pr0)])) t := fun t kt => pre178_ t (by
            refine y_icmpYes X174.here hx (hb hby d4_87) (feq hm87_179).2 (pc' := 103) (by decide) rfl ?_
            refine y_iconst X174.here hx (hb hby d4_103) (v := (1 : Int32)) rfl (pc' := 104) rfl ?_
            refine y_goto X174.here hx (hb hby d4_104) (pc' := 108) (by decide) rfl ?_
            exact kt)
        refine ⟨T174, ⟨X174, e174.trans e174.symm⟩, fun t kt => pre190 t ?_⟩
        (try simp only [if_neg hm87_179] at kt)
        exact kt
    have e178 : T178.heap = h162 := q178.trans e174
    have pre191 : ∀ t, Steps p.tables e below (T178.setTop (mkF m 108 #[rv pr0, iv pi1, iv pi2, iv pi3, jv pj4, .second, .unset] [(.int x177), (.int u_urgent_pr0), (.ref pr0)])) t → Go t := fun t kt => pre176 t (st178 t kt)
    have pre192 : ∀ t, Steps p.tables e below (T178.setTop (mkF m 109 #[rv pr0, iv pi1, iv pi2, iv pi3, jv pj4, .second, .unset] [(.int (u_urgent_pr0 ||| x177)), (.ref pr0)])) t → Go t := fun t kt => pre191 t (by
        refine y_ior X178.here hx (hb hby d4_108) rfl (pc' := 109) rfl ?_
        exact kt)
    obtain ⟨x193, hx193⟩ : ∃ z : Int32, z = (u_urgent_pr0 ||| x177) := ⟨_, rfl⟩
    have pre194 : ∀ t, Steps p.tables e below (T178.setTop (mkF m 109 #[rv pr0, iv pi1, iv pi2, iv pi3, jv pj4, .second, .unset] [(.int x193), (.ref pr0)])) t → Go t := by subst hx193; exact pre192
    obtain ⟨T195, h195, X195, e195, W195, st195⟩ := putFN X178 hx hZ hown (hw _ (List.mem_of_getElem? (i := 14) rfl)) Via.refl e178 f168 f164 (Or.inl (hw _ (List.mem_of_getElem? (i := 15) rfl))) (hw _ (List.mem_of_getElem? (i := 1) rfl)) (ty := .boolean) (v' := (.int (nar .boolean x193))) (by decide) rfl (fits_nar_bool _) (g := (mkF m 109 #[rv pr0, iv pi1, iv pi2, iv pi3, jv pj4, .second, .unset] [(.int x193), (.ref pr0)])) rfl rfl (hb hby d4_109)
    have pre196 : ∀ t, Steps p.tables e below (T195.setTop (mkF m 112 #[rv pr0, iv pi1, iv pi2, iv pi3, jv pj4, .second, .unset] [])) t → Go t := fun t kt => pre194 t (st195 t kt)
    have f197 : Exa Z h195 pr0 "com/example/roamd/roamd/net/DelayedAck" := (f164.wr W195)
    have f198 : Fld Z h195 pr0 "com/example/roamd/roamd/net/DelayedAck" "firstAt" "J" (.long u_firstAt_pr0) := (f166.other W195 (Or.inr (slot_ne (Or.inl (hw _ (List.mem_of_getElem? (i := 24) rfl))) (Or.inl (hw _ (List.mem_of_getElem? (i := 15) rfl))) (by decide) (t := .long) (t' := .boolean) (by decide) (by decide))))
    have f199 : Fld Z h195 pr0 "com/example/roamd/roamd/net/DelayedAck" "holdNanos" "J" (.long u_holdNanos_pr0) := (f167.other W195 (Or.inr (slot_ne (Or.inl (hw _ (List.mem_of_getElem? (i := 30) rfl))) (Or.inl (hw _ (List.mem_of_getElem? (i := 15) rfl))) (by decide) (t := .long) (t' := .boolean) (by decide) (by decide))))
    have f201 : Fld Z h195 pr0 "com/example/roamd/roamd/net/DelayedAck" "arrivedBefore" "Z" (.int (1 : Int32)) := (f169.other W195 (Or.inr (slot_ne (Or.inl (hw _ (List.mem_of_getElem? (i := 26) rfl))) (Or.inl (hw _ (List.mem_of_getElem? (i := 15) rfl))) (by decide) (t := .boolean) (t' := .boolean) (by decide) (by decide))))
    have f202 : Fld Z h195 pr0 "com/example/roamd/roamd/net/DelayedAck" "lastArrivedAt" "J" (.long pj4) := (f170.other W195 (Or.inr (slot_ne (Or.inl (hw _ (List.mem_of_getElem? (i := 32) rfl))) (Or.inl (hw _ (List.mem_of_getElem? (i := 15) rfl))) (by decide) (t := .long) (t' := .boolean) (by decide) (by decide))))
    have f203 : Fld Z h195 pr0 "com/example/roamd/roamd/net/DelayedAck" "waiting" "I" (.int x160) := (f171.other W195 (Or.inr (slot_ne (Or.inl (hw _ (List.mem_of_getElem? (i := 17) rfl))) (Or.inl (hw _ (List.mem_of_getElem? (i := 15) rfl))) (by decide) (t := .int) (t' := .boolean) (by decide) (by decide))))
    have f204 : Fld Z h195 pr0 "com/example/roamd/roamd/net/DelayedAck" "urgent" "Z" (.int (nar .boolean x193)) := f168.same W195
    have N205 := Fr.snoc X195 N172 G_pr0
    have O205 := O172.wr W195 G_pr0
    have K205 : Keep h0 h195 [pr0] := K172.wr W195 (Or.inl (List.mem_of_getElem? (i := 0) rfl))
    obtain ⟨fs, hr, hrun, hended, hW, hsame⟩ := X195.leave (v := none) (fun _ => rfl)
    refine ⟨_, _, (hGo _).mp (pre196 _ ?_), hrun, hended, _, _, rfl, ?_, ⟨_, rfl⟩, hW, hsame.mono (by decide) (by decide)⟩
    · exact X195.returnOut hx Bd.returns (hb hby d4_112) hr
    · show Q4 Z pr0 pi1 pi2 pi3 pj4 u_waiting_pr0 u_firstAt_pr0 u_arrivedBefore_pr0 u_lastArrivedAt_pr0 u_holdNanos_pr0 u_urgent_pr0 h0 n0 _ T195.heap _
      rw [e195]
      subst hx160 hx177 hx193
      exact ⟨rfl, N205, K205, f203, (by first | (simp only [if_neg hc4_4]; done) | (simp only [if_neg hc4_4]; exact f198) | exact f198), f201, f202, (by first | (simp only [if_neg hc4_4]; done) | (simp only [if_neg hc4_4]; exact f199) | exact f199), (by first | (simp only [if_neg hc4_4]; done) | (simp only [if_neg hc4_4]; exact f204) | exact f204)⟩
theorem d5_0 : decode prog_16_method_5_code 0 = .ok (.aload_n 0, 1) := by decide +kernel
theorem d5_1 : decode prog_16_method_5_code 1 = .ok (.iconst 0, 1) := by decide +kernel
theorem d5_2 : decode prog_16_method_5_code 2 = .ok (.putfield 7, 3) := by decide +kernel
theorem d5_5 : decode prog_16_method_5_code 5 = .ok (.aload_n 0, 1) := by decide +kernel
theorem d5_6 : decode prog_16_method_5_code 6 = .ok (.iconst 0, 1) := by decide +kernel
theorem d5_7 : decode prog_16_method_5_code 7 = .ok (.putfield 33, 3) := by decide +kernel
theorem d5_10 : decode prog_16_method_5_code 10 = .ok (.return_, 1) := by decide +kernel
theorem ef_5 (m : MethodId) (x0 : Addr) : entryFrame m #[(.ref x0)] 1 = mkF m 0 #[rv x0] [] := by first | (simp [entryFrame, mkF, argsToLocals, Value.category]; done) | rfl
def Q5 (Z : State) (pr0 : Addr) (u_waiting_pr0 : Int32) (u_firstAt_pr0 : Int64) (u_arrivedBefore_pr0 : Int32) (u_lastArrivedAt_pr0 : Int64) (u_holdNanos_pr0 : Int64) (u_urgent_pr0 : Int32) (h0 : Heap) (n0 : Nat) (v : Option Value) (h : Heap) (L : List Loc) : Prop := v = none ∧ Fr n0 L ∧ Keep h0 h [pr0] ∧ Fld Z h pr0 "com/example/roamd/roamd/net/DelayedAck" "waiting" "I" (.int (0 : Int32)) ∧ Fld Z h pr0 "com/example/roamd/roamd/net/DelayedAck" "firstAt" "J" (.long u_firstAt_pr0) ∧ Fld Z h pr0 "com/example/roamd/roamd/net/DelayedAck" "arrivedBefore" "Z" (.int u_arrivedBefore_pr0) ∧ Fld Z h pr0 "com/example/roamd/roamd/net/DelayedAck" "lastArrivedAt" "J" (.long u_lastArrivedAt_pr0) ∧ Fld Z h pr0 "com/example/roamd/roamd/net/DelayedAck" "holdNanos" "J" (.long u_holdNanos_pr0) ∧ Fld Z h pr0 "com/example/roamd/roamd/net/DelayedAck" "urgent" "Z" (.int (0 : Int32))
set_option maxRecDepth 65536 in
set_option maxHeartbeats 40000000 in
theorem rm5 (l : Launch) (Z : State) (a0 : Array Value) (hw : ∀ d ∈ tables_1, d.before a0 Z = true) (ws : List Jvm.Cond) (pr0 : Addr) (u_waiting_pr0 : Int32) (u_firstAt_pr0 : Int64) (u_arrivedBefore_pr0 : Int32) (u_lastArrivedAt_pr0 : Int64) (u_holdNanos_pr0 : Int64) (u_urgent_pr0 : Int32) (h0 : Heap) (n0 : Nat) (O0 : Old Z n0 h0) (E_pr0 : Exa Z h0 pr0 "com/example/roamd/roamd/net/DelayedAck") (F_waiting_pr0 : Fld Z h0 pr0 "com/example/roamd/roamd/net/DelayedAck" "waiting" "I" (.int u_waiting_pr0)) (F_firstAt_pr0 : Fld Z h0 pr0 "com/example/roamd/roamd/net/DelayedAck" "firstAt" "J" (.long u_firstAt_pr0)) (F_arrivedBefore_pr0 : Fld Z h0 pr0 "com/example/roamd/roamd/net/DelayedAck" "arrivedBefore" "Z" (.int u_arrivedBefore_pr0)) (F_lastArrivedAt_pr0 : Fld Z h0 pr0 "com/example/roamd/roamd/net/DelayedAck" "lastArrivedAt" "J" (.long u_lastArrivedAt_pr0)) (F_holdNanos_pr0 : Fld Z h0 pr0 "com/example/roamd/roamd/net/DelayedAck" "holdNanos" "J" (.long u_holdNanos_pr0)) (F_urgent_pr0 : Fld Z h0 pr0 "com/example/roamd/roamd/net/DelayedAck" "urgent" "Z" (.int u_urgent_pr0)) (G_pr0 : n0 ≤ pr0) :
    MetFree l (⟨"com/example/roamd/roamd/net/DelayedAck", "sent", "()V"⟩ : MethodName) (head1 (Jvm.Cond.code (⟨"com/example/roamd/roamd/net/DelayedAck", "sent", "()V"⟩ : MethodName) prog_16_method_5_code 1 none :: ws) ({ frames := 0, cells := 0, slots := 0, locals := 0 } : Room)) (fun a U => a = #[(.ref pr0)] ∧ Z.Warmed39 U.vm ∧ U.heap = h0) (fun _ _ _ _ _ => True) (fun _ U o U' => ∃ v L, o = .returned v ∧ Q5 Z pr0 u_waiting_pr0 u_firstAt_pr0 u_arrivedBefore_pr0 u_lastArrivedAt_pr0 u_holdNanos_pr0 u_urgent_pr0 h0 n0 v U'.heap L ∧ FrameEnd U o U' L ({ frames := 0, cells := 0, slots := 0, locals := 0 } : Room).cells ({ frames := 0, cells := 0, slots := 0, locals := 0 } : Room).slots) := by
  refine MetFree.of_bodySF (plainFor_of_name pn_com_example_roamd_roamd_net_DelayedAck) hisR ?_
  intro p e s m args below meth c s₁ Bd hml0 hP hK
  obtain ⟨rfl, hZ, hh⟩ := hP
  have hx := Bd.exec
  have hby := Bd.bytes
  have hml : c.maxLocals = 1 := hml0
  have hown : s.vm.findClass "com/example/roamd/roamd/net/DelayedAck" = some m.cls := findClass_of_methodNamed Bd.named
  have hnm := (name_of_methodNamed Bd.named Bd.method).1
  have X0 : Stand p l e ({ frames := 0, cells := 0, slots := 0, locals := 0 } : Room) s m #[(.ref pr0)] below meth c s₁ [] 0 0 := Stand.of_body Bd
  have e0 : s₁.heap = h0 := by rw [← hh, Bd.state]; rfl
  have N0 := Fr.nil n0
  obtain ⟨Go, hGo⟩ : ∃ P : State → Prop, ∀ t, P t ↔ Steps p.tables e below (s₁.setTop (entryFrame m #[(.ref pr0)] 1)) t := ⟨_, fun _ => Iff.rfl⟩
  have pre0 : ∀ t, Steps p.tables e below (s₁.setTop (mkF m 0 #[rv pr0] [])) t → Go t := fun t k => (hGo t).mpr (castTop (ef_5 m pr0) k)
  have K0 : Keep h0 h0 [pr0] := Keep.refl _ _
  have pre1 : ∀ t, Steps p.tables e below (s₁.setTop (mkF m 2 #[rv pr0] [(.int (0 : Int32)), (.ref pr0)])) t → Go t := fun t kt => pre0 t (by
      refine y_aloadN X0.here hx (hb hby d5_0) rfl rfl (pc' := 1) rfl ?_
      refine y_iconst X0.here hx (hb hby d5_1) (v := (0 : Int32)) rfl (pc' := 2) rfl ?_
      exact kt)
  obtain ⟨T2, h2, X2, e2, W2, st2⟩ := putF X0 hx hZ hown (host := "") (Or.inl (hw _ (List.mem_of_getElem? (i := 16) rfl))) Via.refl e0 F_waiting_pr0 E_pr0 (Or.inl (hw _ (List.mem_of_getElem? (i := 17) rfl))) (hw _ (List.mem_of_getElem? (i := 1) rfl)) (ty := .int) (by decide) rfl rfl (g := (mkF m 2 #[rv pr0] [(.int (0 : Int32)), (.ref pr0)])) rfl rfl (hb hby d5_2)
  have pre3 : ∀ t, Steps p.tables e below (T2.setTop (mkF m 5 #[rv pr0] [])) t → Go t := fun t kt => pre1 t (st2 t kt)
  have f4 : Exa Z h2 pr0 "com/example/roamd/roamd/net/DelayedAck" := (E_pr0.wr W2)
  have f6 : Fld Z h2 pr0 "com/example/roamd/roamd/net/DelayedAck" "firstAt" "J" (.long u_firstAt_pr0) := (F_firstAt_pr0.other W2 (Or.inr (slot_ne (Or.inl (hw _ (List.mem_of_getElem? (i := 24) rfl))) (Or.inl (hw _ (List.mem_of_getElem? (i := 17) rfl))) (by decide) (t := .long) (t' := .int) (by decide) (by decide))))
  have f7 : Fld Z h2 pr0 "com/example/roamd/roamd/net/DelayedAck" "arrivedBefore" "Z" (.int u_arrivedBefore_pr0) := (F_arrivedBefore_pr0.other W2 (Or.inr (slot_ne (Or.inl (hw _ (List.mem_of_getElem? (i := 26) rfl))) (Or.inl (hw _ (List.mem_of_getElem? (i := 17) rfl))) (by decide) (t := .boolean) (t' := .int) (by decide) (by decide))))
  have f8 : Fld Z h2 pr0 "com/example/roamd/roamd/net/DelayedAck" "lastArrivedAt" "J" (.long u_lastArrivedAt_pr0) := (F_lastArrivedAt_pr0.other W2 (Or.inr (slot_ne (Or.inl (hw _ (List.mem_of_getElem? (i := 32) rfl))) (Or.inl (hw _ (List.mem_of_getElem? (i := 17) rfl))) (by decide) (t := .long) (t' := .int) (by decide) (by decide))))
  have f9 : Fld Z h2 pr0 "com/example/roamd/roamd/net/DelayedAck" "holdNanos" "J" (.long u_holdNanos_pr0) := (F_holdNanos_pr0.other W2 (Or.inr (slot_ne (Or.inl (hw _ (List.mem_of_getElem? (i := 30) rfl))) (Or.inl (hw _ (List.mem_of_getElem? (i := 17) rfl))) (by decide) (t := .long) (t' := .int) (by decide) (by decide))))
  have f10 : Fld Z h2 pr0 "com/example/roamd/roamd/net/DelayedAck" "urgent" "Z" (.int u_urgent_pr0) := (F_urgent_pr0.other W2 (Or.inr (slot_ne (Or.inl (hw _ (List.mem_of_getElem? (i := 15) rfl))) (Or.inl (hw _ (List.mem_of_getElem? (i := 17) rfl))) (by decide) (t := .boolean) (t' := .int) (by decide) (by decide))))
  have f11 : Fld Z h2 pr0 "com/example/roamd/roamd/net/DelayedAck" "waiting" "I" (.int (0 : Int32)) := F_waiting_pr0.same W2
  have N12 := Fr.snoc X2 N0 G_pr0
  have O12 := O0.wr W2 G_pr0
  have K12 : Keep h0 h2 [pr0] := K0.wr W2 (Or.inl (List.mem_of_getElem? (i := 0) rfl))
  have pre13 : ∀ t, Steps p.tables e below (T2.setTop (mkF m 7 #[rv pr0] [(.int (0 : Int32)), (.ref pr0)])) t → Go t := fun t kt => pre3 t (by
      refine y_aloadN X2.here hx (hb hby d5_5) rfl rfl (pc' := 6) rfl ?_
      refine y_iconst X2.here hx (hb hby d5_6) (v := (0 : Int32)) rfl (pc' := 7) rfl ?_
      exact kt)
  obtain ⟨T14, h14, X14, e14, W14, st14⟩ := putFN X2 hx hZ hown (hw _ (List.mem_of_getElem? (i := 14) rfl)) Via.refl e2 f10 f4 (Or.inl (hw _ (List.mem_of_getElem? (i := 15) rfl))) (hw _ (List.mem_of_getElem? (i := 1) rfl)) (ty := .boolean) (v' := (.int (0 : Int32))) (by decide) rfl (by decide) (g := (mkF m 7 #[rv pr0] [(.int (0 : Int32)), (.ref pr0)])) rfl rfl (hb hby d5_7)
  have pre15 : ∀ t, Steps p.tables e below (T14.setTop (mkF m 10 #[rv pr0] [])) t → Go t := fun t kt => pre13 t (st14 t kt)
  have f16 : Exa Z h14 pr0 "com/example/roamd/roamd/net/DelayedAck" := (f4.wr W14)
  have f17 : Fld Z h14 pr0 "com/example/roamd/roamd/net/DelayedAck" "firstAt" "J" (.long u_firstAt_pr0) := (f6.other W14 (Or.inr (slot_ne (Or.inl (hw _ (List.mem_of_getElem? (i := 24) rfl))) (Or.inl (hw _ (List.mem_of_getElem? (i := 15) rfl))) (by decide) (t := .long) (t' := .boolean) (by decide) (by decide))))
  have f18 : Fld Z h14 pr0 "com/example/roamd/roamd/net/DelayedAck" "arrivedBefore" "Z" (.int u_arrivedBefore_pr0) := (f7.other W14 (Or.inr (slot_ne (Or.inl (hw _ (List.mem_of_getElem? (i := 26) rfl))) (Or.inl (hw _ (List.mem_of_getElem? (i := 15) rfl))) (by decide) (t := .boolean) (t' := .boolean) (by decide) (by decide))))
  have f19 : Fld Z h14 pr0 "com/example/roamd/roamd/net/DelayedAck" "lastArrivedAt" "J" (.long u_lastArrivedAt_pr0) := (f8.other W14 (Or.inr (slot_ne (Or.inl (hw _ (List.mem_of_getElem? (i := 32) rfl))) (Or.inl (hw _ (List.mem_of_getElem? (i := 15) rfl))) (by decide) (t := .long) (t' := .boolean) (by decide) (by decide))))
  have f20 : Fld Z h14 pr0 "com/example/roamd/roamd/net/DelayedAck" "holdNanos" "J" (.long u_holdNanos_pr0) := (f9.other W14 (Or.inr (slot_ne (Or.inl (hw _ (List.mem_of_getElem? (i := 30) rfl))) (Or.inl (hw _ (List.mem_of_getElem? (i := 15) rfl))) (by decide) (t := .long) (t' := .boolean) (by decide) (by decide))))
  have f22 : Fld Z h14 pr0 "com/example/roamd/roamd/net/DelayedAck" "waiting" "I" (.int (0 : Int32)) := (f11.other W14 (Or.inr (slot_ne (Or.inl (hw _ (List.mem_of_getElem? (i := 17) rfl))) (Or.inl (hw _ (List.mem_of_getElem? (i := 15) rfl))) (by decide) (t := .int) (t' := .boolean) (by decide) (by decide))))
  have f23 : Fld Z h14 pr0 "com/example/roamd/roamd/net/DelayedAck" "urgent" "Z" (.int (0 : Int32)) := f10.same W14
  have N24 := Fr.snoc X14 N12 G_pr0
  have O24 := O12.wr W14 G_pr0
  have K24 : Keep h0 h14 [pr0] := K12.wr W14 (Or.inl (List.mem_of_getElem? (i := 0) rfl))
  obtain ⟨fs, hr, hrun, hended, hW, hsame⟩ := X14.leave (v := none) (fun _ => rfl)
  refine ⟨_, _, (hGo _).mp (pre15 _ ?_), hrun, hended, _, _, rfl, ?_, ⟨_, rfl⟩, hW, hsame.mono (by decide) (by decide)⟩
  · exact X14.returnOut hx Bd.returns (hb hby d5_10) hr
  · show Q5 Z pr0 u_waiting_pr0 u_firstAt_pr0 u_arrivedBefore_pr0 u_lastArrivedAt_pr0 u_holdNanos_pr0 u_urgent_pr0 h0 n0 _ T14.heap _
    rw [e14]
    exact ⟨rfl, N24, K24, f22, f17, f18, f19, f20, f23⟩
theorem d3_0 : decode prog_16_method_3_code 0 = .ok (.aload_n 0, 1) := by decide +kernel
theorem d3_1 : decode prog_16_method_3_code 1 = .ok (.getfield 33, 3) := by decide +kernel
theorem d3_4 : decode prog_16_method_3_code 4 = .ok (.ifCond .ne 24, 3) := by decide +kernel
theorem d3_7 : decode prog_16_method_3_code 7 = .ok (.aload_n 0, 1) := by decide +kernel
theorem d3_8 : decode prog_16_method_3_code 8 = .ok (.getfield 7, 3) := by decide +kernel
theorem d3_11 : decode prog_16_method_3_code 11 = .ok (.ifCond .le 21, 3) := by decide +kernel
theorem d3_14 : decode prog_16_method_3_code 14 = .ok (.lload_n 1, 1) := by decide +kernel
theorem d3_15 : decode prog_16_method_3_code 15 = .ok (.aload_n 0, 1) := by decide +kernel
theorem d3_16 : decode prog_16_method_3_code 16 = .ok (.getfield 13, 3) := by decide +kernel
theorem d3_19 : decode prog_16_method_3_code 19 = .ok (.lsub, 1) := by decide +kernel
theorem d3_20 : decode prog_16_method_3_code 20 = .ok (.aload_n 0, 1) := by decide +kernel
theorem d3_21 : decode prog_16_method_3_code 21 = .ok (.getfield 30, 3) := by decide +kernel
theorem d3_24 : decode prog_16_method_3_code 24 = .ok (.lcmp, 1) := by decide +kernel
theorem d3_25 : decode prog_16_method_3_code 25 = .ok (.ifCond .lt 7, 3) := by decide +kernel
theorem d3_28 : decode prog_16_method_3_code 28 = .ok (.iconst 1, 1) := by decide +kernel
theorem d3_29 : decode prog_16_method_3_code 29 = .ok (.goto 4, 3) := by decide +kernel
theorem d3_32 : decode prog_16_method_3_code 32 = .ok (.iconst 0, 1) := by decide +kernel
theorem d3_33 : decode prog_16_method_3_code 33 = .ok (.ireturn, 1) := by decide +kernel
theorem ef_3 (m : MethodId) (x0 : Addr) (x1 : Int64) : entryFrame m #[(.ref x0), (.long x1)] 3 = mkF m 0 #[rv x0, jv x1, .second] [] := by first | (simp [entryFrame, mkF, argsToLocals, Value.category]; done) | rfl
def Q3 (Z : State) (pr0 : Addr) (pj1 : Int64) (u_waiting_pr0 : Int32) (u_firstAt_pr0 : Int64) (u_holdNanos_pr0 : Int64) (u_urgent_pr0 : Int32) (h0 : Heap) (n0 : Nat) (v : Option Value) (h : Heap) (L : List Loc) : Prop := v = some (.int (if u_urgent_pr0 = (0 : Int32) then (if (0 : Int32) < u_waiting_pr0 then (if (pj1 - u_firstAt_pr0) < u_holdNanos_pr0 then (0 : Int32) else (1 : Int32)) else (0 : Int32)) else (1 : Int32))) ∧ Fr n0 L ∧ h = h0
set_option maxRecDepth 65536 in
set_option maxHeartbeats 40000000 in
theorem rm3 (l : Launch) (Z : State) (a0 : Array Value) (hw : ∀ d ∈ tables_1, d.before a0 Z = true) (ws : List Jvm.Cond) (pr0 : Addr) (pj1 : Int64) (u_waiting_pr0 : Int32) (u_firstAt_pr0 : Int64) (u_holdNanos_pr0 : Int64) (u_urgent_pr0 : Int32) (h0 : Heap) (n0 : Nat) (O0 : Old Z n0 h0) (E_pr0 : Exa Z h0 pr0 "com/example/roamd/roamd/net/DelayedAck") (F_waiting_pr0 : Fld Z h0 pr0 "com/example/roamd/roamd/net/DelayedAck" "waiting" "I" (.int u_waiting_pr0)) (F_firstAt_pr0 : Fld Z h0 pr0 "com/example/roamd/roamd/net/DelayedAck" "firstAt" "J" (.long u_firstAt_pr0)) (F_holdNanos_pr0 : Fld Z h0 pr0 "com/example/roamd/roamd/net/DelayedAck" "holdNanos" "J" (.long u_holdNanos_pr0)) (F_urgent_pr0 : Fld Z h0 pr0 "com/example/roamd/roamd/net/DelayedAck" "urgent" "Z" (.int u_urgent_pr0)) :
    MetFree l (⟨"com/example/roamd/roamd/net/DelayedAck", "due", "(J)Z"⟩ : MethodName) (head1 (Jvm.Cond.code (⟨"com/example/roamd/roamd/net/DelayedAck", "due", "(J)Z"⟩ : MethodName) prog_16_method_3_code 3 (some .boolean) :: ws) ({ frames := 0, cells := 0, slots := 0, locals := 0 } : Room)) (fun a U => a = #[(.ref pr0), (.long pj1)] ∧ Z.Warmed39 U.vm ∧ U.heap = h0) (fun _ _ _ _ _ => True) (fun _ U o U' => ∃ v L, o = .returned v ∧ Q3 Z pr0 pj1 u_waiting_pr0 u_firstAt_pr0 u_holdNanos_pr0 u_urgent_pr0 h0 n0 v U'.heap L ∧ FrameEnd U o U' L ({ frames := 0, cells := 0, slots := 0, locals := 0 } : Room).cells ({ frames := 0, cells := 0, slots := 0, locals := 0 } : Room).slots) := by
  refine MetFree.of_bodySF (plainFor_of_name pn_com_example_roamd_roamd_net_DelayedAck) hisR ?_
  intro p e s m args below meth c s₁ Bd hml0 hP hK
  obtain ⟨rfl, hZ, hh⟩ := hP
  have hx := Bd.exec
  have hby := Bd.bytes
  have hml : c.maxLocals = 3 := hml0
  have hown : s.vm.findClass "com/example/roamd/roamd/net/DelayedAck" = some m.cls := findClass_of_methodNamed Bd.named
  have hnm := (name_of_methodNamed Bd.named Bd.method).1
  have X0 : Stand p l e ({ frames := 0, cells := 0, slots := 0, locals := 0 } : Room) s m #[(.ref pr0), (.long pj1)] below meth c s₁ [] 0 0 := Stand.of_body Bd
  have e0 : s₁.heap = h0 := by rw [← hh, Bd.state]; rfl
  have N0 := Fr.nil n0
  obtain ⟨Go, hGo⟩ : ∃ P : State → Prop, ∀ t, P t ↔ Steps p.tables e below (s₁.setTop (entryFrame m #[(.ref pr0), (.long pj1)] 3)) t := ⟨_, fun _ => Iff.rfl⟩
  have pre0 : ∀ t, Steps p.tables e below (s₁.setTop (mkF m 0 #[rv pr0, jv pj1, .second] [])) t → Go t := fun t k => (hGo t).mpr (castTop (ef_3 m pr0 pj1) k)
  have pre1 : ∀ t, Steps p.tables e below (s₁.setTop (mkF m 1 #[rv pr0, jv pj1, .second] [(.ref pr0)])) t → Go t := fun t kt => pre0 t (by
      refine y_aloadN X0.here hx (hb hby d3_0) rfl rfl (pc' := 1) rfl ?_
      exact kt)
  obtain ⟨T2, X2, e2, st2⟩ := getF X0 hx hZ hown (host := "") (Or.inl (hw _ (List.mem_of_getElem? (i := 14) rfl))) Via.refl e0 F_urgent_pr0 (g := (mkF m 1 #[rv pr0, jv pj1, .second] [(.ref pr0)])) rfl rfl (hb hby d3_1)
  have pre3 : ∀ t, Steps p.tables e below (T2.setTop (mkF m 4 #[rv pr0, jv pj1, .second] [(.int u_urgent_pr0)])) t → Go t := fun t kt => pre1 t (st2 t kt)
  by_cases hc4_4 : u_urgent_pr0 = (0 : Int32)
  · have pre5 : ∀ t, Steps p.tables e below (T2.setTop (mkF m 8 #[rv pr0, jv pj1, .second] [(.ref pr0)])) t → Go t := fun t kt => pre3 t (by
        refine y_ifNo X2.here hx (hb hby d3_4) ((if0 _ _).trans (teq hc4_4).2) (pc' := 7) rfl ?_
        refine y_aloadN X2.here hx (hb hby d3_7) rfl rfl (pc' := 8) rfl ?_
        exact kt)
    obtain ⟨T6, X6, e6, st6⟩ := getF X2 hx hZ hown (host := "") (Or.inl (hw _ (List.mem_of_getElem? (i := 16) rfl))) Via.refl e2 F_waiting_pr0 (g := (mkF m 8 #[rv pr0, jv pj1, .second] [(.ref pr0)])) rfl rfl (hb hby d3_8)
    have pre7 : ∀ t, Steps p.tables e below (T6.setTop (mkF m 11 #[rv pr0, jv pj1, .second] [(.int u_waiting_pr0)])) t → Go t := fun t kt => pre5 t (st6 t kt)
    by_cases hc11_8 : (0 : Int32) < u_waiting_pr0
    · have pre9 : ∀ t, Steps p.tables e below (T6.setTop (mkF m 16 #[rv pr0, jv pj1, .second] [(.ref pr0), (.long pj1)])) t → Go t := fun t kt => pre7 t (by
          refine y_ifNo X6.here hx (hb hby d3_11) ((if0 _ _).trans (tlt hc11_8).2.2.2) (pc' := 14) rfl ?_
          refine y_lloadN X6.here hx (hb hby d3_14) rfl (pc' := 15) rfl ?_
          refine y_aloadN X6.here hx (hb hby d3_15) rfl rfl (pc' := 16) rfl ?_
          exact kt)
      obtain ⟨T10, X10, e10, st10⟩ := getF X6 hx hZ hown (host := "") (Or.inl (hw _ (List.mem_of_getElem? (i := 23) rfl))) Via.refl e6 F_firstAt_pr0 (g := (mkF m 16 #[rv pr0, jv pj1, .second] [(.ref pr0), (.long pj1)])) rfl rfl (hb hby d3_16)
      have pre11 : ∀ t, Steps p.tables e below (T10.setTop (mkF m 19 #[rv pr0, jv pj1, .second] [(.long u_firstAt_pr0), (.long pj1)])) t → Go t := fun t kt => pre9 t (st10 t kt)
      have pre12 : ∀ t, Steps p.tables e below (T10.setTop (mkF m 21 #[rv pr0, jv pj1, .second] [(.ref pr0), (.long (pj1 - u_firstAt_pr0))])) t → Go t := fun t kt => pre11 t (by
          refine y_lsub X10.here hx (hb hby d3_19) rfl (pc' := 20) rfl ?_
          refine y_aloadN X10.here hx (hb hby d3_20) rfl rfl (pc' := 21) rfl ?_
          exact kt)
      obtain ⟨T13, X13, e13, st13⟩ := getF X10 hx hZ hown (host := "") (Or.inl (hw _ (List.mem_of_getElem? (i := 29) rfl))) Via.refl e10 F_holdNanos_pr0 (g := (mkF m 21 #[rv pr0, jv pj1, .second] [(.ref pr0), (.long (pj1 - u_firstAt_pr0))])) rfl rfl (hb hby d3_21)
      have pre14 : ∀ t, Steps p.tables e below (T13.setTop (mkF m 24 #[rv pr0, jv pj1, .second] [(.long u_holdNanos_pr0), (.long (pj1 - u_firstAt_pr0))])) t → Go t := fun t kt => pre12 t (st13 t kt)
      have pre15 : ∀ t, Steps p.tables e below (T13.setTop (mkF m 25 #[rv pr0, jv pj1, .second] [(.int (lcmpW (pj1 - u_firstAt_pr0) u_holdNanos_pr0))])) t → Go t := fun t kt => pre14 t (by
          refine y_lcmp X13.here hx (hb hby d3_24) (pc' := 25) rfl ?_
          exact kt)
      by_cases hc25_16 : (pj1 - u_firstAt_pr0) < u_holdNanos_pr0
      · have pre17 : ∀ t, Steps p.tables e below (T13.setTop (mkF m 33 #[rv pr0, jv pj1, .second] [(.int (0 : Int32))])) t → Go t := fun t kt => pre15 t (by
            refine y_ifYes X13.here hx (hb hby d3_25) ((if0 _ _).trans (tlt (lq_lt hc25_16)).1) (pc' := 32) (by decide) rfl ?_
            refine y_iconst X13.here hx (hb hby d3_32) (v := (0 : Int32)) rfl (pc' := 33) rfl ?_
            exact kt)
        obtain ⟨fs, hr, hrun, hended, hW, hsame⟩ := X13.leave (v := some (.int (0 : Int32))) (fun h => by rw [Bd.returns] at h; cases h)
        refine ⟨_, _, (hGo _).mp (pre17 _ ?_), hrun, hended, _, _, rfl, ?_, ⟨_, rfl⟩, hW, hsame.mono (by decide) (by decide)⟩
        · exact retN X13 hx (t := .boolean) Bd.returns (by simp) (hb hby d3_33) hr
        · show Q3 Z pr0 pj1 u_waiting_pr0 u_firstAt_pr0 u_holdNanos_pr0 u_urgent_pr0 h0 n0 _ T13.heap _
          rw [e13]
          exact ⟨(by first | (simp only [if_pos hc4_4, if_pos hc11_8, if_pos hc25_16]; done) | (simp only [if_pos hc4_4, if_pos hc11_8, if_pos hc25_16]; exact rfl) | exact rfl), N0, rfl⟩
      · have pre18 : ∀ t, Steps p.tables e below (T13.setTop (mkF m 33 #[rv pr0, jv pj1, .second] [(.int (1 : Int32))])) t → Go t := fun t kt => pre15 t (by
            refine y_ifNo X13.here hx (hb hby d3_25) ((if0 _ _).trans (flt (lq_nlt hc25_16)).1) (pc' := 28) rfl ?_
            refine y_iconst X13.here hx (hb hby d3_28) (v := (1 : Int32)) rfl (pc' := 29) rfl ?_
            refine y_goto X13.here hx (hb hby d3_29) (pc' := 33) (by decide) rfl ?_
            exact kt)
        obtain ⟨fs, hr, hrun, hended, hW, hsame⟩ := X13.leave (v := some (.int (1 : Int32))) (fun h => by rw [Bd.returns] at h; cases h)
        refine ⟨_, _, (hGo _).mp (pre18 _ ?_), hrun, hended, _, _, rfl, ?_, ⟨_, rfl⟩, hW, hsame.mono (by decide) (by decide)⟩
        · exact retN X13 hx (t := .boolean) Bd.returns (by simp) (hb hby d3_33) hr
        · show Q3 Z pr0 pj1 u_waiting_pr0 u_firstAt_pr0 u_holdNanos_pr0 u_urgent_pr0 h0 n0 _ T13.heap _
          rw [e13]
          exact ⟨(by first | (simp only [if_pos hc4_4, if_pos hc11_8, if_neg hc25_16]; done) | (simp only [if_pos hc4_4, if_pos hc11_8, if_neg hc25_16]; exact rfl) | exact rfl), N0, rfl⟩
    · have pre19 : ∀ t, Steps p.tables e below (T6.setTop (mkF m 33 #[rv pr0, jv pj1, .second] [(.int (0 : Int32))])) t → Go t := fun t kt => pre7 t (by
          refine y_ifYes X6.here hx (hb hby d3_11) ((if0 _ _).trans (flt hc11_8).2.2.2) (pc' := 32) (by decide) rfl ?_
          refine y_iconst X6.here hx (hb hby d3_32) (v := (0 : Int32)) rfl (pc' := 33) rfl ?_
          exact kt)
      obtain ⟨fs, hr, hrun, hended, hW, hsame⟩ := X6.leave (v := some (.int (0 : Int32))) (fun h => by rw [Bd.returns] at h; cases h)
      refine ⟨_, _, (hGo _).mp (pre19 _ ?_), hrun, hended, _, _, rfl, ?_, ⟨_, rfl⟩, hW, hsame.mono (by decide) (by decide)⟩
      · exact retN X6 hx (t := .boolean) Bd.returns (by simp) (hb hby d3_33) hr
      · show Q3 Z pr0 pj1 u_waiting_pr0 u_firstAt_pr0 u_holdNanos_pr0 u_urgent_pr0 h0 n0 _ T6.heap _
        rw [e6]
        exact ⟨(by first | (simp only [if_pos hc4_4, if_neg hc11_8]; done) | (simp only [if_pos hc4_4, if_neg hc11_8]; exact rfl) | exact rfl), N0, rfl⟩
  · have pre20 : ∀ t, Steps p.tables e below (T2.setTop (mkF m 33 #[rv pr0, jv pj1, .second] [(.int (1 : Int32))])) t → Go t := fun t kt => pre3 t (by
        refine y_ifYes X2.here hx (hb hby d3_4) ((if0 _ _).trans (feq hc4_4).2) (pc' := 28) (by decide) rfl ?_
        refine y_iconst X2.here hx (hb hby d3_28) (v := (1 : Int32)) rfl (pc' := 29) rfl ?_
        refine y_goto X2.here hx (hb hby d3_29) (pc' := 33) (by decide) rfl ?_
        exact kt)
    obtain ⟨fs, hr, hrun, hended, hW, hsame⟩ := X2.leave (v := some (.int (1 : Int32))) (fun h => by rw [Bd.returns] at h; cases h)
    refine ⟨_, _, (hGo _).mp (pre20 _ ?_), hrun, hended, _, _, rfl, ?_, ⟨_, rfl⟩, hW, hsame.mono (by decide) (by decide)⟩
    · exact retN X2 hx (t := .boolean) Bd.returns (by simp) (hb hby d3_33) hr
    · show Q3 Z pr0 pj1 u_waiting_pr0 u_firstAt_pr0 u_holdNanos_pr0 u_urgent_pr0 h0 n0 _ T2.heap _
      rw [e2]
      exact ⟨(by first | (simp only [if_neg hc4_4]; done) | (simp only [if_neg hc4_4]; exact rfl) | exact rfl), N0, rfl⟩
theorem law0_127 (pj4 : Int64) (pj5 : Int64) (x2 : Int32) (x16 : Int32) (x30 : Int32) (x50 : Int32) (x52 : Int32) (x62 : Int32) (x102 : Int32) (x103 : Int64) (x104 : Int32) (x109 : Int32) (x111 : Int32) (hx102 : x102 = ((0 : Int32) + x52)) (hx103 : x103 = (if (if (0 : Int32) = (0 : Int32) then (0 : Int32) else (if (700000000 : Int64) < (pj4 - (0 : Int64)) then (0 : Int32) else (1 : Int32))) = (0 : Int32) then (150000000 : Int64) else (700000000 : Int64))) (hx104 : x104 = (nar .boolean ((0 : Int32) ||| (if x62 = x52 then (if x30 = (0 : Int32) then (1 : Int32) else (if ((0 : Int32) + x52) < (16 : Int32) then (0 : Int32) else (1 : Int32))) else (1 : Int32))))) (hx109 : x109 = (if x104 = (0 : Int32) then (if (0 : Int32) < x102 then (if (pj5 - pj4) < x103 then (0 : Int32) else (1 : Int32)) else (0 : Int32)) else (1 : Int32))) (hx111 : x111 = ((0 : Int32) + x52)) (hc150_83 : x2 = (0 : Int32)) (hc177_85 : ¬ (x16 = (0 : Int32))) (hc295_124 : x111 = (0 : Int32)) (B1 : 1 ≤ x50.toInt ∧ x50.toInt ≤ 16) (B2 : 1 ≤ x52.toInt ∧ x52.toInt ≤ 16) : x109 = (0 : Int32) := by
  subst hx102 hx103 hx104 hx109 hx111
  have p1 := own_pos B1
  have p2 := own_pos B2
  have p3 := own_pos2 B1 B2
  try simp only [Int32.zero_add] at *
  by_cases a0 : x62 = x52 <;> by_cases a1 : x30 = (0 : Int32) <;> by_cases a2 : x52 < (16 : Int32) <;> by_cases a3 : (pj5 - pj4) < (150000000 : Int64) <;> simp [p1.1, p1.2, p2.1, p2.2, p3.1, p3.2, own_n0, own_n1, a0, a1, a2, a3] at hc295_124 ⊢
theorem law0_142 (pj4 : Int64) (pj5 : Int64) (x2 : Int32) (x16 : Int32) (x30 : Int32) (x50 : Int32) (x52 : Int32) (x62 : Int32) (x102 : Int32) (x103 : Int64) (x104 : Int32) (x109 : Int32) (x111 : Int32) (x114 : Int32) (x134 : Int32) (hx102 : x102 = ((0 : Int32) + x52)) (hx103 : x103 = (if (if (0 : Int32) = (0 : Int32) then (0 : Int32) else (if (700000000 : Int64) < (pj4 - (0 : Int64)) then (0 : Int32) else (1 : Int32))) = (0 : Int32) then (150000000 : Int64) else (700000000 : Int64))) (hx104 : x104 = (nar .boolean ((0 : Int32) ||| (if x62 = x52 then (if x30 = (0 : Int32) then (1 : Int32) else (if ((0 : Int32) + x52) < (16 : Int32) then (0 : Int32) else (1 : Int32))) else (1 : Int32))))) (hx109 : x109 = (if x104 = (0 : Int32) then (if (0 : Int32) < x102 then (if (pj5 - pj4) < x103 then (0 : Int32) else (1 : Int32)) else (0 : Int32)) else (1 : Int32))) (hx111 : x111 = ((0 : Int32) + x52)) (hx114 : x114 = (if x62 = x52 then (if x30 = (0 : Int32) then (1 : Int32) else (0 : Int32)) else (1 : Int32))) (hx134 : x134 = (if (pj5 - pj4) < (150000000 : Int64) then (0 : Int32) else (1 : Int32))) (hc150_83 : x2 = (0 : Int32)) (hc177_85 : ¬ (x16 = (0 : Int32))) (hc295_124 : ¬ (x111 = (0 : Int32))) (hc306_130 : x114 = (0 : Int32)) (hc313_132 : x111 < (16 : Int32)) (B1 : 1 ≤ x50.toInt ∧ x50.toInt ≤ 16) (B2 : 1 ≤ x52.toInt ∧ x52.toInt ≤ 16) : x109 = x134 := by
  subst hx102 hx103 hx104 hx109 hx111 hx114 hx134
  have p1 := own_pos B1
  have p2 := own_pos B2
  have p3 := own_pos2 B1 B2
  try simp only [Int32.zero_add] at *
  by_cases a0 : x62 = x52 <;> by_cases a1 : x30 = (0 : Int32) <;> by_cases a2 : x52 < (16 : Int32) <;> by_cases a3 : (pj5 - pj4) < (150000000 : Int64) <;> simp [p1.1, p1.2, p2.1, p2.2, p3.1, p3.2, own_n0, own_n1, a0, a1, a2, a3] at hc295_124 hc306_130 hc313_132 ⊢
theorem law0_146 (pj4 : Int64) (pj5 : Int64) (x2 : Int32) (x16 : Int32) (x30 : Int32) (x50 : Int32) (x52 : Int32) (x62 : Int32) (x102 : Int32) (x103 : Int64) (x104 : Int32) (x109 : Int32) (x111 : Int32) (x114 : Int32) (hx102 : x102 = ((0 : Int32) + x52)) (hx103 : x103 = (if (if (0 : Int32) = (0 : Int32) then (0 : Int32) else (if (700000000 : Int64) < (pj4 - (0 : Int64)) then (0 : Int32) else (1 : Int32))) = (0 : Int32) then (150000000 : Int64) else (700000000 : Int64))) (hx104 : x104 = (nar .boolean ((0 : Int32) ||| (if x62 = x52 then (if x30 = (0 : Int32) then (1 : Int32) else (if ((0 : Int32) + x52) < (16 : Int32) then (0 : Int32) else (1 : Int32))) else (1 : Int32))))) (hx109 : x109 = (if x104 = (0 : Int32) then (if (0 : Int32) < x102 then (if (pj5 - pj4) < x103 then (0 : Int32) else (1 : Int32)) else (0 : Int32)) else (1 : Int32))) (hx111 : x111 = ((0 : Int32) + x52)) (hx114 : x114 = (if x62 = x52 then (if x30 = (0 : Int32) then (1 : Int32) else (0 : Int32)) else (1 : Int32))) (hc150_83 : x2 = (0 : Int32)) (hc177_85 : ¬ (x16 = (0 : Int32))) (hc295_124 : ¬ (x111 = (0 : Int32))) (hc306_130 : x114 = (0 : Int32)) (hc313_132 : ¬ (x111 < (16 : Int32))) (B1 : 1 ≤ x50.toInt ∧ x50.toInt ≤ 16) (B2 : 1 ≤ x52.toInt ∧ x52.toInt ≤ 16) : x109 = (1 : Int32) := by
  subst hx102 hx103 hx104 hx109 hx111 hx114
  have p1 := own_pos B1
  have p2 := own_pos B2
  have p3 := own_pos2 B1 B2
  try simp only [Int32.zero_add] at *
  by_cases a0 : x62 = x52 <;> by_cases a1 : x30 = (0 : Int32) <;> by_cases a2 : x52 < (16 : Int32) <;> by_cases a3 : (pj5 - pj4) < (150000000 : Int64) <;> simp [p1.1, p1.2, p2.1, p2.2, p3.1, p3.2, own_n0, own_n1, a0, a1, a2, a3] at hc295_124 hc306_130 hc313_132 ⊢
theorem law0_150 (pj4 : Int64) (pj5 : Int64) (x2 : Int32) (x16 : Int32) (x30 : Int32) (x50 : Int32) (x52 : Int32) (x62 : Int32) (x102 : Int32) (x103 : Int64) (x104 : Int32) (x109 : Int32) (x111 : Int32) (x114 : Int32) (hx102 : x102 = ((0 : Int32) + x52)) (hx103 : x103 = (if (if (0 : Int32) = (0 : Int32) then (0 : Int32) else (if (700000000 : Int64) < (pj4 - (0 : Int64)) then (0 : Int32) else (1 : Int32))) = (0 : Int32) then (150000000 : Int64) else (700000000 : Int64))) (hx104 : x104 = (nar .boolean ((0 : Int32) ||| (if x62 = x52 then (if x30 = (0 : Int32) then (1 : Int32) else (if ((0 : Int32) + x52) < (16 : Int32) then (0 : Int32) else (1 : Int32))) else (1 : Int32))))) (hx109 : x109 = (if x104 = (0 : Int32) then (if (0 : Int32) < x102 then (if (pj5 - pj4) < x103 then (0 : Int32) else (1 : Int32)) else (0 : Int32)) else (1 : Int32))) (hx111 : x111 = ((0 : Int32) + x52)) (hx114 : x114 = (if x62 = x52 then (if x30 = (0 : Int32) then (1 : Int32) else (0 : Int32)) else (1 : Int32))) (hc150_83 : x2 = (0 : Int32)) (hc177_85 : ¬ (x16 = (0 : Int32))) (hc295_124 : ¬ (x111 = (0 : Int32))) (hc306_130 : ¬ (x114 = (0 : Int32))) (B1 : 1 ≤ x50.toInt ∧ x50.toInt ≤ 16) (B2 : 1 ≤ x52.toInt ∧ x52.toInt ≤ 16) : x109 = (1 : Int32) := by
  subst hx102 hx103 hx104 hx109 hx111 hx114
  have p1 := own_pos B1
  have p2 := own_pos B2
  have p3 := own_pos2 B1 B2
  try simp only [Int32.zero_add] at *
  by_cases a0 : x62 = x52 <;> by_cases a1 : x30 = (0 : Int32) <;> by_cases a2 : x52 < (16 : Int32) <;> by_cases a3 : (pj5 - pj4) < (150000000 : Int64) <;> simp [p1.1, p1.2, p2.1, p2.2, p3.1, p3.2, own_n0, own_n1, a0, a1, a2, a3] at hc295_124 hc306_130 ⊢
theorem law0_192 (pj3 : Int64) (pj5 : Int64) (x2 : Int32) (x9 : Int32) (x16 : Int32) (x23 : Int32) (x50 : Int32) (x52 : Int32) (x55 : Int32) (x163 : Int32) (x164 : Int64) (x165 : Int32) (x174 : Int32) (x176 : Int32) (hx163 : x163 = ((0 : Int32) + x50)) (hx164 : x164 = (if (if (0 : Int32) = (0 : Int32) then (0 : Int32) else (if (700000000 : Int64) < (pj3 - (0 : Int64)) then (0 : Int32) else (1 : Int32))) = (0 : Int32) then (150000000 : Int64) else (700000000 : Int64))) (hx165 : x165 = (nar .boolean ((0 : Int32) ||| (if x55 = x50 then (if x23 = (0 : Int32) then (1 : Int32) else (if ((0 : Int32) + x50) < (16 : Int32) then (0 : Int32) else (1 : Int32))) else (1 : Int32))))) (hx174 : x174 = (if x165 = (0 : Int32) then (if (0 : Int32) < x163 then (if (pj5 - pj3) < x164 then (0 : Int32) else (1 : Int32)) else (0 : Int32)) else (1 : Int32))) (hx176 : x176 = ((0 : Int32) + x50)) (hc150_83 : ¬ (x2 = (0 : Int32))) (hc167_168 : x9 = (0 : Int32)) (hc177_170 : x16 = (0 : Int32)) (hc295_189 : x176 = (0 : Int32)) (B1 : 1 ≤ x50.toInt ∧ x50.toInt ≤ 16) (B2 : 1 ≤ x52.toInt ∧ x52.toInt ≤ 16) : x174 = (0 : Int32) := by
  subst hx163 hx164 hx165 hx174 hx176
  have p1 := own_pos B1
  have p2 := own_pos B2
  have p3 := own_pos2 B1 B2
  try simp only [Int32.zero_add] at *
  by_cases a0 : x55 = x50 <;> by_cases a1 : x23 = (0 : Int32) <;> by_cases a2 : x50 < (16 : Int32) <;> by_cases a3 : (pj5 - pj3) < (150000000 : Int64) <;> simp [p1.1, p1.2, p2.1, p2.2, p3.1, p3.2, own_n0, own_n1, a0, a1, a2, a3] at hc295_189 ⊢
theorem law0_207 (pj3 : Int64) (pj5 : Int64) (x2 : Int32) (x9 : Int32) (x16 : Int32) (x23 : Int32) (x50 : Int32) (x52 : Int32) (x55 : Int32) (x163 : Int32) (x164 : Int64) (x165 : Int32) (x174 : Int32) (x176 : Int32) (x179 : Int32) (x199 : Int32) (hx163 : x163 = ((0 : Int32) + x50)) (hx164 : x164 = (if (if (0 : Int32) = (0 : Int32) then (0 : Int32) else (if (700000000 : Int64) < (pj3 - (0 : Int64)) then (0 : Int32) else (1 : Int32))) = (0 : Int32) then (150000000 : Int64) else (700000000 : Int64))) (hx165 : x165 = (nar .boolean ((0 : Int32) ||| (if x55 = x50 then (if x23 = (0 : Int32) then (1 : Int32) else (if ((0 : Int32) + x50) < (16 : Int32) then (0 : Int32) else (1 : Int32))) else (1 : Int32))))) (hx174 : x174 = (if x165 = (0 : Int32) then (if (0 : Int32) < x163 then (if (pj5 - pj3) < x164 then (0 : Int32) else (1 : Int32)) else (0 : Int32)) else (1 : Int32))) (hx176 : x176 = ((0 : Int32) + x50)) (hx179 : x179 = (if x55 = x50 then (if x23 = (0 : Int32) then (1 : Int32) else (0 : Int32)) else (1 : Int32))) (hx199 : x199 = (if (pj5 - pj3) < (150000000 : Int64) then (0 : Int32) else (1 : Int32))) (hc150_83 : ¬ (x2 = (0 : Int32))) (hc167_168 : x9 = (0 : Int32)) (hc177_170 : x16 = (0 : Int32)) (hc295_189 : ¬ (x176 = (0 : Int32))) (hc306_195 : x179 = (0 : Int32)) (hc313_197 : x176 < (16 : Int32)) (B1 : 1 ≤ x50.toInt ∧ x50.toInt ≤ 16) (B2 : 1 ≤ x52.toInt ∧ x52.toInt ≤ 16) : x174 = x199 := by
  subst hx163 hx164 hx165 hx174 hx176 hx179 hx199
  have p1 := own_pos B1
  have p2 := own_pos B2
  have p3 := own_pos2 B1 B2
  try simp only [Int32.zero_add] at *
  by_cases a0 : x55 = x50 <;> by_cases a1 : x23 = (0 : Int32) <;> by_cases a2 : x50 < (16 : Int32) <;> by_cases a3 : (pj5 - pj3) < (150000000 : Int64) <;> simp [p1.1, p1.2, p2.1, p2.2, p3.1, p3.2, own_n0, own_n1, a0, a1, a2, a3] at hc295_189 hc306_195 hc313_197 ⊢
theorem law0_211 (pj3 : Int64) (pj5 : Int64) (x2 : Int32) (x9 : Int32) (x16 : Int32) (x23 : Int32) (x50 : Int32) (x52 : Int32) (x55 : Int32) (x163 : Int32) (x164 : Int64) (x165 : Int32) (x174 : Int32) (x176 : Int32) (x179 : Int32) (hx163 : x163 = ((0 : Int32) + x50)) (hx164 : x164 = (if (if (0 : Int32) = (0 : Int32) then (0 : Int32) else (if (700000000 : Int64) < (pj3 - (0 : Int64)) then (0 : Int32) else (1 : Int32))) = (0 : Int32) then (150000000 : Int64) else (700000000 : Int64))) (hx165 : x165 = (nar .boolean ((0 : Int32) ||| (if x55 = x50 then (if x23 = (0 : Int32) then (1 : Int32) else (if ((0 : Int32) + x50) < (16 : Int32) then (0 : Int32) else (1 : Int32))) else (1 : Int32))))) (hx174 : x174 = (if x165 = (0 : Int32) then (if (0 : Int32) < x163 then (if (pj5 - pj3) < x164 then (0 : Int32) else (1 : Int32)) else (0 : Int32)) else (1 : Int32))) (hx176 : x176 = ((0 : Int32) + x50)) (hx179 : x179 = (if x55 = x50 then (if x23 = (0 : Int32) then (1 : Int32) else (0 : Int32)) else (1 : Int32))) (hc150_83 : ¬ (x2 = (0 : Int32))) (hc167_168 : x9 = (0 : Int32)) (hc177_170 : x16 = (0 : Int32)) (hc295_189 : ¬ (x176 = (0 : Int32))) (hc306_195 : x179 = (0 : Int32)) (hc313_197 : ¬ (x176 < (16 : Int32))) (B1 : 1 ≤ x50.toInt ∧ x50.toInt ≤ 16) (B2 : 1 ≤ x52.toInt ∧ x52.toInt ≤ 16) : x174 = (1 : Int32) := by
  subst hx163 hx164 hx165 hx174 hx176 hx179
  have p1 := own_pos B1
  have p2 := own_pos B2
  have p3 := own_pos2 B1 B2
  try simp only [Int32.zero_add] at *
  by_cases a0 : x55 = x50 <;> by_cases a1 : x23 = (0 : Int32) <;> by_cases a2 : x50 < (16 : Int32) <;> by_cases a3 : (pj5 - pj3) < (150000000 : Int64) <;> simp [p1.1, p1.2, p2.1, p2.2, p3.1, p3.2, own_n0, own_n1, a0, a1, a2, a3] at hc295_189 hc306_195 hc313_197 ⊢
theorem law0_215 (pj3 : Int64) (pj5 : Int64) (x2 : Int32) (x9 : Int32) (x16 : Int32) (x23 : Int32) (x50 : Int32) (x52 : Int32) (x55 : Int32) (x163 : Int32) (x164 : Int64) (x165 : Int32) (x174 : Int32) (x176 : Int32) (x179 : Int32) (hx163 : x163 = ((0 : Int32) + x50)) (hx164 : x164 = (if (if (0 : Int32) = (0 : Int32) then (0 : Int32) else (if (700000000 : Int64) < (pj3 - (0 : Int64)) then (0 : Int32) else (1 : Int32))) = (0 : Int32) then (150000000 : Int64) else (700000000 : Int64))) (hx165 : x165 = (nar .boolean ((0 : Int32) ||| (if x55 = x50 then (if x23 = (0 : Int32) then (1 : Int32) else (if ((0 : Int32) + x50) < (16 : Int32) then (0 : Int32) else (1 : Int32))) else (1 : Int32))))) (hx174 : x174 = (if x165 = (0 : Int32) then (if (0 : Int32) < x163 then (if (pj5 - pj3) < x164 then (0 : Int32) else (1 : Int32)) else (0 : Int32)) else (1 : Int32))) (hx176 : x176 = ((0 : Int32) + x50)) (hx179 : x179 = (if x55 = x50 then (if x23 = (0 : Int32) then (1 : Int32) else (0 : Int32)) else (1 : Int32))) (hc150_83 : ¬ (x2 = (0 : Int32))) (hc167_168 : x9 = (0 : Int32)) (hc177_170 : x16 = (0 : Int32)) (hc295_189 : ¬ (x176 = (0 : Int32))) (hc306_195 : ¬ (x179 = (0 : Int32))) (B1 : 1 ≤ x50.toInt ∧ x50.toInt ≤ 16) (B2 : 1 ≤ x52.toInt ∧ x52.toInt ≤ 16) : x174 = (1 : Int32) := by
  subst hx163 hx164 hx165 hx174 hx176 hx179
  have p1 := own_pos B1
  have p2 := own_pos B2
  have p3 := own_pos2 B1 B2
  try simp only [Int32.zero_add] at *
  by_cases a0 : x55 = x50 <;> by_cases a1 : x23 = (0 : Int32) <;> by_cases a2 : x50 < (16 : Int32) <;> by_cases a3 : (pj5 - pj3) < (150000000 : Int64) <;> simp [p1.1, p1.2, p2.1, p2.2, p3.1, p3.2, own_n0, own_n1, a0, a1, a2, a3] at hc295_189 hc306_195 ⊢
theorem law0_266 (pj3 : Int64) (pj4 : Int64) (pj5 : Int64) (x2 : Int32) (x9 : Int32) (x16 : Int32) (x23 : Int32) (x30 : Int32) (x50 : Int32) (x52 : Int32) (x55 : Int32) (x62 : Int32) (x163 : Int32) (x164 : Int64) (x165 : Int32) (x228 : Int32) (x229 : Int64) (x230 : Int64) (x231 : Int32) (x236 : Int32) (x238 : Int32) (x240 : Int32) (hx163 : x163 = ((0 : Int32) + x50)) (hx164 : x164 = (if (if (0 : Int32) = (0 : Int32) then (0 : Int32) else (if (700000000 : Int64) < (pj3 - (0 : Int64)) then (0 : Int32) else (1 : Int32))) = (0 : Int32) then (150000000 : Int64) else (700000000 : Int64))) (hx165 : x165 = (nar .boolean ((0 : Int32) ||| (if x55 = x50 then (if x23 = (0 : Int32) then (1 : Int32) else (if ((0 : Int32) + x50) < (16 : Int32) then (0 : Int32) else (1 : Int32))) else (1 : Int32))))) (hx228 : x228 = (x163 + x52)) (hx229 : x229 = (if x163 = (0 : Int32) then pj4 else pj3)) (hx230 : x230 = (if x163 = (0 : Int32) then (if (if (1 : Int32) = (0 : Int32) then (0 : Int32) else (if (700000000 : Int64) < (pj4 - pj3) then (0 : Int32) else (1 : Int32))) = (0 : Int32) then (150000000 : Int64) else (700000000 : Int64)) else x164)) (hx231 : x231 = (nar .boolean (x165 ||| (if x62 = x52 then (if x30 = (0 : Int32) then (1 : Int32) else (if (x163 + x52) < (16 : Int32) then (0 : Int32) else (1 : Int32))) else (1 : Int32))))) (hx236 : x236 = (if x231 = (0 : Int32) then (if (0 : Int32) < x228 then (if (pj5 - x229) < x230 then (0 : Int32) else (1 : Int32)) else (0 : Int32)) else (1 : Int32))) (hx238 : x238 = ((0 : Int32) + x50)) (hx240 : x240 = (x238 + x52)) (hc150_83 : ¬ (x2 = (0 : Int32))) (hc167_168 : x9 = (0 : Int32)) (hc177_170 : ¬ (x16 = (0 : Int32))) (hc295_263 : x240 = (0 : Int32)) (B1 : 1 ≤ x50.toInt ∧ x50.toInt ≤ 16) (B2 : 1 ≤ x52.toInt ∧ x52.toInt ≤ 16) : x236 = (0 : Int32) := by
  subst hx163 hx164 hx165 hx228 hx229 hx230 hx231 hx236 hx238 hx240
  have p1 := own_pos B1
  have p2 := own_pos B2
  have p3 := own_pos2 B1 B2
  try simp only [Int32.zero_add] at *
  rcases own_tri B1 B2 with ⟨u, v⟩ | ⟨u, v⟩ | ⟨u, v⟩ <;> by_cases a0 : x55 = x50 <;> by_cases a1 : x23 = (0 : Int32) <;> by_cases a2 : x62 = x52 <;> by_cases a3 : x30 = (0 : Int32) <;> by_cases a4 : (pj5 - pj3) < (150000000 : Int64) <;> simp [p1.1, p1.2, p2.1, p2.2, p3.1, p3.2, own_n0, own_n1, u, v, a0, a1, a2, a3, a4] at hc295_263 ⊢
theorem law0_281 (pj3 : Int64) (pj4 : Int64) (pj5 : Int64) (x2 : Int32) (x9 : Int32) (x16 : Int32) (x23 : Int32) (x30 : Int32) (x50 : Int32) (x52 : Int32) (x55 : Int32) (x62 : Int32) (x163 : Int32) (x164 : Int64) (x165 : Int32) (x228 : Int32) (x229 : Int64) (x230 : Int64) (x231 : Int32) (x236 : Int32) (x238 : Int32) (x240 : Int32) (x243 : Int32) (x253 : Int32) (x273 : Int32) (hx163 : x163 = ((0 : Int32) + x50)) (hx164 : x164 = (if (if (0 : Int32) = (0 : Int32) then (0 : Int32) else (if (700000000 : Int64) < (pj3 - (0 : Int64)) then (0 : Int32) else (1 : Int32))) = (0 : Int32) then (150000000 : Int64) else (700000000 : Int64))) (hx165 : x165 = (nar .boolean ((0 : Int32) ||| (if x55 = x50 then (if x23 = (0 : Int32) then (1 : Int32) else (if ((0 : Int32) + x50) < (16 : Int32) then (0 : Int32) else (1 : Int32))) else (1 : Int32))))) (hx228 : x228 = (x163 + x52)) (hx229 : x229 = (if x163 = (0 : Int32) then pj4 else pj3)) (hx230 : x230 = (if x163 = (0 : Int32) then (if (if (1 : Int32) = (0 : Int32) then (0 : Int32) else (if (700000000 : Int64) < (pj4 - pj3) then (0 : Int32) else (1 : Int32))) = (0 : Int32) then (150000000 : Int64) else (700000000 : Int64)) else x164)) (hx231 : x231 = (nar .boolean (x165 ||| (if x62 = x52 then (if x30 = (0 : Int32) then (1 : Int32) else (if (x163 + x52) < (16 : Int32) then (0 : Int32) else (1 : Int32))) else (1 : Int32))))) (hx236 : x236 = (if x231 = (0 : Int32) then (if (0 : Int32) < x228 then (if (pj5 - x229) < x230 then (0 : Int32) else (1 : Int32)) else (0 : Int32)) else (1 : Int32))) (hx238 : x238 = ((0 : Int32) + x50)) (hx240 : x240 = (x238 + x52)) (hx243 : x243 = (if x55 = x50 then (if x23 = (0 : Int32) then (1 : Int32) else (0 : Int32)) else (1 : Int32))) (hx253 : x253 = (if x62 = x52 then (if x30 = (0 : Int32) then (1 : Int32) else x243) else (1 : Int32))) (hx273 : x273 = (if (pj5 - pj3) < (150000000 : Int64) then (0 : Int32) else (1 : Int32))) (hc150_83 : ¬ (x2 = (0 : Int32))) (hc167_168 : x9 = (0 : Int32)) (hc177_170 : ¬ (x16 = (0 : Int32))) (hc295_263 : ¬ (x240 = (0 : Int32))) (hc306_269 : x253 = (0 : Int32)) (hc313_271 : x240 < (16 : Int32)) (B1 : 1 ≤ x50.toInt ∧ x50.toInt ≤ 16) (B2 : 1 ≤ x52.toInt ∧ x52.toInt ≤ 16) : x236 = x273 := by
  subst hx163 hx164 hx165 hx228 hx229 hx230 hx231 hx236 hx238 hx240 hx243 hx253 hx273
  have p1 := own_pos B1
  have p2 := own_pos B2
  have p3 := own_pos2 B1 B2
  try simp only [Int32.zero_add] at *
  rcases own_tri B1 B2 with ⟨u, v⟩ | ⟨u, v⟩ | ⟨u, v⟩ <;> by_cases a0 : x55 = x50 <;> by_cases a1 : x23 = (0 : Int32) <;> by_cases a2 : x62 = x52 <;> by_cases a3 : x30 = (0 : Int32) <;> by_cases a4 : (pj5 - pj3) < (150000000 : Int64) <;> simp [p1.1, p1.2, p2.1, p2.2, p3.1, p3.2, own_n0, own_n1, u, v, a0, a1, a2, a3, a4] at hc295_263 hc306_269 hc313_271 ⊢
theorem law0_285 (pj3 : Int64) (pj4 : Int64) (pj5 : Int64) (x2 : Int32) (x9 : Int32) (x16 : Int32) (x23 : Int32) (x30 : Int32) (x50 : Int32) (x52 : Int32) (x55 : Int32) (x62 : Int32) (x163 : Int32) (x164 : Int64) (x165 : Int32) (x228 : Int32) (x229 : Int64) (x230 : Int64) (x231 : Int32) (x236 : Int32) (x238 : Int32) (x240 : Int32) (x243 : Int32) (x253 : Int32) (hx163 : x163 = ((0 : Int32) + x50)) (hx164 : x164 = (if (if (0 : Int32) = (0 : Int32) then (0 : Int32) else (if (700000000 : Int64) < (pj3 - (0 : Int64)) then (0 : Int32) else (1 : Int32))) = (0 : Int32) then (150000000 : Int64) else (700000000 : Int64))) (hx165 : x165 = (nar .boolean ((0 : Int32) ||| (if x55 = x50 then (if x23 = (0 : Int32) then (1 : Int32) else (if ((0 : Int32) + x50) < (16 : Int32) then (0 : Int32) else (1 : Int32))) else (1 : Int32))))) (hx228 : x228 = (x163 + x52)) (hx229 : x229 = (if x163 = (0 : Int32) then pj4 else pj3)) (hx230 : x230 = (if x163 = (0 : Int32) then (if (if (1 : Int32) = (0 : Int32) then (0 : Int32) else (if (700000000 : Int64) < (pj4 - pj3) then (0 : Int32) else (1 : Int32))) = (0 : Int32) then (150000000 : Int64) else (700000000 : Int64)) else x164)) (hx231 : x231 = (nar .boolean (x165 ||| (if x62 = x52 then (if x30 = (0 : Int32) then (1 : Int32) else (if (x163 + x52) < (16 : Int32) then (0 : Int32) else (1 : Int32))) else (1 : Int32))))) (hx236 : x236 = (if x231 = (0 : Int32) then (if (0 : Int32) < x228 then (if (pj5 - x229) < x230 then (0 : Int32) else (1 : Int32)) else (0 : Int32)) else (1 : Int32))) (hx238 : x238 = ((0 : Int32) + x50)) (hx240 : x240 = (x238 + x52)) (hx243 : x243 = (if x55 = x50 then (if x23 = (0 : Int32) then (1 : Int32) else (0 : Int32)) else (1 : Int32))) (hx253 : x253 = (if x62 = x52 then (if x30 = (0 : Int32) then (1 : Int32) else x243) else (1 : Int32))) (hc150_83 : ¬ (x2 = (0 : Int32))) (hc167_168 : x9 = (0 : Int32)) (hc177_170 : ¬ (x16 = (0 : Int32))) (hc295_263 : ¬ (x240 = (0 : Int32))) (hc306_269 : x253 = (0 : Int32)) (hc313_271 : ¬ (x240 < (16 : Int32))) (B1 : 1 ≤ x50.toInt ∧ x50.toInt ≤ 16) (B2 : 1 ≤ x52.toInt ∧ x52.toInt ≤ 16) : x236 = (1 : Int32) := by
  subst hx163 hx164 hx165 hx228 hx229 hx230 hx231 hx236 hx238 hx240 hx243 hx253
  have p1 := own_pos B1
  have p2 := own_pos B2
  have p3 := own_pos2 B1 B2
  try simp only [Int32.zero_add] at *
  rcases own_tri B1 B2 with ⟨u, v⟩ | ⟨u, v⟩ | ⟨u, v⟩ <;> by_cases a0 : x55 = x50 <;> by_cases a1 : x23 = (0 : Int32) <;> by_cases a2 : x62 = x52 <;> by_cases a3 : x30 = (0 : Int32) <;> by_cases a4 : (pj5 - pj3) < (150000000 : Int64) <;> simp [p1.1, p1.2, p2.1, p2.2, p3.1, p3.2, own_n0, own_n1, u, v, a0, a1, a2, a3, a4] at hc295_263 hc306_269 hc313_271 ⊢
theorem law0_289 (pj3 : Int64) (pj4 : Int64) (pj5 : Int64) (x2 : Int32) (x9 : Int32) (x16 : Int32) (x23 : Int32) (x30 : Int32) (x50 : Int32) (x52 : Int32) (x55 : Int32) (x62 : Int32) (x163 : Int32) (x164 : Int64) (x165 : Int32) (x228 : Int32) (x229 : Int64) (x230 : Int64) (x231 : Int32) (x236 : Int32) (x238 : Int32) (x240 : Int32) (x243 : Int32) (x253 : Int32) (hx163 : x163 = ((0 : Int32) + x50)) (hx164 : x164 = (if (if (0 : Int32) = (0 : Int32) then (0 : Int32) else (if (700000000 : Int64) < (pj3 - (0 : Int64)) then (0 : Int32) else (1 : Int32))) = (0 : Int32) then (150000000 : Int64) else (700000000 : Int64))) (hx165 : x165 = (nar .boolean ((0 : Int32) ||| (if x55 = x50 then (if x23 = (0 : Int32) then (1 : Int32) else (if ((0 : Int32) + x50) < (16 : Int32) then (0 : Int32) else (1 : Int32))) else (1 : Int32))))) (hx228 : x228 = (x163 + x52)) (hx229 : x229 = (if x163 = (0 : Int32) then pj4 else pj3)) (hx230 : x230 = (if x163 = (0 : Int32) then (if (if (1 : Int32) = (0 : Int32) then (0 : Int32) else (if (700000000 : Int64) < (pj4 - pj3) then (0 : Int32) else (1 : Int32))) = (0 : Int32) then (150000000 : Int64) else (700000000 : Int64)) else x164)) (hx231 : x231 = (nar .boolean (x165 ||| (if x62 = x52 then (if x30 = (0 : Int32) then (1 : Int32) else (if (x163 + x52) < (16 : Int32) then (0 : Int32) else (1 : Int32))) else (1 : Int32))))) (hx236 : x236 = (if x231 = (0 : Int32) then (if (0 : Int32) < x228 then (if (pj5 - x229) < x230 then (0 : Int32) else (1 : Int32)) else (0 : Int32)) else (1 : Int32))) (hx238 : x238 = ((0 : Int32) + x50)) (hx240 : x240 = (x238 + x52)) (hx243 : x243 = (if x55 = x50 then (if x23 = (0 : Int32) then (1 : Int32) else (0 : Int32)) else (1 : Int32))) (hx253 : x253 = (if x62 = x52 then (if x30 = (0 : Int32) then (1 : Int32) else x243) else (1 : Int32))) (hc150_83 : ¬ (x2 = (0 : Int32))) (hc167_168 : x9 = (0 : Int32)) (hc177_170 : ¬ (x16 = (0 : Int32))) (hc295_263 : ¬ (x240 = (0 : Int32))) (hc306_269 : ¬ (x253 = (0 : Int32))) (B1 : 1 ≤ x50.toInt ∧ x50.toInt ≤ 16) (B2 : 1 ≤ x52.toInt ∧ x52.toInt ≤ 16) : x236 = (1 : Int32) := by
  subst hx163 hx164 hx165 hx228 hx229 hx230 hx231 hx236 hx238 hx240 hx243 hx253
  have p1 := own_pos B1
  have p2 := own_pos B2
  have p3 := own_pos2 B1 B2
  try simp only [Int32.zero_add] at *
  rcases own_tri B1 B2 with ⟨u, v⟩ | ⟨u, v⟩ | ⟨u, v⟩ <;> by_cases a0 : x55 = x50 <;> by_cases a1 : x23 = (0 : Int32) <;> by_cases a2 : x62 = x52 <;> by_cases a3 : x30 = (0 : Int32) <;> by_cases a4 : (pj5 - pj3) < (150000000 : Int64) <;> simp [p1.1, p1.2, p2.1, p2.2, p3.1, p3.2, own_n0, own_n1, u, v, a0, a1, a2, a3, a4] at hc295_263 hc306_269 ⊢
theorem law0_346 (pj3 : Int64) (pj4 : Int64) (pj5 : Int64) (x2 : Int32) (x9 : Int32) (x16 : Int32) (x30 : Int32) (x50 : Int32) (x52 : Int32) (x62 : Int32) (x321 : Int32) (x322 : Int64) (x323 : Int32) (x328 : Int32) (x330 : Int32) (hx321 : x321 = ((0 : Int32) + x52)) (hx322 : x322 = (if (if (1 : Int32) = (0 : Int32) then (0 : Int32) else (if (700000000 : Int64) < (pj4 - pj3) then (0 : Int32) else (1 : Int32))) = (0 : Int32) then (150000000 : Int64) else (700000000 : Int64))) (hx323 : x323 = (nar .boolean ((0 : Int32) ||| (if x62 = x52 then (if x30 = (0 : Int32) then (1 : Int32) else (if ((0 : Int32) + x52) < (16 : Int32) then (0 : Int32) else (1 : Int32))) else (1 : Int32))))) (hx328 : x328 = (if x323 = (0 : Int32) then (if (0 : Int32) < x321 then (if (pj5 - pj4) < x322 then (0 : Int32) else (1 : Int32)) else (0 : Int32)) else (1 : Int32))) (hx330 : x330 = ((0 : Int32) + x52)) (hc150_83 : ¬ (x2 = (0 : Int32))) (hc167_168 : ¬ (x9 = (0 : Int32))) (hc177_304 : ¬ (x16 = (0 : Int32))) (hc295_343 : x330 = (0 : Int32)) (B1 : 1 ≤ x50.toInt ∧ x50.toInt ≤ 16) (B2 : 1 ≤ x52.toInt ∧ x52.toInt ≤ 16) : x328 = (0 : Int32) := by
  subst hx321 hx322 hx323 hx328 hx330
  have p1 := own_pos B1
  have p2 := own_pos B2
  have p3 := own_pos2 B1 B2
  try simp only [Int32.zero_add] at *
  by_cases a0 : x62 = x52 <;> by_cases a1 : x30 = (0 : Int32) <;> by_cases a2 : x52 < (16 : Int32) <;> by_cases a3 : (700000000 : Int64) < (pj4 - pj3) <;> simp [p1.1, p1.2, p2.1, p2.2, p3.1, p3.2, own_n0, own_n1, a0, a1, a2, a3] at hc295_343 ⊢
theorem law0_368 (pj3 : Int64) (pj4 : Int64) (pj5 : Int64) (x2 : Int32) (x9 : Int32) (x16 : Int32) (x30 : Int32) (x50 : Int32) (x52 : Int32) (x62 : Int32) (x321 : Int32) (x322 : Int64) (x323 : Int32) (x328 : Int32) (x330 : Int32) (x333 : Int32) (x353 : Int64) (x360 : Int32) (hx321 : x321 = ((0 : Int32) + x52)) (hx322 : x322 = (if (if (1 : Int32) = (0 : Int32) then (0 : Int32) else (if (700000000 : Int64) < (pj4 - pj3) then (0 : Int32) else (1 : Int32))) = (0 : Int32) then (150000000 : Int64) else (700000000 : Int64))) (hx323 : x323 = (nar .boolean ((0 : Int32) ||| (if x62 = x52 then (if x30 = (0 : Int32) then (1 : Int32) else (if ((0 : Int32) + x52) < (16 : Int32) then (0 : Int32) else (1 : Int32))) else (1 : Int32))))) (hx328 : x328 = (if x323 = (0 : Int32) then (if (0 : Int32) < x321 then (if (pj5 - pj4) < x322 then (0 : Int32) else (1 : Int32)) else (0 : Int32)) else (1 : Int32))) (hx330 : x330 = ((0 : Int32) + x52)) (hx333 : x333 = (if x62 = x52 then (if x30 = (0 : Int32) then (1 : Int32) else (0 : Int32)) else (1 : Int32))) (hx353 : x353 = (if (700000000 : Int64) < (pj4 - pj3) then (150000000 : Int64) else (700000000 : Int64))) (hx360 : x360 = (if (pj5 - pj4) < x353 then (0 : Int32) else (1 : Int32))) (hc150_83 : ¬ (x2 = (0 : Int32))) (hc167_168 : ¬ (x9 = (0 : Int32))) (hc177_304 : ¬ (x16 = (0 : Int32))) (hc295_343 : ¬ (x330 = (0 : Int32))) (hc306_349 : x333 = (0 : Int32)) (hc313_351 : x330 < (16 : Int32)) (B1 : 1 ≤ x50.toInt ∧ x50.toInt ≤ 16) (B2 : 1 ≤ x52.toInt ∧ x52.toInt ≤ 16) : x328 = x360 := by
  subst hx321 hx322 hx323 hx328 hx330 hx333 hx353 hx360
  have p1 := own_pos B1
  have p2 := own_pos B2
  have p3 := own_pos2 B1 B2
  try simp only [Int32.zero_add] at *
  by_cases a0 : x62 = x52 <;> by_cases a1 : x30 = (0 : Int32) <;> by_cases a2 : x52 < (16 : Int32) <;> by_cases a3 : (700000000 : Int64) < (pj4 - pj3) <;> simp [p1.1, p1.2, p2.1, p2.2, p3.1, p3.2, own_n0, own_n1, a0, a1, a2, a3] at hc295_343 hc306_349 hc313_351 ⊢
theorem law0_372 (pj3 : Int64) (pj4 : Int64) (pj5 : Int64) (x2 : Int32) (x9 : Int32) (x16 : Int32) (x30 : Int32) (x50 : Int32) (x52 : Int32) (x62 : Int32) (x321 : Int32) (x322 : Int64) (x323 : Int32) (x328 : Int32) (x330 : Int32) (x333 : Int32) (hx321 : x321 = ((0 : Int32) + x52)) (hx322 : x322 = (if (if (1 : Int32) = (0 : Int32) then (0 : Int32) else (if (700000000 : Int64) < (pj4 - pj3) then (0 : Int32) else (1 : Int32))) = (0 : Int32) then (150000000 : Int64) else (700000000 : Int64))) (hx323 : x323 = (nar .boolean ((0 : Int32) ||| (if x62 = x52 then (if x30 = (0 : Int32) then (1 : Int32) else (if ((0 : Int32) + x52) < (16 : Int32) then (0 : Int32) else (1 : Int32))) else (1 : Int32))))) (hx328 : x328 = (if x323 = (0 : Int32) then (if (0 : Int32) < x321 then (if (pj5 - pj4) < x322 then (0 : Int32) else (1 : Int32)) else (0 : Int32)) else (1 : Int32))) (hx330 : x330 = ((0 : Int32) + x52)) (hx333 : x333 = (if x62 = x52 then (if x30 = (0 : Int32) then (1 : Int32) else (0 : Int32)) else (1 : Int32))) (hc150_83 : ¬ (x2 = (0 : Int32))) (hc167_168 : ¬ (x9 = (0 : Int32))) (hc177_304 : ¬ (x16 = (0 : Int32))) (hc295_343 : ¬ (x330 = (0 : Int32))) (hc306_349 : x333 = (0 : Int32)) (hc313_351 : ¬ (x330 < (16 : Int32))) (B1 : 1 ≤ x50.toInt ∧ x50.toInt ≤ 16) (B2 : 1 ≤ x52.toInt ∧ x52.toInt ≤ 16) : x328 = (1 : Int32) := by
  subst hx321 hx322 hx323 hx328 hx330 hx333
  have p1 := own_pos B1
  have p2 := own_pos B2
  have p3 := own_pos2 B1 B2
  try simp only [Int32.zero_add] at *
  by_cases a0 : x62 = x52 <;> by_cases a1 : x30 = (0 : Int32) <;> by_cases a2 : x52 < (16 : Int32) <;> by_cases a3 : (700000000 : Int64) < (pj4 - pj3) <;> simp [p1.1, p1.2, p2.1, p2.2, p3.1, p3.2, own_n0, own_n1, a0, a1, a2, a3] at hc295_343 hc306_349 hc313_351 ⊢
theorem law0_376 (pj3 : Int64) (pj4 : Int64) (pj5 : Int64) (x2 : Int32) (x9 : Int32) (x16 : Int32) (x30 : Int32) (x50 : Int32) (x52 : Int32) (x62 : Int32) (x321 : Int32) (x322 : Int64) (x323 : Int32) (x328 : Int32) (x330 : Int32) (x333 : Int32) (hx321 : x321 = ((0 : Int32) + x52)) (hx322 : x322 = (if (if (1 : Int32) = (0 : Int32) then (0 : Int32) else (if (700000000 : Int64) < (pj4 - pj3) then (0 : Int32) else (1 : Int32))) = (0 : Int32) then (150000000 : Int64) else (700000000 : Int64))) (hx323 : x323 = (nar .boolean ((0 : Int32) ||| (if x62 = x52 then (if x30 = (0 : Int32) then (1 : Int32) else (if ((0 : Int32) + x52) < (16 : Int32) then (0 : Int32) else (1 : Int32))) else (1 : Int32))))) (hx328 : x328 = (if x323 = (0 : Int32) then (if (0 : Int32) < x321 then (if (pj5 - pj4) < x322 then (0 : Int32) else (1 : Int32)) else (0 : Int32)) else (1 : Int32))) (hx330 : x330 = ((0 : Int32) + x52)) (hx333 : x333 = (if x62 = x52 then (if x30 = (0 : Int32) then (1 : Int32) else (0 : Int32)) else (1 : Int32))) (hc150_83 : ¬ (x2 = (0 : Int32))) (hc167_168 : ¬ (x9 = (0 : Int32))) (hc177_304 : ¬ (x16 = (0 : Int32))) (hc295_343 : ¬ (x330 = (0 : Int32))) (hc306_349 : ¬ (x333 = (0 : Int32))) (B1 : 1 ≤ x50.toInt ∧ x50.toInt ≤ 16) (B2 : 1 ≤ x52.toInt ∧ x52.toInt ≤ 16) : x328 = (1 : Int32) := by
  subst hx321 hx322 hx323 hx328 hx330 hx333
  have p1 := own_pos B1
  have p2 := own_pos B2
  have p3 := own_pos2 B1 B2
  try simp only [Int32.zero_add] at *
  by_cases a0 : x62 = x52 <;> by_cases a1 : x30 = (0 : Int32) <;> by_cases a2 : x52 < (16 : Int32) <;> by_cases a3 : (700000000 : Int64) < (pj4 - pj3) <;> simp [p1.1, p1.2, p2.1, p2.2, p3.1, p3.2, own_n0, own_n1, a0, a1, a2, a3] at hc295_343 hc306_349 ⊢
theorem pn_com_example_roamd_roamd_net_DelayedAckDuePinLaw : plainName "com/example/roamd/roamd/net/DelayedAckDuePinLaw" = true := by first | (simp [plainName, overriddenIn]; done) | decide +kernel
theorem pd___V : parseMethodDescriptor "()V" = some ⟨[], none⟩ := by decide +kernel
theorem pd__J_Z : parseMethodDescriptor "(J)Z" = some ⟨[.long], some .boolean⟩ := by decide +kernel
theorem pd__IIZJ_V : parseMethodDescriptor "(IIZJ)V" = some ⟨[.int, .int, .boolean, .long], none⟩ := by decide +kernel
theorem ef_0 (m : MethodId) (x0 : Int32) (x1 : Int32) (x2 : Int32) (x3 : Int64) (x4 : Int64) (x5 : Int64) : entryFrame m #[(.int x0), (.int x1), (.int x2), (.long x3), (.long x4), (.long x5)] maxLocals = mkF m 0 #[iv x0, iv x1, iv x2, jv x3, .second, jv x4, .second, jv x5, .second, .unset, .unset, .unset, .unset, .unset, .unset, .unset, .unset, .unset, .unset, .unset, .unset, .unset, .unset, .unset, .unset, .unset, .unset, .unset, .unset, .unset, .unset] [] := by first | (simp [entryFrame, mkF, argsToLocals, Value.category, maxLocals]; done) | rfl
def Q0 (Z : State) (pi0 : Int32) (pi1 : Int32) (pi2 : Int32) (pj3 : Int64) (pj4 : Int64) (pj5 : Int64) (h0 : Heap) (n0 : Nat) (v : Option Value) (h : Heap) (L : List Loc) : Prop := v = some (.int (1 : Int32)) ∧ Fr n0 L
set_option maxRecDepth 65536 in
set_option maxHeartbeats 40000000 in
theorem rm0 (l : Launch) (Z : State) (a0 : Array Value) (hw : ∀ d ∈ tables_1, d.before a0 Z = true) (ws : List Jvm.Cond) (pi0 : Int32) (pi1 : Int32) (pi2 : Int32) (pj3 : Int64) (pj4 : Int64) (pj5 : Int64) (h0 : Heap) (n0 : Nat) (O0 : Old Z n0 h0) (S_DELAY_NANOS : Sta Z Z.heap "com/example/roamd/roamd/net/DelayedAck" "DELAY_NANOS" "J" (.long (700000000 : Int64))) (S_ALONE_DELAY_NANOS : Sta Z Z.heap "com/example/roamd/roamd/net/DelayedAck" "ALONE_DELAY_NANOS" "J" (.long (150000000 : Int64))) :
    MetFree l x (head1 (Jvm.Cond.code x code maxLocals ret :: ws) room_1) (fun a U => a = #[(.int pi0), (.int pi1), (.int pi2), (.long pj3), (.long pj4), (.long pj5)] ∧ Z.Warmed39 U.vm ∧ U.heap = h0) (fun _ _ _ _ _ => True) (fun _ U o U' => ∃ v L, o = .returned v ∧ Q0 Z pi0 pi1 pi2 pj3 pj4 pj5 h0 n0 v U'.heap L ∧ FrameEnd U o U' L room_1.cells room_1.slots) := by
  refine MetFree.of_bodySF (plainFor_of_name pn_com_example_roamd_roamd_net_DelayedAckDuePinLaw) hisR ?_
  intro p e s m args below meth c s₁ Bd hml0 hP hK
  obtain ⟨rfl, hZ, hh⟩ := hP
  have hx := Bd.exec
  have hby := Bd.bytes
  have hml : c.maxLocals = 31 := hml0
  have hown : s.vm.findClass "com/example/roamd/roamd/net/DelayedAckDuePinLaw" = some m.cls := findClass_of_methodNamed Bd.named
  have hnm := (name_of_methodNamed Bd.named Bd.method).1
  have X0 : Stand p l e room_1 s m #[(.int pi0), (.int pi1), (.int pi2), (.long pj3), (.long pj4), (.long pj5)] below meth c s₁ [] 0 0 := Stand.of_body Bd
  have e0 : s₁.heap = h0 := by rw [← hh, Bd.state]; rfl
  have N0 := Fr.nil n0
  obtain ⟨Go, hGo⟩ : ∃ P : State → Prop, ∀ t, P t ↔ Steps p.tables e below (s₁.setTop (entryFrame m #[(.int pi0), (.int pi1), (.int pi2), (.long pj3), (.long pj4), (.long pj5)] maxLocals)) t := ⟨_, fun _ => Iff.rfl⟩
  have pre0 : ∀ t, Steps p.tables e below (s₁.setTop (mkF m 0 #[iv pi0, iv pi1, iv pi2, jv pj3, .second, jv pj4, .second, jv pj5, .second, .unset, .unset, .unset, .unset, .unset, .unset, .unset, .unset, .unset, .unset, .unset, .unset, .unset, .unset, .unset, .unset, .unset, .unset, .unset, .unset, .unset, .unset] [])) t → Go t := fun t k => (hGo t).mpr (castTop (ef_0 m pi0 pi1 pi2 pj3 pj4 pj5) k)
  have pre1 : ∀ t, Steps p.tables e below (s₁.setTop (mkF m 3 #[iv pi0, iv pi1, iv pi2, jv pj3, .second, jv pj4, .second, jv pj5, .second, .unset, .unset, .unset, .unset, .unset, .unset, .unset, .unset, .unset, .unset, .unset, .unset, .unset, .unset, .unset, .unset, .unset, .unset, .unset, .unset, .unset, .unset] [(.int (pi0 &&& (1 : Int32)))])) t → Go t := fun t kt => pre0 t (by
      refine y_iloadN X0.here hx (hb hby at_0) rfl (pc' := 1) rfl ?_
      refine y_iconst X0.here hx (hb hby at_1) (v := (1 : Int32)) rfl (pc' := 2) rfl ?_
      refine y_iand X0.here hx (hb hby at_2) rfl (pc' := 3) rfl ?_
      exact kt)
  obtain ⟨x2, hx2⟩ : ∃ z : Int32, z = (if (pi0 &&& (1 : Int32)) = (0 : Int32) then (0 : Int32) else (1 : Int32)) := ⟨_, rfl⟩
  obtain ⟨T3, ⟨X3, q3⟩, st3⟩ : ∃ T', Nx X0 T' ∧ ∀ t, Steps p.tables e below (T'.setTop (mkF m 11 #[iv pi0, iv pi1, iv pi2, jv pj3, .second, jv pj4, .second, jv pj5, .second, .unset, .unset, .unset, .unset, .unset, .unset, .unset, .unset, .unset, .unset, .unset, .unset, .unset, .unset, .unset, .unset, .unset, .unset, .unset, .unset, .unset, .unset] [(.int x2)])) t → Steps p.tables e below (s₁.setTop (mkF m 3 #[iv pi0, iv pi1, iv pi2, jv pj3, .second, jv pj4, .second, jv pj5, .second, .unset, .unset, .unset, .unset, .unset, .unset, .unset, .unset, .unset, .unset, .unset, .unset, .unset, .unset, .unset, .unset, .unset, .unset, .unset, .unset, .unset, .unset] [(.int (pi0 &&& (1 : Int32)))])) t := by
    have pre3_ : ∀ t, Steps p.tables e below (s₁.setTop (mkF m 3 #[iv pi0, iv pi1, iv pi2, jv pj3, .second, jv pj4, .second, jv pj5, .second, .unset, .unset, .unset, .unset, .unset, .unset, .unset, .unset, .unset, .unset, .unset, .unset, .unset, .unset, .unset, .unset, .unset, .unset, .unset, .unset, .unset, .unset] [(.int (pi0 &&& (1 : Int32)))])) t → Steps p.tables e below (s₁.setTop (mkF m 3 #[iv pi0, iv pi1, iv pi2, jv pj3, .second, jv pj4, .second, jv pj5, .second, .unset, .unset, .unset, .unset, .unset, .unset, .unset, .unset, .unset, .unset, .unset, .unset, .unset, .unset, .unset, .unset, .unset, .unset, .unset, .unset, .unset, .unset] [(.int (pi0 &&& (1 : Int32)))])) t := fun t kt => kt
    subst hx2
    by_cases hm3_4 : (pi0 &&& (1 : Int32)) = (0 : Int32)
    · have pre5 : ∀ t, Steps p.tables e below (s₁.setTop (mkF m 11 #[iv pi0, iv pi1, iv pi2, jv pj3, .second, jv pj4, .second, jv pj5, .second, .unset, .unset, .unset, .unset, .unset, .unset, .unset, .unset, .unset, .unset, .unset, .unset, .unset, .unset, .unset, .unset, .unset, .unset, .unset, .unset, .unset, .unset] [(.int (0 : Int32))])) t → Steps p.tables e below (s₁.setTop (mkF m 3 #[iv pi0, iv pi1, iv pi2, jv pj3, .second, jv pj4, .second, jv pj5, .second, .unset, .unset, .unset, .unset, .unset, .unset, .unset, .unset, .unset, .unset, .unset, .unset, .unset, .unset, .unset, .unset, .unset, .unset, .unset, .unset, .unset, .unset] [(.int (pi0 &&& (1 : Int32)))])) t := fun t kt => pre3_ t (by
          refine y_ifYes X0.here hx (hb hby at_3) ((if0 _ _).trans (teq hm3_4).1) (pc' := 10) (by decide) rfl ?_
          refine y_iconst X0.here hx (hb hby at_10) (v := (0 : Int32)) rfl (pc' := 11) rfl ?_
          exact kt)
      refine ⟨s₁, ⟨X0, e0.trans e0.symm⟩, fun t kt => pre5 t ?_⟩
      (try simp only [if_pos hm3_4] at kt)
      exact kt
    · have pre6 : ∀ t, Steps p.tables e below (s₁.setTop (mkF m 11 #[iv pi0, iv pi1, iv pi2, jv pj3, .second, jv pj4, .second, jv pj5, .second, .unset, .unset, .unset, .unset, .unset, .unset, .unset, .unset, .unset, .unset, .unset, .unset, .unset, .unset, .unset, .unset, .unset, .unset, .unset, .unset, .unset, .unset] [(.int (1 : Int32))])) t → Steps p.tables e below (s₁.setTop (mkF m 3 #[iv pi0, iv pi1, iv pi2, jv pj3, .second, jv pj4, .second, jv pj5, .second, .unset, .unset, .unset, .unset, .unset, .unset, .unset, .unset, .unset, .unset, .unset, .unset, .unset, .unset, .unset, .unset, .unset, .unset, .unset, .unset, .unset, .unset] [(.int (pi0 &&& (1 : Int32)))])) t := fun t kt => pre3_ t (by
          refine y_ifNo X0.here hx (hb hby at_3) ((if0 _ _).trans (feq hm3_4).1) (pc' := 6) rfl ?_
          refine y_iconst X0.here hx (hb hby at_6) (v := (1 : Int32)) rfl (pc' := 7) rfl ?_
          refine y_goto X0.here hx (hb hby at_7) (pc' := 11) (by decide) rfl ?_
          exact kt)
      refine ⟨s₁, ⟨X0, e0.trans e0.symm⟩, fun t kt => pre6 t ?_⟩
      (try simp only [if_neg hm3_4] at kt)
      exact kt
  have e3 : T3.heap = h0 := q3.trans e0
  have pre7 : ∀ t, Steps p.tables e below (T3.setTop (mkF m 11 #[iv pi0, iv pi1, iv pi2, jv pj3, .second, jv pj4, .second, jv pj5, .second, .unset, .unset, .unset, .unset, .unset, .unset, .unset, .unset, .unset, .unset, .unset, .unset, .unset, .unset, .unset, .unset, .unset, .unset, .unset, .unset, .unset, .unset] [(.int x2)])) t → Go t := fun t kt => pre1 t (st3 t kt)
  have pre8 : ∀ t, Steps p.tables e below (T3.setTop (mkF m 16 #[iv pi0, iv pi1, iv pi2, jv pj3, .second, jv pj4, .second, jv pj5, .second, iv x2, .unset, .unset, .unset, .unset, .unset, .unset, .unset, .unset, .unset, .unset, .unset, .unset, .unset, .unset, .unset, .unset, .unset, .unset, .unset, .unset, .unset] [(.int (pi0 &&& (2 : Int32)))])) t → Go t := fun t kt => pre7 t (by
      refine y_istore X3.here hx (hb hby at_11) (l' := #[iv pi0, iv pi1, iv pi2, jv pj3, .second, jv pj4, .second, jv pj5, .second, iv x2, .unset, .unset, .unset, .unset, .unset, .unset, .unset, .unset, .unset, .unset, .unset, .unset, .unset, .unset, .unset, .unset, .unset, .unset, .unset, .unset, .unset]) rfl (pc' := 13) rfl ?_
      refine y_iloadN X3.here hx (hb hby at_13) rfl (pc' := 14) rfl ?_
      refine y_iconst X3.here hx (hb hby at_14) (v := (2 : Int32)) rfl (pc' := 15) rfl ?_
      refine y_iand X3.here hx (hb hby at_15) rfl (pc' := 16) rfl ?_
      exact kt)
  obtain ⟨x9, hx9⟩ : ∃ z : Int32, z = (if (pi0 &&& (2 : Int32)) = (0 : Int32) then (0 : Int32) else (1 : Int32)) := ⟨_, rfl⟩
  obtain ⟨T10, ⟨X10, q10⟩, st10⟩ : ∃ T', Nx X3 T' ∧ ∀ t, Steps p.tables e below (T'.setTop (mkF m 24 #[iv pi0, iv pi1, iv pi2, jv pj3, .second, jv pj4, .second, jv pj5, .second, iv x2, .unset, .unset, .unset, .unset, .unset, .unset, .unset, .unset, .unset, .unset, .unset, .unset, .unset, .unset, .unset, .unset, .unset, .unset, .unset, .unset, .unset] [(.int x9)])) t → Steps p.tables e below (T3.setTop (mkF m 16 #[iv pi0, iv pi1, iv pi2, jv pj3, .second, jv pj4, .second, jv pj5, .second, iv x2, .unset, .unset, .unset, .unset, .unset, .unset, .unset, .unset, .unset, .unset, .unset, .unset, .unset, .unset, .unset, .unset, .unset, .unset, .unset, .unset, .unset] [(.int (pi0 &&& (2 : Int32)))])) t := by
    have pre10_ : ∀ t, Steps p.tables e below (T3.setTop (mkF m 16 #[iv pi0, iv pi1, iv pi2, jv pj3, .second, jv pj4, .second, jv pj5, .second, iv x2, .unset, .unset, .unset, .unset, .unset, .unset, .unset, .unset, .unset, .unset, .unset, .unset, .unset, .unset, .unset, .unset, .unset, .unset, .unset, .unset, .unset] [(.int (pi0 &&& (2 : Int32)))])) t → Steps p.tables e below (T3.setTop (mkF m 16 #[iv pi0, iv pi1, iv pi2, jv pj3, .second, jv pj4, .second, jv pj5, .second, iv x2, .unset, .unset, .unset, .unset, .unset, .unset, .unset, .unset, .unset, .unset, .unset, .unset, .unset, .unset, .unset, .unset, .unset, .unset, .unset, .unset, .unset] [(.int (pi0 &&& (2 : Int32)))])) t := fun t kt => kt
    subst hx9
    by_cases hm16_11 : (pi0 &&& (2 : Int32)) = (0 : Int32)
    · have pre12 : ∀ t, Steps p.tables e below (T3.setTop (mkF m 24 #[iv pi0, iv pi1, iv pi2, jv pj3, .second, jv pj4, .second, jv pj5, .second, iv x2, .unset, .unset, .unset, .unset, .unset, .unset, .unset, .unset, .unset, .unset, .unset, .unset, .unset, .unset, .unset, .unset, .unset, .unset, .unset, .unset, .unset] [(.int (0 : Int32))])) t → Steps p.tables e below (T3.setTop (mkF m 16 #[iv pi0, iv pi1, iv pi2, jv pj3, .second, jv pj4, .second, jv pj5, .second, iv x2, .unset, .unset, .unset, .unset, .unset, .unset, .unset, .unset, .unset, .unset, .unset, .unset, .unset, .unset, .unset, .unset, .unset, .unset, .unset, .unset, .unset] [(.int (pi0 &&& (2 : Int32)))])) t := fun t kt => pre10_ t (by
          refine y_ifYes X3.here hx (hb hby at_16) ((if0 _ _).trans (teq hm16_11).1) (pc' := 23) (by decide) rfl ?_
          refine y_iconst X3.here hx (hb hby at_23) (v := (0 : Int32)) rfl (pc' := 24) rfl ?_
          exact kt)
      refine ⟨T3, ⟨X3, e3.trans e3.symm⟩, fun t kt => pre12 t ?_⟩
      (try simp only [if_pos hm16_11] at kt)
      exact kt
    · have pre13 : ∀ t, Steps p.tables e below (T3.setTop (mkF m 24 #[iv pi0, iv pi1, iv pi2, jv pj3, .second, jv pj4, .second, jv pj5, .second, iv x2, .unset, .unset, .unset, .unset, .unset, .unset, .unset, .unset, .unset, .unset, .unset, .unset, .unset, .unset, .unset, .unset, .unset, .unset, .unset, .unset, .unset] [(.int (1 : Int32))])) t → Steps p.tables e below (T3.setTop (mkF m 16 #[iv pi0, iv pi1, iv pi2, jv pj3, .second, jv pj4, .second, jv pj5, .second, iv x2, .unset, .unset, .unset, .unset, .unset, .unset, .unset, .unset, .unset, .unset, .unset, .unset, .unset, .unset, .unset, .unset, .unset, .unset, .unset, .unset, .unset] [(.int (pi0 &&& (2 : Int32)))])) t := fun t kt => pre10_ t (by
          refine y_ifNo X3.here hx (hb hby at_16) ((if0 _ _).trans (feq hm16_11).1) (pc' := 19) rfl ?_
          refine y_iconst X3.here hx (hb hby at_19) (v := (1 : Int32)) rfl (pc' := 20) rfl ?_
          refine y_goto X3.here hx (hb hby at_20) (pc' := 24) (by decide) rfl ?_
          exact kt)
      refine ⟨T3, ⟨X3, e3.trans e3.symm⟩, fun t kt => pre13 t ?_⟩
      (try simp only [if_neg hm16_11] at kt)
      exact kt
  have e10 : T10.heap = h0 := q10.trans e3
  have pre14 : ∀ t, Steps p.tables e below (T10.setTop (mkF m 24 #[iv pi0, iv pi1, iv pi2, jv pj3, .second, jv pj4, .second, jv pj5, .second, iv x2, .unset, .unset, .unset, .unset, .unset, .unset, .unset, .unset, .unset, .unset, .unset, .unset, .unset, .unset, .unset, .unset, .unset, .unset, .unset, .unset, .unset] [(.int x9)])) t → Go t := fun t kt => pre8 t (st10 t kt)
  have pre15 : ∀ t, Steps p.tables e below (T10.setTop (mkF m 29 #[iv pi0, iv pi1, iv pi2, jv pj3, .second, jv pj4, .second, jv pj5, .second, iv x2, iv x9, .unset, .unset, .unset, .unset, .unset, .unset, .unset, .unset, .unset, .unset, .unset, .unset, .unset, .unset, .unset, .unset, .unset, .unset, .unset, .unset] [(.int (pi0 &&& (4 : Int32)))])) t → Go t := fun t kt => pre14 t (by
      refine y_istore X10.here hx (hb hby at_24) (l' := #[iv pi0, iv pi1, iv pi2, jv pj3, .second, jv pj4, .second, jv pj5, .second, iv x2, iv x9, .unset, .unset, .unset, .unset, .unset, .unset, .unset, .unset, .unset, .unset, .unset, .unset, .unset, .unset, .unset, .unset, .unset, .unset, .unset, .unset]) rfl (pc' := 26) rfl ?_
      refine y_iloadN X10.here hx (hb hby at_26) rfl (pc' := 27) rfl ?_
      refine y_iconst X10.here hx (hb hby at_27) (v := (4 : Int32)) rfl (pc' := 28) rfl ?_
      refine y_iand X10.here hx (hb hby at_28) rfl (pc' := 29) rfl ?_
      exact kt)
  obtain ⟨x16, hx16⟩ : ∃ z : Int32, z = (if (pi0 &&& (4 : Int32)) = (0 : Int32) then (0 : Int32) else (1 : Int32)) := ⟨_, rfl⟩
  obtain ⟨T17, ⟨X17, q17⟩, st17⟩ : ∃ T', Nx X10 T' ∧ ∀ t, Steps p.tables e below (T'.setTop (mkF m 37 #[iv pi0, iv pi1, iv pi2, jv pj3, .second, jv pj4, .second, jv pj5, .second, iv x2, iv x9, .unset, .unset, .unset, .unset, .unset, .unset, .unset, .unset, .unset, .unset, .unset, .unset, .unset, .unset, .unset, .unset, .unset, .unset, .unset, .unset] [(.int x16)])) t → Steps p.tables e below (T10.setTop (mkF m 29 #[iv pi0, iv pi1, iv pi2, jv pj3, .second, jv pj4, .second, jv pj5, .second, iv x2, iv x9, .unset, .unset, .unset, .unset, .unset, .unset, .unset, .unset, .unset, .unset, .unset, .unset, .unset, .unset, .unset, .unset, .unset, .unset, .unset, .unset] [(.int (pi0 &&& (4 : Int32)))])) t := by
    have pre17_ : ∀ t, Steps p.tables e below (T10.setTop (mkF m 29 #[iv pi0, iv pi1, iv pi2, jv pj3, .second, jv pj4, .second, jv pj5, .second, iv x2, iv x9, .unset, .unset, .unset, .unset, .unset, .unset, .unset, .unset, .unset, .unset, .unset, .unset, .unset, .unset, .unset, .unset, .unset, .unset, .unset, .unset] [(.int (pi0 &&& (4 : Int32)))])) t → Steps p.tables e below (T10.setTop (mkF m 29 #[iv pi0, iv pi1, iv pi2, jv pj3, .second, jv pj4, .second, jv pj5, .second, iv x2, iv x9, .unset, .unset, .unset, .unset, .unset, .unset, .unset, .unset, .unset, .unset, .unset, .unset, .unset, .unset, .unset, .unset, .unset, .unset, .unset, .unset] [(.int (pi0 &&& (4 : Int32)))])) t := fun t kt => kt
    subst hx16
    by_cases hm29_18 : (pi0 &&& (4 : Int32)) = (0 : Int32)
    · have pre19 : ∀ t, Steps p.tables e below (T10.setTop (mkF m 37 #[iv pi0, iv pi1, iv pi2, jv pj3, .second, jv pj4, .second, jv pj5, .second, iv x2, iv x9, .unset, .unset, .unset, .unset, .unset, .unset, .unset, .unset, .unset, .unset, .unset, .unset, .unset, .unset, .unset, .unset, .unset, .unset, .unset, .unset] [(.int (0 : Int32))])) t → Steps p.tables e below (T10.setTop (mkF m 29 #[iv pi0, iv pi1, iv pi2, jv pj3, .second, jv pj4, .second, jv pj5, .second, iv x2, iv x9, .unset, .unset, .unset, .unset, .unset, .unset, .unset, .unset, .unset, .unset, .unset, .unset, .unset, .unset, .unset, .unset, .unset, .unset, .unset, .unset] [(.int (pi0 &&& (4 : Int32)))])) t := fun t kt => pre17_ t (by
          refine y_ifYes X10.here hx (hb hby at_29) ((if0 _ _).trans (teq hm29_18).1) (pc' := 36) (by decide) rfl ?_
          refine y_iconst X10.here hx (hb hby at_36) (v := (0 : Int32)) rfl (pc' := 37) rfl ?_
          exact kt)
      refine ⟨T10, ⟨X10, e10.trans e10.symm⟩, fun t kt => pre19 t ?_⟩
      (try simp only [if_pos hm29_18] at kt)
      exact kt
    · have pre20 : ∀ t, Steps p.tables e below (T10.setTop (mkF m 37 #[iv pi0, iv pi1, iv pi2, jv pj3, .second, jv pj4, .second, jv pj5, .second, iv x2, iv x9, .unset, .unset, .unset, .unset, .unset, .unset, .unset, .unset, .unset, .unset, .unset, .unset, .unset, .unset, .unset, .unset, .unset, .unset, .unset, .unset] [(.int (1 : Int32))])) t → Steps p.tables e below (T10.setTop (mkF m 29 #[iv pi0, iv pi1, iv pi2, jv pj3, .second, jv pj4, .second, jv pj5, .second, iv x2, iv x9, .unset, .unset, .unset, .unset, .unset, .unset, .unset, .unset, .unset, .unset, .unset, .unset, .unset, .unset, .unset, .unset, .unset, .unset, .unset, .unset] [(.int (pi0 &&& (4 : Int32)))])) t := fun t kt => pre17_ t (by
          refine y_ifNo X10.here hx (hb hby at_29) ((if0 _ _).trans (feq hm29_18).1) (pc' := 32) rfl ?_
          refine y_iconst X10.here hx (hb hby at_32) (v := (1 : Int32)) rfl (pc' := 33) rfl ?_
          refine y_goto X10.here hx (hb hby at_33) (pc' := 37) (by decide) rfl ?_
          exact kt)
      refine ⟨T10, ⟨X10, e10.trans e10.symm⟩, fun t kt => pre20 t ?_⟩
      (try simp only [if_neg hm29_18] at kt)
      exact kt
  have e17 : T17.heap = h0 := q17.trans e10
  have pre21 : ∀ t, Steps p.tables e below (T17.setTop (mkF m 37 #[iv pi0, iv pi1, iv pi2, jv pj3, .second, jv pj4, .second, jv pj5, .second, iv x2, iv x9, .unset, .unset, .unset, .unset, .unset, .unset, .unset, .unset, .unset, .unset, .unset, .unset, .unset, .unset, .unset, .unset, .unset, .unset, .unset, .unset] [(.int x16)])) t → Go t := fun t kt => pre15 t (st17 t kt)
  have pre22 : ∀ t, Steps p.tables e below (T17.setTop (mkF m 43 #[iv pi0, iv pi1, iv pi2, jv pj3, .second, jv pj4, .second, jv pj5, .second, iv x2, iv x9, iv x16, .unset, .unset, .unset, .unset, .unset, .unset, .unset, .unset, .unset, .unset, .unset, .unset, .unset, .unset, .unset, .unset, .unset, .unset, .unset] [(.int (pi0 &&& (8 : Int32)))])) t → Go t := fun t kt => pre21 t (by
      refine y_istore X17.here hx (hb hby at_37) (l' := #[iv pi0, iv pi1, iv pi2, jv pj3, .second, jv pj4, .second, jv pj5, .second, iv x2, iv x9, iv x16, .unset, .unset, .unset, .unset, .unset, .unset, .unset, .unset, .unset, .unset, .unset, .unset, .unset, .unset, .unset, .unset, .unset, .unset, .unset]) rfl (pc' := 39) rfl ?_
      refine y_iloadN X17.here hx (hb hby at_39) rfl (pc' := 40) rfl ?_
      refine y_bipush X17.here hx (hb hby at_40) (v := (8 : Int32)) rfl (pc' := 42) rfl ?_
      refine y_iand X17.here hx (hb hby at_42) rfl (pc' := 43) rfl ?_
      exact kt)
  obtain ⟨x23, hx23⟩ : ∃ z : Int32, z = (if (pi0 &&& (8 : Int32)) = (0 : Int32) then (0 : Int32) else (1 : Int32)) := ⟨_, rfl⟩
  obtain ⟨T24, ⟨X24, q24⟩, st24⟩ : ∃ T', Nx X17 T' ∧ ∀ t, Steps p.tables e below (T'.setTop (mkF m 51 #[iv pi0, iv pi1, iv pi2, jv pj3, .second, jv pj4, .second, jv pj5, .second, iv x2, iv x9, iv x16, .unset, .unset, .unset, .unset, .unset, .unset, .unset, .unset, .unset, .unset, .unset, .unset, .unset, .unset, .unset, .unset, .unset, .unset, .unset] [(.int x23)])) t → Steps p.tables e below (T17.setTop (mkF m 43 #[iv pi0, iv pi1, iv pi2, jv pj3, .second, jv pj4, .second, jv pj5, .second, iv x2, iv x9, iv x16, .unset, .unset, .unset, .unset, .unset, .unset, .unset, .unset, .unset, .unset, .unset, .unset, .unset, .unset, .unset, .unset, .unset, .unset, .unset] [(.int (pi0 &&& (8 : Int32)))])) t := by
    have pre24_ : ∀ t, Steps p.tables e below (T17.setTop (mkF m 43 #[iv pi0, iv pi1, iv pi2, jv pj3, .second, jv pj4, .second, jv pj5, .second, iv x2, iv x9, iv x16, .unset, .unset, .unset, .unset, .unset, .unset, .unset, .unset, .unset, .unset, .unset, .unset, .unset, .unset, .unset, .unset, .unset, .unset, .unset] [(.int (pi0 &&& (8 : Int32)))])) t → Steps p.tables e below (T17.setTop (mkF m 43 #[iv pi0, iv pi1, iv pi2, jv pj3, .second, jv pj4, .second, jv pj5, .second, iv x2, iv x9, iv x16, .unset, .unset, .unset, .unset, .unset, .unset, .unset, .unset, .unset, .unset, .unset, .unset, .unset, .unset, .unset, .unset, .unset, .unset, .unset] [(.int (pi0 &&& (8 : Int32)))])) t := fun t kt => kt
    subst hx23
    by_cases hm43_25 : (pi0 &&& (8 : Int32)) = (0 : Int32)
    · have pre26 : ∀ t, Steps p.tables e below (T17.setTop (mkF m 51 #[iv pi0, iv pi1, iv pi2, jv pj3, .second, jv pj4, .second, jv pj5, .second, iv x2, iv x9, iv x16, .unset, .unset, .unset, .unset, .unset, .unset, .unset, .unset, .unset, .unset, .unset, .unset, .unset, .unset, .unset, .unset, .unset, .unset, .unset] [(.int (0 : Int32))])) t → Steps p.tables e below (T17.setTop (mkF m 43 #[iv pi0, iv pi1, iv pi2, jv pj3, .second, jv pj4, .second, jv pj5, .second, iv x2, iv x9, iv x16, .unset, .unset, .unset, .unset, .unset, .unset, .unset, .unset, .unset, .unset, .unset, .unset, .unset, .unset, .unset, .unset, .unset, .unset, .unset] [(.int (pi0 &&& (8 : Int32)))])) t := fun t kt => pre24_ t (by
          refine y_ifYes X17.here hx (hb hby at_43) ((if0 _ _).trans (teq hm43_25).1) (pc' := 50) (by decide) rfl ?_
          refine y_iconst X17.here hx (hb hby at_50) (v := (0 : Int32)) rfl (pc' := 51) rfl ?_
          exact kt)
      refine ⟨T17, ⟨X17, e17.trans e17.symm⟩, fun t kt => pre26 t ?_⟩
      (try simp only [if_pos hm43_25] at kt)
      exact kt
    · have pre27 : ∀ t, Steps p.tables e below (T17.setTop (mkF m 51 #[iv pi0, iv pi1, iv pi2, jv pj3, .second, jv pj4, .second, jv pj5, .second, iv x2, iv x9, iv x16, .unset, .unset, .unset, .unset, .unset, .unset, .unset, .unset, .unset, .unset, .unset, .unset, .unset, .unset, .unset, .unset, .unset, .unset, .unset] [(.int (1 : Int32))])) t → Steps p.tables e below (T17.setTop (mkF m 43 #[iv pi0, iv pi1, iv pi2, jv pj3, .second, jv pj4, .second, jv pj5, .second, iv x2, iv x9, iv x16, .unset, .unset, .unset, .unset, .unset, .unset, .unset, .unset, .unset, .unset, .unset, .unset, .unset, .unset, .unset, .unset, .unset, .unset, .unset] [(.int (pi0 &&& (8 : Int32)))])) t := fun t kt => pre24_ t (by
          refine y_ifNo X17.here hx (hb hby at_43) ((if0 _ _).trans (feq hm43_25).1) (pc' := 46) rfl ?_
          refine y_iconst X17.here hx (hb hby at_46) (v := (1 : Int32)) rfl (pc' := 47) rfl ?_
          refine y_goto X17.here hx (hb hby at_47) (pc' := 51) (by decide) rfl ?_
          exact kt)
      refine ⟨T17, ⟨X17, e17.trans e17.symm⟩, fun t kt => pre27 t ?_⟩
      (try simp only [if_neg hm43_25] at kt)
      exact kt
  have e24 : T24.heap = h0 := q24.trans e17
  have pre28 : ∀ t, Steps p.tables e below (T24.setTop (mkF m 51 #[iv pi0, iv pi1, iv pi2, jv pj3, .second, jv pj4, .second, jv pj5, .second, iv x2, iv x9, iv x16, .unset, .unset, .unset, .unset, .unset, .unset, .unset, .unset, .unset, .unset, .unset, .unset, .unset, .unset, .unset, .unset, .unset, .unset, .unset] [(.int x23)])) t → Go t := fun t kt => pre22 t (st24 t kt)
  have pre29 : ∀ t, Steps p.tables e below (T24.setTop (mkF m 57 #[iv pi0, iv pi1, iv pi2, jv pj3, .second, jv pj4, .second, jv pj5, .second, iv x2, iv x9, iv x16, iv x23, .unset, .unset, .unset, .unset, .unset, .unset, .unset, .unset, .unset, .unset, .unset, .unset, .unset, .unset, .unset, .unset, .unset, .unset] [(.int (pi0 &&& (16 : Int32)))])) t → Go t := fun t kt => pre28 t (by
      refine y_istore X24.here hx (hb hby at_51) (l' := #[iv pi0, iv pi1, iv pi2, jv pj3, .second, jv pj4, .second, jv pj5, .second, iv x2, iv x9, iv x16, iv x23, .unset, .unset, .unset, .unset, .unset, .unset, .unset, .unset, .unset, .unset, .unset, .unset, .unset, .unset, .unset, .unset, .unset, .unset]) rfl (pc' := 53) rfl ?_
      refine y_iloadN X24.here hx (hb hby at_53) rfl (pc' := 54) rfl ?_
      refine y_bipush X24.here hx (hb hby at_54) (v := (16 : Int32)) rfl (pc' := 56) rfl ?_
      refine y_iand X24.here hx (hb hby at_56) rfl (pc' := 57) rfl ?_
      exact kt)
  obtain ⟨x30, hx30⟩ : ∃ z : Int32, z = (if (pi0 &&& (16 : Int32)) = (0 : Int32) then (0 : Int32) else (1 : Int32)) := ⟨_, rfl⟩
  obtain ⟨T31, ⟨X31, q31⟩, st31⟩ : ∃ T', Nx X24 T' ∧ ∀ t, Steps p.tables e below (T'.setTop (mkF m 65 #[iv pi0, iv pi1, iv pi2, jv pj3, .second, jv pj4, .second, jv pj5, .second, iv x2, iv x9, iv x16, iv x23, .unset, .unset, .unset, .unset, .unset, .unset, .unset, .unset, .unset, .unset, .unset, .unset, .unset, .unset, .unset, .unset, .unset, .unset] [(.int x30)])) t → Steps p.tables e below (T24.setTop (mkF m 57 #[iv pi0, iv pi1, iv pi2, jv pj3, .second, jv pj4, .second, jv pj5, .second, iv x2, iv x9, iv x16, iv x23, .unset, .unset, .unset, .unset, .unset, .unset, .unset, .unset, .unset, .unset, .unset, .unset, .unset, .unset, .unset, .unset, .unset, .unset] [(.int (pi0 &&& (16 : Int32)))])) t := by
    have pre31_ : ∀ t, Steps p.tables e below (T24.setTop (mkF m 57 #[iv pi0, iv pi1, iv pi2, jv pj3, .second, jv pj4, .second, jv pj5, .second, iv x2, iv x9, iv x16, iv x23, .unset, .unset, .unset, .unset, .unset, .unset, .unset, .unset, .unset, .unset, .unset, .unset, .unset, .unset, .unset, .unset, .unset, .unset] [(.int (pi0 &&& (16 : Int32)))])) t → Steps p.tables e below (T24.setTop (mkF m 57 #[iv pi0, iv pi1, iv pi2, jv pj3, .second, jv pj4, .second, jv pj5, .second, iv x2, iv x9, iv x16, iv x23, .unset, .unset, .unset, .unset, .unset, .unset, .unset, .unset, .unset, .unset, .unset, .unset, .unset, .unset, .unset, .unset, .unset, .unset] [(.int (pi0 &&& (16 : Int32)))])) t := fun t kt => kt
    subst hx30
    by_cases hm57_32 : (pi0 &&& (16 : Int32)) = (0 : Int32)
    · have pre33 : ∀ t, Steps p.tables e below (T24.setTop (mkF m 65 #[iv pi0, iv pi1, iv pi2, jv pj3, .second, jv pj4, .second, jv pj5, .second, iv x2, iv x9, iv x16, iv x23, .unset, .unset, .unset, .unset, .unset, .unset, .unset, .unset, .unset, .unset, .unset, .unset, .unset, .unset, .unset, .unset, .unset, .unset] [(.int (0 : Int32))])) t → Steps p.tables e below (T24.setTop (mkF m 57 #[iv pi0, iv pi1, iv pi2, jv pj3, .second, jv pj4, .second, jv pj5, .second, iv x2, iv x9, iv x16, iv x23, .unset, .unset, .unset, .unset, .unset, .unset, .unset, .unset, .unset, .unset, .unset, .unset, .unset, .unset, .unset, .unset, .unset, .unset] [(.int (pi0 &&& (16 : Int32)))])) t := fun t kt => pre31_ t (by
          refine y_ifYes X24.here hx (hb hby at_57) ((if0 _ _).trans (teq hm57_32).1) (pc' := 64) (by decide) rfl ?_
          refine y_iconst X24.here hx (hb hby at_64) (v := (0 : Int32)) rfl (pc' := 65) rfl ?_
          exact kt)
      refine ⟨T24, ⟨X24, e24.trans e24.symm⟩, fun t kt => pre33 t ?_⟩
      (try simp only [if_pos hm57_32] at kt)
      exact kt
    · have pre34 : ∀ t, Steps p.tables e below (T24.setTop (mkF m 65 #[iv pi0, iv pi1, iv pi2, jv pj3, .second, jv pj4, .second, jv pj5, .second, iv x2, iv x9, iv x16, iv x23, .unset, .unset, .unset, .unset, .unset, .unset, .unset, .unset, .unset, .unset, .unset, .unset, .unset, .unset, .unset, .unset, .unset, .unset] [(.int (1 : Int32))])) t → Steps p.tables e below (T24.setTop (mkF m 57 #[iv pi0, iv pi1, iv pi2, jv pj3, .second, jv pj4, .second, jv pj5, .second, iv x2, iv x9, iv x16, iv x23, .unset, .unset, .unset, .unset, .unset, .unset, .unset, .unset, .unset, .unset, .unset, .unset, .unset, .unset, .unset, .unset, .unset, .unset] [(.int (pi0 &&& (16 : Int32)))])) t := fun t kt => pre31_ t (by
          refine y_ifNo X24.here hx (hb hby at_57) ((if0 _ _).trans (feq hm57_32).1) (pc' := 60) rfl ?_
          refine y_iconst X24.here hx (hb hby at_60) (v := (1 : Int32)) rfl (pc' := 61) rfl ?_
          refine y_goto X24.here hx (hb hby at_61) (pc' := 65) (by decide) rfl ?_
          exact kt)
      refine ⟨T24, ⟨X24, e24.trans e24.symm⟩, fun t kt => pre34 t ?_⟩
      (try simp only [if_neg hm57_32] at kt)
      exact kt
  have e31 : T31.heap = h0 := q31.trans e24
  have pre35 : ∀ t, Steps p.tables e below (T31.setTop (mkF m 65 #[iv pi0, iv pi1, iv pi2, jv pj3, .second, jv pj4, .second, jv pj5, .second, iv x2, iv x9, iv x16, iv x23, .unset, .unset, .unset, .unset, .unset, .unset, .unset, .unset, .unset, .unset, .unset, .unset, .unset, .unset, .unset, .unset, .unset, .unset] [(.int x30)])) t → Go t := fun t kt => pre29 t (st31 t kt)
  have pre36 : ∀ t, Steps p.tables e below (T31.setTop (mkF m 71 #[iv pi0, iv pi1, iv pi2, jv pj3, .second, jv pj4, .second, jv pj5, .second, iv x2, iv x9, iv x16, iv x23, iv x30, .unset, .unset, .unset, .unset, .unset, .unset, .unset, .unset, .unset, .unset, .unset, .unset, .unset, .unset, .unset, .unset, .unset] [(.int (pi0 &&& (32 : Int32)))])) t → Go t := fun t kt => pre35 t (by
      refine y_istore X31.here hx (hb hby at_65) (l' := #[iv pi0, iv pi1, iv pi2, jv pj3, .second, jv pj4, .second, jv pj5, .second, iv x2, iv x9, iv x16, iv x23, iv x30, .unset, .unset, .unset, .unset, .unset, .unset, .unset, .unset, .unset, .unset, .unset, .unset, .unset, .unset, .unset, .unset, .unset]) rfl (pc' := 67) rfl ?_
      refine y_iloadN X31.here hx (hb hby at_67) rfl (pc' := 68) rfl ?_
      refine y_bipush X31.here hx (hb hby at_68) (v := (32 : Int32)) rfl (pc' := 70) rfl ?_
      refine y_iand X31.here hx (hb hby at_70) rfl (pc' := 71) rfl ?_
      exact kt)
  obtain ⟨x37, hx37⟩ : ∃ z : Int32, z = (if (pi0 &&& (32 : Int32)) = (0 : Int32) then (0 : Int32) else (1 : Int32)) := ⟨_, rfl⟩
  obtain ⟨T38, ⟨X38, q38⟩, st38⟩ : ∃ T', Nx X31 T' ∧ ∀ t, Steps p.tables e below (T'.setTop (mkF m 79 #[iv pi0, iv pi1, iv pi2, jv pj3, .second, jv pj4, .second, jv pj5, .second, iv x2, iv x9, iv x16, iv x23, iv x30, .unset, .unset, .unset, .unset, .unset, .unset, .unset, .unset, .unset, .unset, .unset, .unset, .unset, .unset, .unset, .unset, .unset] [(.int x37)])) t → Steps p.tables e below (T31.setTop (mkF m 71 #[iv pi0, iv pi1, iv pi2, jv pj3, .second, jv pj4, .second, jv pj5, .second, iv x2, iv x9, iv x16, iv x23, iv x30, .unset, .unset, .unset, .unset, .unset, .unset, .unset, .unset, .unset, .unset, .unset, .unset, .unset, .unset, .unset, .unset, .unset] [(.int (pi0 &&& (32 : Int32)))])) t := by
    have pre38_ : ∀ t, Steps p.tables e below (T31.setTop (mkF m 71 #[iv pi0, iv pi1, iv pi2, jv pj3, .second, jv pj4, .second, jv pj5, .second, iv x2, iv x9, iv x16, iv x23, iv x30, .unset, .unset, .unset, .unset, .unset, .unset, .unset, .unset, .unset, .unset, .unset, .unset, .unset, .unset, .unset, .unset, .unset] [(.int (pi0 &&& (32 : Int32)))])) t → Steps p.tables e below (T31.setTop (mkF m 71 #[iv pi0, iv pi1, iv pi2, jv pj3, .second, jv pj4, .second, jv pj5, .second, iv x2, iv x9, iv x16, iv x23, iv x30, .unset, .unset, .unset, .unset, .unset, .unset, .unset, .unset, .unset, .unset, .unset, .unset, .unset, .unset, .unset, .unset, .unset] [(.int (pi0 &&& (32 : Int32)))])) t := fun t kt => kt
    subst hx37
    by_cases hm71_39 : (pi0 &&& (32 : Int32)) = (0 : Int32)
    · have pre40 : ∀ t, Steps p.tables e below (T31.setTop (mkF m 79 #[iv pi0, iv pi1, iv pi2, jv pj3, .second, jv pj4, .second, jv pj5, .second, iv x2, iv x9, iv x16, iv x23, iv x30, .unset, .unset, .unset, .unset, .unset, .unset, .unset, .unset, .unset, .unset, .unset, .unset, .unset, .unset, .unset, .unset, .unset] [(.int (0 : Int32))])) t → Steps p.tables e below (T31.setTop (mkF m 71 #[iv pi0, iv pi1, iv pi2, jv pj3, .second, jv pj4, .second, jv pj5, .second, iv x2, iv x9, iv x16, iv x23, iv x30, .unset, .unset, .unset, .unset, .unset, .unset, .unset, .unset, .unset, .unset, .unset, .unset, .unset, .unset, .unset, .unset, .unset] [(.int (pi0 &&& (32 : Int32)))])) t := fun t kt => pre38_ t (by
          refine y_ifYes X31.here hx (hb hby at_71) ((if0 _ _).trans (teq hm71_39).1) (pc' := 78) (by decide) rfl ?_
          refine y_iconst X31.here hx (hb hby at_78) (v := (0 : Int32)) rfl (pc' := 79) rfl ?_
          exact kt)
      refine ⟨T31, ⟨X31, e31.trans e31.symm⟩, fun t kt => pre40 t ?_⟩
      (try simp only [if_pos hm71_39] at kt)
      exact kt
    · have pre41 : ∀ t, Steps p.tables e below (T31.setTop (mkF m 79 #[iv pi0, iv pi1, iv pi2, jv pj3, .second, jv pj4, .second, jv pj5, .second, iv x2, iv x9, iv x16, iv x23, iv x30, .unset, .unset, .unset, .unset, .unset, .unset, .unset, .unset, .unset, .unset, .unset, .unset, .unset, .unset, .unset, .unset, .unset] [(.int (1 : Int32))])) t → Steps p.tables e below (T31.setTop (mkF m 71 #[iv pi0, iv pi1, iv pi2, jv pj3, .second, jv pj4, .second, jv pj5, .second, iv x2, iv x9, iv x16, iv x23, iv x30, .unset, .unset, .unset, .unset, .unset, .unset, .unset, .unset, .unset, .unset, .unset, .unset, .unset, .unset, .unset, .unset, .unset] [(.int (pi0 &&& (32 : Int32)))])) t := fun t kt => pre38_ t (by
          refine y_ifNo X31.here hx (hb hby at_71) ((if0 _ _).trans (feq hm71_39).1) (pc' := 74) rfl ?_
          refine y_iconst X31.here hx (hb hby at_74) (v := (1 : Int32)) rfl (pc' := 75) rfl ?_
          refine y_goto X31.here hx (hb hby at_75) (pc' := 79) (by decide) rfl ?_
          exact kt)
      refine ⟨T31, ⟨X31, e31.trans e31.symm⟩, fun t kt => pre41 t ?_⟩
      (try simp only [if_neg hm71_39] at kt)
      exact kt
  have e38 : T38.heap = h0 := q38.trans e31
  have pre42 : ∀ t, Steps p.tables e below (T38.setTop (mkF m 79 #[iv pi0, iv pi1, iv pi2, jv pj3, .second, jv pj4, .second, jv pj5, .second, iv x2, iv x9, iv x16, iv x23, iv x30, .unset, .unset, .unset, .unset, .unset, .unset, .unset, .unset, .unset, .unset, .unset, .unset, .unset, .unset, .unset, .unset, .unset] [(.int x37)])) t → Go t := fun t kt => pre36 t (st38 t kt)
  have pre43 : ∀ t, Steps p.tables e below (T38.setTop (mkF m 85 #[iv pi0, iv pi1, iv pi2, jv pj3, .second, jv pj4, .second, jv pj5, .second, iv x2, iv x9, iv x16, iv x23, iv x30, iv x37, .unset, .unset, .unset, .unset, .unset, .unset, .unset, .unset, .unset, .unset, .unset, .unset, .unset, .unset, .unset, .unset] [(.int (pi0 &&& (64 : Int32)))])) t → Go t := fun t kt => pre42 t (by
      refine y_istore X38.here hx (hb hby at_79) (l' := #[iv pi0, iv pi1, iv pi2, jv pj3, .second, jv pj4, .second, jv pj5, .second, iv x2, iv x9, iv x16, iv x23, iv x30, iv x37, .unset, .unset, .unset, .unset, .unset, .unset, .unset, .unset, .unset, .unset, .unset, .unset, .unset, .unset, .unset, .unset]) rfl (pc' := 81) rfl ?_
      refine y_iloadN X38.here hx (hb hby at_81) rfl (pc' := 82) rfl ?_
      refine y_bipush X38.here hx (hb hby at_82) (v := (64 : Int32)) rfl (pc' := 84) rfl ?_
      refine y_iand X38.here hx (hb hby at_84) rfl (pc' := 85) rfl ?_
      exact kt)
  obtain ⟨x44, hx44⟩ : ∃ z : Int32, z = (if (pi0 &&& (64 : Int32)) = (0 : Int32) then (0 : Int32) else (1 : Int32)) := ⟨_, rfl⟩
  obtain ⟨T45, ⟨X45, q45⟩, st45⟩ : ∃ T', Nx X38 T' ∧ ∀ t, Steps p.tables e below (T'.setTop (mkF m 93 #[iv pi0, iv pi1, iv pi2, jv pj3, .second, jv pj4, .second, jv pj5, .second, iv x2, iv x9, iv x16, iv x23, iv x30, iv x37, .unset, .unset, .unset, .unset, .unset, .unset, .unset, .unset, .unset, .unset, .unset, .unset, .unset, .unset, .unset, .unset] [(.int x44)])) t → Steps p.tables e below (T38.setTop (mkF m 85 #[iv pi0, iv pi1, iv pi2, jv pj3, .second, jv pj4, .second, jv pj5, .second, iv x2, iv x9, iv x16, iv x23, iv x30, iv x37, .unset, .unset, .unset, .unset, .unset, .unset, .unset, .unset, .unset, .unset, .unset, .unset, .unset, .unset, .unset, .unset] [(.int (pi0 &&& (64 : Int32)))])) t := by
    have pre45_ : ∀ t, Steps p.tables e below (T38.setTop (mkF m 85 #[iv pi0, iv pi1, iv pi2, jv pj3, .second, jv pj4, .second, jv pj5, .second, iv x2, iv x9, iv x16, iv x23, iv x30, iv x37, .unset, .unset, .unset, .unset, .unset, .unset, .unset, .unset, .unset, .unset, .unset, .unset, .unset, .unset, .unset, .unset] [(.int (pi0 &&& (64 : Int32)))])) t → Steps p.tables e below (T38.setTop (mkF m 85 #[iv pi0, iv pi1, iv pi2, jv pj3, .second, jv pj4, .second, jv pj5, .second, iv x2, iv x9, iv x16, iv x23, iv x30, iv x37, .unset, .unset, .unset, .unset, .unset, .unset, .unset, .unset, .unset, .unset, .unset, .unset, .unset, .unset, .unset, .unset] [(.int (pi0 &&& (64 : Int32)))])) t := fun t kt => kt
    subst hx44
    by_cases hm85_46 : (pi0 &&& (64 : Int32)) = (0 : Int32)
    · have pre47 : ∀ t, Steps p.tables e below (T38.setTop (mkF m 93 #[iv pi0, iv pi1, iv pi2, jv pj3, .second, jv pj4, .second, jv pj5, .second, iv x2, iv x9, iv x16, iv x23, iv x30, iv x37, .unset, .unset, .unset, .unset, .unset, .unset, .unset, .unset, .unset, .unset, .unset, .unset, .unset, .unset, .unset, .unset] [(.int (0 : Int32))])) t → Steps p.tables e below (T38.setTop (mkF m 85 #[iv pi0, iv pi1, iv pi2, jv pj3, .second, jv pj4, .second, jv pj5, .second, iv x2, iv x9, iv x16, iv x23, iv x30, iv x37, .unset, .unset, .unset, .unset, .unset, .unset, .unset, .unset, .unset, .unset, .unset, .unset, .unset, .unset, .unset, .unset] [(.int (pi0 &&& (64 : Int32)))])) t := fun t kt => pre45_ t (by
          refine y_ifYes X38.here hx (hb hby at_85) ((if0 _ _).trans (teq hm85_46).1) (pc' := 92) (by decide) rfl ?_
          refine y_iconst X38.here hx (hb hby at_92) (v := (0 : Int32)) rfl (pc' := 93) rfl ?_
          exact kt)
      refine ⟨T38, ⟨X38, e38.trans e38.symm⟩, fun t kt => pre47 t ?_⟩
      (try simp only [if_pos hm85_46] at kt)
      exact kt
    · have pre48 : ∀ t, Steps p.tables e below (T38.setTop (mkF m 93 #[iv pi0, iv pi1, iv pi2, jv pj3, .second, jv pj4, .second, jv pj5, .second, iv x2, iv x9, iv x16, iv x23, iv x30, iv x37, .unset, .unset, .unset, .unset, .unset, .unset, .unset, .unset, .unset, .unset, .unset, .unset, .unset, .unset, .unset, .unset] [(.int (1 : Int32))])) t → Steps p.tables e below (T38.setTop (mkF m 85 #[iv pi0, iv pi1, iv pi2, jv pj3, .second, jv pj4, .second, jv pj5, .second, iv x2, iv x9, iv x16, iv x23, iv x30, iv x37, .unset, .unset, .unset, .unset, .unset, .unset, .unset, .unset, .unset, .unset, .unset, .unset, .unset, .unset, .unset, .unset] [(.int (pi0 &&& (64 : Int32)))])) t := fun t kt => pre45_ t (by
          refine y_ifNo X38.here hx (hb hby at_85) ((if0 _ _).trans (feq hm85_46).1) (pc' := 88) rfl ?_
          refine y_iconst X38.here hx (hb hby at_88) (v := (1 : Int32)) rfl (pc' := 89) rfl ?_
          refine y_goto X38.here hx (hb hby at_89) (pc' := 93) (by decide) rfl ?_
          exact kt)
      refine ⟨T38, ⟨X38, e38.trans e38.symm⟩, fun t kt => pre48 t ?_⟩
      (try simp only [if_neg hm85_46] at kt)
      exact kt
  have e45 : T45.heap = h0 := q45.trans e38
  have pre49 : ∀ t, Steps p.tables e below (T45.setTop (mkF m 93 #[iv pi0, iv pi1, iv pi2, jv pj3, .second, jv pj4, .second, jv pj5, .second, iv x2, iv x9, iv x16, iv x23, iv x30, iv x37, .unset, .unset, .unset, .unset, .unset, .unset, .unset, .unset, .unset, .unset, .unset, .unset, .unset, .unset, .unset, .unset] [(.int x44)])) t → Go t := fun t kt => pre43 t (st45 t kt)
  obtain ⟨x50, hx50⟩ : ∃ z : Int32, z = ((1 : Int32) + (pi1 &&& (15 : Int32))) := ⟨_, rfl⟩
  have pre51 : ∀ t, Steps p.tables e below (T45.setTop (mkF m 103 #[iv pi0, iv pi1, iv pi2, jv pj3, .second, jv pj4, .second, jv pj5, .second, iv x2, iv x9, iv x16, iv x23, iv x30, iv x37, iv x44, iv x50, .unset, .unset, .unset, .unset, .unset, .unset, .unset, .unset, .unset, .unset, .unset, .unset, .unset, .unset] [])) t → Go t := fun t kt => pre49 t (by
      subst hx50
      refine y_istore X45.here hx (hb hby at_93) (l' := #[iv pi0, iv pi1, iv pi2, jv pj3, .second, jv pj4, .second, jv pj5, .second, iv x2, iv x9, iv x16, iv x23, iv x30, iv x37, iv x44, .unset, .unset, .unset, .unset, .unset, .unset, .unset, .unset, .unset, .unset, .unset, .unset, .unset, .unset, .unset]) rfl (pc' := 95) rfl ?_
      refine y_iconst X45.here hx (hb hby at_95) (v := (1 : Int32)) rfl (pc' := 96) rfl ?_
      refine y_iloadN X45.here hx (hb hby at_96) rfl (pc' := 97) rfl ?_
      refine y_bipush X45.here hx (hb hby at_97) (v := (15 : Int32)) rfl (pc' := 99) rfl ?_
      refine y_iand X45.here hx (hb hby at_99) rfl (pc' := 100) rfl ?_
      refine y_iadd X45.here hx (hb hby at_100) rfl (pc' := 101) rfl ?_
      refine y_istore X45.here hx (hb hby at_101) (l' := #[iv pi0, iv pi1, iv pi2, jv pj3, .second, jv pj4, .second, jv pj5, .second, iv x2, iv x9, iv x16, iv x23, iv x30, iv x37, iv x44, iv ((1 : Int32) + (pi1 &&& (15 : Int32))), .unset, .unset, .unset, .unset, .unset, .unset, .unset, .unset, .unset, .unset, .unset, .unset, .unset, .unset]) rfl (pc' := 103) rfl ?_
      exact kt)
  obtain ⟨x52, hx52⟩ : ∃ z : Int32, z = ((1 : Int32) + (((pi1.toUInt32 >>> ((4 : Int32) &&& 31).toUInt32).toInt32) &&& (15 : Int32))) := ⟨_, rfl⟩
  have pre53 : ∀ t, Steps p.tables e below (T45.setTop (mkF m 113 #[iv pi0, iv pi1, iv pi2, jv pj3, .second, jv pj4, .second, jv pj5, .second, iv x2, iv x9, iv x16, iv x23, iv x30, iv x37, iv x44, iv x50, iv x52, .unset, .unset, .unset, .unset, .unset, .unset, .unset, .unset, .unset, .unset, .unset, .unset, .unset] [])) t → Go t := fun t kt => pre51 t (by
      subst hx52
      refine y_iconst X45.here hx (hb hby at_103) (v := (1 : Int32)) rfl (pc' := 104) rfl ?_
      refine y_iloadN X45.here hx (hb hby at_104) rfl (pc' := 105) rfl ?_
      refine y_iconst X45.here hx (hb hby at_105) (v := (4 : Int32)) rfl (pc' := 106) rfl ?_
      refine y_iushr X45.here hx (hb hby at_106) (z := ((pi1.toUInt32 >>> ((4 : Int32) &&& 31).toUInt32).toInt32)) rfl (pc' := 107) rfl ?_
      refine y_bipush X45.here hx (hb hby at_107) (v := (15 : Int32)) rfl (pc' := 109) rfl ?_
      refine y_iand X45.here hx (hb hby at_109) rfl (pc' := 110) rfl ?_
      refine y_iadd X45.here hx (hb hby at_110) rfl (pc' := 111) rfl ?_
      refine y_istore X45.here hx (hb hby at_111) (l' := #[iv pi0, iv pi1, iv pi2, jv pj3, .second, jv pj4, .second, jv pj5, .second, iv x2, iv x9, iv x16, iv x23, iv x30, iv x37, iv x44, iv x50, iv ((1 : Int32) + (((pi1.toUInt32 >>> ((4 : Int32) &&& 31).toUInt32).toInt32) &&& (15 : Int32))), .unset, .unset, .unset, .unset, .unset, .unset, .unset, .unset, .unset, .unset, .unset, .unset, .unset]) rfl (pc' := 113) rfl ?_
      exact kt)
  have pre54 : ∀ t, Steps p.tables e below (T45.setTop (mkF m 115 #[iv pi0, iv pi1, iv pi2, jv pj3, .second, jv pj4, .second, jv pj5, .second, iv x2, iv x9, iv x16, iv x23, iv x30, iv x37, iv x44, iv x50, iv x52, .unset, .unset, .unset, .unset, .unset, .unset, .unset, .unset, .unset, .unset, .unset, .unset, .unset] [(.int x37)])) t → Go t := fun t kt => pre53 t (by
      refine y_iload X45.here hx (hb hby at_113) rfl (pc' := 115) rfl ?_
      exact kt)
  obtain ⟨x55, hx55⟩ : ∃ z : Int32, z = (if x37 = (0 : Int32) then pi2 else x50) := ⟨_, rfl⟩
  obtain ⟨T56, ⟨X56, q56⟩, st56⟩ : ∃ T', Nx X45 T' ∧ ∀ t, Steps p.tables e below (T'.setTop (mkF m 124 #[iv pi0, iv pi1, iv pi2, jv pj3, .second, jv pj4, .second, jv pj5, .second, iv x2, iv x9, iv x16, iv x23, iv x30, iv x37, iv x44, iv x50, iv x52, .unset, .unset, .unset, .unset, .unset, .unset, .unset, .unset, .unset, .unset, .unset, .unset, .unset] [(.int x55)])) t → Steps p.tables e below (T45.setTop (mkF m 115 #[iv pi0, iv pi1, iv pi2, jv pj3, .second, jv pj4, .second, jv pj5, .second, iv x2, iv x9, iv x16, iv x23, iv x30, iv x37, iv x44, iv x50, iv x52, .unset, .unset, .unset, .unset, .unset, .unset, .unset, .unset, .unset, .unset, .unset, .unset, .unset] [(.int x37)])) t := by
    have pre56_ : ∀ t, Steps p.tables e below (T45.setTop (mkF m 115 #[iv pi0, iv pi1, iv pi2, jv pj3, .second, jv pj4, .second, jv pj5, .second, iv x2, iv x9, iv x16, iv x23, iv x30, iv x37, iv x44, iv x50, iv x52, .unset, .unset, .unset, .unset, .unset, .unset, .unset, .unset, .unset, .unset, .unset, .unset, .unset] [(.int x37)])) t → Steps p.tables e below (T45.setTop (mkF m 115 #[iv pi0, iv pi1, iv pi2, jv pj3, .second, jv pj4, .second, jv pj5, .second, iv x2, iv x9, iv x16, iv x23, iv x30, iv x37, iv x44, iv x50, iv x52, .unset, .unset, .unset, .unset, .unset, .unset, .unset, .unset, .unset, .unset, .unset, .unset, .unset] [(.int x37)])) t := fun t kt => kt
    subst hx55
    by_cases hm115_57 : x37 = (0 : Int32)
    · have pre58 : ∀ t, Steps p.tables e below (T45.setTop (mkF m 124 #[iv pi0, iv pi1, iv pi2, jv pj3, .second, jv pj4, .second, jv pj5, .second, iv x2, iv x9, iv x16, iv x23, iv x30, iv x37, iv x44, iv x50, iv x52, .unset, .unset, .unset, .unset, .unset, .unset, .unset, .unset, .unset, .unset, .unset, .unset, .unset] [(.int pi2)])) t → Steps p.tables e below (T45.setTop (mkF m 115 #[iv pi0, iv pi1, iv pi2, jv pj3, .second, jv pj4, .second, jv pj5, .second, iv x2, iv x9, iv x16, iv x23, iv x30, iv x37, iv x44, iv x50, iv x52, .unset, .unset, .unset, .unset, .unset, .unset, .unset, .unset, .unset, .unset, .unset, .unset, .unset] [(.int x37)])) t := fun t kt => pre56_ t (by
          refine y_ifYes X45.here hx (hb hby at_115) ((if0 _ _).trans (teq hm115_57).1) (pc' := 123) (by decide) rfl ?_
          refine y_iloadN X45.here hx (hb hby at_123) rfl (pc' := 124) rfl ?_
          exact kt)
      refine ⟨T45, ⟨X45, e45.trans e45.symm⟩, fun t kt => pre58 t ?_⟩
      (try simp only [if_pos hm115_57] at kt)
      exact kt
    · have pre59 : ∀ t, Steps p.tables e below (T45.setTop (mkF m 124 #[iv pi0, iv pi1, iv pi2, jv pj3, .second, jv pj4, .second, jv pj5, .second, iv x2, iv x9, iv x16, iv x23, iv x30, iv x37, iv x44, iv x50, iv x52, .unset, .unset, .unset, .unset, .unset, .unset, .unset, .unset, .unset, .unset, .unset, .unset, .unset] [(.int x50)])) t → Steps p.tables e below (T45.setTop (mkF m 115 #[iv pi0, iv pi1, iv pi2, jv pj3, .second, jv pj4, .second, jv pj5, .second, iv x2, iv x9, iv x16, iv x23, iv x30, iv x37, iv x44, iv x50, iv x52, .unset, .unset, .unset, .unset, .unset, .unset, .unset, .unset, .unset, .unset, .unset, .unset, .unset] [(.int x37)])) t := fun t kt => pre56_ t (by
          refine y_ifNo X45.here hx (hb hby at_115) ((if0 _ _).trans (feq hm115_57).1) (pc' := 118) rfl ?_
          refine y_iload X45.here hx (hb hby at_118) rfl (pc' := 120) rfl ?_
          refine y_goto X45.here hx (hb hby at_120) (pc' := 124) (by decide) rfl ?_
          exact kt)
      refine ⟨T45, ⟨X45, e45.trans e45.symm⟩, fun t kt => pre59 t ?_⟩
      (try simp only [if_neg hm115_57] at kt)
      exact kt
  have e56 : T56.heap = h0 := q56.trans e45
  have pre60 : ∀ t, Steps p.tables e below (T56.setTop (mkF m 124 #[iv pi0, iv pi1, iv pi2, jv pj3, .second, jv pj4, .second, jv pj5, .second, iv x2, iv x9, iv x16, iv x23, iv x30, iv x37, iv x44, iv x50, iv x52, .unset, .unset, .unset, .unset, .unset, .unset, .unset, .unset, .unset, .unset, .unset, .unset, .unset] [(.int x55)])) t → Go t := fun t kt => pre54 t (st56 t kt)
  have pre61 : ∀ t, Steps p.tables e below (T56.setTop (mkF m 128 #[iv pi0, iv pi1, iv pi2, jv pj3, .second, jv pj4, .second, jv pj5, .second, iv x2, iv x9, iv x16, iv x23, iv x30, iv x37, iv x44, iv x50, iv x52, iv x55, .unset, .unset, .unset, .unset, .unset, .unset, .unset, .unset, .unset, .unset, .unset, .unset] [(.int x44)])) t → Go t := fun t kt => pre60 t (by
      refine y_istore X56.here hx (hb hby at_124) (l' := #[iv pi0, iv pi1, iv pi2, jv pj3, .second, jv pj4, .second, jv pj5, .second, iv x2, iv x9, iv x16, iv x23, iv x30, iv x37, iv x44, iv x50, iv x52, iv x55, .unset, .unset, .unset, .unset, .unset, .unset, .unset, .unset, .unset, .unset, .unset, .unset]) rfl (pc' := 126) rfl ?_
      refine y_iload X56.here hx (hb hby at_126) rfl (pc' := 128) rfl ?_
      exact kt)
  obtain ⟨x62, hx62⟩ : ∃ z : Int32, z = (if x44 = (0 : Int32) then pi2 else x52) := ⟨_, rfl⟩
  obtain ⟨T63, ⟨X63, q63⟩, st63⟩ : ∃ T', Nx X56 T' ∧ ∀ t, Steps p.tables e below (T'.setTop (mkF m 137 #[iv pi0, iv pi1, iv pi2, jv pj3, .second, jv pj4, .second, jv pj5, .second, iv x2, iv x9, iv x16, iv x23, iv x30, iv x37, iv x44, iv x50, iv x52, iv x55, .unset, .unset, .unset, .unset, .unset, .unset, .unset, .unset, .unset, .unset, .unset, .unset] [(.int x62)])) t → Steps p.tables e below (T56.setTop (mkF m 128 #[iv pi0, iv pi1, iv pi2, jv pj3, .second, jv pj4, .second, jv pj5, .second, iv x2, iv x9, iv x16, iv x23, iv x30, iv x37, iv x44, iv x50, iv x52, iv x55, .unset, .unset, .unset, .unset, .unset, .unset, .unset, .unset, .unset, .unset, .unset, .unset] [(.int x44)])) t := by
    have pre63_ : ∀ t, Steps p.tables e below (T56.setTop (mkF m 128 #[iv pi0, iv pi1, iv pi2, jv pj3, .second, jv pj4, .second, jv pj5, .second, iv x2, iv x9, iv x16, iv x23, iv x30, iv x37, iv x44, iv x50, iv x52, iv x55, .unset, .unset, .unset, .unset, .unset, .unset, .unset, .unset, .unset, .unset, .unset, .unset] [(.int x44)])) t → Steps p.tables e below (T56.setTop (mkF m 128 #[iv pi0, iv pi1, iv pi2, jv pj3, .second, jv pj4, .second, jv pj5, .second, iv x2, iv x9, iv x16, iv x23, iv x30, iv x37, iv x44, iv x50, iv x52, iv x55, .unset, .unset, .unset, .unset, .unset, .unset, .unset, .unset, .unset, .unset, .unset, .unset] [(.int x44)])) t := fun t kt => kt
    subst hx62
    by_cases hm128_64 : x44 = (0 : Int32)
    · have pre65 : ∀ t, Steps p.tables e below (T56.setTop (mkF m 137 #[iv pi0, iv pi1, iv pi2, jv pj3, .second, jv pj4, .second, jv pj5, .second, iv x2, iv x9, iv x16, iv x23, iv x30, iv x37, iv x44, iv x50, iv x52, iv x55, .unset, .unset, .unset, .unset, .unset, .unset, .unset, .unset, .unset, .unset, .unset, .unset] [(.int pi2)])) t → Steps p.tables e below (T56.setTop (mkF m 128 #[iv pi0, iv pi1, iv pi2, jv pj3, .second, jv pj4, .second, jv pj5, .second, iv x2, iv x9, iv x16, iv x23, iv x30, iv x37, iv x44, iv x50, iv x52, iv x55, .unset, .unset, .unset, .unset, .unset, .unset, .unset, .unset, .unset, .unset, .unset, .unset] [(.int x44)])) t := fun t kt => pre63_ t (by
          refine y_ifYes X56.here hx (hb hby at_128) ((if0 _ _).trans (teq hm128_64).1) (pc' := 136) (by decide) rfl ?_
          refine y_iloadN X56.here hx (hb hby at_136) rfl (pc' := 137) rfl ?_
          exact kt)
      refine ⟨T56, ⟨X56, e56.trans e56.symm⟩, fun t kt => pre65 t ?_⟩
      (try simp only [if_pos hm128_64] at kt)
      exact kt
    · have pre66 : ∀ t, Steps p.tables e below (T56.setTop (mkF m 137 #[iv pi0, iv pi1, iv pi2, jv pj3, .second, jv pj4, .second, jv pj5, .second, iv x2, iv x9, iv x16, iv x23, iv x30, iv x37, iv x44, iv x50, iv x52, iv x55, .unset, .unset, .unset, .unset, .unset, .unset, .unset, .unset, .unset, .unset, .unset, .unset] [(.int x52)])) t → Steps p.tables e below (T56.setTop (mkF m 128 #[iv pi0, iv pi1, iv pi2, jv pj3, .second, jv pj4, .second, jv pj5, .second, iv x2, iv x9, iv x16, iv x23, iv x30, iv x37, iv x44, iv x50, iv x52, iv x55, .unset, .unset, .unset, .unset, .unset, .unset, .unset, .unset, .unset, .unset, .unset, .unset] [(.int x44)])) t := fun t kt => pre63_ t (by
          refine y_ifNo X56.here hx (hb hby at_128) ((if0 _ _).trans (feq hm128_64).1) (pc' := 131) rfl ?_
          refine y_iload X56.here hx (hb hby at_131) rfl (pc' := 133) rfl ?_
          refine y_goto X56.here hx (hb hby at_133) (pc' := 137) (by decide) rfl ?_
          exact kt)
      refine ⟨T56, ⟨X56, e56.trans e56.symm⟩, fun t kt => pre66 t ?_⟩
      (try simp only [if_neg hm128_64] at kt)
      exact kt
  have e63 : T63.heap = h0 := q63.trans e56
  have pre67 : ∀ t, Steps p.tables e below (T63.setTop (mkF m 137 #[iv pi0, iv pi1, iv pi2, jv pj3, .second, jv pj4, .second, jv pj5, .second, iv x2, iv x9, iv x16, iv x23, iv x30, iv x37, iv x44, iv x50, iv x52, iv x55, .unset, .unset, .unset, .unset, .unset, .unset, .unset, .unset, .unset, .unset, .unset, .unset] [(.int x62)])) t → Go t := fun t kt => pre61 t (st63 t kt)
  have pre68 : ∀ t, Steps p.tables e below (T63.setTop (mkF m 139 #[iv pi0, iv pi1, iv pi2, jv pj3, .second, jv pj4, .second, jv pj5, .second, iv x2, iv x9, iv x16, iv x23, iv x30, iv x37, iv x44, iv x50, iv x52, iv x55, iv x62, .unset, .unset, .unset, .unset, .unset, .unset, .unset, .unset, .unset, .unset, .unset] [])) t → Go t := fun t kt => pre67 t (by
      refine y_istore X63.here hx (hb hby at_137) (l' := #[iv pi0, iv pi1, iv pi2, jv pj3, .second, jv pj4, .second, jv pj5, .second, iv x2, iv x9, iv x16, iv x23, iv x30, iv x37, iv x44, iv x50, iv x52, iv x55, iv x62, .unset, .unset, .unset, .unset, .unset, .unset, .unset, .unset, .unset, .unset, .unset]) rfl (pc' := 139) rfl ?_
      exact kt)
  have B1 : 1 ≤ x50.toInt ∧ x50.toInt ≤ 16 := by rw [hx50]; exact own_c _
  have B2 : 1 ≤ x52.toInt ∧ x52.toInt ≤ 16 := by rw [hx52]; exact own_c _
  obtain ⟨T69, h69, X69, e69, E69, A69, D69, -, st69⟩ := newO X63 hx hZ hown (hw _ (List.mem_of_getElem? (i := 0) rfl)) (hw _ (List.mem_of_getElem? (i := 1) rfl)) (hw _ (List.mem_of_getElem? (i := 2) rfl)) e63 (g := (mkF m 139 #[iv pi0, iv pi1, iv pi2, jv pj3, .second, jv pj4, .second, jv pj5, .second, iv x2, iv x9, iv x16, iv x23, iv x30, iv x37, iv x44, iv x50, iv x52, iv x55, iv x62, .unset, .unset, .unset, .unset, .unset, .unset, .unset, .unset, .unset, .unset, .unset] [])) rfl (hb hby at_139) (by decide) (by decide)
  obtain ⟨b69, g69⟩ : ∃ z, z = h0.size := ⟨_, rfl⟩
  rw [← g69] at A69 D69 st69
  have pre70 : ∀ t, Steps p.tables e below (T69.setTop (mkF m 142 #[iv pi0, iv pi1, iv pi2, jv pj3, .second, jv pj4, .second, jv pj5, .second, iv x2, iv x9, iv x16, iv x23, iv x30, iv x37, iv x44, iv x50, iv x52, iv x55, iv x62, .unset, .unset, .unset, .unset, .unset, .unset, .unset, .unset, .unset, .unset, .unset] [(.ref b69)])) t → Go t := fun t kt => pre68 t (st69 t kt)
  have G71 : n0 ≤ b69 := Nat.le_trans (O0.1 ▸ O0.2.1) (Nat.le_of_eq g69.symm)
  have O71 := O0.ext E69
  have f72 : Fld Z h69 b69 "com/example/roamd/roamd/net/DelayedAck" "urgent" "Z" (.int (0 : Int32)) := D69 (Or.inl (hw _ (List.mem_of_getElem? (i := 15) rfl))) (ty := .boolean) (by decide)
  have f73 : Fld Z h69 b69 "com/example/roamd/roamd/net/DelayedAck" "waiting" "I" (.int (0 : Int32)) := D69 (Or.inl (hw _ (List.mem_of_getElem? (i := 17) rfl))) (ty := .int) (by decide)
  have f74 : Fld Z h69 b69 "com/example/roamd/roamd/net/DelayedAck" "firstAt" "J" (.long (0 : Int64)) := D69 (Or.inl (hw _ (List.mem_of_getElem? (i := 24) rfl))) (ty := .long) (by decide)
  have f75 : Fld Z h69 b69 "com/example/roamd/roamd/net/DelayedAck" "arrivedBefore" "Z" (.int (0 : Int32)) := D69 (Or.inl (hw _ (List.mem_of_getElem? (i := 26) rfl))) (ty := .boolean) (by decide)
  have f76 : Fld Z h69 b69 "com/example/roamd/roamd/net/DelayedAck" "holdNanos" "J" (.long (0 : Int64)) := D69 (Or.inl (hw _ (List.mem_of_getElem? (i := 30) rfl))) (ty := .long) (by decide)
  have f77 : Fld Z h69 b69 "com/example/roamd/roamd/net/DelayedAck" "lastArrivedAt" "J" (.long (0 : Int64)) := D69 (Or.inl (hw _ (List.mem_of_getElem? (i := 32) rfl))) (ty := .long) (by decide)
  have pre78 : ∀ t, Steps p.tables e below (T69.setTop (mkF m 143 #[iv pi0, iv pi1, iv pi2, jv pj3, .second, jv pj4, .second, jv pj5, .second, iv x2, iv x9, iv x16, iv x23, iv x30, iv x37, iv x44, iv x50, iv x52, iv x55, iv x62, .unset, .unset, .unset, .unset, .unset, .unset, .unset, .unset, .unset, .unset, .unset] [(.ref b69), (.ref b69)])) t → Go t := fun t kt => pre70 t (by
      refine y_dup X69.here hx (hb hby at_142) rfl (pc' := 143) rfl ?_
      exact kt)
  obtain ⟨v79, _, ⟨T79, L79, k79, n79⟩, -, X79, ⟨Lc79, hQ79, l79, y79, z79⟩, st79⟩ := X69.specialBack hx (y := (⟨"com/example/roamd/roamd/net/DelayedAck", "<init>", "()V"⟩ : MethodName)) rfl hown (mvT hZ (hw _ (List.mem_of_getElem? (i := 3) rfl))) (mvT hZ (hw _ (List.mem_of_getElem? (i := 4) rfl))) (mvT hZ (hw _ (List.mem_of_getElem? (i := 5) rfl))) (by decide) (backOf (W := 1) (rm1 l Z a0 hw [] b69 h69 n0 O71 A69) hZ (hw _ (List.mem_of_getElem? (i := 5) rfl)) (hw _ (List.mem_of_getElem? (i := 2) rfl)) (by decide) (by decide)) (g := (mkF m 143 #[iv pi0, iv pi1, iv pi2, jv pj3, .second, jv pj4, .second, jv pj5, .second, iv x2, iv x9, iv x16, iv x23, iv x30, iv x37, iv x44, iv x50, iv x52, iv x55, iv x62, .unset, .unset, .unset, .unset, .unset, .unset, .unset, .unset, .unset, .unset, .unset] [(.ref b69), (.ref b69)])) rfl (by rw [hml]; rfl) (Steps.refl _) (a := b69) (argsL := []) (rest := [(.ref b69)]) (lenOf pd___V rfl) rfl (by show 2 * 0 + _ ≤ _; exact Nat.le_of_eq rfl) (hb hby at_143) (fun _ _ => ⟨rfl, e69, (by decide : 1 + 0 ≤ _), (by decide : 6 + 0 ≤ _)⟩)
  dsimp only [Pt.U, Pt.locs, Pt.cells, Pt.slots] at X79 l79 y79 z79 st79 hQ79
  subst l79 y79 z79
  obtain ⟨hv79, N79q, e79q⟩ := hQ79
  have N80 := Fr.app N0 N79q
  subst hv79
  have pre81 : ∀ t, Steps p.tables e below (T79.setTop (mkF m 146 #[iv pi0, iv pi1, iv pi2, jv pj3, .second, jv pj4, .second, jv pj5, .second, iv x2, iv x9, iv x16, iv x23, iv x30, iv x37, iv x44, iv x50, iv x52, iv x55, iv x62, .unset, .unset, .unset, .unset, .unset, .unset, .unset, .unset, .unset, .unset, .unset] [(.ref b69)])) t → Go t := fun t kt => pre78 t (st79.trans kt)
  have pre82 : ∀ t, Steps p.tables e below (T79.setTop (mkF m 150 #[iv pi0, iv pi1, iv pi2, jv pj3, .second, jv pj4, .second, jv pj5, .second, iv x2, iv x9, iv x16, iv x23, iv x30, iv x37, iv x44, iv x50, iv x52, iv x55, iv x62, rv b69, .unset, .unset, .unset, .unset, .unset, .unset, .unset, .unset, .unset, .unset] [(.int x2)])) t → Go t := fun t kt => pre81 t (by
      refine y_astore X79.here hx (hb hby at_146) rfl (l' := #[iv pi0, iv pi1, iv pi2, jv pj3, .second, jv pj4, .second, jv pj5, .second, iv x2, iv x9, iv x16, iv x23, iv x30, iv x37, iv x44, iv x50, iv x52, iv x55, iv x62, rv b69, .unset, .unset, .unset, .unset, .unset, .unset, .unset, .unset, .unset, .unset]) rfl (pc' := 148) rfl ?_
      refine y_iload X79.here hx (hb hby at_148) rfl (pc' := 150) rfl ?_
      exact kt)
  by_cases hc150_83 : x2 = (0 : Int32)
  · have pre84 : ∀ t, Steps p.tables e below (T79.setTop (mkF m 177 #[iv pi0, iv pi1, iv pi2, jv pj3, .second, jv pj4, .second, jv pj5, .second, iv x2, iv x9, iv x16, iv x23, iv x30, iv x37, iv x44, iv x50, iv x52, iv x55, iv x62, rv b69, .unset, .unset, .unset, .unset, .unset, .unset, .unset, .unset, .unset, .unset] [(.int x16)])) t → Go t := fun t kt => pre82 t (by
        refine y_ifYes X79.here hx (hb hby at_150) ((if0 _ _).trans (teq hc150_83).1) (pc' := 175) (by decide) rfl ?_
        refine y_iload X79.here hx (hb hby at_175) rfl (pc' := 177) rfl ?_
        exact kt)
    by_cases hc177_85 : x16 = (0 : Int32)
    · have pre86 : ∀ t, Steps p.tables e below (T79.setTop (mkF m 197 #[iv pi0, iv pi1, iv pi2, jv pj3, .second, jv pj4, .second, jv pj5, .second, iv x2, iv x9, iv x16, iv x23, iv x30, iv x37, iv x44, iv x50, iv x52, iv x55, iv x62, rv b69, .unset, .unset, .unset, .unset, .unset, .unset, .unset, .unset, .unset, .unset] [(.long pj5), (.ref b69)])) t → Go t := fun t kt => pre84 t (by
          refine y_ifYes X79.here hx (hb hby at_177) ((if0 _ _).trans (teq hc177_85).1) (pc' := 193) (by decide) rfl ?_
          refine y_aload X79.here hx (hb hby at_193) rfl rfl (pc' := 195) rfl ?_
          refine y_lload X79.here hx (hb hby at_195) rfl (pc' := 197) rfl ?_
          exact kt)
      obtain ⟨cq87, kq87, q87a, q87b, q87c⟩ := isOf hZ e79q A69
      obtain ⟨v87, _, ⟨T87, L87, k87, n87⟩, -, X87, ⟨Lc87, hQ87, l87, y87, z87⟩, st87⟩ := X79.virtualBack hx (y := (⟨"com/example/roamd/roamd/net/DelayedAck", "due", "(J)Z"⟩ : MethodName)) (z := (⟨"com/example/roamd/roamd/net/DelayedAck", "due", "(J)Z"⟩ : MethodName)) hown (mvT hZ (hw _ (List.mem_of_getElem? (i := 9) rfl))) (mvT hZ (hw _ (List.mem_of_getElem? (i := 10) rfl))) (notFace_of_selects (args := #[]) (mvT hZ (hw _ (List.mem_of_getElem? (i := 12) rfl)))) (mvT hZ (hw _ (List.mem_of_getElem? (i := 12) rfl))) (mvT hZ (hw _ (List.mem_of_getElem? (i := 11) rfl))) (by decide) (backOf (W := 0) (rm3 l Z a0 hw [] b69 pj5 (0 : Int32) (0 : Int64) (0 : Int64) (0 : Int32) h69 n0 O71 A69 f73 f74 f76 f72) hZ (hw _ (List.mem_of_getElem? (i := 13) rfl)) (hw _ (List.mem_of_getElem? (i := 2) rfl)) (by decide) (by decide)) q87a q87c (g := (mkF m 197 #[iv pi0, iv pi1, iv pi2, jv pj3, .second, jv pj4, .second, jv pj5, .second, iv x2, iv x9, iv x16, iv x23, iv x30, iv x37, iv x44, iv x50, iv x52, iv x55, iv x62, rv b69, .unset, .unset, .unset, .unset, .unset, .unset, .unset, .unset, .unset, .unset] [(.long pj5), (.ref b69)])) rfl (by rw [hml]; rfl) (Steps.refl _) (argsL := [(.long pj5)]) (rest := []) (lenOf pd__J_Z rfl) rfl (by show 2 * 0 + _ ≤ _; exact Nat.le_of_eq rfl) (hb hby at_197) (fun _ _ => ⟨rfl, e79q, (by decide : 1 + 0 ≤ _), (by decide : 6 + 0 ≤ _)⟩)
      dsimp only [Pt.U, Pt.locs, Pt.cells, Pt.slots] at X87 l87 y87 z87 st87 hQ87
      subst l87 y87 z87
      obtain ⟨hv87, N87q, e87q⟩ := hQ87
      have N88 := Fr.app N80 N87q
      have hw87 : v87 = some (.int (0 : Int32)) := by rw [hv87, if_pos (rfl : (0 : Int32) = (0 : Int32)), if_neg (by decide : ¬ ((0 : Int32) < (0 : Int32)))]
      subst hw87
      have pre89 : ∀ t, Steps p.tables e below (T87.setTop (mkF m 200 #[iv pi0, iv pi1, iv pi2, jv pj3, .second, jv pj4, .second, jv pj5, .second, iv x2, iv x9, iv x16, iv x23, iv x30, iv x37, iv x44, iv x50, iv x52, iv x55, iv x62, rv b69, .unset, .unset, .unset, .unset, .unset, .unset, .unset, .unset, .unset, .unset] [(.int (0 : Int32))])) t → Go t := fun t kt => pre86 t (st87.trans kt)
      have pre90 : ∀ t, Steps p.tables e below (T87.setTop (mkF m 396 #[iv pi0, iv pi1, iv pi2, jv pj3, .second, jv pj4, .second, jv pj5, .second, iv x2, iv x9, iv x16, iv x23, iv x30, iv x37, iv x44, iv x50, iv x52, iv x55, iv x62, rv b69, iv (0 : Int32), iv (0 : Int32), iv x16, iv (0 : Int32), iv (0 : Int32), iv (0 : Int32), .unset, .unset, .unset, .unset] [(.int (1 : Int32))])) t → Go t := fun t kt => pre89 t (by
          refine y_istore X87.here hx (hb hby at_200) (l' := #[iv pi0, iv pi1, iv pi2, jv pj3, .second, jv pj4, .second, jv pj5, .second, iv x2, iv x9, iv x16, iv x23, iv x30, iv x37, iv x44, iv x50, iv x52, iv x55, iv x62, rv b69, iv (0 : Int32), .unset, .unset, .unset, .unset, .unset, .unset, .unset, .unset, .unset]) rfl (pc' := 202) rfl ?_
          refine y_iload X87.here hx (hb hby at_202) rfl (pc' := 204) rfl ?_
          refine y_ifYes X87.here hx (hb hby at_204) ((if0 _ _).trans (teq hc150_83).1) (pc' := 216) (by decide) rfl ?_
          refine y_iconst X87.here hx (hb hby at_216) (v := (0 : Int32)) rfl (pc' := 217) rfl ?_
          refine y_istore X87.here hx (hb hby at_217) (l' := #[iv pi0, iv pi1, iv pi2, jv pj3, .second, jv pj4, .second, jv pj5, .second, iv x2, iv x9, iv x16, iv x23, iv x30, iv x37, iv x44, iv x50, iv x52, iv x55, iv x62, rv b69, iv (0 : Int32), iv (0 : Int32), .unset, .unset, .unset, .unset, .unset, .unset, .unset, .unset]) rfl (pc' := 219) rfl ?_
          refine y_iload X87.here hx (hb hby at_219) rfl (pc' := 221) rfl ?_
          refine y_istore X87.here hx (hb hby at_221) (l' := #[iv pi0, iv pi1, iv pi2, jv pj3, .second, jv pj4, .second, jv pj5, .second, iv x2, iv x9, iv x16, iv x23, iv x30, iv x37, iv x44, iv x50, iv x52, iv x55, iv x62, rv b69, iv (0 : Int32), iv (0 : Int32), iv x16, .unset, .unset, .unset, .unset, .unset, .unset, .unset]) rfl (pc' := 223) rfl ?_
          refine y_iconst X87.here hx (hb hby at_223) (v := (0 : Int32)) rfl (pc' := 224) rfl ?_
          refine y_istore X87.here hx (hb hby at_224) (l' := #[iv pi0, iv pi1, iv pi2, jv pj3, .second, jv pj4, .second, jv pj5, .second, iv x2, iv x9, iv x16, iv x23, iv x30, iv x37, iv x44, iv x50, iv x52, iv x55, iv x62, rv b69, iv (0 : Int32), iv (0 : Int32), iv x16, iv (0 : Int32), .unset, .unset, .unset, .unset, .unset, .unset]) rfl (pc' := 226) rfl ?_
          refine y_iload X87.here hx (hb hby at_226) rfl (pc' := 228) rfl ?_
          refine y_ifYes X87.here hx (hb hby at_228) ((if0 _ _).trans (teq (rfl : (0 : Int32) = (0 : Int32))).1) (pc' := 238) (by decide) rfl ?_
          refine y_iload X87.here hx (hb hby at_238) rfl (pc' := 240) rfl ?_
          refine y_ifYes X87.here hx (hb hby at_240) ((if0 _ _).trans (teq hc177_85).1) (pc' := 250) (by decide) rfl ?_
          refine y_iconst X87.here hx (hb hby at_250) (v := (0 : Int32)) rfl (pc' := 251) rfl ?_
          refine y_istore X87.here hx (hb hby at_251) (l' := #[iv pi0, iv pi1, iv pi2, jv pj3, .second, jv pj4, .second, jv pj5, .second, iv x2, iv x9, iv x16, iv x23, iv x30, iv x37, iv x44, iv x50, iv x52, iv x55, iv x62, rv b69, iv (0 : Int32), iv (0 : Int32), iv x16, iv (0 : Int32), iv (0 : Int32), .unset, .unset, .unset, .unset, .unset]) rfl (pc' := 253) rfl ?_
          refine y_iload X87.here hx (hb hby at_253) rfl (pc' := 255) rfl ?_
          refine y_ifYes X87.here hx (hb hby at_255) ((if0 _ _).trans (teq (rfl : (0 : Int32) = (0 : Int32))).1) (pc' := 273) (by decide) rfl ?_
          refine y_iload X87.here hx (hb hby at_273) rfl (pc' := 275) rfl ?_
          refine y_ifYes X87.here hx (hb hby at_275) ((if0 _ _).trans (teq hc177_85).1) (pc' := 293) (by decide) rfl ?_
          refine y_iload X87.here hx (hb hby at_293) rfl (pc' := 295) rfl ?_
          refine y_ifNo X87.here hx (hb hby at_295) ((if0 _ _).trans (teq (rfl : (0 : Int32) = (0 : Int32))).2) (pc' := 298) rfl ?_
          refine y_iconst X87.here hx (hb hby at_298) (v := (0 : Int32)) rfl (pc' := 299) rfl ?_
          refine y_istore X87.here hx (hb hby at_299) (l' := #[iv pi0, iv pi1, iv pi2, jv pj3, .second, jv pj4, .second, jv pj5, .second, iv x2, iv x9, iv x16, iv x23, iv x30, iv x37, iv x44, iv x50, iv x52, iv x55, iv x62, rv b69, iv (0 : Int32), iv (0 : Int32), iv x16, iv (0 : Int32), iv (0 : Int32), iv (0 : Int32), .unset, .unset, .unset, .unset]) rfl (pc' := 301) rfl ?_
          refine y_goto X87.here hx (hb hby at_301) (pc' := 384) (by decide) rfl ?_
          refine y_iload X87.here hx (hb hby at_384) rfl (pc' := 386) rfl ?_
          refine y_iload X87.here hx (hb hby at_386) rfl (pc' := 388) rfl ?_
          refine y_icmpNo X87.here hx (hb hby at_388) (teq (rfl : (0 : Int32) = (0 : Int32))).2 (pc' := 391) rfl ?_
          refine y_iconst X87.here hx (hb hby at_391) (v := (1 : Int32)) rfl (pc' := 392) rfl ?_
          refine y_goto X87.here hx (hb hby at_392) (pc' := 396) (by decide) rfl ?_
          exact kt)
      obtain ⟨fs, hr, hrun, hended, hW, hsame⟩ := X87.leave (v := some (.int (1 : Int32))) (fun h => by rw [Bd.returns] at h; cases h)
      refine ⟨_, _, (hGo _).mp (pre90 _ ?_), hrun, hended, _, _, rfl, ?_, ⟨_, rfl⟩, hW, hsame.mono (by decide) (by decide)⟩
      · exact retN X87 hx (t := .boolean) Bd.returns (by simp) (hb hby at_396) hr
      · show Q0 Z pi0 pi1 pi2 pj3 pj4 pj5 h0 n0 _ T87.heap _
        rw [e87q]
        exact ⟨rfl, N88⟩
    · have pre91 : ∀ t, Steps p.tables e below (T79.setTop (mkF m 190 #[iv pi0, iv pi1, iv pi2, jv pj3, .second, jv pj4, .second, jv pj5, .second, iv x2, iv x9, iv x16, iv x23, iv x30, iv x37, iv x44, iv x50, iv x52, iv x55, iv x62, rv b69, .unset, .unset, .unset, .unset, .unset, .unset, .unset, .unset, .unset, .unset] [(.long pj4), (.int x30), (.int x62), (.int x52), (.ref b69)])) t → Go t := fun t kt => pre84 t (by
          refine y_ifNo X79.here hx (hb hby at_177) ((if0 _ _).trans (feq hc177_85).1) (pc' := 180) rfl ?_
          refine y_aload X79.here hx (hb hby at_180) rfl rfl (pc' := 182) rfl ?_
          refine y_iload X79.here hx (hb hby at_182) rfl (pc' := 184) rfl ?_
          refine y_iload X79.here hx (hb hby at_184) rfl (pc' := 186) rfl ?_
          refine y_iload X79.here hx (hb hby at_186) rfl (pc' := 188) rfl ?_
          refine y_lload X79.here hx (hb hby at_188) rfl (pc' := 190) rfl ?_
          exact kt)
      obtain ⟨cq92, kq92, q92a, q92b, q92c⟩ := isOf hZ e79q A69
      obtain ⟨v92, _, ⟨T92, L92, k92, n92⟩, -, X92, ⟨Lc92, hQ92, l92, y92, z92⟩, st92⟩ := X79.virtualBack hx (y := (⟨"com/example/roamd/roamd/net/DelayedAck", "arrived", "(IIZJ)V"⟩ : MethodName)) (z := (⟨"com/example/roamd/roamd/net/DelayedAck", "arrived", "(IIZJ)V"⟩ : MethodName)) hown (mvT hZ (hw _ (List.mem_of_getElem? (i := 18) rfl))) (mvT hZ (hw _ (List.mem_of_getElem? (i := 19) rfl))) (notFace_of_selects (args := #[]) (mvT hZ (hw _ (List.mem_of_getElem? (i := 21) rfl)))) (mvT hZ (hw _ (List.mem_of_getElem? (i := 21) rfl))) (mvT hZ (hw _ (List.mem_of_getElem? (i := 20) rfl))) (by decide) (backOf (W := 0) (rm4 l Z a0 hw [] b69 x52 x62 x30 pj4 (0 : Int32) (0 : Int64) (0 : Int32) (0 : Int64) (0 : Int64) (0 : Int32) h69 n0 O71 S_DELAY_NANOS S_ALONE_DELAY_NANOS A69 f73 f74 f75 f77 f76 f72 G71) hZ (hw _ (List.mem_of_getElem? (i := 22) rfl)) (hw _ (List.mem_of_getElem? (i := 2) rfl)) (by decide) (by decide)) q92a q92c (g := (mkF m 190 #[iv pi0, iv pi1, iv pi2, jv pj3, .second, jv pj4, .second, jv pj5, .second, iv x2, iv x9, iv x16, iv x23, iv x30, iv x37, iv x44, iv x50, iv x52, iv x55, iv x62, rv b69, .unset, .unset, .unset, .unset, .unset, .unset, .unset, .unset, .unset, .unset] [(.long pj4), (.int x30), (.int x62), (.int x52), (.ref b69)])) rfl (by rw [hml]; rfl) (Steps.refl _) (argsL := [(.int x52), (.int x62), (.int x30), (.long pj4)]) (rest := []) (lenOf pd__IIZJ_V rfl) rfl (by show 2 * 0 + _ ≤ _; exact Nat.le_of_eq rfl) (hb hby at_190) (fun _ _ => ⟨rfl, e79q, (by decide : 1 + 0 ≤ _), (by decide : 6 + 0 ≤ _)⟩)
      dsimp only [Pt.U, Pt.locs, Pt.cells, Pt.slots] at X92 l92 y92 z92 st92 hQ92
      subst l92 y92 z92
      obtain ⟨hv92, N92q, K92q, p92_0, p92_1, p92_2, p92_3, p92_4, p92_5⟩ := hQ92
      have N93 := Fr.app N80 N92q
      subst hv92
      have pre94 : ∀ t, Steps p.tables e below (T92.setTop (mkF m 193 #[iv pi0, iv pi1, iv pi2, jv pj3, .second, jv pj4, .second, jv pj5, .second, iv x2, iv x9, iv x16, iv x23, iv x30, iv x37, iv x44, iv x50, iv x52, iv x55, iv x62, rv b69, .unset, .unset, .unset, .unset, .unset, .unset, .unset, .unset, .unset, .unset] [])) t → Go t := fun t kt => pre91 t (st92.trans kt)
      obtain ⟨h92, eh92⟩ : ∃ z, T92.heap = z := ⟨_, rfl⟩
      rw [eh92] at K92q p92_0 p92_1 p92_2 p92_3 p92_4 p92_5
      have f95 : Exa Z h92 b69 "com/example/roamd/roamd/net/DelayedAck" := (A69.keep K92q)
      obtain ⟨x102, hx102⟩ : ∃ z : Int32, z = ((0 : Int32) + x52) := ⟨_, rfl⟩
      rw [← hx102] at p92_0
      rw [if_pos (rfl : (0 : Int32) = (0 : Int32))] at p92_1
      rw [if_pos (rfl : (0 : Int32) = (0 : Int32))] at p92_4
      obtain ⟨x103, hx103⟩ : ∃ z : Int64, z = (if (if (0 : Int32) = (0 : Int32) then (0 : Int32) else (if (700000000 : Int64) < (pj4 - (0 : Int64)) then (0 : Int32) else (1 : Int32))) = (0 : Int32) then (150000000 : Int64) else (700000000 : Int64)) := ⟨_, rfl⟩
      rw [← hx103] at p92_4
      obtain ⟨x104, hx104⟩ : ∃ z : Int32, z = (nar .boolean ((0 : Int32) ||| (if x62 = x52 then (if x30 = (0 : Int32) then (1 : Int32) else (if ((0 : Int32) + x52) < (16 : Int32) then (0 : Int32) else (1 : Int32))) else (1 : Int32)))) := ⟨_, rfl⟩
      rw [← hx104] at p92_5
      have O105 := O71.keep K92q (allS G71 all0)
      have pre106 : ∀ t, Steps p.tables e below (T92.setTop (mkF m 197 #[iv pi0, iv pi1, iv pi2, jv pj3, .second, jv pj4, .second, jv pj5, .second, iv x2, iv x9, iv x16, iv x23, iv x30, iv x37, iv x44, iv x50, iv x52, iv x55, iv x62, rv b69, .unset, .unset, .unset, .unset, .unset, .unset, .unset, .unset, .unset, .unset] [(.long pj5), (.ref b69)])) t → Go t := fun t kt => pre94 t (by
          refine y_aload X92.here hx (hb hby at_193) rfl rfl (pc' := 195) rfl ?_
          refine y_lload X92.here hx (hb hby at_195) rfl (pc' := 197) rfl ?_
          exact kt)
      obtain ⟨cq107, kq107, q107a, q107b, q107c⟩ := isOf hZ eh92 f95
      obtain ⟨v107, _, ⟨T107, L107, k107, n107⟩, -, X107, ⟨Lc107, hQ107, l107, y107, z107⟩, st107⟩ := X92.virtualBack hx (y := (⟨"com/example/roamd/roamd/net/DelayedAck", "due", "(J)Z"⟩ : MethodName)) (z := (⟨"com/example/roamd/roamd/net/DelayedAck", "due", "(J)Z"⟩ : MethodName)) hown (mvT hZ (hw _ (List.mem_of_getElem? (i := 9) rfl))) (mvT hZ (hw _ (List.mem_of_getElem? (i := 10) rfl))) (notFace_of_selects (args := #[]) (mvT hZ (hw _ (List.mem_of_getElem? (i := 12) rfl)))) (mvT hZ (hw _ (List.mem_of_getElem? (i := 12) rfl))) (mvT hZ (hw _ (List.mem_of_getElem? (i := 11) rfl))) (by decide) (backOf (W := 0) (rm3 l Z a0 hw [] b69 pj5 x102 pj4 x103 x104 h92 n0 O105 f95 p92_0 p92_1 p92_4 p92_5) hZ (hw _ (List.mem_of_getElem? (i := 13) rfl)) (hw _ (List.mem_of_getElem? (i := 2) rfl)) (by decide) (by decide)) q107a q107c (g := (mkF m 197 #[iv pi0, iv pi1, iv pi2, jv pj3, .second, jv pj4, .second, jv pj5, .second, iv x2, iv x9, iv x16, iv x23, iv x30, iv x37, iv x44, iv x50, iv x52, iv x55, iv x62, rv b69, .unset, .unset, .unset, .unset, .unset, .unset, .unset, .unset, .unset, .unset] [(.long pj5), (.ref b69)])) rfl (by rw [hml]; rfl) (Steps.refl _) (argsL := [(.long pj5)]) (rest := []) (lenOf pd__J_Z rfl) rfl (by show 2 * 0 + _ ≤ _; exact Nat.le_of_eq rfl) (hb hby at_197) (fun _ _ => ⟨rfl, eh92, (by decide : 1 + 0 ≤ _), (by decide : 6 + 0 ≤ _)⟩)
      dsimp only [Pt.U, Pt.locs, Pt.cells, Pt.slots] at X107 l107 y107 z107 st107 hQ107
      subst l107 y107 z107
      obtain ⟨hv107, N107q, e107q⟩ := hQ107
      have N108 := Fr.app N93 N107q
      have hw107 := hv107
      obtain ⟨x109, hx109⟩ : ∃ z : Int32, z = (if x104 = (0 : Int32) then (if (0 : Int32) < x102 then (if (pj5 - pj4) < x103 then (0 : Int32) else (1 : Int32)) else (0 : Int32)) else (1 : Int32)) := ⟨_, rfl⟩
      rw [← hx109] at hw107
      subst hw107
      have pre110 : ∀ t, Steps p.tables e below (T107.setTop (mkF m 200 #[iv pi0, iv pi1, iv pi2, jv pj3, .second, jv pj4, .second, jv pj5, .second, iv x2, iv x9, iv x16, iv x23, iv x30, iv x37, iv x44, iv x50, iv x52, iv x55, iv x62, rv b69, .unset, .unset, .unset, .unset, .unset, .unset, .unset, .unset, .unset, .unset] [(.int x109)])) t → Go t := fun t kt => pre106 t (st107.trans kt)
      obtain ⟨x111, hx111⟩ : ∃ z : Int32, z = ((0 : Int32) + x52) := ⟨_, rfl⟩
      have pre112 : ∀ t, Steps p.tables e below (T107.setTop (mkF m 250 #[iv pi0, iv pi1, iv pi2, jv pj3, .second, jv pj4, .second, jv pj5, .second, iv x2, iv x9, iv x16, iv x23, iv x30, iv x37, iv x44, iv x50, iv x52, iv x55, iv x62, rv b69, iv x109, iv (0 : Int32), iv x16, iv x111, .unset, .unset, .unset, .unset, .unset, .unset] [])) t → Go t := fun t kt => pre110 t (by
          subst hx111
          refine y_istore X107.here hx (hb hby at_200) (l' := #[iv pi0, iv pi1, iv pi2, jv pj3, .second, jv pj4, .second, jv pj5, .second, iv x2, iv x9, iv x16, iv x23, iv x30, iv x37, iv x44, iv x50, iv x52, iv x55, iv x62, rv b69, iv x109, .unset, .unset, .unset, .unset, .unset, .unset, .unset, .unset, .unset]) rfl (pc' := 202) rfl ?_
          refine y_iload X107.here hx (hb hby at_202) rfl (pc' := 204) rfl ?_
          refine y_ifYes X107.here hx (hb hby at_204) ((if0 _ _).trans (teq hc150_83).1) (pc' := 216) (by decide) rfl ?_
          refine y_iconst X107.here hx (hb hby at_216) (v := (0 : Int32)) rfl (pc' := 217) rfl ?_
          refine y_istore X107.here hx (hb hby at_217) (l' := #[iv pi0, iv pi1, iv pi2, jv pj3, .second, jv pj4, .second, jv pj5, .second, iv x2, iv x9, iv x16, iv x23, iv x30, iv x37, iv x44, iv x50, iv x52, iv x55, iv x62, rv b69, iv x109, iv (0 : Int32), .unset, .unset, .unset, .unset, .unset, .unset, .unset, .unset]) rfl (pc' := 219) rfl ?_
          refine y_iload X107.here hx (hb hby at_219) rfl (pc' := 221) rfl ?_
          refine y_istore X107.here hx (hb hby at_221) (l' := #[iv pi0, iv pi1, iv pi2, jv pj3, .second, jv pj4, .second, jv pj5, .second, iv x2, iv x9, iv x16, iv x23, iv x30, iv x37, iv x44, iv x50, iv x52, iv x55, iv x62, rv b69, iv x109, iv (0 : Int32), iv x16, .unset, .unset, .unset, .unset, .unset, .unset, .unset]) rfl (pc' := 223) rfl ?_
          refine y_iconst X107.here hx (hb hby at_223) (v := (0 : Int32)) rfl (pc' := 224) rfl ?_
          refine y_istore X107.here hx (hb hby at_224) (l' := #[iv pi0, iv pi1, iv pi2, jv pj3, .second, jv pj4, .second, jv pj5, .second, iv x2, iv x9, iv x16, iv x23, iv x30, iv x37, iv x44, iv x50, iv x52, iv x55, iv x62, rv b69, iv x109, iv (0 : Int32), iv x16, iv (0 : Int32), .unset, .unset, .unset, .unset, .unset, .unset]) rfl (pc' := 226) rfl ?_
          refine y_iload X107.here hx (hb hby at_226) rfl (pc' := 228) rfl ?_
          refine y_ifYes X107.here hx (hb hby at_228) ((if0 _ _).trans (teq (rfl : (0 : Int32) = (0 : Int32))).1) (pc' := 238) (by decide) rfl ?_
          refine y_iload X107.here hx (hb hby at_238) rfl (pc' := 240) rfl ?_
          refine y_ifNo X107.here hx (hb hby at_240) ((if0 _ _).trans (feq hc177_85).1) (pc' := 243) rfl ?_
          refine y_iload X107.here hx (hb hby at_243) rfl (pc' := 245) rfl ?_
          refine y_iload X107.here hx (hb hby at_245) rfl (pc' := 247) rfl ?_
          refine y_iadd X107.here hx (hb hby at_247) rfl (pc' := 248) rfl ?_
          refine y_istore X107.here hx (hb hby at_248) (l' := #[iv pi0, iv pi1, iv pi2, jv pj3, .second, jv pj4, .second, jv pj5, .second, iv x2, iv x9, iv x16, iv x23, iv x30, iv x37, iv x44, iv x50, iv x52, iv x55, iv x62, rv b69, iv x109, iv (0 : Int32), iv x16, iv ((0 : Int32) + x52), .unset, .unset, .unset, .unset, .unset, .unset]) rfl (pc' := 250) rfl ?_
          exact kt)
      have pre113 : ∀ t, Steps p.tables e below (T107.setTop (mkF m 282 #[iv pi0, iv pi1, iv pi2, jv pj3, .second, jv pj4, .second, jv pj5, .second, iv x2, iv x9, iv x16, iv x23, iv x30, iv x37, iv x44, iv x50, iv x52, iv x55, iv x62, rv b69, iv x109, iv (0 : Int32), iv x16, iv x111, iv (0 : Int32), .unset, .unset, .unset, .unset, .unset] [(.int x52), (.int x62)])) t → Go t := fun t kt => pre112 t (by
          refine y_iconst X107.here hx (hb hby at_250) (v := (0 : Int32)) rfl (pc' := 251) rfl ?_
          refine y_istore X107.here hx (hb hby at_251) (l' := #[iv pi0, iv pi1, iv pi2, jv pj3, .second, jv pj4, .second, jv pj5, .second, iv x2, iv x9, iv x16, iv x23, iv x30, iv x37, iv x44, iv x50, iv x52, iv x55, iv x62, rv b69, iv x109, iv (0 : Int32), iv x16, iv x111, iv (0 : Int32), .unset, .unset, .unset, .unset, .unset]) rfl (pc' := 253) rfl ?_
          refine y_iload X107.here hx (hb hby at_253) rfl (pc' := 255) rfl ?_
          refine y_ifYes X107.here hx (hb hby at_255) ((if0 _ _).trans (teq (rfl : (0 : Int32) = (0 : Int32))).1) (pc' := 273) (by decide) rfl ?_
          refine y_iload X107.here hx (hb hby at_273) rfl (pc' := 275) rfl ?_
          refine y_ifNo X107.here hx (hb hby at_275) ((if0 _ _).trans (feq hc177_85).1) (pc' := 278) rfl ?_
          refine y_iload X107.here hx (hb hby at_278) rfl (pc' := 280) rfl ?_
          refine y_iload X107.here hx (hb hby at_280) rfl (pc' := 282) rfl ?_
          exact kt)
      obtain ⟨x114, hx114⟩ : ∃ z : Int32, z = (if x62 = x52 then (if x30 = (0 : Int32) then (1 : Int32) else (0 : Int32)) else (1 : Int32)) := ⟨_, rfl⟩
      obtain ⟨T115, ⟨X115, q115⟩, st115⟩ : ∃ T', Nx X107 T' ∧ ∀ t, Steps p.tables e below (T'.setTop (mkF m 293 #[iv pi0, iv pi1, iv pi2, jv pj3, .second, jv pj4, .second, jv pj5, .second, iv x2, iv x9, iv x16, iv x23, iv x30, iv x37, iv x44, iv x50, iv x52, iv x55, iv x62, rv b69, iv x109, iv (0 : Int32), iv x16, iv x111, iv x114, .unset, .unset, .unset, .unset, .unset] [])) t → Steps p.tables e below (T107.setTop (mkF m 282 #[iv pi0, iv pi1, iv pi2, jv pj3, .second, jv pj4, .second, jv pj5, .second, iv x2, iv x9, iv x16, iv x23, iv x30, iv x37, iv x44, iv x50, iv x52, iv x55, iv x62, rv b69, iv x109, iv (0 : Int32), iv x16, iv x111, iv (0 : Int32), .unset, .unset, .unset, .unset, .unset] [(.int x52), (.int x62)])) t := by
        have pre115_ : ∀ t, Steps p.tables e below (T107.setTop (mkF m 282 #[iv pi0, iv pi1, iv pi2, jv pj3, .second, jv pj4, .second, jv pj5, .second, iv x2, iv x9, iv x16, iv x23, iv x30, iv x37, iv x44, iv x50, iv x52, iv x55, iv x62, rv b69, iv x109, iv (0 : Int32), iv x16, iv x111, iv (0 : Int32), .unset, .unset, .unset, .unset, .unset] [(.int x52), (.int x62)])) t → Steps p.tables e below (T107.setTop (mkF m 282 #[iv pi0, iv pi1, iv pi2, jv pj3, .second, jv pj4, .second, jv pj5, .second, iv x2, iv x9, iv x16, iv x23, iv x30, iv x37, iv x44, iv x50, iv x52, iv x55, iv x62, rv b69, iv x109, iv (0 : Int32), iv x16, iv x111, iv (0 : Int32), .unset, .unset, .unset, .unset, .unset] [(.int x52), (.int x62)])) t := fun t kt => kt
        subst hx114
        by_cases hm282_116 : x62 = x52
        · have pre117 : ∀ t, Steps p.tables e below (T107.setTop (mkF m 287 #[iv pi0, iv pi1, iv pi2, jv pj3, .second, jv pj4, .second, jv pj5, .second, iv x2, iv x9, iv x16, iv x23, iv x30, iv x37, iv x44, iv x50, iv x52, iv x55, iv x62, rv b69, iv x109, iv (0 : Int32), iv x16, iv x111, iv (0 : Int32), .unset, .unset, .unset, .unset, .unset] [(.int x30)])) t → Steps p.tables e below (T107.setTop (mkF m 282 #[iv pi0, iv pi1, iv pi2, jv pj3, .second, jv pj4, .second, jv pj5, .second, iv x2, iv x9, iv x16, iv x23, iv x30, iv x37, iv x44, iv x50, iv x52, iv x55, iv x62, rv b69, iv x109, iv (0 : Int32), iv x16, iv x111, iv (0 : Int32), .unset, .unset, .unset, .unset, .unset] [(.int x52), (.int x62)])) t := fun t kt => pre115_ t (by
              refine y_icmpNo X107.here hx (hb hby at_282) (teq hm282_116).2 (pc' := 285) rfl ?_
              refine y_iload X107.here hx (hb hby at_285) rfl (pc' := 287) rfl ?_
              exact kt)
          by_cases hm287_118 : x30 = (0 : Int32)
          · have pre119 : ∀ t, Steps p.tables e below (T107.setTop (mkF m 293 #[iv pi0, iv pi1, iv pi2, jv pj3, .second, jv pj4, .second, jv pj5, .second, iv x2, iv x9, iv x16, iv x23, iv x30, iv x37, iv x44, iv x50, iv x52, iv x55, iv x62, rv b69, iv x109, iv (0 : Int32), iv x16, iv x111, iv (1 : Int32), .unset, .unset, .unset, .unset, .unset] [])) t → Steps p.tables e below (T107.setTop (mkF m 282 #[iv pi0, iv pi1, iv pi2, jv pj3, .second, jv pj4, .second, jv pj5, .second, iv x2, iv x9, iv x16, iv x23, iv x30, iv x37, iv x44, iv x50, iv x52, iv x55, iv x62, rv b69, iv x109, iv (0 : Int32), iv x16, iv x111, iv (0 : Int32), .unset, .unset, .unset, .unset, .unset] [(.int x52), (.int x62)])) t := fun t kt => pre117 t (by
                refine y_ifNo X107.here hx (hb hby at_287) ((if0 _ _).trans (teq hm287_118).2) (pc' := 290) rfl ?_
                refine y_iconst X107.here hx (hb hby at_290) (v := (1 : Int32)) rfl (pc' := 291) rfl ?_
                refine y_istore X107.here hx (hb hby at_291) (l' := #[iv pi0, iv pi1, iv pi2, jv pj3, .second, jv pj4, .second, jv pj5, .second, iv x2, iv x9, iv x16, iv x23, iv x30, iv x37, iv x44, iv x50, iv x52, iv x55, iv x62, rv b69, iv x109, iv (0 : Int32), iv x16, iv x111, iv (1 : Int32), .unset, .unset, .unset, .unset, .unset]) rfl (pc' := 293) rfl ?_
                exact kt)
            refine ⟨T107, ⟨X107, e107q.trans e107q.symm⟩, fun t kt => pre119 t ?_⟩
            (try simp only [if_pos hm282_116, if_pos hm287_118] at kt)
            exact kt
          · have pre120 : ∀ t, Steps p.tables e below (T107.setTop (mkF m 293 #[iv pi0, iv pi1, iv pi2, jv pj3, .second, jv pj4, .second, jv pj5, .second, iv x2, iv x9, iv x16, iv x23, iv x30, iv x37, iv x44, iv x50, iv x52, iv x55, iv x62, rv b69, iv x109, iv (0 : Int32), iv x16, iv x111, iv (0 : Int32), .unset, .unset, .unset, .unset, .unset] [])) t → Steps p.tables e below (T107.setTop (mkF m 282 #[iv pi0, iv pi1, iv pi2, jv pj3, .second, jv pj4, .second, jv pj5, .second, iv x2, iv x9, iv x16, iv x23, iv x30, iv x37, iv x44, iv x50, iv x52, iv x55, iv x62, rv b69, iv x109, iv (0 : Int32), iv x16, iv x111, iv (0 : Int32), .unset, .unset, .unset, .unset, .unset] [(.int x52), (.int x62)])) t := fun t kt => pre117 t (by
                refine y_ifYes X107.here hx (hb hby at_287) ((if0 _ _).trans (feq hm287_118).2) (pc' := 293) (by decide) rfl ?_
                exact kt)
            refine ⟨T107, ⟨X107, e107q.trans e107q.symm⟩, fun t kt => pre120 t ?_⟩
            (try simp only [if_pos hm282_116, if_neg hm287_118] at kt)
            exact kt
        · have pre121 : ∀ t, Steps p.tables e below (T107.setTop (mkF m 293 #[iv pi0, iv pi1, iv pi2, jv pj3, .second, jv pj4, .second, jv pj5, .second, iv x2, iv x9, iv x16, iv x23, iv x30, iv x37, iv x44, iv x50, iv x52, iv x55, iv x62, rv b69, iv x109, iv (0 : Int32), iv x16, iv x111, iv (1 : Int32), .unset, .unset, .unset, .unset, .unset] [])) t → Steps p.tables e below (T107.setTop (mkF m 282 #[iv pi0, iv pi1, iv pi2, jv pj3, .second, jv pj4, .second, jv pj5, .second, iv x2, iv x9, iv x16, iv x23, iv x30, iv x37, iv x44, iv x50, iv x52, iv x55, iv x62, rv b69, iv x109, iv (0 : Int32), iv x16, iv x111, iv (0 : Int32), .unset, .unset, .unset, .unset, .unset] [(.int x52), (.int x62)])) t := fun t kt => pre115_ t (by
              refine y_icmpYes X107.here hx (hb hby at_282) (feq hm282_116).2 (pc' := 290) (by decide) rfl ?_
              refine y_iconst X107.here hx (hb hby at_290) (v := (1 : Int32)) rfl (pc' := 291) rfl ?_
              refine y_istore X107.here hx (hb hby at_291) (l' := #[iv pi0, iv pi1, iv pi2, jv pj3, .second, jv pj4, .second, jv pj5, .second, iv x2, iv x9, iv x16, iv x23, iv x30, iv x37, iv x44, iv x50, iv x52, iv x55, iv x62, rv b69, iv x109, iv (0 : Int32), iv x16, iv x111, iv (1 : Int32), .unset, .unset, .unset, .unset, .unset]) rfl (pc' := 293) rfl ?_
              exact kt)
          refine ⟨T107, ⟨X107, e107q.trans e107q.symm⟩, fun t kt => pre121 t ?_⟩
          (try simp only [if_neg hm282_116] at kt)
          exact kt
      have e115 : T115.heap = h92 := q115.trans e107q
      have pre122 : ∀ t, Steps p.tables e below (T115.setTop (mkF m 293 #[iv pi0, iv pi1, iv pi2, jv pj3, .second, jv pj4, .second, jv pj5, .second, iv x2, iv x9, iv x16, iv x23, iv x30, iv x37, iv x44, iv x50, iv x52, iv x55, iv x62, rv b69, iv x109, iv (0 : Int32), iv x16, iv x111, iv x114, .unset, .unset, .unset, .unset, .unset] [])) t → Go t := fun t kt => pre113 t (st115 t kt)
      have pre123 : ∀ t, Steps p.tables e below (T115.setTop (mkF m 295 #[iv pi0, iv pi1, iv pi2, jv pj3, .second, jv pj4, .second, jv pj5, .second, iv x2, iv x9, iv x16, iv x23, iv x30, iv x37, iv x44, iv x50, iv x52, iv x55, iv x62, rv b69, iv x109, iv (0 : Int32), iv x16, iv x111, iv x114, .unset, .unset, .unset, .unset, .unset] [(.int x111)])) t → Go t := fun t kt => pre122 t (by
          refine y_iload X115.here hx (hb hby at_293) rfl (pc' := 295) rfl ?_
          exact kt)
      by_cases hc295_124 : x111 = (0 : Int32)
      · have pre126 : ∀ t, Steps p.tables e below (T115.setTop (mkF m 388 #[iv pi0, iv pi1, iv pi2, jv pj3, .second, jv pj4, .second, jv pj5, .second, iv x2, iv x9, iv x16, iv x23, iv x30, iv x37, iv x44, iv x50, iv x52, iv x55, iv x62, rv b69, iv x109, iv (0 : Int32), iv x16, iv x111, iv x114, iv (0 : Int32), .unset, .unset, .unset, .unset] [(.int (0 : Int32)), (.int x109)])) t → Go t := fun t kt => pre123 t (by
            refine y_ifNo X115.here hx (hb hby at_295) ((if0 _ _).trans (teq hc295_124).2) (pc' := 298) rfl ?_
            refine y_iconst X115.here hx (hb hby at_298) (v := (0 : Int32)) rfl (pc' := 299) rfl ?_
            refine y_istore X115.here hx (hb hby at_299) (l' := #[iv pi0, iv pi1, iv pi2, jv pj3, .second, jv pj4, .second, jv pj5, .second, iv x2, iv x9, iv x16, iv x23, iv x30, iv x37, iv x44, iv x50, iv x52, iv x55, iv x62, rv b69, iv x109, iv (0 : Int32), iv x16, iv x111, iv x114, iv (0 : Int32), .unset, .unset, .unset, .unset]) rfl (pc' := 301) rfl ?_
            refine y_goto X115.here hx (hb hby at_301) (pc' := 384) (by decide) rfl ?_
            refine y_iload X115.here hx (hb hby at_384) rfl (pc' := 386) rfl ?_
            refine y_iload X115.here hx (hb hby at_386) rfl (pc' := 388) rfl ?_
            exact kt)
        have hf388_125 : x109 = (0 : Int32) := by
            exact law0_127 pj4 pj5 x2 x16 x30 x50 x52 x62 x102 x103 x104 x109 x111 hx102 hx103 hx104 hx109 hx111 hc150_83 hc177_85 hc295_124 B1 B2
        have pre128 : ∀ t, Steps p.tables e below (T115.setTop (mkF m 396 #[iv pi0, iv pi1, iv pi2, jv pj3, .second, jv pj4, .second, jv pj5, .second, iv x2, iv x9, iv x16, iv x23, iv x30, iv x37, iv x44, iv x50, iv x52, iv x55, iv x62, rv b69, iv x109, iv (0 : Int32), iv x16, iv x111, iv x114, iv (0 : Int32), .unset, .unset, .unset, .unset] [(.int (1 : Int32))])) t → Go t := fun t kt => pre126 t (by
            refine y_icmpNo X115.here hx (hb hby at_388) (teq hf388_125).2 (pc' := 391) rfl ?_
            refine y_iconst X115.here hx (hb hby at_391) (v := (1 : Int32)) rfl (pc' := 392) rfl ?_
            refine y_goto X115.here hx (hb hby at_392) (pc' := 396) (by decide) rfl ?_
            exact kt)
        obtain ⟨fs, hr, hrun, hended, hW, hsame⟩ := X115.leave (v := some (.int (1 : Int32))) (fun h => by rw [Bd.returns] at h; cases h)
        refine ⟨_, _, (hGo _).mp (pre128 _ ?_), hrun, hended, _, _, rfl, ?_, ⟨_, rfl⟩, hW, hsame.mono (by decide) (by decide)⟩
        · exact retN X115 hx (t := .boolean) Bd.returns (by simp) (hb hby at_396) hr
        · show Q0 Z pi0 pi1 pi2 pj3 pj4 pj5 h0 n0 _ T115.heap _
          rw [e115]
          exact ⟨rfl, N108⟩
      · have pre129 : ∀ t, Steps p.tables e below (T115.setTop (mkF m 306 #[iv pi0, iv pi1, iv pi2, jv pj3, .second, jv pj4, .second, jv pj5, .second, iv x2, iv x9, iv x16, iv x23, iv x30, iv x37, iv x44, iv x50, iv x52, iv x55, iv x62, rv b69, iv x109, iv (0 : Int32), iv x16, iv x111, iv x114, .unset, .unset, .unset, .unset, .unset] [(.int x114)])) t → Go t := fun t kt => pre123 t (by
            refine y_ifYes X115.here hx (hb hby at_295) ((if0 _ _).trans (feq hc295_124).2) (pc' := 304) (by decide) rfl ?_
            refine y_iload X115.here hx (hb hby at_304) rfl (pc' := 306) rfl ?_
            exact kt)
        by_cases hc306_130 : x114 = (0 : Int32)
        · have pre131 : ∀ t, Steps p.tables e below (T115.setTop (mkF m 313 #[iv pi0, iv pi1, iv pi2, jv pj3, .second, jv pj4, .second, jv pj5, .second, iv x2, iv x9, iv x16, iv x23, iv x30, iv x37, iv x44, iv x50, iv x52, iv x55, iv x62, rv b69, iv x109, iv (0 : Int32), iv x16, iv x111, iv x114, .unset, .unset, .unset, .unset, .unset] [(.int (16 : Int32)), (.int x111)])) t → Go t := fun t kt => pre129 t (by
              refine y_ifNo X115.here hx (hb hby at_306) ((if0 _ _).trans (teq hc306_130).2) (pc' := 309) rfl ?_
              refine y_iload X115.here hx (hb hby at_309) rfl (pc' := 311) rfl ?_
              refine y_bipush X115.here hx (hb hby at_311) (v := (16 : Int32)) rfl (pc' := 313) rfl ?_
              exact kt)
          by_cases hc313_132 : x111 < (16 : Int32)
          · have pre133 : ∀ t, Steps p.tables e below (T115.setTop (mkF m 374 #[iv pi0, iv pi1, iv pi2, jv pj3, .second, jv pj4, .second, jv pj5, .second, iv x2, iv x9, iv x16, iv x23, iv x30, iv x37, iv x44, iv x50, iv x52, iv x55, iv x62, rv b69, iv x109, iv (0 : Int32), iv x16, iv x111, iv x114, .unset, jv pj4, .second, jv (150000000 : Int64), .second] [(.int (lcmpW (pj5 - pj4) (150000000 : Int64)))])) t → Go t := fun t kt => pre131 t (by
                refine y_icmpYes X115.here hx (hb hby at_313) (tlt hc313_132).1 (pc' := 322) (by decide) rfl ?_
                refine y_iload X115.here hx (hb hby at_322) rfl (pc' := 324) rfl ?_
                refine y_ifYes X115.here hx (hb hby at_324) ((if0 _ _).trans (teq (rfl : (0 : Int32) = (0 : Int32))).1) (pc' := 331) (by decide) rfl ?_
                refine y_lload X115.here hx (hb hby at_331) rfl (pc' := 333) rfl ?_
                refine y_lstore X115.here hx (hb hby at_333) (l' := #[iv pi0, iv pi1, iv pi2, jv pj3, .second, jv pj4, .second, jv pj5, .second, iv x2, iv x9, iv x16, iv x23, iv x30, iv x37, iv x44, iv x50, iv x52, iv x55, iv x62, rv b69, iv x109, iv (0 : Int32), iv x16, iv x111, iv x114, .unset, jv pj4, .second, .unset, .unset]) rfl (pc' := 335) rfl ?_
                refine X115.ldc2Long hx hown (mvT hZ (hw _ (List.mem_of_getElem? (i := 40) rfl))) (g := (mkF m 335 #[iv pi0, iv pi1, iv pi2, jv pj3, .second, jv pj4, .second, jv pj5, .second, iv x2, iv x9, iv x16, iv x23, iv x30, iv x37, iv x44, iv x50, iv x52, iv x55, iv x62, rv b69, iv x109, iv (0 : Int32), iv x16, iv x111, iv x114, .unset, jv pj4, .second, .unset, .unset] [])) rfl (hb hby at_335) _ ?_
                show Steps p.tables e below (T115.setTop (mkF m 338 #[iv pi0, iv pi1, iv pi2, jv pj3, .second, jv pj4, .second, jv pj5, .second, iv x2, iv x9, iv x16, iv x23, iv x30, iv x37, iv x44, iv x50, iv x52, iv x55, iv x62, rv b69, iv x109, iv (0 : Int32), iv x16, iv x111, iv x114, .unset, jv pj4, .second, .unset, .unset] [(.long (150000000 : Int64))])) _
                refine y_lstore X115.here hx (hb hby at_338) (l' := #[iv pi0, iv pi1, iv pi2, jv pj3, .second, jv pj4, .second, jv pj5, .second, iv x2, iv x9, iv x16, iv x23, iv x30, iv x37, iv x44, iv x50, iv x52, iv x55, iv x62, rv b69, iv x109, iv (0 : Int32), iv x16, iv x111, iv x114, .unset, jv pj4, .second, jv (150000000 : Int64), .second]) rfl (pc' := 340) rfl ?_
                refine y_iload X115.here hx (hb hby at_340) rfl (pc' := 342) rfl ?_
                refine y_ifNo X115.here hx (hb hby at_342) ((if0 _ _).trans (teq (rfl : (0 : Int32) = (0 : Int32))).2) (pc' := 345) rfl ?_
                refine y_iload X115.here hx (hb hby at_345) rfl (pc' := 347) rfl ?_
                refine y_ifYes X115.here hx (hb hby at_347) ((if0 _ _).trans (teq hc150_83).1) (pc' := 366) (by decide) rfl ?_
                refine y_lload X115.here hx (hb hby at_366) rfl (pc' := 368) rfl ?_
                refine y_lload X115.here hx (hb hby at_368) rfl (pc' := 370) rfl ?_
                refine y_lsub X115.here hx (hb hby at_370) rfl (pc' := 371) rfl ?_
                refine y_lload X115.here hx (hb hby at_371) rfl (pc' := 373) rfl ?_
                refine y_lcmp X115.here hx (hb hby at_373) (pc' := 374) rfl ?_
                exact kt)
            obtain ⟨x134, hx134⟩ : ∃ z : Int32, z = (if (pj5 - pj4) < (150000000 : Int64) then (0 : Int32) else (1 : Int32)) := ⟨_, rfl⟩
            obtain ⟨T135, ⟨X135, q135⟩, st135⟩ : ∃ T', Nx X115 T' ∧ ∀ t, Steps p.tables e below (T'.setTop (mkF m 382 #[iv pi0, iv pi1, iv pi2, jv pj3, .second, jv pj4, .second, jv pj5, .second, iv x2, iv x9, iv x16, iv x23, iv x30, iv x37, iv x44, iv x50, iv x52, iv x55, iv x62, rv b69, iv x109, iv (0 : Int32), iv x16, iv x111, iv x114, .unset, jv pj4, .second, jv (150000000 : Int64), .second] [(.int x134)])) t → Steps p.tables e below (T115.setTop (mkF m 374 #[iv pi0, iv pi1, iv pi2, jv pj3, .second, jv pj4, .second, jv pj5, .second, iv x2, iv x9, iv x16, iv x23, iv x30, iv x37, iv x44, iv x50, iv x52, iv x55, iv x62, rv b69, iv x109, iv (0 : Int32), iv x16, iv x111, iv x114, .unset, jv pj4, .second, jv (150000000 : Int64), .second] [(.int (lcmpW (pj5 - pj4) (150000000 : Int64)))])) t := by
              have pre135_ : ∀ t, Steps p.tables e below (T115.setTop (mkF m 374 #[iv pi0, iv pi1, iv pi2, jv pj3, .second, jv pj4, .second, jv pj5, .second, iv x2, iv x9, iv x16, iv x23, iv x30, iv x37, iv x44, iv x50, iv x52, iv x55, iv x62, rv b69, iv x109, iv (0 : Int32), iv x16, iv x111, iv x114, .unset, jv pj4, .second, jv (150000000 : Int64), .second] [(.int (lcmpW (pj5 - pj4) (150000000 : Int64)))])) t → Steps p.tables e below (T115.setTop (mkF m 374 #[iv pi0, iv pi1, iv pi2, jv pj3, .second, jv pj4, .second, jv pj5, .second, iv x2, iv x9, iv x16, iv x23, iv x30, iv x37, iv x44, iv x50, iv x52, iv x55, iv x62, rv b69, iv x109, iv (0 : Int32), iv x16, iv x111, iv x114, .unset, jv pj4, .second, jv (150000000 : Int64), .second] [(.int (lcmpW (pj5 - pj4) (150000000 : Int64)))])) t := fun t kt => kt
              subst hx134
              by_cases hm374_136 : (pj5 - pj4) < (150000000 : Int64)
              · have pre137 : ∀ t, Steps p.tables e below (T115.setTop (mkF m 382 #[iv pi0, iv pi1, iv pi2, jv pj3, .second, jv pj4, .second, jv pj5, .second, iv x2, iv x9, iv x16, iv x23, iv x30, iv x37, iv x44, iv x50, iv x52, iv x55, iv x62, rv b69, iv x109, iv (0 : Int32), iv x16, iv x111, iv x114, .unset, jv pj4, .second, jv (150000000 : Int64), .second] [(.int (0 : Int32))])) t → Steps p.tables e below (T115.setTop (mkF m 374 #[iv pi0, iv pi1, iv pi2, jv pj3, .second, jv pj4, .second, jv pj5, .second, iv x2, iv x9, iv x16, iv x23, iv x30, iv x37, iv x44, iv x50, iv x52, iv x55, iv x62, rv b69, iv x109, iv (0 : Int32), iv x16, iv x111, iv x114, .unset, jv pj4, .second, jv (150000000 : Int64), .second] [(.int (lcmpW (pj5 - pj4) (150000000 : Int64)))])) t := fun t kt => pre135_ t (by
                    refine y_ifYes X115.here hx (hb hby at_374) ((if0 _ _).trans (tlt (lq_lt hm374_136)).1) (pc' := 381) (by decide) rfl ?_
                    refine y_iconst X115.here hx (hb hby at_381) (v := (0 : Int32)) rfl (pc' := 382) rfl ?_
                    exact kt)
                refine ⟨T115, ⟨X115, e115.trans e115.symm⟩, fun t kt => pre137 t ?_⟩
                (try simp only [if_pos hm374_136] at kt)
                exact kt
              · have pre138 : ∀ t, Steps p.tables e below (T115.setTop (mkF m 382 #[iv pi0, iv pi1, iv pi2, jv pj3, .second, jv pj4, .second, jv pj5, .second, iv x2, iv x9, iv x16, iv x23, iv x30, iv x37, iv x44, iv x50, iv x52, iv x55, iv x62, rv b69, iv x109, iv (0 : Int32), iv x16, iv x111, iv x114, .unset, jv pj4, .second, jv (150000000 : Int64), .second] [(.int (1 : Int32))])) t → Steps p.tables e below (T115.setTop (mkF m 374 #[iv pi0, iv pi1, iv pi2, jv pj3, .second, jv pj4, .second, jv pj5, .second, iv x2, iv x9, iv x16, iv x23, iv x30, iv x37, iv x44, iv x50, iv x52, iv x55, iv x62, rv b69, iv x109, iv (0 : Int32), iv x16, iv x111, iv x114, .unset, jv pj4, .second, jv (150000000 : Int64), .second] [(.int (lcmpW (pj5 - pj4) (150000000 : Int64)))])) t := fun t kt => pre135_ t (by
                    refine y_ifNo X115.here hx (hb hby at_374) ((if0 _ _).trans (flt (lq_nlt hm374_136)).1) (pc' := 377) rfl ?_
                    refine y_iconst X115.here hx (hb hby at_377) (v := (1 : Int32)) rfl (pc' := 378) rfl ?_
                    refine y_goto X115.here hx (hb hby at_378) (pc' := 382) (by decide) rfl ?_
                    exact kt)
                refine ⟨T115, ⟨X115, e115.trans e115.symm⟩, fun t kt => pre138 t ?_⟩
                (try simp only [if_neg hm374_136] at kt)
                exact kt
            have e135 : T135.heap = h92 := q135.trans e115
            have pre139 : ∀ t, Steps p.tables e below (T135.setTop (mkF m 382 #[iv pi0, iv pi1, iv pi2, jv pj3, .second, jv pj4, .second, jv pj5, .second, iv x2, iv x9, iv x16, iv x23, iv x30, iv x37, iv x44, iv x50, iv x52, iv x55, iv x62, rv b69, iv x109, iv (0 : Int32), iv x16, iv x111, iv x114, .unset, jv pj4, .second, jv (150000000 : Int64), .second] [(.int x134)])) t → Go t := fun t kt => pre133 t (st135 t kt)
            have pre141 : ∀ t, Steps p.tables e below (T135.setTop (mkF m 388 #[iv pi0, iv pi1, iv pi2, jv pj3, .second, jv pj4, .second, jv pj5, .second, iv x2, iv x9, iv x16, iv x23, iv x30, iv x37, iv x44, iv x50, iv x52, iv x55, iv x62, rv b69, iv x109, iv (0 : Int32), iv x16, iv x111, iv x114, iv x134, jv pj4, .second, jv (150000000 : Int64), .second] [(.int x134), (.int x109)])) t → Go t := fun t kt => pre139 t (by
                refine y_istore X135.here hx (hb hby at_382) (l' := #[iv pi0, iv pi1, iv pi2, jv pj3, .second, jv pj4, .second, jv pj5, .second, iv x2, iv x9, iv x16, iv x23, iv x30, iv x37, iv x44, iv x50, iv x52, iv x55, iv x62, rv b69, iv x109, iv (0 : Int32), iv x16, iv x111, iv x114, iv x134, jv pj4, .second, jv (150000000 : Int64), .second]) rfl (pc' := 384) rfl ?_
                refine y_iload X135.here hx (hb hby at_384) rfl (pc' := 386) rfl ?_
                refine y_iload X135.here hx (hb hby at_386) rfl (pc' := 388) rfl ?_
                exact kt)
            have hf388_140 : x109 = x134 := by
                exact law0_142 pj4 pj5 x2 x16 x30 x50 x52 x62 x102 x103 x104 x109 x111 x114 x134 hx102 hx103 hx104 hx109 hx111 hx114 hx134 hc150_83 hc177_85 hc295_124 hc306_130 hc313_132 B1 B2
            have pre143 : ∀ t, Steps p.tables e below (T135.setTop (mkF m 396 #[iv pi0, iv pi1, iv pi2, jv pj3, .second, jv pj4, .second, jv pj5, .second, iv x2, iv x9, iv x16, iv x23, iv x30, iv x37, iv x44, iv x50, iv x52, iv x55, iv x62, rv b69, iv x109, iv (0 : Int32), iv x16, iv x111, iv x114, iv x134, jv pj4, .second, jv (150000000 : Int64), .second] [(.int (1 : Int32))])) t → Go t := fun t kt => pre141 t (by
                refine y_icmpNo X135.here hx (hb hby at_388) (teq hf388_140).2 (pc' := 391) rfl ?_
                refine y_iconst X135.here hx (hb hby at_391) (v := (1 : Int32)) rfl (pc' := 392) rfl ?_
                refine y_goto X135.here hx (hb hby at_392) (pc' := 396) (by decide) rfl ?_
                exact kt)
            obtain ⟨fs, hr, hrun, hended, hW, hsame⟩ := X135.leave (v := some (.int (1 : Int32))) (fun h => by rw [Bd.returns] at h; cases h)
            refine ⟨_, _, (hGo _).mp (pre143 _ ?_), hrun, hended, _, _, rfl, ?_, ⟨_, rfl⟩, hW, hsame.mono (by decide) (by decide)⟩
            · exact retN X135 hx (t := .boolean) Bd.returns (by simp) (hb hby at_396) hr
            · show Q0 Z pi0 pi1 pi2 pj3 pj4 pj5 h0 n0 _ T135.heap _
              rw [e135]
              exact ⟨rfl, N108⟩
          · have pre145 : ∀ t, Steps p.tables e below (T115.setTop (mkF m 388 #[iv pi0, iv pi1, iv pi2, jv pj3, .second, jv pj4, .second, jv pj5, .second, iv x2, iv x9, iv x16, iv x23, iv x30, iv x37, iv x44, iv x50, iv x52, iv x55, iv x62, rv b69, iv x109, iv (0 : Int32), iv x16, iv x111, iv x114, iv (1 : Int32), .unset, .unset, .unset, .unset] [(.int (1 : Int32)), (.int x109)])) t → Go t := fun t kt => pre131 t (by
                refine y_icmpNo X115.here hx (hb hby at_313) (flt hc313_132).1 (pc' := 316) rfl ?_
                refine y_iconst X115.here hx (hb hby at_316) (v := (1 : Int32)) rfl (pc' := 317) rfl ?_
                refine y_istore X115.here hx (hb hby at_317) (l' := #[iv pi0, iv pi1, iv pi2, jv pj3, .second, jv pj4, .second, jv pj5, .second, iv x2, iv x9, iv x16, iv x23, iv x30, iv x37, iv x44, iv x50, iv x52, iv x55, iv x62, rv b69, iv x109, iv (0 : Int32), iv x16, iv x111, iv x114, iv (1 : Int32), .unset, .unset, .unset, .unset]) rfl (pc' := 319) rfl ?_
                refine y_goto X115.here hx (hb hby at_319) (pc' := 384) (by decide) rfl ?_
                refine y_iload X115.here hx (hb hby at_384) rfl (pc' := 386) rfl ?_
                refine y_iload X115.here hx (hb hby at_386) rfl (pc' := 388) rfl ?_
                exact kt)
            have hf388_144 : x109 = (1 : Int32) := by
                exact law0_146 pj4 pj5 x2 x16 x30 x50 x52 x62 x102 x103 x104 x109 x111 x114 hx102 hx103 hx104 hx109 hx111 hx114 hc150_83 hc177_85 hc295_124 hc306_130 hc313_132 B1 B2
            have pre147 : ∀ t, Steps p.tables e below (T115.setTop (mkF m 396 #[iv pi0, iv pi1, iv pi2, jv pj3, .second, jv pj4, .second, jv pj5, .second, iv x2, iv x9, iv x16, iv x23, iv x30, iv x37, iv x44, iv x50, iv x52, iv x55, iv x62, rv b69, iv x109, iv (0 : Int32), iv x16, iv x111, iv x114, iv (1 : Int32), .unset, .unset, .unset, .unset] [(.int (1 : Int32))])) t → Go t := fun t kt => pre145 t (by
                refine y_icmpNo X115.here hx (hb hby at_388) (teq hf388_144).2 (pc' := 391) rfl ?_
                refine y_iconst X115.here hx (hb hby at_391) (v := (1 : Int32)) rfl (pc' := 392) rfl ?_
                refine y_goto X115.here hx (hb hby at_392) (pc' := 396) (by decide) rfl ?_
                exact kt)
            obtain ⟨fs, hr, hrun, hended, hW, hsame⟩ := X115.leave (v := some (.int (1 : Int32))) (fun h => by rw [Bd.returns] at h; cases h)
            refine ⟨_, _, (hGo _).mp (pre147 _ ?_), hrun, hended, _, _, rfl, ?_, ⟨_, rfl⟩, hW, hsame.mono (by decide) (by decide)⟩
            · exact retN X115 hx (t := .boolean) Bd.returns (by simp) (hb hby at_396) hr
            · show Q0 Z pi0 pi1 pi2 pj3 pj4 pj5 h0 n0 _ T115.heap _
              rw [e115]
              exact ⟨rfl, N108⟩
        · have pre149 : ∀ t, Steps p.tables e below (T115.setTop (mkF m 388 #[iv pi0, iv pi1, iv pi2, jv pj3, .second, jv pj4, .second, jv pj5, .second, iv x2, iv x9, iv x16, iv x23, iv x30, iv x37, iv x44, iv x50, iv x52, iv x55, iv x62, rv b69, iv x109, iv (0 : Int32), iv x16, iv x111, iv x114, iv (1 : Int32), .unset, .unset, .unset, .unset] [(.int (1 : Int32)), (.int x109)])) t → Go t := fun t kt => pre129 t (by
              refine y_ifYes X115.here hx (hb hby at_306) ((if0 _ _).trans (feq hc306_130).2) (pc' := 316) (by decide) rfl ?_
              refine y_iconst X115.here hx (hb hby at_316) (v := (1 : Int32)) rfl (pc' := 317) rfl ?_
              refine y_istore X115.here hx (hb hby at_317) (l' := #[iv pi0, iv pi1, iv pi2, jv pj3, .second, jv pj4, .second, jv pj5, .second, iv x2, iv x9, iv x16, iv x23, iv x30, iv x37, iv x44, iv x50, iv x52, iv x55, iv x62, rv b69, iv x109, iv (0 : Int32), iv x16, iv x111, iv x114, iv (1 : Int32), .unset, .unset, .unset, .unset]) rfl (pc' := 319) rfl ?_
              refine y_goto X115.here hx (hb hby at_319) (pc' := 384) (by decide) rfl ?_
              refine y_iload X115.here hx (hb hby at_384) rfl (pc' := 386) rfl ?_
              refine y_iload X115.here hx (hb hby at_386) rfl (pc' := 388) rfl ?_
              exact kt)
          have hf388_148 : x109 = (1 : Int32) := by
              exact law0_150 pj4 pj5 x2 x16 x30 x50 x52 x62 x102 x103 x104 x109 x111 x114 hx102 hx103 hx104 hx109 hx111 hx114 hc150_83 hc177_85 hc295_124 hc306_130 B1 B2
          have pre151 : ∀ t, Steps p.tables e below (T115.setTop (mkF m 396 #[iv pi0, iv pi1, iv pi2, jv pj3, .second, jv pj4, .second, jv pj5, .second, iv x2, iv x9, iv x16, iv x23, iv x30, iv x37, iv x44, iv x50, iv x52, iv x55, iv x62, rv b69, iv x109, iv (0 : Int32), iv x16, iv x111, iv x114, iv (1 : Int32), .unset, .unset, .unset, .unset] [(.int (1 : Int32))])) t → Go t := fun t kt => pre149 t (by
              refine y_icmpNo X115.here hx (hb hby at_388) (teq hf388_148).2 (pc' := 391) rfl ?_
              refine y_iconst X115.here hx (hb hby at_391) (v := (1 : Int32)) rfl (pc' := 392) rfl ?_
              refine y_goto X115.here hx (hb hby at_392) (pc' := 396) (by decide) rfl ?_
              exact kt)
          obtain ⟨fs, hr, hrun, hended, hW, hsame⟩ := X115.leave (v := some (.int (1 : Int32))) (fun h => by rw [Bd.returns] at h; cases h)
          refine ⟨_, _, (hGo _).mp (pre151 _ ?_), hrun, hended, _, _, rfl, ?_, ⟨_, rfl⟩, hW, hsame.mono (by decide) (by decide)⟩
          · exact retN X115 hx (t := .boolean) Bd.returns (by simp) (hb hby at_396) hr
          · show Q0 Z pi0 pi1 pi2 pj3 pj4 pj5 h0 n0 _ T115.heap _
            rw [e115]
            exact ⟨rfl, N108⟩
  · have pre152 : ∀ t, Steps p.tables e below (T79.setTop (mkF m 162 #[iv pi0, iv pi1, iv pi2, jv pj3, .second, jv pj4, .second, jv pj5, .second, iv x2, iv x9, iv x16, iv x23, iv x30, iv x37, iv x44, iv x50, iv x52, iv x55, iv x62, rv b69, .unset, .unset, .unset, .unset, .unset, .unset, .unset, .unset, .unset, .unset] [(.long pj3), (.int x23), (.int x55), (.int x50), (.ref b69)])) t → Go t := fun t kt => pre82 t (by
        refine y_ifNo X79.here hx (hb hby at_150) ((if0 _ _).trans (feq hc150_83).1) (pc' := 153) rfl ?_
        refine y_aload X79.here hx (hb hby at_153) rfl rfl (pc' := 155) rfl ?_
        refine y_iload X79.here hx (hb hby at_155) rfl (pc' := 157) rfl ?_
        refine y_iload X79.here hx (hb hby at_157) rfl (pc' := 159) rfl ?_
        refine y_iload X79.here hx (hb hby at_159) rfl (pc' := 161) rfl ?_
        refine y_lloadN X79.here hx (hb hby at_161) rfl (pc' := 162) rfl ?_
        exact kt)
    obtain ⟨cq153, kq153, q153a, q153b, q153c⟩ := isOf hZ e79q A69
    obtain ⟨v153, _, ⟨T153, L153, k153, n153⟩, -, X153, ⟨Lc153, hQ153, l153, y153, z153⟩, st153⟩ := X79.virtualBack hx (y := (⟨"com/example/roamd/roamd/net/DelayedAck", "arrived", "(IIZJ)V"⟩ : MethodName)) (z := (⟨"com/example/roamd/roamd/net/DelayedAck", "arrived", "(IIZJ)V"⟩ : MethodName)) hown (mvT hZ (hw _ (List.mem_of_getElem? (i := 18) rfl))) (mvT hZ (hw _ (List.mem_of_getElem? (i := 19) rfl))) (notFace_of_selects (args := #[]) (mvT hZ (hw _ (List.mem_of_getElem? (i := 21) rfl)))) (mvT hZ (hw _ (List.mem_of_getElem? (i := 21) rfl))) (mvT hZ (hw _ (List.mem_of_getElem? (i := 20) rfl))) (by decide) (backOf (W := 0) (rm4 l Z a0 hw [] b69 x50 x55 x23 pj3 (0 : Int32) (0 : Int64) (0 : Int32) (0 : Int64) (0 : Int64) (0 : Int32) h69 n0 O71 S_DELAY_NANOS S_ALONE_DELAY_NANOS A69 f73 f74 f75 f77 f76 f72 G71) hZ (hw _ (List.mem_of_getElem? (i := 22) rfl)) (hw _ (List.mem_of_getElem? (i := 2) rfl)) (by decide) (by decide)) q153a q153c (g := (mkF m 162 #[iv pi0, iv pi1, iv pi2, jv pj3, .second, jv pj4, .second, jv pj5, .second, iv x2, iv x9, iv x16, iv x23, iv x30, iv x37, iv x44, iv x50, iv x52, iv x55, iv x62, rv b69, .unset, .unset, .unset, .unset, .unset, .unset, .unset, .unset, .unset, .unset] [(.long pj3), (.int x23), (.int x55), (.int x50), (.ref b69)])) rfl (by rw [hml]; rfl) (Steps.refl _) (argsL := [(.int x50), (.int x55), (.int x23), (.long pj3)]) (rest := []) (lenOf pd__IIZJ_V rfl) rfl (by show 2 * 0 + _ ≤ _; exact Nat.le_of_eq rfl) (hb hby at_162) (fun _ _ => ⟨rfl, e79q, (by decide : 1 + 0 ≤ _), (by decide : 6 + 0 ≤ _)⟩)
    dsimp only [Pt.U, Pt.locs, Pt.cells, Pt.slots] at X153 l153 y153 z153 st153 hQ153
    subst l153 y153 z153
    obtain ⟨hv153, N153q, K153q, p153_0, p153_1, p153_2, p153_3, p153_4, p153_5⟩ := hQ153
    have N154 := Fr.app N80 N153q
    subst hv153
    have pre155 : ∀ t, Steps p.tables e below (T153.setTop (mkF m 165 #[iv pi0, iv pi1, iv pi2, jv pj3, .second, jv pj4, .second, jv pj5, .second, iv x2, iv x9, iv x16, iv x23, iv x30, iv x37, iv x44, iv x50, iv x52, iv x55, iv x62, rv b69, .unset, .unset, .unset, .unset, .unset, .unset, .unset, .unset, .unset, .unset] [])) t → Go t := fun t kt => pre152 t (st153.trans kt)
    obtain ⟨h153, eh153⟩ : ∃ z, T153.heap = z := ⟨_, rfl⟩
    rw [eh153] at K153q p153_0 p153_1 p153_2 p153_3 p153_4 p153_5
    have f156 : Exa Z h153 b69 "com/example/roamd/roamd/net/DelayedAck" := (A69.keep K153q)
    obtain ⟨x163, hx163⟩ : ∃ z : Int32, z = ((0 : Int32) + x50) := ⟨_, rfl⟩
    rw [← hx163] at p153_0
    rw [if_pos (rfl : (0 : Int32) = (0 : Int32))] at p153_1
    rw [if_pos (rfl : (0 : Int32) = (0 : Int32))] at p153_4
    obtain ⟨x164, hx164⟩ : ∃ z : Int64, z = (if (if (0 : Int32) = (0 : Int32) then (0 : Int32) else (if (700000000 : Int64) < (pj3 - (0 : Int64)) then (0 : Int32) else (1 : Int32))) = (0 : Int32) then (150000000 : Int64) else (700000000 : Int64)) := ⟨_, rfl⟩
    rw [← hx164] at p153_4
    obtain ⟨x165, hx165⟩ : ∃ z : Int32, z = (nar .boolean ((0 : Int32) ||| (if x55 = x50 then (if x23 = (0 : Int32) then (1 : Int32) else (if ((0 : Int32) + x50) < (16 : Int32) then (0 : Int32) else (1 : Int32))) else (1 : Int32)))) := ⟨_, rfl⟩
    rw [← hx165] at p153_5
    have O166 := O71.keep K153q (allS G71 all0)
    have pre167 : ∀ t, Steps p.tables e below (T153.setTop (mkF m 167 #[iv pi0, iv pi1, iv pi2, jv pj3, .second, jv pj4, .second, jv pj5, .second, iv x2, iv x9, iv x16, iv x23, iv x30, iv x37, iv x44, iv x50, iv x52, iv x55, iv x62, rv b69, .unset, .unset, .unset, .unset, .unset, .unset, .unset, .unset, .unset, .unset] [(.int x9)])) t → Go t := fun t kt => pre155 t (by
        refine y_iload X153.here hx (hb hby at_165) rfl (pc' := 167) rfl ?_
        exact kt)
    by_cases hc167_168 : x9 = (0 : Int32)
    · have pre169 : ∀ t, Steps p.tables e below (T153.setTop (mkF m 177 #[iv pi0, iv pi1, iv pi2, jv pj3, .second, jv pj4, .second, jv pj5, .second, iv x2, iv x9, iv x16, iv x23, iv x30, iv x37, iv x44, iv x50, iv x52, iv x55, iv x62, rv b69, .unset, .unset, .unset, .unset, .unset, .unset, .unset, .unset, .unset, .unset] [(.int x16)])) t → Go t := fun t kt => pre167 t (by
          refine y_ifYes X153.here hx (hb hby at_167) ((if0 _ _).trans (teq hc167_168).1) (pc' := 175) (by decide) rfl ?_
          refine y_iload X153.here hx (hb hby at_175) rfl (pc' := 177) rfl ?_
          exact kt)
      by_cases hc177_170 : x16 = (0 : Int32)
      · have pre171 : ∀ t, Steps p.tables e below (T153.setTop (mkF m 197 #[iv pi0, iv pi1, iv pi2, jv pj3, .second, jv pj4, .second, jv pj5, .second, iv x2, iv x9, iv x16, iv x23, iv x30, iv x37, iv x44, iv x50, iv x52, iv x55, iv x62, rv b69, .unset, .unset, .unset, .unset, .unset, .unset, .unset, .unset, .unset, .unset] [(.long pj5), (.ref b69)])) t → Go t := fun t kt => pre169 t (by
            refine y_ifYes X153.here hx (hb hby at_177) ((if0 _ _).trans (teq hc177_170).1) (pc' := 193) (by decide) rfl ?_
            refine y_aload X153.here hx (hb hby at_193) rfl rfl (pc' := 195) rfl ?_
            refine y_lload X153.here hx (hb hby at_195) rfl (pc' := 197) rfl ?_
            exact kt)
        obtain ⟨cq172, kq172, q172a, q172b, q172c⟩ := isOf hZ eh153 f156
        obtain ⟨v172, _, ⟨T172, L172, k172, n172⟩, -, X172, ⟨Lc172, hQ172, l172, y172, z172⟩, st172⟩ := X153.virtualBack hx (y := (⟨"com/example/roamd/roamd/net/DelayedAck", "due", "(J)Z"⟩ : MethodName)) (z := (⟨"com/example/roamd/roamd/net/DelayedAck", "due", "(J)Z"⟩ : MethodName)) hown (mvT hZ (hw _ (List.mem_of_getElem? (i := 9) rfl))) (mvT hZ (hw _ (List.mem_of_getElem? (i := 10) rfl))) (notFace_of_selects (args := #[]) (mvT hZ (hw _ (List.mem_of_getElem? (i := 12) rfl)))) (mvT hZ (hw _ (List.mem_of_getElem? (i := 12) rfl))) (mvT hZ (hw _ (List.mem_of_getElem? (i := 11) rfl))) (by decide) (backOf (W := 0) (rm3 l Z a0 hw [] b69 pj5 x163 pj3 x164 x165 h153 n0 O166 f156 p153_0 p153_1 p153_4 p153_5) hZ (hw _ (List.mem_of_getElem? (i := 13) rfl)) (hw _ (List.mem_of_getElem? (i := 2) rfl)) (by decide) (by decide)) q172a q172c (g := (mkF m 197 #[iv pi0, iv pi1, iv pi2, jv pj3, .second, jv pj4, .second, jv pj5, .second, iv x2, iv x9, iv x16, iv x23, iv x30, iv x37, iv x44, iv x50, iv x52, iv x55, iv x62, rv b69, .unset, .unset, .unset, .unset, .unset, .unset, .unset, .unset, .unset, .unset] [(.long pj5), (.ref b69)])) rfl (by rw [hml]; rfl) (Steps.refl _) (argsL := [(.long pj5)]) (rest := []) (lenOf pd__J_Z rfl) rfl (by show 2 * 0 + _ ≤ _; exact Nat.le_of_eq rfl) (hb hby at_197) (fun _ _ => ⟨rfl, eh153, (by decide : 1 + 0 ≤ _), (by decide : 6 + 0 ≤ _)⟩)
        dsimp only [Pt.U, Pt.locs, Pt.cells, Pt.slots] at X172 l172 y172 z172 st172 hQ172
        subst l172 y172 z172
        obtain ⟨hv172, N172q, e172q⟩ := hQ172
        have N173 := Fr.app N154 N172q
        have hw172 := hv172
        obtain ⟨x174, hx174⟩ : ∃ z : Int32, z = (if x165 = (0 : Int32) then (if (0 : Int32) < x163 then (if (pj5 - pj3) < x164 then (0 : Int32) else (1 : Int32)) else (0 : Int32)) else (1 : Int32)) := ⟨_, rfl⟩
        rw [← hx174] at hw172
        subst hw172
        have pre175 : ∀ t, Steps p.tables e below (T172.setTop (mkF m 200 #[iv pi0, iv pi1, iv pi2, jv pj3, .second, jv pj4, .second, jv pj5, .second, iv x2, iv x9, iv x16, iv x23, iv x30, iv x37, iv x44, iv x50, iv x52, iv x55, iv x62, rv b69, .unset, .unset, .unset, .unset, .unset, .unset, .unset, .unset, .unset, .unset] [(.int x174)])) t → Go t := fun t kt => pre171 t (st172.trans kt)
        obtain ⟨x176, hx176⟩ : ∃ z : Int32, z = ((0 : Int32) + x50) := ⟨_, rfl⟩
        have pre177 : ∀ t, Steps p.tables e below (T172.setTop (mkF m 238 #[iv pi0, iv pi1, iv pi2, jv pj3, .second, jv pj4, .second, jv pj5, .second, iv x2, iv x9, iv x16, iv x23, iv x30, iv x37, iv x44, iv x50, iv x52, iv x55, iv x62, rv b69, iv x174, iv (1 : Int32), iv x16, iv x176, .unset, .unset, .unset, .unset, .unset, .unset] [])) t → Go t := fun t kt => pre175 t (by
            subst hx176
            refine y_istore X172.here hx (hb hby at_200) (l' := #[iv pi0, iv pi1, iv pi2, jv pj3, .second, jv pj4, .second, jv pj5, .second, iv x2, iv x9, iv x16, iv x23, iv x30, iv x37, iv x44, iv x50, iv x52, iv x55, iv x62, rv b69, iv x174, .unset, .unset, .unset, .unset, .unset, .unset, .unset, .unset, .unset]) rfl (pc' := 202) rfl ?_
            refine y_iload X172.here hx (hb hby at_202) rfl (pc' := 204) rfl ?_
            refine y_ifNo X172.here hx (hb hby at_204) ((if0 _ _).trans (feq hc150_83).1) (pc' := 207) rfl ?_
            refine y_iload X172.here hx (hb hby at_207) rfl (pc' := 209) rfl ?_
            refine y_ifNo X172.here hx (hb hby at_209) ((if0 _ _).trans (teq hc167_168).2) (pc' := 212) rfl ?_
            refine y_iconst X172.here hx (hb hby at_212) (v := (1 : Int32)) rfl (pc' := 213) rfl ?_
            refine y_goto X172.here hx (hb hby at_213) (pc' := 217) (by decide) rfl ?_
            refine y_istore X172.here hx (hb hby at_217) (l' := #[iv pi0, iv pi1, iv pi2, jv pj3, .second, jv pj4, .second, jv pj5, .second, iv x2, iv x9, iv x16, iv x23, iv x30, iv x37, iv x44, iv x50, iv x52, iv x55, iv x62, rv b69, iv x174, iv (1 : Int32), .unset, .unset, .unset, .unset, .unset, .unset, .unset, .unset]) rfl (pc' := 219) rfl ?_
            refine y_iload X172.here hx (hb hby at_219) rfl (pc' := 221) rfl ?_
            refine y_istore X172.here hx (hb hby at_221) (l' := #[iv pi0, iv pi1, iv pi2, jv pj3, .second, jv pj4, .second, jv pj5, .second, iv x2, iv x9, iv x16, iv x23, iv x30, iv x37, iv x44, iv x50, iv x52, iv x55, iv x62, rv b69, iv x174, iv (1 : Int32), iv x16, .unset, .unset, .unset, .unset, .unset, .unset, .unset]) rfl (pc' := 223) rfl ?_
            refine y_iconst X172.here hx (hb hby at_223) (v := (0 : Int32)) rfl (pc' := 224) rfl ?_
            refine y_istore X172.here hx (hb hby at_224) (l' := #[iv pi0, iv pi1, iv pi2, jv pj3, .second, jv pj4, .second, jv pj5, .second, iv x2, iv x9, iv x16, iv x23, iv x30, iv x37, iv x44, iv x50, iv x52, iv x55, iv x62, rv b69, iv x174, iv (1 : Int32), iv x16, iv (0 : Int32), .unset, .unset, .unset, .unset, .unset, .unset]) rfl (pc' := 226) rfl ?_
            refine y_iload X172.here hx (hb hby at_226) rfl (pc' := 228) rfl ?_
            refine y_ifNo X172.here hx (hb hby at_228) ((if0 _ _).trans (feq (by decide : ¬ ((1 : Int32) = (0 : Int32)))).1) (pc' := 231) rfl ?_
            refine y_iload X172.here hx (hb hby at_231) rfl (pc' := 233) rfl ?_
            refine y_iload X172.here hx (hb hby at_233) rfl (pc' := 235) rfl ?_
            refine y_iadd X172.here hx (hb hby at_235) rfl (pc' := 236) rfl ?_
            refine y_istore X172.here hx (hb hby at_236) (l' := #[iv pi0, iv pi1, iv pi2, jv pj3, .second, jv pj4, .second, jv pj5, .second, iv x2, iv x9, iv x16, iv x23, iv x30, iv x37, iv x44, iv x50, iv x52, iv x55, iv x62, rv b69, iv x174, iv (1 : Int32), iv x16, iv ((0 : Int32) + x50), .unset, .unset, .unset, .unset, .unset, .unset]) rfl (pc' := 238) rfl ?_
            exact kt)
        have pre178 : ∀ t, Steps p.tables e below (T172.setTop (mkF m 262 #[iv pi0, iv pi1, iv pi2, jv pj3, .second, jv pj4, .second, jv pj5, .second, iv x2, iv x9, iv x16, iv x23, iv x30, iv x37, iv x44, iv x50, iv x52, iv x55, iv x62, rv b69, iv x174, iv (1 : Int32), iv x16, iv x176, iv (0 : Int32), .unset, .unset, .unset, .unset, .unset] [(.int x50), (.int x55)])) t → Go t := fun t kt => pre177 t (by
            refine y_iload X172.here hx (hb hby at_238) rfl (pc' := 240) rfl ?_
            refine y_ifYes X172.here hx (hb hby at_240) ((if0 _ _).trans (teq hc177_170).1) (pc' := 250) (by decide) rfl ?_
            refine y_iconst X172.here hx (hb hby at_250) (v := (0 : Int32)) rfl (pc' := 251) rfl ?_
            refine y_istore X172.here hx (hb hby at_251) (l' := #[iv pi0, iv pi1, iv pi2, jv pj3, .second, jv pj4, .second, jv pj5, .second, iv x2, iv x9, iv x16, iv x23, iv x30, iv x37, iv x44, iv x50, iv x52, iv x55, iv x62, rv b69, iv x174, iv (1 : Int32), iv x16, iv x176, iv (0 : Int32), .unset, .unset, .unset, .unset, .unset]) rfl (pc' := 253) rfl ?_
            refine y_iload X172.here hx (hb hby at_253) rfl (pc' := 255) rfl ?_
            refine y_ifNo X172.here hx (hb hby at_255) ((if0 _ _).trans (feq (by decide : ¬ ((1 : Int32) = (0 : Int32)))).1) (pc' := 258) rfl ?_
            refine y_iload X172.here hx (hb hby at_258) rfl (pc' := 260) rfl ?_
            refine y_iload X172.here hx (hb hby at_260) rfl (pc' := 262) rfl ?_
            exact kt)
        obtain ⟨x179, hx179⟩ : ∃ z : Int32, z = (if x55 = x50 then (if x23 = (0 : Int32) then (1 : Int32) else (0 : Int32)) else (1 : Int32)) := ⟨_, rfl⟩
        obtain ⟨T180, ⟨X180, q180⟩, st180⟩ : ∃ T', Nx X172 T' ∧ ∀ t, Steps p.tables e below (T'.setTop (mkF m 273 #[iv pi0, iv pi1, iv pi2, jv pj3, .second, jv pj4, .second, jv pj5, .second, iv x2, iv x9, iv x16, iv x23, iv x30, iv x37, iv x44, iv x50, iv x52, iv x55, iv x62, rv b69, iv x174, iv (1 : Int32), iv x16, iv x176, iv x179, .unset, .unset, .unset, .unset, .unset] [])) t → Steps p.tables e below (T172.setTop (mkF m 262 #[iv pi0, iv pi1, iv pi2, jv pj3, .second, jv pj4, .second, jv pj5, .second, iv x2, iv x9, iv x16, iv x23, iv x30, iv x37, iv x44, iv x50, iv x52, iv x55, iv x62, rv b69, iv x174, iv (1 : Int32), iv x16, iv x176, iv (0 : Int32), .unset, .unset, .unset, .unset, .unset] [(.int x50), (.int x55)])) t := by
          have pre180_ : ∀ t, Steps p.tables e below (T172.setTop (mkF m 262 #[iv pi0, iv pi1, iv pi2, jv pj3, .second, jv pj4, .second, jv pj5, .second, iv x2, iv x9, iv x16, iv x23, iv x30, iv x37, iv x44, iv x50, iv x52, iv x55, iv x62, rv b69, iv x174, iv (1 : Int32), iv x16, iv x176, iv (0 : Int32), .unset, .unset, .unset, .unset, .unset] [(.int x50), (.int x55)])) t → Steps p.tables e below (T172.setTop (mkF m 262 #[iv pi0, iv pi1, iv pi2, jv pj3, .second, jv pj4, .second, jv pj5, .second, iv x2, iv x9, iv x16, iv x23, iv x30, iv x37, iv x44, iv x50, iv x52, iv x55, iv x62, rv b69, iv x174, iv (1 : Int32), iv x16, iv x176, iv (0 : Int32), .unset, .unset, .unset, .unset, .unset] [(.int x50), (.int x55)])) t := fun t kt => kt
          subst hx179
          by_cases hm262_181 : x55 = x50
          · have pre182 : ∀ t, Steps p.tables e below (T172.setTop (mkF m 267 #[iv pi0, iv pi1, iv pi2, jv pj3, .second, jv pj4, .second, jv pj5, .second, iv x2, iv x9, iv x16, iv x23, iv x30, iv x37, iv x44, iv x50, iv x52, iv x55, iv x62, rv b69, iv x174, iv (1 : Int32), iv x16, iv x176, iv (0 : Int32), .unset, .unset, .unset, .unset, .unset] [(.int x23)])) t → Steps p.tables e below (T172.setTop (mkF m 262 #[iv pi0, iv pi1, iv pi2, jv pj3, .second, jv pj4, .second, jv pj5, .second, iv x2, iv x9, iv x16, iv x23, iv x30, iv x37, iv x44, iv x50, iv x52, iv x55, iv x62, rv b69, iv x174, iv (1 : Int32), iv x16, iv x176, iv (0 : Int32), .unset, .unset, .unset, .unset, .unset] [(.int x50), (.int x55)])) t := fun t kt => pre180_ t (by
                refine y_icmpNo X172.here hx (hb hby at_262) (teq hm262_181).2 (pc' := 265) rfl ?_
                refine y_iload X172.here hx (hb hby at_265) rfl (pc' := 267) rfl ?_
                exact kt)
            by_cases hm267_183 : x23 = (0 : Int32)
            · have pre184 : ∀ t, Steps p.tables e below (T172.setTop (mkF m 273 #[iv pi0, iv pi1, iv pi2, jv pj3, .second, jv pj4, .second, jv pj5, .second, iv x2, iv x9, iv x16, iv x23, iv x30, iv x37, iv x44, iv x50, iv x52, iv x55, iv x62, rv b69, iv x174, iv (1 : Int32), iv x16, iv x176, iv (1 : Int32), .unset, .unset, .unset, .unset, .unset] [])) t → Steps p.tables e below (T172.setTop (mkF m 262 #[iv pi0, iv pi1, iv pi2, jv pj3, .second, jv pj4, .second, jv pj5, .second, iv x2, iv x9, iv x16, iv x23, iv x30, iv x37, iv x44, iv x50, iv x52, iv x55, iv x62, rv b69, iv x174, iv (1 : Int32), iv x16, iv x176, iv (0 : Int32), .unset, .unset, .unset, .unset, .unset] [(.int x50), (.int x55)])) t := fun t kt => pre182 t (by
                  refine y_ifNo X172.here hx (hb hby at_267) ((if0 _ _).trans (teq hm267_183).2) (pc' := 270) rfl ?_
                  refine y_iconst X172.here hx (hb hby at_270) (v := (1 : Int32)) rfl (pc' := 271) rfl ?_
                  refine y_istore X172.here hx (hb hby at_271) (l' := #[iv pi0, iv pi1, iv pi2, jv pj3, .second, jv pj4, .second, jv pj5, .second, iv x2, iv x9, iv x16, iv x23, iv x30, iv x37, iv x44, iv x50, iv x52, iv x55, iv x62, rv b69, iv x174, iv (1 : Int32), iv x16, iv x176, iv (1 : Int32), .unset, .unset, .unset, .unset, .unset]) rfl (pc' := 273) rfl ?_
                  exact kt)
              refine ⟨T172, ⟨X172, e172q.trans e172q.symm⟩, fun t kt => pre184 t ?_⟩
              (try simp only [if_pos hm262_181, if_pos hm267_183] at kt)
              exact kt
            · have pre185 : ∀ t, Steps p.tables e below (T172.setTop (mkF m 273 #[iv pi0, iv pi1, iv pi2, jv pj3, .second, jv pj4, .second, jv pj5, .second, iv x2, iv x9, iv x16, iv x23, iv x30, iv x37, iv x44, iv x50, iv x52, iv x55, iv x62, rv b69, iv x174, iv (1 : Int32), iv x16, iv x176, iv (0 : Int32), .unset, .unset, .unset, .unset, .unset] [])) t → Steps p.tables e below (T172.setTop (mkF m 262 #[iv pi0, iv pi1, iv pi2, jv pj3, .second, jv pj4, .second, jv pj5, .second, iv x2, iv x9, iv x16, iv x23, iv x30, iv x37, iv x44, iv x50, iv x52, iv x55, iv x62, rv b69, iv x174, iv (1 : Int32), iv x16, iv x176, iv (0 : Int32), .unset, .unset, .unset, .unset, .unset] [(.int x50), (.int x55)])) t := fun t kt => pre182 t (by
                  refine y_ifYes X172.here hx (hb hby at_267) ((if0 _ _).trans (feq hm267_183).2) (pc' := 273) (by decide) rfl ?_
                  exact kt)
              refine ⟨T172, ⟨X172, e172q.trans e172q.symm⟩, fun t kt => pre185 t ?_⟩
              (try simp only [if_pos hm262_181, if_neg hm267_183] at kt)
              exact kt
          · have pre186 : ∀ t, Steps p.tables e below (T172.setTop (mkF m 273 #[iv pi0, iv pi1, iv pi2, jv pj3, .second, jv pj4, .second, jv pj5, .second, iv x2, iv x9, iv x16, iv x23, iv x30, iv x37, iv x44, iv x50, iv x52, iv x55, iv x62, rv b69, iv x174, iv (1 : Int32), iv x16, iv x176, iv (1 : Int32), .unset, .unset, .unset, .unset, .unset] [])) t → Steps p.tables e below (T172.setTop (mkF m 262 #[iv pi0, iv pi1, iv pi2, jv pj3, .second, jv pj4, .second, jv pj5, .second, iv x2, iv x9, iv x16, iv x23, iv x30, iv x37, iv x44, iv x50, iv x52, iv x55, iv x62, rv b69, iv x174, iv (1 : Int32), iv x16, iv x176, iv (0 : Int32), .unset, .unset, .unset, .unset, .unset] [(.int x50), (.int x55)])) t := fun t kt => pre180_ t (by
                refine y_icmpYes X172.here hx (hb hby at_262) (feq hm262_181).2 (pc' := 270) (by decide) rfl ?_
                refine y_iconst X172.here hx (hb hby at_270) (v := (1 : Int32)) rfl (pc' := 271) rfl ?_
                refine y_istore X172.here hx (hb hby at_271) (l' := #[iv pi0, iv pi1, iv pi2, jv pj3, .second, jv pj4, .second, jv pj5, .second, iv x2, iv x9, iv x16, iv x23, iv x30, iv x37, iv x44, iv x50, iv x52, iv x55, iv x62, rv b69, iv x174, iv (1 : Int32), iv x16, iv x176, iv (1 : Int32), .unset, .unset, .unset, .unset, .unset]) rfl (pc' := 273) rfl ?_
                exact kt)
            refine ⟨T172, ⟨X172, e172q.trans e172q.symm⟩, fun t kt => pre186 t ?_⟩
            (try simp only [if_neg hm262_181] at kt)
            exact kt
        have e180 : T180.heap = h153 := q180.trans e172q
        have pre187 : ∀ t, Steps p.tables e below (T180.setTop (mkF m 273 #[iv pi0, iv pi1, iv pi2, jv pj3, .second, jv pj4, .second, jv pj5, .second, iv x2, iv x9, iv x16, iv x23, iv x30, iv x37, iv x44, iv x50, iv x52, iv x55, iv x62, rv b69, iv x174, iv (1 : Int32), iv x16, iv x176, iv x179, .unset, .unset, .unset, .unset, .unset] [])) t → Go t := fun t kt => pre178 t (st180 t kt)
        have pre188 : ∀ t, Steps p.tables e below (T180.setTop (mkF m 295 #[iv pi0, iv pi1, iv pi2, jv pj3, .second, jv pj4, .second, jv pj5, .second, iv x2, iv x9, iv x16, iv x23, iv x30, iv x37, iv x44, iv x50, iv x52, iv x55, iv x62, rv b69, iv x174, iv (1 : Int32), iv x16, iv x176, iv x179, .unset, .unset, .unset, .unset, .unset] [(.int x176)])) t → Go t := fun t kt => pre187 t (by
            refine y_iload X180.here hx (hb hby at_273) rfl (pc' := 275) rfl ?_
            refine y_ifYes X180.here hx (hb hby at_275) ((if0 _ _).trans (teq hc177_170).1) (pc' := 293) (by decide) rfl ?_
            refine y_iload X180.here hx (hb hby at_293) rfl (pc' := 295) rfl ?_
            exact kt)
        by_cases hc295_189 : x176 = (0 : Int32)
        · have pre191 : ∀ t, Steps p.tables e below (T180.setTop (mkF m 388 #[iv pi0, iv pi1, iv pi2, jv pj3, .second, jv pj4, .second, jv pj5, .second, iv x2, iv x9, iv x16, iv x23, iv x30, iv x37, iv x44, iv x50, iv x52, iv x55, iv x62, rv b69, iv x174, iv (1 : Int32), iv x16, iv x176, iv x179, iv (0 : Int32), .unset, .unset, .unset, .unset] [(.int (0 : Int32)), (.int x174)])) t → Go t := fun t kt => pre188 t (by
              refine y_ifNo X180.here hx (hb hby at_295) ((if0 _ _).trans (teq hc295_189).2) (pc' := 298) rfl ?_
              refine y_iconst X180.here hx (hb hby at_298) (v := (0 : Int32)) rfl (pc' := 299) rfl ?_
              refine y_istore X180.here hx (hb hby at_299) (l' := #[iv pi0, iv pi1, iv pi2, jv pj3, .second, jv pj4, .second, jv pj5, .second, iv x2, iv x9, iv x16, iv x23, iv x30, iv x37, iv x44, iv x50, iv x52, iv x55, iv x62, rv b69, iv x174, iv (1 : Int32), iv x16, iv x176, iv x179, iv (0 : Int32), .unset, .unset, .unset, .unset]) rfl (pc' := 301) rfl ?_
              refine y_goto X180.here hx (hb hby at_301) (pc' := 384) (by decide) rfl ?_
              refine y_iload X180.here hx (hb hby at_384) rfl (pc' := 386) rfl ?_
              refine y_iload X180.here hx (hb hby at_386) rfl (pc' := 388) rfl ?_
              exact kt)
          have hf388_190 : x174 = (0 : Int32) := by
              exact law0_192 pj3 pj5 x2 x9 x16 x23 x50 x52 x55 x163 x164 x165 x174 x176 hx163 hx164 hx165 hx174 hx176 hc150_83 hc167_168 hc177_170 hc295_189 B1 B2
          have pre193 : ∀ t, Steps p.tables e below (T180.setTop (mkF m 396 #[iv pi0, iv pi1, iv pi2, jv pj3, .second, jv pj4, .second, jv pj5, .second, iv x2, iv x9, iv x16, iv x23, iv x30, iv x37, iv x44, iv x50, iv x52, iv x55, iv x62, rv b69, iv x174, iv (1 : Int32), iv x16, iv x176, iv x179, iv (0 : Int32), .unset, .unset, .unset, .unset] [(.int (1 : Int32))])) t → Go t := fun t kt => pre191 t (by
              refine y_icmpNo X180.here hx (hb hby at_388) (teq hf388_190).2 (pc' := 391) rfl ?_
              refine y_iconst X180.here hx (hb hby at_391) (v := (1 : Int32)) rfl (pc' := 392) rfl ?_
              refine y_goto X180.here hx (hb hby at_392) (pc' := 396) (by decide) rfl ?_
              exact kt)
          obtain ⟨fs, hr, hrun, hended, hW, hsame⟩ := X180.leave (v := some (.int (1 : Int32))) (fun h => by rw [Bd.returns] at h; cases h)
          refine ⟨_, _, (hGo _).mp (pre193 _ ?_), hrun, hended, _, _, rfl, ?_, ⟨_, rfl⟩, hW, hsame.mono (by decide) (by decide)⟩
          · exact retN X180 hx (t := .boolean) Bd.returns (by simp) (hb hby at_396) hr
          · show Q0 Z pi0 pi1 pi2 pj3 pj4 pj5 h0 n0 _ T180.heap _
            rw [e180]
            exact ⟨rfl, N173⟩
        · have pre194 : ∀ t, Steps p.tables e below (T180.setTop (mkF m 306 #[iv pi0, iv pi1, iv pi2, jv pj3, .second, jv pj4, .second, jv pj5, .second, iv x2, iv x9, iv x16, iv x23, iv x30, iv x37, iv x44, iv x50, iv x52, iv x55, iv x62, rv b69, iv x174, iv (1 : Int32), iv x16, iv x176, iv x179, .unset, .unset, .unset, .unset, .unset] [(.int x179)])) t → Go t := fun t kt => pre188 t (by
              refine y_ifYes X180.here hx (hb hby at_295) ((if0 _ _).trans (feq hc295_189).2) (pc' := 304) (by decide) rfl ?_
              refine y_iload X180.here hx (hb hby at_304) rfl (pc' := 306) rfl ?_
              exact kt)
          by_cases hc306_195 : x179 = (0 : Int32)
          · have pre196 : ∀ t, Steps p.tables e below (T180.setTop (mkF m 313 #[iv pi0, iv pi1, iv pi2, jv pj3, .second, jv pj4, .second, jv pj5, .second, iv x2, iv x9, iv x16, iv x23, iv x30, iv x37, iv x44, iv x50, iv x52, iv x55, iv x62, rv b69, iv x174, iv (1 : Int32), iv x16, iv x176, iv x179, .unset, .unset, .unset, .unset, .unset] [(.int (16 : Int32)), (.int x176)])) t → Go t := fun t kt => pre194 t (by
                refine y_ifNo X180.here hx (hb hby at_306) ((if0 _ _).trans (teq hc306_195).2) (pc' := 309) rfl ?_
                refine y_iload X180.here hx (hb hby at_309) rfl (pc' := 311) rfl ?_
                refine y_bipush X180.here hx (hb hby at_311) (v := (16 : Int32)) rfl (pc' := 313) rfl ?_
                exact kt)
            by_cases hc313_197 : x176 < (16 : Int32)
            · have pre198 : ∀ t, Steps p.tables e below (T180.setTop (mkF m 374 #[iv pi0, iv pi1, iv pi2, jv pj3, .second, jv pj4, .second, jv pj5, .second, iv x2, iv x9, iv x16, iv x23, iv x30, iv x37, iv x44, iv x50, iv x52, iv x55, iv x62, rv b69, iv x174, iv (1 : Int32), iv x16, iv x176, iv x179, .unset, jv pj3, .second, jv (150000000 : Int64), .second] [(.int (lcmpW (pj5 - pj3) (150000000 : Int64)))])) t → Go t := fun t kt => pre196 t (by
                  refine y_icmpYes X180.here hx (hb hby at_313) (tlt hc313_197).1 (pc' := 322) (by decide) rfl ?_
                  refine y_iload X180.here hx (hb hby at_322) rfl (pc' := 324) rfl ?_
                  refine y_ifNo X180.here hx (hb hby at_324) ((if0 _ _).trans (feq (by decide : ¬ ((1 : Int32) = (0 : Int32)))).1) (pc' := 327) rfl ?_
                  refine y_lloadN X180.here hx (hb hby at_327) rfl (pc' := 328) rfl ?_
                  refine y_goto X180.here hx (hb hby at_328) (pc' := 333) (by decide) rfl ?_
                  refine y_lstore X180.here hx (hb hby at_333) (l' := #[iv pi0, iv pi1, iv pi2, jv pj3, .second, jv pj4, .second, jv pj5, .second, iv x2, iv x9, iv x16, iv x23, iv x30, iv x37, iv x44, iv x50, iv x52, iv x55, iv x62, rv b69, iv x174, iv (1 : Int32), iv x16, iv x176, iv x179, .unset, jv pj3, .second, .unset, .unset]) rfl (pc' := 335) rfl ?_
                  refine X180.ldc2Long hx hown (mvT hZ (hw _ (List.mem_of_getElem? (i := 40) rfl))) (g := (mkF m 335 #[iv pi0, iv pi1, iv pi2, jv pj3, .second, jv pj4, .second, jv pj5, .second, iv x2, iv x9, iv x16, iv x23, iv x30, iv x37, iv x44, iv x50, iv x52, iv x55, iv x62, rv b69, iv x174, iv (1 : Int32), iv x16, iv x176, iv x179, .unset, jv pj3, .second, .unset, .unset] [])) rfl (hb hby at_335) _ ?_
                  show Steps p.tables e below (T180.setTop (mkF m 338 #[iv pi0, iv pi1, iv pi2, jv pj3, .second, jv pj4, .second, jv pj5, .second, iv x2, iv x9, iv x16, iv x23, iv x30, iv x37, iv x44, iv x50, iv x52, iv x55, iv x62, rv b69, iv x174, iv (1 : Int32), iv x16, iv x176, iv x179, .unset, jv pj3, .second, .unset, .unset] [(.long (150000000 : Int64))])) _
                  refine y_lstore X180.here hx (hb hby at_338) (l' := #[iv pi0, iv pi1, iv pi2, jv pj3, .second, jv pj4, .second, jv pj5, .second, iv x2, iv x9, iv x16, iv x23, iv x30, iv x37, iv x44, iv x50, iv x52, iv x55, iv x62, rv b69, iv x174, iv (1 : Int32), iv x16, iv x176, iv x179, .unset, jv pj3, .second, jv (150000000 : Int64), .second]) rfl (pc' := 340) rfl ?_
                  refine y_iload X180.here hx (hb hby at_340) rfl (pc' := 342) rfl ?_
                  refine y_ifYes X180.here hx (hb hby at_342) ((if0 _ _).trans (feq (by decide : ¬ ((1 : Int32) = (0 : Int32)))).2) (pc' := 366) (by decide) rfl ?_
                  refine y_lload X180.here hx (hb hby at_366) rfl (pc' := 368) rfl ?_
                  refine y_lload X180.here hx (hb hby at_368) rfl (pc' := 370) rfl ?_
                  refine y_lsub X180.here hx (hb hby at_370) rfl (pc' := 371) rfl ?_
                  refine y_lload X180.here hx (hb hby at_371) rfl (pc' := 373) rfl ?_
                  refine y_lcmp X180.here hx (hb hby at_373) (pc' := 374) rfl ?_
                  exact kt)
              obtain ⟨x199, hx199⟩ : ∃ z : Int32, z = (if (pj5 - pj3) < (150000000 : Int64) then (0 : Int32) else (1 : Int32)) := ⟨_, rfl⟩
              obtain ⟨T200, ⟨X200, q200⟩, st200⟩ : ∃ T', Nx X180 T' ∧ ∀ t, Steps p.tables e below (T'.setTop (mkF m 382 #[iv pi0, iv pi1, iv pi2, jv pj3, .second, jv pj4, .second, jv pj5, .second, iv x2, iv x9, iv x16, iv x23, iv x30, iv x37, iv x44, iv x50, iv x52, iv x55, iv x62, rv b69, iv x174, iv (1 : Int32), iv x16, iv x176, iv x179, .unset, jv pj3, .second, jv (150000000 : Int64), .second] [(.int x199)])) t → Steps p.tables e below (T180.setTop (mkF m 374 #[iv pi0, iv pi1, iv pi2, jv pj3, .second, jv pj4, .second, jv pj5, .second, iv x2, iv x9, iv x16, iv x23, iv x30, iv x37, iv x44, iv x50, iv x52, iv x55, iv x62, rv b69, iv x174, iv (1 : Int32), iv x16, iv x176, iv x179, .unset, jv pj3, .second, jv (150000000 : Int64), .second] [(.int (lcmpW (pj5 - pj3) (150000000 : Int64)))])) t := by
                have pre200_ : ∀ t, Steps p.tables e below (T180.setTop (mkF m 374 #[iv pi0, iv pi1, iv pi2, jv pj3, .second, jv pj4, .second, jv pj5, .second, iv x2, iv x9, iv x16, iv x23, iv x30, iv x37, iv x44, iv x50, iv x52, iv x55, iv x62, rv b69, iv x174, iv (1 : Int32), iv x16, iv x176, iv x179, .unset, jv pj3, .second, jv (150000000 : Int64), .second] [(.int (lcmpW (pj5 - pj3) (150000000 : Int64)))])) t → Steps p.tables e below (T180.setTop (mkF m 374 #[iv pi0, iv pi1, iv pi2, jv pj3, .second, jv pj4, .second, jv pj5, .second, iv x2, iv x9, iv x16, iv x23, iv x30, iv x37, iv x44, iv x50, iv x52, iv x55, iv x62, rv b69, iv x174, iv (1 : Int32), iv x16, iv x176, iv x179, .unset, jv pj3, .second, jv (150000000 : Int64), .second] [(.int (lcmpW (pj5 - pj3) (150000000 : Int64)))])) t := fun t kt => kt
                subst hx199
                by_cases hm374_201 : (pj5 - pj3) < (150000000 : Int64)
                · have pre202 : ∀ t, Steps p.tables e below (T180.setTop (mkF m 382 #[iv pi0, iv pi1, iv pi2, jv pj3, .second, jv pj4, .second, jv pj5, .second, iv x2, iv x9, iv x16, iv x23, iv x30, iv x37, iv x44, iv x50, iv x52, iv x55, iv x62, rv b69, iv x174, iv (1 : Int32), iv x16, iv x176, iv x179, .unset, jv pj3, .second, jv (150000000 : Int64), .second] [(.int (0 : Int32))])) t → Steps p.tables e below (T180.setTop (mkF m 374 #[iv pi0, iv pi1, iv pi2, jv pj3, .second, jv pj4, .second, jv pj5, .second, iv x2, iv x9, iv x16, iv x23, iv x30, iv x37, iv x44, iv x50, iv x52, iv x55, iv x62, rv b69, iv x174, iv (1 : Int32), iv x16, iv x176, iv x179, .unset, jv pj3, .second, jv (150000000 : Int64), .second] [(.int (lcmpW (pj5 - pj3) (150000000 : Int64)))])) t := fun t kt => pre200_ t (by
                      refine y_ifYes X180.here hx (hb hby at_374) ((if0 _ _).trans (tlt (lq_lt hm374_201)).1) (pc' := 381) (by decide) rfl ?_
                      refine y_iconst X180.here hx (hb hby at_381) (v := (0 : Int32)) rfl (pc' := 382) rfl ?_
                      exact kt)
                  refine ⟨T180, ⟨X180, e180.trans e180.symm⟩, fun t kt => pre202 t ?_⟩
                  (try simp only [if_pos hm374_201] at kt)
                  exact kt
                · have pre203 : ∀ t, Steps p.tables e below (T180.setTop (mkF m 382 #[iv pi0, iv pi1, iv pi2, jv pj3, .second, jv pj4, .second, jv pj5, .second, iv x2, iv x9, iv x16, iv x23, iv x30, iv x37, iv x44, iv x50, iv x52, iv x55, iv x62, rv b69, iv x174, iv (1 : Int32), iv x16, iv x176, iv x179, .unset, jv pj3, .second, jv (150000000 : Int64), .second] [(.int (1 : Int32))])) t → Steps p.tables e below (T180.setTop (mkF m 374 #[iv pi0, iv pi1, iv pi2, jv pj3, .second, jv pj4, .second, jv pj5, .second, iv x2, iv x9, iv x16, iv x23, iv x30, iv x37, iv x44, iv x50, iv x52, iv x55, iv x62, rv b69, iv x174, iv (1 : Int32), iv x16, iv x176, iv x179, .unset, jv pj3, .second, jv (150000000 : Int64), .second] [(.int (lcmpW (pj5 - pj3) (150000000 : Int64)))])) t := fun t kt => pre200_ t (by
                      refine y_ifNo X180.here hx (hb hby at_374) ((if0 _ _).trans (flt (lq_nlt hm374_201)).1) (pc' := 377) rfl ?_
                      refine y_iconst X180.here hx (hb hby at_377) (v := (1 : Int32)) rfl (pc' := 378) rfl ?_
                      refine y_goto X180.here hx (hb hby at_378) (pc' := 382) (by decide) rfl ?_
                      exact kt)
                  refine ⟨T180, ⟨X180, e180.trans e180.symm⟩, fun t kt => pre203 t ?_⟩
                  (try simp only [if_neg hm374_201] at kt)
                  exact kt
              have e200 : T200.heap = h153 := q200.trans e180
              have pre204 : ∀ t, Steps p.tables e below (T200.setTop (mkF m 382 #[iv pi0, iv pi1, iv pi2, jv pj3, .second, jv pj4, .second, jv pj5, .second, iv x2, iv x9, iv x16, iv x23, iv x30, iv x37, iv x44, iv x50, iv x52, iv x55, iv x62, rv b69, iv x174, iv (1 : Int32), iv x16, iv x176, iv x179, .unset, jv pj3, .second, jv (150000000 : Int64), .second] [(.int x199)])) t → Go t := fun t kt => pre198 t (st200 t kt)
              have pre206 : ∀ t, Steps p.tables e below (T200.setTop (mkF m 388 #[iv pi0, iv pi1, iv pi2, jv pj3, .second, jv pj4, .second, jv pj5, .second, iv x2, iv x9, iv x16, iv x23, iv x30, iv x37, iv x44, iv x50, iv x52, iv x55, iv x62, rv b69, iv x174, iv (1 : Int32), iv x16, iv x176, iv x179, iv x199, jv pj3, .second, jv (150000000 : Int64), .second] [(.int x199), (.int x174)])) t → Go t := fun t kt => pre204 t (by
                  refine y_istore X200.here hx (hb hby at_382) (l' := #[iv pi0, iv pi1, iv pi2, jv pj3, .second, jv pj4, .second, jv pj5, .second, iv x2, iv x9, iv x16, iv x23, iv x30, iv x37, iv x44, iv x50, iv x52, iv x55, iv x62, rv b69, iv x174, iv (1 : Int32), iv x16, iv x176, iv x179, iv x199, jv pj3, .second, jv (150000000 : Int64), .second]) rfl (pc' := 384) rfl ?_
                  refine y_iload X200.here hx (hb hby at_384) rfl (pc' := 386) rfl ?_
                  refine y_iload X200.here hx (hb hby at_386) rfl (pc' := 388) rfl ?_
                  exact kt)
              have hf388_205 : x174 = x199 := by
                  exact law0_207 pj3 pj5 x2 x9 x16 x23 x50 x52 x55 x163 x164 x165 x174 x176 x179 x199 hx163 hx164 hx165 hx174 hx176 hx179 hx199 hc150_83 hc167_168 hc177_170 hc295_189 hc306_195 hc313_197 B1 B2
              have pre208 : ∀ t, Steps p.tables e below (T200.setTop (mkF m 396 #[iv pi0, iv pi1, iv pi2, jv pj3, .second, jv pj4, .second, jv pj5, .second, iv x2, iv x9, iv x16, iv x23, iv x30, iv x37, iv x44, iv x50, iv x52, iv x55, iv x62, rv b69, iv x174, iv (1 : Int32), iv x16, iv x176, iv x179, iv x199, jv pj3, .second, jv (150000000 : Int64), .second] [(.int (1 : Int32))])) t → Go t := fun t kt => pre206 t (by
                  refine y_icmpNo X200.here hx (hb hby at_388) (teq hf388_205).2 (pc' := 391) rfl ?_
                  refine y_iconst X200.here hx (hb hby at_391) (v := (1 : Int32)) rfl (pc' := 392) rfl ?_
                  refine y_goto X200.here hx (hb hby at_392) (pc' := 396) (by decide) rfl ?_
                  exact kt)
              obtain ⟨fs, hr, hrun, hended, hW, hsame⟩ := X200.leave (v := some (.int (1 : Int32))) (fun h => by rw [Bd.returns] at h; cases h)
              refine ⟨_, _, (hGo _).mp (pre208 _ ?_), hrun, hended, _, _, rfl, ?_, ⟨_, rfl⟩, hW, hsame.mono (by decide) (by decide)⟩
              · exact retN X200 hx (t := .boolean) Bd.returns (by simp) (hb hby at_396) hr
              · show Q0 Z pi0 pi1 pi2 pj3 pj4 pj5 h0 n0 _ T200.heap _
                rw [e200]
                exact ⟨rfl, N173⟩
            · have pre210 : ∀ t, Steps p.tables e below (T180.setTop (mkF m 388 #[iv pi0, iv pi1, iv pi2, jv pj3, .second, jv pj4, .second, jv pj5, .second, iv x2, iv x9, iv x16, iv x23, iv x30, iv x37, iv x44, iv x50, iv x52, iv x55, iv x62, rv b69, iv x174, iv (1 : Int32), iv x16, iv x176, iv x179, iv (1 : Int32), .unset, .unset, .unset, .unset] [(.int (1 : Int32)), (.int x174)])) t → Go t := fun t kt => pre196 t (by
                  refine y_icmpNo X180.here hx (hb hby at_313) (flt hc313_197).1 (pc' := 316) rfl ?_
                  refine y_iconst X180.here hx (hb hby at_316) (v := (1 : Int32)) rfl (pc' := 317) rfl ?_
                  refine y_istore X180.here hx (hb hby at_317) (l' := #[iv pi0, iv pi1, iv pi2, jv pj3, .second, jv pj4, .second, jv pj5, .second, iv x2, iv x9, iv x16, iv x23, iv x30, iv x37, iv x44, iv x50, iv x52, iv x55, iv x62, rv b69, iv x174, iv (1 : Int32), iv x16, iv x176, iv x179, iv (1 : Int32), .unset, .unset, .unset, .unset]) rfl (pc' := 319) rfl ?_
                  refine y_goto X180.here hx (hb hby at_319) (pc' := 384) (by decide) rfl ?_
                  refine y_iload X180.here hx (hb hby at_384) rfl (pc' := 386) rfl ?_
                  refine y_iload X180.here hx (hb hby at_386) rfl (pc' := 388) rfl ?_
                  exact kt)
              have hf388_209 : x174 = (1 : Int32) := by
                  exact law0_211 pj3 pj5 x2 x9 x16 x23 x50 x52 x55 x163 x164 x165 x174 x176 x179 hx163 hx164 hx165 hx174 hx176 hx179 hc150_83 hc167_168 hc177_170 hc295_189 hc306_195 hc313_197 B1 B2
              have pre212 : ∀ t, Steps p.tables e below (T180.setTop (mkF m 396 #[iv pi0, iv pi1, iv pi2, jv pj3, .second, jv pj4, .second, jv pj5, .second, iv x2, iv x9, iv x16, iv x23, iv x30, iv x37, iv x44, iv x50, iv x52, iv x55, iv x62, rv b69, iv x174, iv (1 : Int32), iv x16, iv x176, iv x179, iv (1 : Int32), .unset, .unset, .unset, .unset] [(.int (1 : Int32))])) t → Go t := fun t kt => pre210 t (by
                  refine y_icmpNo X180.here hx (hb hby at_388) (teq hf388_209).2 (pc' := 391) rfl ?_
                  refine y_iconst X180.here hx (hb hby at_391) (v := (1 : Int32)) rfl (pc' := 392) rfl ?_
                  refine y_goto X180.here hx (hb hby at_392) (pc' := 396) (by decide) rfl ?_
                  exact kt)
              obtain ⟨fs, hr, hrun, hended, hW, hsame⟩ := X180.leave (v := some (.int (1 : Int32))) (fun h => by rw [Bd.returns] at h; cases h)
              refine ⟨_, _, (hGo _).mp (pre212 _ ?_), hrun, hended, _, _, rfl, ?_, ⟨_, rfl⟩, hW, hsame.mono (by decide) (by decide)⟩
              · exact retN X180 hx (t := .boolean) Bd.returns (by simp) (hb hby at_396) hr
              · show Q0 Z pi0 pi1 pi2 pj3 pj4 pj5 h0 n0 _ T180.heap _
                rw [e180]
                exact ⟨rfl, N173⟩
          · have pre214 : ∀ t, Steps p.tables e below (T180.setTop (mkF m 388 #[iv pi0, iv pi1, iv pi2, jv pj3, .second, jv pj4, .second, jv pj5, .second, iv x2, iv x9, iv x16, iv x23, iv x30, iv x37, iv x44, iv x50, iv x52, iv x55, iv x62, rv b69, iv x174, iv (1 : Int32), iv x16, iv x176, iv x179, iv (1 : Int32), .unset, .unset, .unset, .unset] [(.int (1 : Int32)), (.int x174)])) t → Go t := fun t kt => pre194 t (by
                refine y_ifYes X180.here hx (hb hby at_306) ((if0 _ _).trans (feq hc306_195).2) (pc' := 316) (by decide) rfl ?_
                refine y_iconst X180.here hx (hb hby at_316) (v := (1 : Int32)) rfl (pc' := 317) rfl ?_
                refine y_istore X180.here hx (hb hby at_317) (l' := #[iv pi0, iv pi1, iv pi2, jv pj3, .second, jv pj4, .second, jv pj5, .second, iv x2, iv x9, iv x16, iv x23, iv x30, iv x37, iv x44, iv x50, iv x52, iv x55, iv x62, rv b69, iv x174, iv (1 : Int32), iv x16, iv x176, iv x179, iv (1 : Int32), .unset, .unset, .unset, .unset]) rfl (pc' := 319) rfl ?_
                refine y_goto X180.here hx (hb hby at_319) (pc' := 384) (by decide) rfl ?_
                refine y_iload X180.here hx (hb hby at_384) rfl (pc' := 386) rfl ?_
                refine y_iload X180.here hx (hb hby at_386) rfl (pc' := 388) rfl ?_
                exact kt)
            have hf388_213 : x174 = (1 : Int32) := by
                exact law0_215 pj3 pj5 x2 x9 x16 x23 x50 x52 x55 x163 x164 x165 x174 x176 x179 hx163 hx164 hx165 hx174 hx176 hx179 hc150_83 hc167_168 hc177_170 hc295_189 hc306_195 B1 B2
            have pre216 : ∀ t, Steps p.tables e below (T180.setTop (mkF m 396 #[iv pi0, iv pi1, iv pi2, jv pj3, .second, jv pj4, .second, jv pj5, .second, iv x2, iv x9, iv x16, iv x23, iv x30, iv x37, iv x44, iv x50, iv x52, iv x55, iv x62, rv b69, iv x174, iv (1 : Int32), iv x16, iv x176, iv x179, iv (1 : Int32), .unset, .unset, .unset, .unset] [(.int (1 : Int32))])) t → Go t := fun t kt => pre214 t (by
                refine y_icmpNo X180.here hx (hb hby at_388) (teq hf388_213).2 (pc' := 391) rfl ?_
                refine y_iconst X180.here hx (hb hby at_391) (v := (1 : Int32)) rfl (pc' := 392) rfl ?_
                refine y_goto X180.here hx (hb hby at_392) (pc' := 396) (by decide) rfl ?_
                exact kt)
            obtain ⟨fs, hr, hrun, hended, hW, hsame⟩ := X180.leave (v := some (.int (1 : Int32))) (fun h => by rw [Bd.returns] at h; cases h)
            refine ⟨_, _, (hGo _).mp (pre216 _ ?_), hrun, hended, _, _, rfl, ?_, ⟨_, rfl⟩, hW, hsame.mono (by decide) (by decide)⟩
            · exact retN X180 hx (t := .boolean) Bd.returns (by simp) (hb hby at_396) hr
            · show Q0 Z pi0 pi1 pi2 pj3 pj4 pj5 h0 n0 _ T180.heap _
              rw [e180]
              exact ⟨rfl, N173⟩
      · have pre217 : ∀ t, Steps p.tables e below (T153.setTop (mkF m 190 #[iv pi0, iv pi1, iv pi2, jv pj3, .second, jv pj4, .second, jv pj5, .second, iv x2, iv x9, iv x16, iv x23, iv x30, iv x37, iv x44, iv x50, iv x52, iv x55, iv x62, rv b69, .unset, .unset, .unset, .unset, .unset, .unset, .unset, .unset, .unset, .unset] [(.long pj4), (.int x30), (.int x62), (.int x52), (.ref b69)])) t → Go t := fun t kt => pre169 t (by
            refine y_ifNo X153.here hx (hb hby at_177) ((if0 _ _).trans (feq hc177_170).1) (pc' := 180) rfl ?_
            refine y_aload X153.here hx (hb hby at_180) rfl rfl (pc' := 182) rfl ?_
            refine y_iload X153.here hx (hb hby at_182) rfl (pc' := 184) rfl ?_
            refine y_iload X153.here hx (hb hby at_184) rfl (pc' := 186) rfl ?_
            refine y_iload X153.here hx (hb hby at_186) rfl (pc' := 188) rfl ?_
            refine y_lload X153.here hx (hb hby at_188) rfl (pc' := 190) rfl ?_
            exact kt)
        obtain ⟨cq218, kq218, q218a, q218b, q218c⟩ := isOf hZ eh153 f156
        obtain ⟨v218, _, ⟨T218, L218, k218, n218⟩, -, X218, ⟨Lc218, hQ218, l218, y218, z218⟩, st218⟩ := X153.virtualBack hx (y := (⟨"com/example/roamd/roamd/net/DelayedAck", "arrived", "(IIZJ)V"⟩ : MethodName)) (z := (⟨"com/example/roamd/roamd/net/DelayedAck", "arrived", "(IIZJ)V"⟩ : MethodName)) hown (mvT hZ (hw _ (List.mem_of_getElem? (i := 18) rfl))) (mvT hZ (hw _ (List.mem_of_getElem? (i := 19) rfl))) (notFace_of_selects (args := #[]) (mvT hZ (hw _ (List.mem_of_getElem? (i := 21) rfl)))) (mvT hZ (hw _ (List.mem_of_getElem? (i := 21) rfl))) (mvT hZ (hw _ (List.mem_of_getElem? (i := 20) rfl))) (by decide) (backOf (W := 0) (rm4 l Z a0 hw [] b69 x52 x62 x30 pj4 x163 pj3 (1 : Int32) pj3 x164 x165 h153 n0 O166 S_DELAY_NANOS S_ALONE_DELAY_NANOS f156 p153_0 p153_1 p153_2 p153_3 p153_4 p153_5 G71) hZ (hw _ (List.mem_of_getElem? (i := 22) rfl)) (hw _ (List.mem_of_getElem? (i := 2) rfl)) (by decide) (by decide)) q218a q218c (g := (mkF m 190 #[iv pi0, iv pi1, iv pi2, jv pj3, .second, jv pj4, .second, jv pj5, .second, iv x2, iv x9, iv x16, iv x23, iv x30, iv x37, iv x44, iv x50, iv x52, iv x55, iv x62, rv b69, .unset, .unset, .unset, .unset, .unset, .unset, .unset, .unset, .unset, .unset] [(.long pj4), (.int x30), (.int x62), (.int x52), (.ref b69)])) rfl (by rw [hml]; rfl) (Steps.refl _) (argsL := [(.int x52), (.int x62), (.int x30), (.long pj4)]) (rest := []) (lenOf pd__IIZJ_V rfl) rfl (by show 2 * 0 + _ ≤ _; exact Nat.le_of_eq rfl) (hb hby at_190) (fun _ _ => ⟨rfl, eh153, (by decide : 1 + 0 ≤ _), (by decide : 6 + 0 ≤ _)⟩)
        dsimp only [Pt.U, Pt.locs, Pt.cells, Pt.slots] at X218 l218 y218 z218 st218 hQ218
        subst l218 y218 z218
        obtain ⟨hv218, N218q, K218q, p218_0, p218_1, p218_2, p218_3, p218_4, p218_5⟩ := hQ218
        have N219 := Fr.app N154 N218q
        subst hv218
        have pre220 : ∀ t, Steps p.tables e below (T218.setTop (mkF m 193 #[iv pi0, iv pi1, iv pi2, jv pj3, .second, jv pj4, .second, jv pj5, .second, iv x2, iv x9, iv x16, iv x23, iv x30, iv x37, iv x44, iv x50, iv x52, iv x55, iv x62, rv b69, .unset, .unset, .unset, .unset, .unset, .unset, .unset, .unset, .unset, .unset] [])) t → Go t := fun t kt => pre217 t (st218.trans kt)
        obtain ⟨h218, eh218⟩ : ∃ z, T218.heap = z := ⟨_, rfl⟩
        rw [eh218] at K218q p218_0 p218_1 p218_2 p218_3 p218_4 p218_5
        have f221 : Exa Z h218 b69 "com/example/roamd/roamd/net/DelayedAck" := (f156.keep K218q)
        obtain ⟨x228, hx228⟩ : ∃ z : Int32, z = (x163 + x52) := ⟨_, rfl⟩
        rw [← hx228] at p218_0
        obtain ⟨x229, hx229⟩ : ∃ z : Int64, z = (if x163 = (0 : Int32) then pj4 else pj3) := ⟨_, rfl⟩
        rw [← hx229] at p218_1
        obtain ⟨x230, hx230⟩ : ∃ z : Int64, z = (if x163 = (0 : Int32) then (if (if (1 : Int32) = (0 : Int32) then (0 : Int32) else (if (700000000 : Int64) < (pj4 - pj3) then (0 : Int32) else (1 : Int32))) = (0 : Int32) then (150000000 : Int64) else (700000000 : Int64)) else x164) := ⟨_, rfl⟩
        rw [← hx230] at p218_4
        obtain ⟨x231, hx231⟩ : ∃ z : Int32, z = (nar .boolean (x165 ||| (if x62 = x52 then (if x30 = (0 : Int32) then (1 : Int32) else (if (x163 + x52) < (16 : Int32) then (0 : Int32) else (1 : Int32))) else (1 : Int32)))) := ⟨_, rfl⟩
        rw [← hx231] at p218_5
        have O232 := O166.keep K218q (allS G71 all0)
        have pre233 : ∀ t, Steps p.tables e below (T218.setTop (mkF m 197 #[iv pi0, iv pi1, iv pi2, jv pj3, .second, jv pj4, .second, jv pj5, .second, iv x2, iv x9, iv x16, iv x23, iv x30, iv x37, iv x44, iv x50, iv x52, iv x55, iv x62, rv b69, .unset, .unset, .unset, .unset, .unset, .unset, .unset, .unset, .unset, .unset] [(.long pj5), (.ref b69)])) t → Go t := fun t kt => pre220 t (by
            refine y_aload X218.here hx (hb hby at_193) rfl rfl (pc' := 195) rfl ?_
            refine y_lload X218.here hx (hb hby at_195) rfl (pc' := 197) rfl ?_
            exact kt)
        obtain ⟨cq234, kq234, q234a, q234b, q234c⟩ := isOf hZ eh218 f221
        obtain ⟨v234, _, ⟨T234, L234, k234, n234⟩, -, X234, ⟨Lc234, hQ234, l234, y234, z234⟩, st234⟩ := X218.virtualBack hx (y := (⟨"com/example/roamd/roamd/net/DelayedAck", "due", "(J)Z"⟩ : MethodName)) (z := (⟨"com/example/roamd/roamd/net/DelayedAck", "due", "(J)Z"⟩ : MethodName)) hown (mvT hZ (hw _ (List.mem_of_getElem? (i := 9) rfl))) (mvT hZ (hw _ (List.mem_of_getElem? (i := 10) rfl))) (notFace_of_selects (args := #[]) (mvT hZ (hw _ (List.mem_of_getElem? (i := 12) rfl)))) (mvT hZ (hw _ (List.mem_of_getElem? (i := 12) rfl))) (mvT hZ (hw _ (List.mem_of_getElem? (i := 11) rfl))) (by decide) (backOf (W := 0) (rm3 l Z a0 hw [] b69 pj5 x228 x229 x230 x231 h218 n0 O232 f221 p218_0 p218_1 p218_4 p218_5) hZ (hw _ (List.mem_of_getElem? (i := 13) rfl)) (hw _ (List.mem_of_getElem? (i := 2) rfl)) (by decide) (by decide)) q234a q234c (g := (mkF m 197 #[iv pi0, iv pi1, iv pi2, jv pj3, .second, jv pj4, .second, jv pj5, .second, iv x2, iv x9, iv x16, iv x23, iv x30, iv x37, iv x44, iv x50, iv x52, iv x55, iv x62, rv b69, .unset, .unset, .unset, .unset, .unset, .unset, .unset, .unset, .unset, .unset] [(.long pj5), (.ref b69)])) rfl (by rw [hml]; rfl) (Steps.refl _) (argsL := [(.long pj5)]) (rest := []) (lenOf pd__J_Z rfl) rfl (by show 2 * 0 + _ ≤ _; exact Nat.le_of_eq rfl) (hb hby at_197) (fun _ _ => ⟨rfl, eh218, (by decide : 1 + 0 ≤ _), (by decide : 6 + 0 ≤ _)⟩)
        dsimp only [Pt.U, Pt.locs, Pt.cells, Pt.slots] at X234 l234 y234 z234 st234 hQ234
        subst l234 y234 z234
        obtain ⟨hv234, N234q, e234q⟩ := hQ234
        have N235 := Fr.app N219 N234q
        have hw234 := hv234
        obtain ⟨x236, hx236⟩ : ∃ z : Int32, z = (if x231 = (0 : Int32) then (if (0 : Int32) < x228 then (if (pj5 - x229) < x230 then (0 : Int32) else (1 : Int32)) else (0 : Int32)) else (1 : Int32)) := ⟨_, rfl⟩
        rw [← hx236] at hw234
        subst hw234
        have pre237 : ∀ t, Steps p.tables e below (T234.setTop (mkF m 200 #[iv pi0, iv pi1, iv pi2, jv pj3, .second, jv pj4, .second, jv pj5, .second, iv x2, iv x9, iv x16, iv x23, iv x30, iv x37, iv x44, iv x50, iv x52, iv x55, iv x62, rv b69, .unset, .unset, .unset, .unset, .unset, .unset, .unset, .unset, .unset, .unset] [(.int x236)])) t → Go t := fun t kt => pre233 t (st234.trans kt)
        obtain ⟨x238, hx238⟩ : ∃ z : Int32, z = ((0 : Int32) + x50) := ⟨_, rfl⟩
        have pre239 : ∀ t, Steps p.tables e below (T234.setTop (mkF m 238 #[iv pi0, iv pi1, iv pi2, jv pj3, .second, jv pj4, .second, jv pj5, .second, iv x2, iv x9, iv x16, iv x23, iv x30, iv x37, iv x44, iv x50, iv x52, iv x55, iv x62, rv b69, iv x236, iv (1 : Int32), iv x16, iv x238, .unset, .unset, .unset, .unset, .unset, .unset] [])) t → Go t := fun t kt => pre237 t (by
            subst hx238
            refine y_istore X234.here hx (hb hby at_200) (l' := #[iv pi0, iv pi1, iv pi2, jv pj3, .second, jv pj4, .second, jv pj5, .second, iv x2, iv x9, iv x16, iv x23, iv x30, iv x37, iv x44, iv x50, iv x52, iv x55, iv x62, rv b69, iv x236, .unset, .unset, .unset, .unset, .unset, .unset, .unset, .unset, .unset]) rfl (pc' := 202) rfl ?_
            refine y_iload X234.here hx (hb hby at_202) rfl (pc' := 204) rfl ?_
            refine y_ifNo X234.here hx (hb hby at_204) ((if0 _ _).trans (feq hc150_83).1) (pc' := 207) rfl ?_
            refine y_iload X234.here hx (hb hby at_207) rfl (pc' := 209) rfl ?_
            refine y_ifNo X234.here hx (hb hby at_209) ((if0 _ _).trans (teq hc167_168).2) (pc' := 212) rfl ?_
            refine y_iconst X234.here hx (hb hby at_212) (v := (1 : Int32)) rfl (pc' := 213) rfl ?_
            refine y_goto X234.here hx (hb hby at_213) (pc' := 217) (by decide) rfl ?_
            refine y_istore X234.here hx (hb hby at_217) (l' := #[iv pi0, iv pi1, iv pi2, jv pj3, .second, jv pj4, .second, jv pj5, .second, iv x2, iv x9, iv x16, iv x23, iv x30, iv x37, iv x44, iv x50, iv x52, iv x55, iv x62, rv b69, iv x236, iv (1 : Int32), .unset, .unset, .unset, .unset, .unset, .unset, .unset, .unset]) rfl (pc' := 219) rfl ?_
            refine y_iload X234.here hx (hb hby at_219) rfl (pc' := 221) rfl ?_
            refine y_istore X234.here hx (hb hby at_221) (l' := #[iv pi0, iv pi1, iv pi2, jv pj3, .second, jv pj4, .second, jv pj5, .second, iv x2, iv x9, iv x16, iv x23, iv x30, iv x37, iv x44, iv x50, iv x52, iv x55, iv x62, rv b69, iv x236, iv (1 : Int32), iv x16, .unset, .unset, .unset, .unset, .unset, .unset, .unset]) rfl (pc' := 223) rfl ?_
            refine y_iconst X234.here hx (hb hby at_223) (v := (0 : Int32)) rfl (pc' := 224) rfl ?_
            refine y_istore X234.here hx (hb hby at_224) (l' := #[iv pi0, iv pi1, iv pi2, jv pj3, .second, jv pj4, .second, jv pj5, .second, iv x2, iv x9, iv x16, iv x23, iv x30, iv x37, iv x44, iv x50, iv x52, iv x55, iv x62, rv b69, iv x236, iv (1 : Int32), iv x16, iv (0 : Int32), .unset, .unset, .unset, .unset, .unset, .unset]) rfl (pc' := 226) rfl ?_
            refine y_iload X234.here hx (hb hby at_226) rfl (pc' := 228) rfl ?_
            refine y_ifNo X234.here hx (hb hby at_228) ((if0 _ _).trans (feq (by decide : ¬ ((1 : Int32) = (0 : Int32)))).1) (pc' := 231) rfl ?_
            refine y_iload X234.here hx (hb hby at_231) rfl (pc' := 233) rfl ?_
            refine y_iload X234.here hx (hb hby at_233) rfl (pc' := 235) rfl ?_
            refine y_iadd X234.here hx (hb hby at_235) rfl (pc' := 236) rfl ?_
            refine y_istore X234.here hx (hb hby at_236) (l' := #[iv pi0, iv pi1, iv pi2, jv pj3, .second, jv pj4, .second, jv pj5, .second, iv x2, iv x9, iv x16, iv x23, iv x30, iv x37, iv x44, iv x50, iv x52, iv x55, iv x62, rv b69, iv x236, iv (1 : Int32), iv x16, iv ((0 : Int32) + x50), .unset, .unset, .unset, .unset, .unset, .unset]) rfl (pc' := 238) rfl ?_
            exact kt)
        obtain ⟨x240, hx240⟩ : ∃ z : Int32, z = (x238 + x52) := ⟨_, rfl⟩
        have pre241 : ∀ t, Steps p.tables e below (T234.setTop (mkF m 250 #[iv pi0, iv pi1, iv pi2, jv pj3, .second, jv pj4, .second, jv pj5, .second, iv x2, iv x9, iv x16, iv x23, iv x30, iv x37, iv x44, iv x50, iv x52, iv x55, iv x62, rv b69, iv x236, iv (1 : Int32), iv x16, iv x240, .unset, .unset, .unset, .unset, .unset, .unset] [])) t → Go t := fun t kt => pre239 t (by
            subst hx240
            refine y_iload X234.here hx (hb hby at_238) rfl (pc' := 240) rfl ?_
            refine y_ifNo X234.here hx (hb hby at_240) ((if0 _ _).trans (feq hc177_170).1) (pc' := 243) rfl ?_
            refine y_iload X234.here hx (hb hby at_243) rfl (pc' := 245) rfl ?_
            refine y_iload X234.here hx (hb hby at_245) rfl (pc' := 247) rfl ?_
            refine y_iadd X234.here hx (hb hby at_247) rfl (pc' := 248) rfl ?_
            refine y_istore X234.here hx (hb hby at_248) (l' := #[iv pi0, iv pi1, iv pi2, jv pj3, .second, jv pj4, .second, jv pj5, .second, iv x2, iv x9, iv x16, iv x23, iv x30, iv x37, iv x44, iv x50, iv x52, iv x55, iv x62, rv b69, iv x236, iv (1 : Int32), iv x16, iv (x238 + x52), .unset, .unset, .unset, .unset, .unset, .unset]) rfl (pc' := 250) rfl ?_
            exact kt)
        have pre242 : ∀ t, Steps p.tables e below (T234.setTop (mkF m 262 #[iv pi0, iv pi1, iv pi2, jv pj3, .second, jv pj4, .second, jv pj5, .second, iv x2, iv x9, iv x16, iv x23, iv x30, iv x37, iv x44, iv x50, iv x52, iv x55, iv x62, rv b69, iv x236, iv (1 : Int32), iv x16, iv x240, iv (0 : Int32), .unset, .unset, .unset, .unset, .unset] [(.int x50), (.int x55)])) t → Go t := fun t kt => pre241 t (by
            refine y_iconst X234.here hx (hb hby at_250) (v := (0 : Int32)) rfl (pc' := 251) rfl ?_
            refine y_istore X234.here hx (hb hby at_251) (l' := #[iv pi0, iv pi1, iv pi2, jv pj3, .second, jv pj4, .second, jv pj5, .second, iv x2, iv x9, iv x16, iv x23, iv x30, iv x37, iv x44, iv x50, iv x52, iv x55, iv x62, rv b69, iv x236, iv (1 : Int32), iv x16, iv x240, iv (0 : Int32), .unset, .unset, .unset, .unset, .unset]) rfl (pc' := 253) rfl ?_
            refine y_iload X234.here hx (hb hby at_253) rfl (pc' := 255) rfl ?_
            refine y_ifNo X234.here hx (hb hby at_255) ((if0 _ _).trans (feq (by decide : ¬ ((1 : Int32) = (0 : Int32)))).1) (pc' := 258) rfl ?_
            refine y_iload X234.here hx (hb hby at_258) rfl (pc' := 260) rfl ?_
            refine y_iload X234.here hx (hb hby at_260) rfl (pc' := 262) rfl ?_
            exact kt)
        obtain ⟨x243, hx243⟩ : ∃ z : Int32, z = (if x55 = x50 then (if x23 = (0 : Int32) then (1 : Int32) else (0 : Int32)) else (1 : Int32)) := ⟨_, rfl⟩
        obtain ⟨T244, ⟨X244, q244⟩, st244⟩ : ∃ T', Nx X234 T' ∧ ∀ t, Steps p.tables e below (T'.setTop (mkF m 273 #[iv pi0, iv pi1, iv pi2, jv pj3, .second, jv pj4, .second, jv pj5, .second, iv x2, iv x9, iv x16, iv x23, iv x30, iv x37, iv x44, iv x50, iv x52, iv x55, iv x62, rv b69, iv x236, iv (1 : Int32), iv x16, iv x240, iv x243, .unset, .unset, .unset, .unset, .unset] [])) t → Steps p.tables e below (T234.setTop (mkF m 262 #[iv pi0, iv pi1, iv pi2, jv pj3, .second, jv pj4, .second, jv pj5, .second, iv x2, iv x9, iv x16, iv x23, iv x30, iv x37, iv x44, iv x50, iv x52, iv x55, iv x62, rv b69, iv x236, iv (1 : Int32), iv x16, iv x240, iv (0 : Int32), .unset, .unset, .unset, .unset, .unset] [(.int x50), (.int x55)])) t := by
          have pre244_ : ∀ t, Steps p.tables e below (T234.setTop (mkF m 262 #[iv pi0, iv pi1, iv pi2, jv pj3, .second, jv pj4, .second, jv pj5, .second, iv x2, iv x9, iv x16, iv x23, iv x30, iv x37, iv x44, iv x50, iv x52, iv x55, iv x62, rv b69, iv x236, iv (1 : Int32), iv x16, iv x240, iv (0 : Int32), .unset, .unset, .unset, .unset, .unset] [(.int x50), (.int x55)])) t → Steps p.tables e below (T234.setTop (mkF m 262 #[iv pi0, iv pi1, iv pi2, jv pj3, .second, jv pj4, .second, jv pj5, .second, iv x2, iv x9, iv x16, iv x23, iv x30, iv x37, iv x44, iv x50, iv x52, iv x55, iv x62, rv b69, iv x236, iv (1 : Int32), iv x16, iv x240, iv (0 : Int32), .unset, .unset, .unset, .unset, .unset] [(.int x50), (.int x55)])) t := fun t kt => kt
          subst hx243
          by_cases hm262_245 : x55 = x50
          · have pre246 : ∀ t, Steps p.tables e below (T234.setTop (mkF m 267 #[iv pi0, iv pi1, iv pi2, jv pj3, .second, jv pj4, .second, jv pj5, .second, iv x2, iv x9, iv x16, iv x23, iv x30, iv x37, iv x44, iv x50, iv x52, iv x55, iv x62, rv b69, iv x236, iv (1 : Int32), iv x16, iv x240, iv (0 : Int32), .unset, .unset, .unset, .unset, .unset] [(.int x23)])) t → Steps p.tables e below (T234.setTop (mkF m 262 #[iv pi0, iv pi1, iv pi2, jv pj3, .second, jv pj4, .second, jv pj5, .second, iv x2, iv x9, iv x16, iv x23, iv x30, iv x37, iv x44, iv x50, iv x52, iv x55, iv x62, rv b69, iv x236, iv (1 : Int32), iv x16, iv x240, iv (0 : Int32), .unset, .unset, .unset, .unset, .unset] [(.int x50), (.int x55)])) t := fun t kt => pre244_ t (by
                refine y_icmpNo X234.here hx (hb hby at_262) (teq hm262_245).2 (pc' := 265) rfl ?_
                refine y_iload X234.here hx (hb hby at_265) rfl (pc' := 267) rfl ?_
                exact kt)
            by_cases hm267_247 : x23 = (0 : Int32)
            · have pre248 : ∀ t, Steps p.tables e below (T234.setTop (mkF m 273 #[iv pi0, iv pi1, iv pi2, jv pj3, .second, jv pj4, .second, jv pj5, .second, iv x2, iv x9, iv x16, iv x23, iv x30, iv x37, iv x44, iv x50, iv x52, iv x55, iv x62, rv b69, iv x236, iv (1 : Int32), iv x16, iv x240, iv (1 : Int32), .unset, .unset, .unset, .unset, .unset] [])) t → Steps p.tables e below (T234.setTop (mkF m 262 #[iv pi0, iv pi1, iv pi2, jv pj3, .second, jv pj4, .second, jv pj5, .second, iv x2, iv x9, iv x16, iv x23, iv x30, iv x37, iv x44, iv x50, iv x52, iv x55, iv x62, rv b69, iv x236, iv (1 : Int32), iv x16, iv x240, iv (0 : Int32), .unset, .unset, .unset, .unset, .unset] [(.int x50), (.int x55)])) t := fun t kt => pre246 t (by
                  refine y_ifNo X234.here hx (hb hby at_267) ((if0 _ _).trans (teq hm267_247).2) (pc' := 270) rfl ?_
                  refine y_iconst X234.here hx (hb hby at_270) (v := (1 : Int32)) rfl (pc' := 271) rfl ?_
                  refine y_istore X234.here hx (hb hby at_271) (l' := #[iv pi0, iv pi1, iv pi2, jv pj3, .second, jv pj4, .second, jv pj5, .second, iv x2, iv x9, iv x16, iv x23, iv x30, iv x37, iv x44, iv x50, iv x52, iv x55, iv x62, rv b69, iv x236, iv (1 : Int32), iv x16, iv x240, iv (1 : Int32), .unset, .unset, .unset, .unset, .unset]) rfl (pc' := 273) rfl ?_
                  exact kt)
              refine ⟨T234, ⟨X234, e234q.trans e234q.symm⟩, fun t kt => pre248 t ?_⟩
              (try simp only [if_pos hm262_245, if_pos hm267_247] at kt)
              exact kt
            · have pre249 : ∀ t, Steps p.tables e below (T234.setTop (mkF m 273 #[iv pi0, iv pi1, iv pi2, jv pj3, .second, jv pj4, .second, jv pj5, .second, iv x2, iv x9, iv x16, iv x23, iv x30, iv x37, iv x44, iv x50, iv x52, iv x55, iv x62, rv b69, iv x236, iv (1 : Int32), iv x16, iv x240, iv (0 : Int32), .unset, .unset, .unset, .unset, .unset] [])) t → Steps p.tables e below (T234.setTop (mkF m 262 #[iv pi0, iv pi1, iv pi2, jv pj3, .second, jv pj4, .second, jv pj5, .second, iv x2, iv x9, iv x16, iv x23, iv x30, iv x37, iv x44, iv x50, iv x52, iv x55, iv x62, rv b69, iv x236, iv (1 : Int32), iv x16, iv x240, iv (0 : Int32), .unset, .unset, .unset, .unset, .unset] [(.int x50), (.int x55)])) t := fun t kt => pre246 t (by
                  refine y_ifYes X234.here hx (hb hby at_267) ((if0 _ _).trans (feq hm267_247).2) (pc' := 273) (by decide) rfl ?_
                  exact kt)
              refine ⟨T234, ⟨X234, e234q.trans e234q.symm⟩, fun t kt => pre249 t ?_⟩
              (try simp only [if_pos hm262_245, if_neg hm267_247] at kt)
              exact kt
          · have pre250 : ∀ t, Steps p.tables e below (T234.setTop (mkF m 273 #[iv pi0, iv pi1, iv pi2, jv pj3, .second, jv pj4, .second, jv pj5, .second, iv x2, iv x9, iv x16, iv x23, iv x30, iv x37, iv x44, iv x50, iv x52, iv x55, iv x62, rv b69, iv x236, iv (1 : Int32), iv x16, iv x240, iv (1 : Int32), .unset, .unset, .unset, .unset, .unset] [])) t → Steps p.tables e below (T234.setTop (mkF m 262 #[iv pi0, iv pi1, iv pi2, jv pj3, .second, jv pj4, .second, jv pj5, .second, iv x2, iv x9, iv x16, iv x23, iv x30, iv x37, iv x44, iv x50, iv x52, iv x55, iv x62, rv b69, iv x236, iv (1 : Int32), iv x16, iv x240, iv (0 : Int32), .unset, .unset, .unset, .unset, .unset] [(.int x50), (.int x55)])) t := fun t kt => pre244_ t (by
                refine y_icmpYes X234.here hx (hb hby at_262) (feq hm262_245).2 (pc' := 270) (by decide) rfl ?_
                refine y_iconst X234.here hx (hb hby at_270) (v := (1 : Int32)) rfl (pc' := 271) rfl ?_
                refine y_istore X234.here hx (hb hby at_271) (l' := #[iv pi0, iv pi1, iv pi2, jv pj3, .second, jv pj4, .second, jv pj5, .second, iv x2, iv x9, iv x16, iv x23, iv x30, iv x37, iv x44, iv x50, iv x52, iv x55, iv x62, rv b69, iv x236, iv (1 : Int32), iv x16, iv x240, iv (1 : Int32), .unset, .unset, .unset, .unset, .unset]) rfl (pc' := 273) rfl ?_
                exact kt)
            refine ⟨T234, ⟨X234, e234q.trans e234q.symm⟩, fun t kt => pre250 t ?_⟩
            (try simp only [if_neg hm262_245] at kt)
            exact kt
        have e244 : T244.heap = h218 := q244.trans e234q
        have pre251 : ∀ t, Steps p.tables e below (T244.setTop (mkF m 273 #[iv pi0, iv pi1, iv pi2, jv pj3, .second, jv pj4, .second, jv pj5, .second, iv x2, iv x9, iv x16, iv x23, iv x30, iv x37, iv x44, iv x50, iv x52, iv x55, iv x62, rv b69, iv x236, iv (1 : Int32), iv x16, iv x240, iv x243, .unset, .unset, .unset, .unset, .unset] [])) t → Go t := fun t kt => pre242 t (st244 t kt)
        have pre252 : ∀ t, Steps p.tables e below (T244.setTop (mkF m 282 #[iv pi0, iv pi1, iv pi2, jv pj3, .second, jv pj4, .second, jv pj5, .second, iv x2, iv x9, iv x16, iv x23, iv x30, iv x37, iv x44, iv x50, iv x52, iv x55, iv x62, rv b69, iv x236, iv (1 : Int32), iv x16, iv x240, iv x243, .unset, .unset, .unset, .unset, .unset] [(.int x52), (.int x62)])) t → Go t := fun t kt => pre251 t (by
            refine y_iload X244.here hx (hb hby at_273) rfl (pc' := 275) rfl ?_
            refine y_ifNo X244.here hx (hb hby at_275) ((if0 _ _).trans (feq hc177_170).1) (pc' := 278) rfl ?_
            refine y_iload X244.here hx (hb hby at_278) rfl (pc' := 280) rfl ?_
            refine y_iload X244.here hx (hb hby at_280) rfl (pc' := 282) rfl ?_
            exact kt)
        obtain ⟨x253, hx253⟩ : ∃ z : Int32, z = (if x62 = x52 then (if x30 = (0 : Int32) then (1 : Int32) else x243) else (1 : Int32)) := ⟨_, rfl⟩
        obtain ⟨T254, ⟨X254, q254⟩, st254⟩ : ∃ T', Nx X244 T' ∧ ∀ t, Steps p.tables e below (T'.setTop (mkF m 293 #[iv pi0, iv pi1, iv pi2, jv pj3, .second, jv pj4, .second, jv pj5, .second, iv x2, iv x9, iv x16, iv x23, iv x30, iv x37, iv x44, iv x50, iv x52, iv x55, iv x62, rv b69, iv x236, iv (1 : Int32), iv x16, iv x240, iv x253, .unset, .unset, .unset, .unset, .unset] [])) t → Steps p.tables e below (T244.setTop (mkF m 282 #[iv pi0, iv pi1, iv pi2, jv pj3, .second, jv pj4, .second, jv pj5, .second, iv x2, iv x9, iv x16, iv x23, iv x30, iv x37, iv x44, iv x50, iv x52, iv x55, iv x62, rv b69, iv x236, iv (1 : Int32), iv x16, iv x240, iv x243, .unset, .unset, .unset, .unset, .unset] [(.int x52), (.int x62)])) t := by
          have pre254_ : ∀ t, Steps p.tables e below (T244.setTop (mkF m 282 #[iv pi0, iv pi1, iv pi2, jv pj3, .second, jv pj4, .second, jv pj5, .second, iv x2, iv x9, iv x16, iv x23, iv x30, iv x37, iv x44, iv x50, iv x52, iv x55, iv x62, rv b69, iv x236, iv (1 : Int32), iv x16, iv x240, iv x243, .unset, .unset, .unset, .unset, .unset] [(.int x52), (.int x62)])) t → Steps p.tables e below (T244.setTop (mkF m 282 #[iv pi0, iv pi1, iv pi2, jv pj3, .second, jv pj4, .second, jv pj5, .second, iv x2, iv x9, iv x16, iv x23, iv x30, iv x37, iv x44, iv x50, iv x52, iv x55, iv x62, rv b69, iv x236, iv (1 : Int32), iv x16, iv x240, iv x243, .unset, .unset, .unset, .unset, .unset] [(.int x52), (.int x62)])) t := fun t kt => kt
          subst hx253
          by_cases hm282_255 : x62 = x52
          · have pre256 : ∀ t, Steps p.tables e below (T244.setTop (mkF m 287 #[iv pi0, iv pi1, iv pi2, jv pj3, .second, jv pj4, .second, jv pj5, .second, iv x2, iv x9, iv x16, iv x23, iv x30, iv x37, iv x44, iv x50, iv x52, iv x55, iv x62, rv b69, iv x236, iv (1 : Int32), iv x16, iv x240, iv x243, .unset, .unset, .unset, .unset, .unset] [(.int x30)])) t → Steps p.tables e below (T244.setTop (mkF m 282 #[iv pi0, iv pi1, iv pi2, jv pj3, .second, jv pj4, .second, jv pj5, .second, iv x2, iv x9, iv x16, iv x23, iv x30, iv x37, iv x44, iv x50, iv x52, iv x55, iv x62, rv b69, iv x236, iv (1 : Int32), iv x16, iv x240, iv x243, .unset, .unset, .unset, .unset, .unset] [(.int x52), (.int x62)])) t := fun t kt => pre254_ t (by
                refine y_icmpNo X244.here hx (hb hby at_282) (teq hm282_255).2 (pc' := 285) rfl ?_
                refine y_iload X244.here hx (hb hby at_285) rfl (pc' := 287) rfl ?_
                exact kt)
            by_cases hm287_257 : x30 = (0 : Int32)
            · have pre258 : ∀ t, Steps p.tables e below (T244.setTop (mkF m 293 #[iv pi0, iv pi1, iv pi2, jv pj3, .second, jv pj4, .second, jv pj5, .second, iv x2, iv x9, iv x16, iv x23, iv x30, iv x37, iv x44, iv x50, iv x52, iv x55, iv x62, rv b69, iv x236, iv (1 : Int32), iv x16, iv x240, iv (1 : Int32), .unset, .unset, .unset, .unset, .unset] [])) t → Steps p.tables e below (T244.setTop (mkF m 282 #[iv pi0, iv pi1, iv pi2, jv pj3, .second, jv pj4, .second, jv pj5, .second, iv x2, iv x9, iv x16, iv x23, iv x30, iv x37, iv x44, iv x50, iv x52, iv x55, iv x62, rv b69, iv x236, iv (1 : Int32), iv x16, iv x240, iv x243, .unset, .unset, .unset, .unset, .unset] [(.int x52), (.int x62)])) t := fun t kt => pre256 t (by
                  refine y_ifNo X244.here hx (hb hby at_287) ((if0 _ _).trans (teq hm287_257).2) (pc' := 290) rfl ?_
                  refine y_iconst X244.here hx (hb hby at_290) (v := (1 : Int32)) rfl (pc' := 291) rfl ?_
                  refine y_istore X244.here hx (hb hby at_291) (l' := #[iv pi0, iv pi1, iv pi2, jv pj3, .second, jv pj4, .second, jv pj5, .second, iv x2, iv x9, iv x16, iv x23, iv x30, iv x37, iv x44, iv x50, iv x52, iv x55, iv x62, rv b69, iv x236, iv (1 : Int32), iv x16, iv x240, iv (1 : Int32), .unset, .unset, .unset, .unset, .unset]) rfl (pc' := 293) rfl ?_
                  exact kt)
              refine ⟨T244, ⟨X244, e244.trans e244.symm⟩, fun t kt => pre258 t ?_⟩
              (try simp only [if_pos hm282_255, if_pos hm287_257] at kt)
              exact kt
            · have pre259 : ∀ t, Steps p.tables e below (T244.setTop (mkF m 293 #[iv pi0, iv pi1, iv pi2, jv pj3, .second, jv pj4, .second, jv pj5, .second, iv x2, iv x9, iv x16, iv x23, iv x30, iv x37, iv x44, iv x50, iv x52, iv x55, iv x62, rv b69, iv x236, iv (1 : Int32), iv x16, iv x240, iv x243, .unset, .unset, .unset, .unset, .unset] [])) t → Steps p.tables e below (T244.setTop (mkF m 282 #[iv pi0, iv pi1, iv pi2, jv pj3, .second, jv pj4, .second, jv pj5, .second, iv x2, iv x9, iv x16, iv x23, iv x30, iv x37, iv x44, iv x50, iv x52, iv x55, iv x62, rv b69, iv x236, iv (1 : Int32), iv x16, iv x240, iv x243, .unset, .unset, .unset, .unset, .unset] [(.int x52), (.int x62)])) t := fun t kt => pre256 t (by
                  refine y_ifYes X244.here hx (hb hby at_287) ((if0 _ _).trans (feq hm287_257).2) (pc' := 293) (by decide) rfl ?_
                  exact kt)
              refine ⟨T244, ⟨X244, e244.trans e244.symm⟩, fun t kt => pre259 t ?_⟩
              (try simp only [if_pos hm282_255, if_neg hm287_257] at kt)
              exact kt
          · have pre260 : ∀ t, Steps p.tables e below (T244.setTop (mkF m 293 #[iv pi0, iv pi1, iv pi2, jv pj3, .second, jv pj4, .second, jv pj5, .second, iv x2, iv x9, iv x16, iv x23, iv x30, iv x37, iv x44, iv x50, iv x52, iv x55, iv x62, rv b69, iv x236, iv (1 : Int32), iv x16, iv x240, iv (1 : Int32), .unset, .unset, .unset, .unset, .unset] [])) t → Steps p.tables e below (T244.setTop (mkF m 282 #[iv pi0, iv pi1, iv pi2, jv pj3, .second, jv pj4, .second, jv pj5, .second, iv x2, iv x9, iv x16, iv x23, iv x30, iv x37, iv x44, iv x50, iv x52, iv x55, iv x62, rv b69, iv x236, iv (1 : Int32), iv x16, iv x240, iv x243, .unset, .unset, .unset, .unset, .unset] [(.int x52), (.int x62)])) t := fun t kt => pre254_ t (by
                refine y_icmpYes X244.here hx (hb hby at_282) (feq hm282_255).2 (pc' := 290) (by decide) rfl ?_
                refine y_iconst X244.here hx (hb hby at_290) (v := (1 : Int32)) rfl (pc' := 291) rfl ?_
                refine y_istore X244.here hx (hb hby at_291) (l' := #[iv pi0, iv pi1, iv pi2, jv pj3, .second, jv pj4, .second, jv pj5, .second, iv x2, iv x9, iv x16, iv x23, iv x30, iv x37, iv x44, iv x50, iv x52, iv x55, iv x62, rv b69, iv x236, iv (1 : Int32), iv x16, iv x240, iv (1 : Int32), .unset, .unset, .unset, .unset, .unset]) rfl (pc' := 293) rfl ?_
                exact kt)
            refine ⟨T244, ⟨X244, e244.trans e244.symm⟩, fun t kt => pre260 t ?_⟩
            (try simp only [if_neg hm282_255] at kt)
            exact kt
        have e254 : T254.heap = h218 := q254.trans e244
        have pre261 : ∀ t, Steps p.tables e below (T254.setTop (mkF m 293 #[iv pi0, iv pi1, iv pi2, jv pj3, .second, jv pj4, .second, jv pj5, .second, iv x2, iv x9, iv x16, iv x23, iv x30, iv x37, iv x44, iv x50, iv x52, iv x55, iv x62, rv b69, iv x236, iv (1 : Int32), iv x16, iv x240, iv x253, .unset, .unset, .unset, .unset, .unset] [])) t → Go t := fun t kt => pre252 t (st254 t kt)
        have pre262 : ∀ t, Steps p.tables e below (T254.setTop (mkF m 295 #[iv pi0, iv pi1, iv pi2, jv pj3, .second, jv pj4, .second, jv pj5, .second, iv x2, iv x9, iv x16, iv x23, iv x30, iv x37, iv x44, iv x50, iv x52, iv x55, iv x62, rv b69, iv x236, iv (1 : Int32), iv x16, iv x240, iv x253, .unset, .unset, .unset, .unset, .unset] [(.int x240)])) t → Go t := fun t kt => pre261 t (by
            refine y_iload X254.here hx (hb hby at_293) rfl (pc' := 295) rfl ?_
            exact kt)
        by_cases hc295_263 : x240 = (0 : Int32)
        · have pre265 : ∀ t, Steps p.tables e below (T254.setTop (mkF m 388 #[iv pi0, iv pi1, iv pi2, jv pj3, .second, jv pj4, .second, jv pj5, .second, iv x2, iv x9, iv x16, iv x23, iv x30, iv x37, iv x44, iv x50, iv x52, iv x55, iv x62, rv b69, iv x236, iv (1 : Int32), iv x16, iv x240, iv x253, iv (0 : Int32), .unset, .unset, .unset, .unset] [(.int (0 : Int32)), (.int x236)])) t → Go t := fun t kt => pre262 t (by
              refine y_ifNo X254.here hx (hb hby at_295) ((if0 _ _).trans (teq hc295_263).2) (pc' := 298) rfl ?_
              refine y_iconst X254.here hx (hb hby at_298) (v := (0 : Int32)) rfl (pc' := 299) rfl ?_
              refine y_istore X254.here hx (hb hby at_299) (l' := #[iv pi0, iv pi1, iv pi2, jv pj3, .second, jv pj4, .second, jv pj5, .second, iv x2, iv x9, iv x16, iv x23, iv x30, iv x37, iv x44, iv x50, iv x52, iv x55, iv x62, rv b69, iv x236, iv (1 : Int32), iv x16, iv x240, iv x253, iv (0 : Int32), .unset, .unset, .unset, .unset]) rfl (pc' := 301) rfl ?_
              refine y_goto X254.here hx (hb hby at_301) (pc' := 384) (by decide) rfl ?_
              refine y_iload X254.here hx (hb hby at_384) rfl (pc' := 386) rfl ?_
              refine y_iload X254.here hx (hb hby at_386) rfl (pc' := 388) rfl ?_
              exact kt)
          have hf388_264 : x236 = (0 : Int32) := by
              exact law0_266 pj3 pj4 pj5 x2 x9 x16 x23 x30 x50 x52 x55 x62 x163 x164 x165 x228 x229 x230 x231 x236 x238 x240 hx163 hx164 hx165 hx228 hx229 hx230 hx231 hx236 hx238 hx240 hc150_83 hc167_168 hc177_170 hc295_263 B1 B2
          have pre267 : ∀ t, Steps p.tables e below (T254.setTop (mkF m 396 #[iv pi0, iv pi1, iv pi2, jv pj3, .second, jv pj4, .second, jv pj5, .second, iv x2, iv x9, iv x16, iv x23, iv x30, iv x37, iv x44, iv x50, iv x52, iv x55, iv x62, rv b69, iv x236, iv (1 : Int32), iv x16, iv x240, iv x253, iv (0 : Int32), .unset, .unset, .unset, .unset] [(.int (1 : Int32))])) t → Go t := fun t kt => pre265 t (by
              refine y_icmpNo X254.here hx (hb hby at_388) (teq hf388_264).2 (pc' := 391) rfl ?_
              refine y_iconst X254.here hx (hb hby at_391) (v := (1 : Int32)) rfl (pc' := 392) rfl ?_
              refine y_goto X254.here hx (hb hby at_392) (pc' := 396) (by decide) rfl ?_
              exact kt)
          obtain ⟨fs, hr, hrun, hended, hW, hsame⟩ := X254.leave (v := some (.int (1 : Int32))) (fun h => by rw [Bd.returns] at h; cases h)
          refine ⟨_, _, (hGo _).mp (pre267 _ ?_), hrun, hended, _, _, rfl, ?_, ⟨_, rfl⟩, hW, hsame.mono (by decide) (by decide)⟩
          · exact retN X254 hx (t := .boolean) Bd.returns (by simp) (hb hby at_396) hr
          · show Q0 Z pi0 pi1 pi2 pj3 pj4 pj5 h0 n0 _ T254.heap _
            rw [e254]
            exact ⟨rfl, N235⟩
        · have pre268 : ∀ t, Steps p.tables e below (T254.setTop (mkF m 306 #[iv pi0, iv pi1, iv pi2, jv pj3, .second, jv pj4, .second, jv pj5, .second, iv x2, iv x9, iv x16, iv x23, iv x30, iv x37, iv x44, iv x50, iv x52, iv x55, iv x62, rv b69, iv x236, iv (1 : Int32), iv x16, iv x240, iv x253, .unset, .unset, .unset, .unset, .unset] [(.int x253)])) t → Go t := fun t kt => pre262 t (by
              refine y_ifYes X254.here hx (hb hby at_295) ((if0 _ _).trans (feq hc295_263).2) (pc' := 304) (by decide) rfl ?_
              refine y_iload X254.here hx (hb hby at_304) rfl (pc' := 306) rfl ?_
              exact kt)
          by_cases hc306_269 : x253 = (0 : Int32)
          · have pre270 : ∀ t, Steps p.tables e below (T254.setTop (mkF m 313 #[iv pi0, iv pi1, iv pi2, jv pj3, .second, jv pj4, .second, jv pj5, .second, iv x2, iv x9, iv x16, iv x23, iv x30, iv x37, iv x44, iv x50, iv x52, iv x55, iv x62, rv b69, iv x236, iv (1 : Int32), iv x16, iv x240, iv x253, .unset, .unset, .unset, .unset, .unset] [(.int (16 : Int32)), (.int x240)])) t → Go t := fun t kt => pre268 t (by
                refine y_ifNo X254.here hx (hb hby at_306) ((if0 _ _).trans (teq hc306_269).2) (pc' := 309) rfl ?_
                refine y_iload X254.here hx (hb hby at_309) rfl (pc' := 311) rfl ?_
                refine y_bipush X254.here hx (hb hby at_311) (v := (16 : Int32)) rfl (pc' := 313) rfl ?_
                exact kt)
            by_cases hc313_271 : x240 < (16 : Int32)
            · have pre272 : ∀ t, Steps p.tables e below (T254.setTop (mkF m 374 #[iv pi0, iv pi1, iv pi2, jv pj3, .second, jv pj4, .second, jv pj5, .second, iv x2, iv x9, iv x16, iv x23, iv x30, iv x37, iv x44, iv x50, iv x52, iv x55, iv x62, rv b69, iv x236, iv (1 : Int32), iv x16, iv x240, iv x253, .unset, jv pj3, .second, jv (150000000 : Int64), .second] [(.int (lcmpW (pj5 - pj3) (150000000 : Int64)))])) t → Go t := fun t kt => pre270 t (by
                  refine y_icmpYes X254.here hx (hb hby at_313) (tlt hc313_271).1 (pc' := 322) (by decide) rfl ?_
                  refine y_iload X254.here hx (hb hby at_322) rfl (pc' := 324) rfl ?_
                  refine y_ifNo X254.here hx (hb hby at_324) ((if0 _ _).trans (feq (by decide : ¬ ((1 : Int32) = (0 : Int32)))).1) (pc' := 327) rfl ?_
                  refine y_lloadN X254.here hx (hb hby at_327) rfl (pc' := 328) rfl ?_
                  refine y_goto X254.here hx (hb hby at_328) (pc' := 333) (by decide) rfl ?_
                  refine y_lstore X254.here hx (hb hby at_333) (l' := #[iv pi0, iv pi1, iv pi2, jv pj3, .second, jv pj4, .second, jv pj5, .second, iv x2, iv x9, iv x16, iv x23, iv x30, iv x37, iv x44, iv x50, iv x52, iv x55, iv x62, rv b69, iv x236, iv (1 : Int32), iv x16, iv x240, iv x253, .unset, jv pj3, .second, .unset, .unset]) rfl (pc' := 335) rfl ?_
                  refine X254.ldc2Long hx hown (mvT hZ (hw _ (List.mem_of_getElem? (i := 40) rfl))) (g := (mkF m 335 #[iv pi0, iv pi1, iv pi2, jv pj3, .second, jv pj4, .second, jv pj5, .second, iv x2, iv x9, iv x16, iv x23, iv x30, iv x37, iv x44, iv x50, iv x52, iv x55, iv x62, rv b69, iv x236, iv (1 : Int32), iv x16, iv x240, iv x253, .unset, jv pj3, .second, .unset, .unset] [])) rfl (hb hby at_335) _ ?_
                  show Steps p.tables e below (T254.setTop (mkF m 338 #[iv pi0, iv pi1, iv pi2, jv pj3, .second, jv pj4, .second, jv pj5, .second, iv x2, iv x9, iv x16, iv x23, iv x30, iv x37, iv x44, iv x50, iv x52, iv x55, iv x62, rv b69, iv x236, iv (1 : Int32), iv x16, iv x240, iv x253, .unset, jv pj3, .second, .unset, .unset] [(.long (150000000 : Int64))])) _
                  refine y_lstore X254.here hx (hb hby at_338) (l' := #[iv pi0, iv pi1, iv pi2, jv pj3, .second, jv pj4, .second, jv pj5, .second, iv x2, iv x9, iv x16, iv x23, iv x30, iv x37, iv x44, iv x50, iv x52, iv x55, iv x62, rv b69, iv x236, iv (1 : Int32), iv x16, iv x240, iv x253, .unset, jv pj3, .second, jv (150000000 : Int64), .second]) rfl (pc' := 340) rfl ?_
                  refine y_iload X254.here hx (hb hby at_340) rfl (pc' := 342) rfl ?_
                  refine y_ifYes X254.here hx (hb hby at_342) ((if0 _ _).trans (feq (by decide : ¬ ((1 : Int32) = (0 : Int32)))).2) (pc' := 366) (by decide) rfl ?_
                  refine y_lload X254.here hx (hb hby at_366) rfl (pc' := 368) rfl ?_
                  refine y_lload X254.here hx (hb hby at_368) rfl (pc' := 370) rfl ?_
                  refine y_lsub X254.here hx (hb hby at_370) rfl (pc' := 371) rfl ?_
                  refine y_lload X254.here hx (hb hby at_371) rfl (pc' := 373) rfl ?_
                  refine y_lcmp X254.here hx (hb hby at_373) (pc' := 374) rfl ?_
                  exact kt)
              obtain ⟨x273, hx273⟩ : ∃ z : Int32, z = (if (pj5 - pj3) < (150000000 : Int64) then (0 : Int32) else (1 : Int32)) := ⟨_, rfl⟩
              obtain ⟨T274, ⟨X274, q274⟩, st274⟩ : ∃ T', Nx X254 T' ∧ ∀ t, Steps p.tables e below (T'.setTop (mkF m 382 #[iv pi0, iv pi1, iv pi2, jv pj3, .second, jv pj4, .second, jv pj5, .second, iv x2, iv x9, iv x16, iv x23, iv x30, iv x37, iv x44, iv x50, iv x52, iv x55, iv x62, rv b69, iv x236, iv (1 : Int32), iv x16, iv x240, iv x253, .unset, jv pj3, .second, jv (150000000 : Int64), .second] [(.int x273)])) t → Steps p.tables e below (T254.setTop (mkF m 374 #[iv pi0, iv pi1, iv pi2, jv pj3, .second, jv pj4, .second, jv pj5, .second, iv x2, iv x9, iv x16, iv x23, iv x30, iv x37, iv x44, iv x50, iv x52, iv x55, iv x62, rv b69, iv x236, iv (1 : Int32), iv x16, iv x240, iv x253, .unset, jv pj3, .second, jv (150000000 : Int64), .second] [(.int (lcmpW (pj5 - pj3) (150000000 : Int64)))])) t := by
                have pre274_ : ∀ t, Steps p.tables e below (T254.setTop (mkF m 374 #[iv pi0, iv pi1, iv pi2, jv pj3, .second, jv pj4, .second, jv pj5, .second, iv x2, iv x9, iv x16, iv x23, iv x30, iv x37, iv x44, iv x50, iv x52, iv x55, iv x62, rv b69, iv x236, iv (1 : Int32), iv x16, iv x240, iv x253, .unset, jv pj3, .second, jv (150000000 : Int64), .second] [(.int (lcmpW (pj5 - pj3) (150000000 : Int64)))])) t → Steps p.tables e below (T254.setTop (mkF m 374 #[iv pi0, iv pi1, iv pi2, jv pj3, .second, jv pj4, .second, jv pj5, .second, iv x2, iv x9, iv x16, iv x23, iv x30, iv x37, iv x44, iv x50, iv x52, iv x55, iv x62, rv b69, iv x236, iv (1 : Int32), iv x16, iv x240, iv x253, .unset, jv pj3, .second, jv (150000000 : Int64), .second] [(.int (lcmpW (pj5 - pj3) (150000000 : Int64)))])) t := fun t kt => kt
                subst hx273
                by_cases hm374_275 : (pj5 - pj3) < (150000000 : Int64)
                · have pre276 : ∀ t, Steps p.tables e below (T254.setTop (mkF m 382 #[iv pi0, iv pi1, iv pi2, jv pj3, .second, jv pj4, .second, jv pj5, .second, iv x2, iv x9, iv x16, iv x23, iv x30, iv x37, iv x44, iv x50, iv x52, iv x55, iv x62, rv b69, iv x236, iv (1 : Int32), iv x16, iv x240, iv x253, .unset, jv pj3, .second, jv (150000000 : Int64), .second] [(.int (0 : Int32))])) t → Steps p.tables e below (T254.setTop (mkF m 374 #[iv pi0, iv pi1, iv pi2, jv pj3, .second, jv pj4, .second, jv pj5, .second, iv x2, iv x9, iv x16, iv x23, iv x30, iv x37, iv x44, iv x50, iv x52, iv x55, iv x62, rv b69, iv x236, iv (1 : Int32), iv x16, iv x240, iv x253, .unset, jv pj3, .second, jv (150000000 : Int64), .second] [(.int (lcmpW (pj5 - pj3) (150000000 : Int64)))])) t := fun t kt => pre274_ t (by
                      refine y_ifYes X254.here hx (hb hby at_374) ((if0 _ _).trans (tlt (lq_lt hm374_275)).1) (pc' := 381) (by decide) rfl ?_
                      refine y_iconst X254.here hx (hb hby at_381) (v := (0 : Int32)) rfl (pc' := 382) rfl ?_
                      exact kt)
                  refine ⟨T254, ⟨X254, e254.trans e254.symm⟩, fun t kt => pre276 t ?_⟩
                  (try simp only [if_pos hm374_275] at kt)
                  exact kt
                · have pre277 : ∀ t, Steps p.tables e below (T254.setTop (mkF m 382 #[iv pi0, iv pi1, iv pi2, jv pj3, .second, jv pj4, .second, jv pj5, .second, iv x2, iv x9, iv x16, iv x23, iv x30, iv x37, iv x44, iv x50, iv x52, iv x55, iv x62, rv b69, iv x236, iv (1 : Int32), iv x16, iv x240, iv x253, .unset, jv pj3, .second, jv (150000000 : Int64), .second] [(.int (1 : Int32))])) t → Steps p.tables e below (T254.setTop (mkF m 374 #[iv pi0, iv pi1, iv pi2, jv pj3, .second, jv pj4, .second, jv pj5, .second, iv x2, iv x9, iv x16, iv x23, iv x30, iv x37, iv x44, iv x50, iv x52, iv x55, iv x62, rv b69, iv x236, iv (1 : Int32), iv x16, iv x240, iv x253, .unset, jv pj3, .second, jv (150000000 : Int64), .second] [(.int (lcmpW (pj5 - pj3) (150000000 : Int64)))])) t := fun t kt => pre274_ t (by
                      refine y_ifNo X254.here hx (hb hby at_374) ((if0 _ _).trans (flt (lq_nlt hm374_275)).1) (pc' := 377) rfl ?_
                      refine y_iconst X254.here hx (hb hby at_377) (v := (1 : Int32)) rfl (pc' := 378) rfl ?_
                      refine y_goto X254.here hx (hb hby at_378) (pc' := 382) (by decide) rfl ?_
                      exact kt)
                  refine ⟨T254, ⟨X254, e254.trans e254.symm⟩, fun t kt => pre277 t ?_⟩
                  (try simp only [if_neg hm374_275] at kt)
                  exact kt
              have e274 : T274.heap = h218 := q274.trans e254
              have pre278 : ∀ t, Steps p.tables e below (T274.setTop (mkF m 382 #[iv pi0, iv pi1, iv pi2, jv pj3, .second, jv pj4, .second, jv pj5, .second, iv x2, iv x9, iv x16, iv x23, iv x30, iv x37, iv x44, iv x50, iv x52, iv x55, iv x62, rv b69, iv x236, iv (1 : Int32), iv x16, iv x240, iv x253, .unset, jv pj3, .second, jv (150000000 : Int64), .second] [(.int x273)])) t → Go t := fun t kt => pre272 t (st274 t kt)
              have pre280 : ∀ t, Steps p.tables e below (T274.setTop (mkF m 388 #[iv pi0, iv pi1, iv pi2, jv pj3, .second, jv pj4, .second, jv pj5, .second, iv x2, iv x9, iv x16, iv x23, iv x30, iv x37, iv x44, iv x50, iv x52, iv x55, iv x62, rv b69, iv x236, iv (1 : Int32), iv x16, iv x240, iv x253, iv x273, jv pj3, .second, jv (150000000 : Int64), .second] [(.int x273), (.int x236)])) t → Go t := fun t kt => pre278 t (by
                  refine y_istore X274.here hx (hb hby at_382) (l' := #[iv pi0, iv pi1, iv pi2, jv pj3, .second, jv pj4, .second, jv pj5, .second, iv x2, iv x9, iv x16, iv x23, iv x30, iv x37, iv x44, iv x50, iv x52, iv x55, iv x62, rv b69, iv x236, iv (1 : Int32), iv x16, iv x240, iv x253, iv x273, jv pj3, .second, jv (150000000 : Int64), .second]) rfl (pc' := 384) rfl ?_
                  refine y_iload X274.here hx (hb hby at_384) rfl (pc' := 386) rfl ?_
                  refine y_iload X274.here hx (hb hby at_386) rfl (pc' := 388) rfl ?_
                  exact kt)
              have hf388_279 : x236 = x273 := by
                  exact law0_281 pj3 pj4 pj5 x2 x9 x16 x23 x30 x50 x52 x55 x62 x163 x164 x165 x228 x229 x230 x231 x236 x238 x240 x243 x253 x273 hx163 hx164 hx165 hx228 hx229 hx230 hx231 hx236 hx238 hx240 hx243 hx253 hx273 hc150_83 hc167_168 hc177_170 hc295_263 hc306_269 hc313_271 B1 B2
              have pre282 : ∀ t, Steps p.tables e below (T274.setTop (mkF m 396 #[iv pi0, iv pi1, iv pi2, jv pj3, .second, jv pj4, .second, jv pj5, .second, iv x2, iv x9, iv x16, iv x23, iv x30, iv x37, iv x44, iv x50, iv x52, iv x55, iv x62, rv b69, iv x236, iv (1 : Int32), iv x16, iv x240, iv x253, iv x273, jv pj3, .second, jv (150000000 : Int64), .second] [(.int (1 : Int32))])) t → Go t := fun t kt => pre280 t (by
                  refine y_icmpNo X274.here hx (hb hby at_388) (teq hf388_279).2 (pc' := 391) rfl ?_
                  refine y_iconst X274.here hx (hb hby at_391) (v := (1 : Int32)) rfl (pc' := 392) rfl ?_
                  refine y_goto X274.here hx (hb hby at_392) (pc' := 396) (by decide) rfl ?_
                  exact kt)
              obtain ⟨fs, hr, hrun, hended, hW, hsame⟩ := X274.leave (v := some (.int (1 : Int32))) (fun h => by rw [Bd.returns] at h; cases h)
              refine ⟨_, _, (hGo _).mp (pre282 _ ?_), hrun, hended, _, _, rfl, ?_, ⟨_, rfl⟩, hW, hsame.mono (by decide) (by decide)⟩
              · exact retN X274 hx (t := .boolean) Bd.returns (by simp) (hb hby at_396) hr
              · show Q0 Z pi0 pi1 pi2 pj3 pj4 pj5 h0 n0 _ T274.heap _
                rw [e274]
                exact ⟨rfl, N235⟩
            · have pre284 : ∀ t, Steps p.tables e below (T254.setTop (mkF m 388 #[iv pi0, iv pi1, iv pi2, jv pj3, .second, jv pj4, .second, jv pj5, .second, iv x2, iv x9, iv x16, iv x23, iv x30, iv x37, iv x44, iv x50, iv x52, iv x55, iv x62, rv b69, iv x236, iv (1 : Int32), iv x16, iv x240, iv x253, iv (1 : Int32), .unset, .unset, .unset, .unset] [(.int (1 : Int32)), (.int x236)])) t → Go t := fun t kt => pre270 t (by
                  refine y_icmpNo X254.here hx (hb hby at_313) (flt hc313_271).1 (pc' := 316) rfl ?_
                  refine y_iconst X254.here hx (hb hby at_316) (v := (1 : Int32)) rfl (pc' := 317) rfl ?_
                  refine y_istore X254.here hx (hb hby at_317) (l' := #[iv pi0, iv pi1, iv pi2, jv pj3, .second, jv pj4, .second, jv pj5, .second, iv x2, iv x9, iv x16, iv x23, iv x30, iv x37, iv x44, iv x50, iv x52, iv x55, iv x62, rv b69, iv x236, iv (1 : Int32), iv x16, iv x240, iv x253, iv (1 : Int32), .unset, .unset, .unset, .unset]) rfl (pc' := 319) rfl ?_
                  refine y_goto X254.here hx (hb hby at_319) (pc' := 384) (by decide) rfl ?_
                  refine y_iload X254.here hx (hb hby at_384) rfl (pc' := 386) rfl ?_
                  refine y_iload X254.here hx (hb hby at_386) rfl (pc' := 388) rfl ?_
                  exact kt)
              have hf388_283 : x236 = (1 : Int32) := by
                  exact law0_285 pj3 pj4 pj5 x2 x9 x16 x23 x30 x50 x52 x55 x62 x163 x164 x165 x228 x229 x230 x231 x236 x238 x240 x243 x253 hx163 hx164 hx165 hx228 hx229 hx230 hx231 hx236 hx238 hx240 hx243 hx253 hc150_83 hc167_168 hc177_170 hc295_263 hc306_269 hc313_271 B1 B2
              have pre286 : ∀ t, Steps p.tables e below (T254.setTop (mkF m 396 #[iv pi0, iv pi1, iv pi2, jv pj3, .second, jv pj4, .second, jv pj5, .second, iv x2, iv x9, iv x16, iv x23, iv x30, iv x37, iv x44, iv x50, iv x52, iv x55, iv x62, rv b69, iv x236, iv (1 : Int32), iv x16, iv x240, iv x253, iv (1 : Int32), .unset, .unset, .unset, .unset] [(.int (1 : Int32))])) t → Go t := fun t kt => pre284 t (by
                  refine y_icmpNo X254.here hx (hb hby at_388) (teq hf388_283).2 (pc' := 391) rfl ?_
                  refine y_iconst X254.here hx (hb hby at_391) (v := (1 : Int32)) rfl (pc' := 392) rfl ?_
                  refine y_goto X254.here hx (hb hby at_392) (pc' := 396) (by decide) rfl ?_
                  exact kt)
              obtain ⟨fs, hr, hrun, hended, hW, hsame⟩ := X254.leave (v := some (.int (1 : Int32))) (fun h => by rw [Bd.returns] at h; cases h)
              refine ⟨_, _, (hGo _).mp (pre286 _ ?_), hrun, hended, _, _, rfl, ?_, ⟨_, rfl⟩, hW, hsame.mono (by decide) (by decide)⟩
              · exact retN X254 hx (t := .boolean) Bd.returns (by simp) (hb hby at_396) hr
              · show Q0 Z pi0 pi1 pi2 pj3 pj4 pj5 h0 n0 _ T254.heap _
                rw [e254]
                exact ⟨rfl, N235⟩
          · have pre288 : ∀ t, Steps p.tables e below (T254.setTop (mkF m 388 #[iv pi0, iv pi1, iv pi2, jv pj3, .second, jv pj4, .second, jv pj5, .second, iv x2, iv x9, iv x16, iv x23, iv x30, iv x37, iv x44, iv x50, iv x52, iv x55, iv x62, rv b69, iv x236, iv (1 : Int32), iv x16, iv x240, iv x253, iv (1 : Int32), .unset, .unset, .unset, .unset] [(.int (1 : Int32)), (.int x236)])) t → Go t := fun t kt => pre268 t (by
                refine y_ifYes X254.here hx (hb hby at_306) ((if0 _ _).trans (feq hc306_269).2) (pc' := 316) (by decide) rfl ?_
                refine y_iconst X254.here hx (hb hby at_316) (v := (1 : Int32)) rfl (pc' := 317) rfl ?_
                refine y_istore X254.here hx (hb hby at_317) (l' := #[iv pi0, iv pi1, iv pi2, jv pj3, .second, jv pj4, .second, jv pj5, .second, iv x2, iv x9, iv x16, iv x23, iv x30, iv x37, iv x44, iv x50, iv x52, iv x55, iv x62, rv b69, iv x236, iv (1 : Int32), iv x16, iv x240, iv x253, iv (1 : Int32), .unset, .unset, .unset, .unset]) rfl (pc' := 319) rfl ?_
                refine y_goto X254.here hx (hb hby at_319) (pc' := 384) (by decide) rfl ?_
                refine y_iload X254.here hx (hb hby at_384) rfl (pc' := 386) rfl ?_
                refine y_iload X254.here hx (hb hby at_386) rfl (pc' := 388) rfl ?_
                exact kt)
            have hf388_287 : x236 = (1 : Int32) := by
                exact law0_289 pj3 pj4 pj5 x2 x9 x16 x23 x30 x50 x52 x55 x62 x163 x164 x165 x228 x229 x230 x231 x236 x238 x240 x243 x253 hx163 hx164 hx165 hx228 hx229 hx230 hx231 hx236 hx238 hx240 hx243 hx253 hc150_83 hc167_168 hc177_170 hc295_263 hc306_269 B1 B2
            have pre290 : ∀ t, Steps p.tables e below (T254.setTop (mkF m 396 #[iv pi0, iv pi1, iv pi2, jv pj3, .second, jv pj4, .second, jv pj5, .second, iv x2, iv x9, iv x16, iv x23, iv x30, iv x37, iv x44, iv x50, iv x52, iv x55, iv x62, rv b69, iv x236, iv (1 : Int32), iv x16, iv x240, iv x253, iv (1 : Int32), .unset, .unset, .unset, .unset] [(.int (1 : Int32))])) t → Go t := fun t kt => pre288 t (by
                refine y_icmpNo X254.here hx (hb hby at_388) (teq hf388_287).2 (pc' := 391) rfl ?_
                refine y_iconst X254.here hx (hb hby at_391) (v := (1 : Int32)) rfl (pc' := 392) rfl ?_
                refine y_goto X254.here hx (hb hby at_392) (pc' := 396) (by decide) rfl ?_
                exact kt)
            obtain ⟨fs, hr, hrun, hended, hW, hsame⟩ := X254.leave (v := some (.int (1 : Int32))) (fun h => by rw [Bd.returns] at h; cases h)
            refine ⟨_, _, (hGo _).mp (pre290 _ ?_), hrun, hended, _, _, rfl, ?_, ⟨_, rfl⟩, hW, hsame.mono (by decide) (by decide)⟩
            · exact retN X254 hx (t := .boolean) Bd.returns (by simp) (hb hby at_396) hr
            · show Q0 Z pi0 pi1 pi2 pj3 pj4 pj5 h0 n0 _ T254.heap _
              rw [e254]
              exact ⟨rfl, N235⟩
    · have pre291 : ∀ t, Steps p.tables e below (T153.setTop (mkF m 172 #[iv pi0, iv pi1, iv pi2, jv pj3, .second, jv pj4, .second, jv pj5, .second, iv x2, iv x9, iv x16, iv x23, iv x30, iv x37, iv x44, iv x50, iv x52, iv x55, iv x62, rv b69, .unset, .unset, .unset, .unset, .unset, .unset, .unset, .unset, .unset, .unset] [(.ref b69)])) t → Go t := fun t kt => pre167 t (by
          refine y_ifNo X153.here hx (hb hby at_167) ((if0 _ _).trans (feq hc167_168).1) (pc' := 170) rfl ?_
          refine y_aload X153.here hx (hb hby at_170) rfl rfl (pc' := 172) rfl ?_
          exact kt)
      obtain ⟨cq292, kq292, q292a, q292b, q292c⟩ := isOf hZ eh153 f156
      obtain ⟨v292, _, ⟨T292, L292, k292, n292⟩, -, X292, ⟨Lc292, hQ292, l292, y292, z292⟩, st292⟩ := X153.virtualBack hx (y := (⟨"com/example/roamd/roamd/net/DelayedAck", "sent", "()V"⟩ : MethodName)) (z := (⟨"com/example/roamd/roamd/net/DelayedAck", "sent", "()V"⟩ : MethodName)) hown (mvT hZ (hw _ (List.mem_of_getElem? (i := 33) rfl))) (mvT hZ (hw _ (List.mem_of_getElem? (i := 34) rfl))) (notFace_of_selects (args := #[]) (mvT hZ (hw _ (List.mem_of_getElem? (i := 36) rfl)))) (mvT hZ (hw _ (List.mem_of_getElem? (i := 36) rfl))) (mvT hZ (hw _ (List.mem_of_getElem? (i := 35) rfl))) (by decide) (backOf (W := 0) (rm5 l Z a0 hw [] b69 x163 pj3 (1 : Int32) pj3 x164 x165 h153 n0 O166 f156 p153_0 p153_1 p153_2 p153_3 p153_4 p153_5 G71) hZ (hw _ (List.mem_of_getElem? (i := 37) rfl)) (hw _ (List.mem_of_getElem? (i := 2) rfl)) (by decide) (by decide)) q292a q292c (g := (mkF m 172 #[iv pi0, iv pi1, iv pi2, jv pj3, .second, jv pj4, .second, jv pj5, .second, iv x2, iv x9, iv x16, iv x23, iv x30, iv x37, iv x44, iv x50, iv x52, iv x55, iv x62, rv b69, .unset, .unset, .unset, .unset, .unset, .unset, .unset, .unset, .unset, .unset] [(.ref b69)])) rfl (by rw [hml]; rfl) (Steps.refl _) (argsL := []) (rest := []) (lenOf pd___V rfl) rfl (by show 2 * 0 + _ ≤ _; exact Nat.le_of_eq rfl) (hb hby at_172) (fun _ _ => ⟨rfl, eh153, (by decide : 1 + 0 ≤ _), (by decide : 6 + 0 ≤ _)⟩)
      dsimp only [Pt.U, Pt.locs, Pt.cells, Pt.slots] at X292 l292 y292 z292 st292 hQ292
      subst l292 y292 z292
      obtain ⟨hv292, N292q, K292q, p292_0, p292_1, p292_2, p292_3, p292_4, p292_5⟩ := hQ292
      have N293 := Fr.app N154 N292q
      subst hv292
      have pre294 : ∀ t, Steps p.tables e below (T292.setTop (mkF m 175 #[iv pi0, iv pi1, iv pi2, jv pj3, .second, jv pj4, .second, jv pj5, .second, iv x2, iv x9, iv x16, iv x23, iv x30, iv x37, iv x44, iv x50, iv x52, iv x55, iv x62, rv b69, .unset, .unset, .unset, .unset, .unset, .unset, .unset, .unset, .unset, .unset] [])) t → Go t := fun t kt => pre291 t (st292.trans kt)
      obtain ⟨h292, eh292⟩ : ∃ z, T292.heap = z := ⟨_, rfl⟩
      rw [eh292] at K292q p292_0 p292_1 p292_2 p292_3 p292_4 p292_5
      have f295 : Exa Z h292 b69 "com/example/roamd/roamd/net/DelayedAck" := (f156.keep K292q)
      have O302 := O166.keep K292q (allS G71 all0)
      have pre303 : ∀ t, Steps p.tables e below (T292.setTop (mkF m 177 #[iv pi0, iv pi1, iv pi2, jv pj3, .second, jv pj4, .second, jv pj5, .second, iv x2, iv x9, iv x16, iv x23, iv x30, iv x37, iv x44, iv x50, iv x52, iv x55, iv x62, rv b69, .unset, .unset, .unset, .unset, .unset, .unset, .unset, .unset, .unset, .unset] [(.int x16)])) t → Go t := fun t kt => pre294 t (by
          refine y_iload X292.here hx (hb hby at_175) rfl (pc' := 177) rfl ?_
          exact kt)
      by_cases hc177_304 : x16 = (0 : Int32)
      · have pre305 : ∀ t, Steps p.tables e below (T292.setTop (mkF m 197 #[iv pi0, iv pi1, iv pi2, jv pj3, .second, jv pj4, .second, jv pj5, .second, iv x2, iv x9, iv x16, iv x23, iv x30, iv x37, iv x44, iv x50, iv x52, iv x55, iv x62, rv b69, .unset, .unset, .unset, .unset, .unset, .unset, .unset, .unset, .unset, .unset] [(.long pj5), (.ref b69)])) t → Go t := fun t kt => pre303 t (by
            refine y_ifYes X292.here hx (hb hby at_177) ((if0 _ _).trans (teq hc177_304).1) (pc' := 193) (by decide) rfl ?_
            refine y_aload X292.here hx (hb hby at_193) rfl rfl (pc' := 195) rfl ?_
            refine y_lload X292.here hx (hb hby at_195) rfl (pc' := 197) rfl ?_
            exact kt)
        obtain ⟨cq306, kq306, q306a, q306b, q306c⟩ := isOf hZ eh292 f295
        obtain ⟨v306, _, ⟨T306, L306, k306, n306⟩, -, X306, ⟨Lc306, hQ306, l306, y306, z306⟩, st306⟩ := X292.virtualBack hx (y := (⟨"com/example/roamd/roamd/net/DelayedAck", "due", "(J)Z"⟩ : MethodName)) (z := (⟨"com/example/roamd/roamd/net/DelayedAck", "due", "(J)Z"⟩ : MethodName)) hown (mvT hZ (hw _ (List.mem_of_getElem? (i := 9) rfl))) (mvT hZ (hw _ (List.mem_of_getElem? (i := 10) rfl))) (notFace_of_selects (args := #[]) (mvT hZ (hw _ (List.mem_of_getElem? (i := 12) rfl)))) (mvT hZ (hw _ (List.mem_of_getElem? (i := 12) rfl))) (mvT hZ (hw _ (List.mem_of_getElem? (i := 11) rfl))) (by decide) (backOf (W := 0) (rm3 l Z a0 hw [] b69 pj5 (0 : Int32) pj3 x164 (0 : Int32) h292 n0 O302 f295 p292_0 p292_1 p292_4 p292_5) hZ (hw _ (List.mem_of_getElem? (i := 13) rfl)) (hw _ (List.mem_of_getElem? (i := 2) rfl)) (by decide) (by decide)) q306a q306c (g := (mkF m 197 #[iv pi0, iv pi1, iv pi2, jv pj3, .second, jv pj4, .second, jv pj5, .second, iv x2, iv x9, iv x16, iv x23, iv x30, iv x37, iv x44, iv x50, iv x52, iv x55, iv x62, rv b69, .unset, .unset, .unset, .unset, .unset, .unset, .unset, .unset, .unset, .unset] [(.long pj5), (.ref b69)])) rfl (by rw [hml]; rfl) (Steps.refl _) (argsL := [(.long pj5)]) (rest := []) (lenOf pd__J_Z rfl) rfl (by show 2 * 0 + _ ≤ _; exact Nat.le_of_eq rfl) (hb hby at_197) (fun _ _ => ⟨rfl, eh292, (by decide : 1 + 0 ≤ _), (by decide : 6 + 0 ≤ _)⟩)
        dsimp only [Pt.U, Pt.locs, Pt.cells, Pt.slots] at X306 l306 y306 z306 st306 hQ306
        subst l306 y306 z306
        obtain ⟨hv306, N306q, e306q⟩ := hQ306
        have N307 := Fr.app N293 N306q
        have hw306 : v306 = some (.int (0 : Int32)) := by rw [hv306, if_pos (rfl : (0 : Int32) = (0 : Int32)), if_neg (by decide : ¬ ((0 : Int32) < (0 : Int32)))]
        subst hw306
        have pre308 : ∀ t, Steps p.tables e below (T306.setTop (mkF m 200 #[iv pi0, iv pi1, iv pi2, jv pj3, .second, jv pj4, .second, jv pj5, .second, iv x2, iv x9, iv x16, iv x23, iv x30, iv x37, iv x44, iv x50, iv x52, iv x55, iv x62, rv b69, .unset, .unset, .unset, .unset, .unset, .unset, .unset, .unset, .unset, .unset] [(.int (0 : Int32))])) t → Go t := fun t kt => pre305 t (st306.trans kt)
        have pre309 : ∀ t, Steps p.tables e below (T306.setTop (mkF m 396 #[iv pi0, iv pi1, iv pi2, jv pj3, .second, jv pj4, .second, jv pj5, .second, iv x2, iv x9, iv x16, iv x23, iv x30, iv x37, iv x44, iv x50, iv x52, iv x55, iv x62, rv b69, iv (0 : Int32), iv (0 : Int32), iv x16, iv (0 : Int32), iv (0 : Int32), iv (0 : Int32), .unset, .unset, .unset, .unset] [(.int (1 : Int32))])) t → Go t := fun t kt => pre308 t (by
            refine y_istore X306.here hx (hb hby at_200) (l' := #[iv pi0, iv pi1, iv pi2, jv pj3, .second, jv pj4, .second, jv pj5, .second, iv x2, iv x9, iv x16, iv x23, iv x30, iv x37, iv x44, iv x50, iv x52, iv x55, iv x62, rv b69, iv (0 : Int32), .unset, .unset, .unset, .unset, .unset, .unset, .unset, .unset, .unset]) rfl (pc' := 202) rfl ?_
            refine y_iload X306.here hx (hb hby at_202) rfl (pc' := 204) rfl ?_
            refine y_ifNo X306.here hx (hb hby at_204) ((if0 _ _).trans (feq hc150_83).1) (pc' := 207) rfl ?_
            refine y_iload X306.here hx (hb hby at_207) rfl (pc' := 209) rfl ?_
            refine y_ifYes X306.here hx (hb hby at_209) ((if0 _ _).trans (feq hc167_168).2) (pc' := 216) (by decide) rfl ?_
            refine y_iconst X306.here hx (hb hby at_216) (v := (0 : Int32)) rfl (pc' := 217) rfl ?_
            refine y_istore X306.here hx (hb hby at_217) (l' := #[iv pi0, iv pi1, iv pi2, jv pj3, .second, jv pj4, .second, jv pj5, .second, iv x2, iv x9, iv x16, iv x23, iv x30, iv x37, iv x44, iv x50, iv x52, iv x55, iv x62, rv b69, iv (0 : Int32), iv (0 : Int32), .unset, .unset, .unset, .unset, .unset, .unset, .unset, .unset]) rfl (pc' := 219) rfl ?_
            refine y_iload X306.here hx (hb hby at_219) rfl (pc' := 221) rfl ?_
            refine y_istore X306.here hx (hb hby at_221) (l' := #[iv pi0, iv pi1, iv pi2, jv pj3, .second, jv pj4, .second, jv pj5, .second, iv x2, iv x9, iv x16, iv x23, iv x30, iv x37, iv x44, iv x50, iv x52, iv x55, iv x62, rv b69, iv (0 : Int32), iv (0 : Int32), iv x16, .unset, .unset, .unset, .unset, .unset, .unset, .unset]) rfl (pc' := 223) rfl ?_
            refine y_iconst X306.here hx (hb hby at_223) (v := (0 : Int32)) rfl (pc' := 224) rfl ?_
            refine y_istore X306.here hx (hb hby at_224) (l' := #[iv pi0, iv pi1, iv pi2, jv pj3, .second, jv pj4, .second, jv pj5, .second, iv x2, iv x9, iv x16, iv x23, iv x30, iv x37, iv x44, iv x50, iv x52, iv x55, iv x62, rv b69, iv (0 : Int32), iv (0 : Int32), iv x16, iv (0 : Int32), .unset, .unset, .unset, .unset, .unset, .unset]) rfl (pc' := 226) rfl ?_
            refine y_iload X306.here hx (hb hby at_226) rfl (pc' := 228) rfl ?_
            refine y_ifYes X306.here hx (hb hby at_228) ((if0 _ _).trans (teq (rfl : (0 : Int32) = (0 : Int32))).1) (pc' := 238) (by decide) rfl ?_
            refine y_iload X306.here hx (hb hby at_238) rfl (pc' := 240) rfl ?_
            refine y_ifYes X306.here hx (hb hby at_240) ((if0 _ _).trans (teq hc177_304).1) (pc' := 250) (by decide) rfl ?_
            refine y_iconst X306.here hx (hb hby at_250) (v := (0 : Int32)) rfl (pc' := 251) rfl ?_
            refine y_istore X306.here hx (hb hby at_251) (l' := #[iv pi0, iv pi1, iv pi2, jv pj3, .second, jv pj4, .second, jv pj5, .second, iv x2, iv x9, iv x16, iv x23, iv x30, iv x37, iv x44, iv x50, iv x52, iv x55, iv x62, rv b69, iv (0 : Int32), iv (0 : Int32), iv x16, iv (0 : Int32), iv (0 : Int32), .unset, .unset, .unset, .unset, .unset]) rfl (pc' := 253) rfl ?_
            refine y_iload X306.here hx (hb hby at_253) rfl (pc' := 255) rfl ?_
            refine y_ifYes X306.here hx (hb hby at_255) ((if0 _ _).trans (teq (rfl : (0 : Int32) = (0 : Int32))).1) (pc' := 273) (by decide) rfl ?_
            refine y_iload X306.here hx (hb hby at_273) rfl (pc' := 275) rfl ?_
            refine y_ifYes X306.here hx (hb hby at_275) ((if0 _ _).trans (teq hc177_304).1) (pc' := 293) (by decide) rfl ?_
            refine y_iload X306.here hx (hb hby at_293) rfl (pc' := 295) rfl ?_
            refine y_ifNo X306.here hx (hb hby at_295) ((if0 _ _).trans (teq (rfl : (0 : Int32) = (0 : Int32))).2) (pc' := 298) rfl ?_
            refine y_iconst X306.here hx (hb hby at_298) (v := (0 : Int32)) rfl (pc' := 299) rfl ?_
            refine y_istore X306.here hx (hb hby at_299) (l' := #[iv pi0, iv pi1, iv pi2, jv pj3, .second, jv pj4, .second, jv pj5, .second, iv x2, iv x9, iv x16, iv x23, iv x30, iv x37, iv x44, iv x50, iv x52, iv x55, iv x62, rv b69, iv (0 : Int32), iv (0 : Int32), iv x16, iv (0 : Int32), iv (0 : Int32), iv (0 : Int32), .unset, .unset, .unset, .unset]) rfl (pc' := 301) rfl ?_
            refine y_goto X306.here hx (hb hby at_301) (pc' := 384) (by decide) rfl ?_
            refine y_iload X306.here hx (hb hby at_384) rfl (pc' := 386) rfl ?_
            refine y_iload X306.here hx (hb hby at_386) rfl (pc' := 388) rfl ?_
            refine y_icmpNo X306.here hx (hb hby at_388) (teq (rfl : (0 : Int32) = (0 : Int32))).2 (pc' := 391) rfl ?_
            refine y_iconst X306.here hx (hb hby at_391) (v := (1 : Int32)) rfl (pc' := 392) rfl ?_
            refine y_goto X306.here hx (hb hby at_392) (pc' := 396) (by decide) rfl ?_
            exact kt)
        obtain ⟨fs, hr, hrun, hended, hW, hsame⟩ := X306.leave (v := some (.int (1 : Int32))) (fun h => by rw [Bd.returns] at h; cases h)
        refine ⟨_, _, (hGo _).mp (pre309 _ ?_), hrun, hended, _, _, rfl, ?_, ⟨_, rfl⟩, hW, hsame.mono (by decide) (by decide)⟩
        · exact retN X306 hx (t := .boolean) Bd.returns (by simp) (hb hby at_396) hr
        · show Q0 Z pi0 pi1 pi2 pj3 pj4 pj5 h0 n0 _ T306.heap _
          rw [e306q]
          exact ⟨rfl, N307⟩
      · have pre310 : ∀ t, Steps p.tables e below (T292.setTop (mkF m 190 #[iv pi0, iv pi1, iv pi2, jv pj3, .second, jv pj4, .second, jv pj5, .second, iv x2, iv x9, iv x16, iv x23, iv x30, iv x37, iv x44, iv x50, iv x52, iv x55, iv x62, rv b69, .unset, .unset, .unset, .unset, .unset, .unset, .unset, .unset, .unset, .unset] [(.long pj4), (.int x30), (.int x62), (.int x52), (.ref b69)])) t → Go t := fun t kt => pre303 t (by
            refine y_ifNo X292.here hx (hb hby at_177) ((if0 _ _).trans (feq hc177_304).1) (pc' := 180) rfl ?_
            refine y_aload X292.here hx (hb hby at_180) rfl rfl (pc' := 182) rfl ?_
            refine y_iload X292.here hx (hb hby at_182) rfl (pc' := 184) rfl ?_
            refine y_iload X292.here hx (hb hby at_184) rfl (pc' := 186) rfl ?_
            refine y_iload X292.here hx (hb hby at_186) rfl (pc' := 188) rfl ?_
            refine y_lload X292.here hx (hb hby at_188) rfl (pc' := 190) rfl ?_
            exact kt)
        obtain ⟨cq311, kq311, q311a, q311b, q311c⟩ := isOf hZ eh292 f295
        obtain ⟨v311, _, ⟨T311, L311, k311, n311⟩, -, X311, ⟨Lc311, hQ311, l311, y311, z311⟩, st311⟩ := X292.virtualBack hx (y := (⟨"com/example/roamd/roamd/net/DelayedAck", "arrived", "(IIZJ)V"⟩ : MethodName)) (z := (⟨"com/example/roamd/roamd/net/DelayedAck", "arrived", "(IIZJ)V"⟩ : MethodName)) hown (mvT hZ (hw _ (List.mem_of_getElem? (i := 18) rfl))) (mvT hZ (hw _ (List.mem_of_getElem? (i := 19) rfl))) (notFace_of_selects (args := #[]) (mvT hZ (hw _ (List.mem_of_getElem? (i := 21) rfl)))) (mvT hZ (hw _ (List.mem_of_getElem? (i := 21) rfl))) (mvT hZ (hw _ (List.mem_of_getElem? (i := 20) rfl))) (by decide) (backOf (W := 0) (rm4 l Z a0 hw [] b69 x52 x62 x30 pj4 (0 : Int32) pj3 (1 : Int32) pj3 x164 (0 : Int32) h292 n0 O302 S_DELAY_NANOS S_ALONE_DELAY_NANOS f295 p292_0 p292_1 p292_2 p292_3 p292_4 p292_5 G71) hZ (hw _ (List.mem_of_getElem? (i := 22) rfl)) (hw _ (List.mem_of_getElem? (i := 2) rfl)) (by decide) (by decide)) q311a q311c (g := (mkF m 190 #[iv pi0, iv pi1, iv pi2, jv pj3, .second, jv pj4, .second, jv pj5, .second, iv x2, iv x9, iv x16, iv x23, iv x30, iv x37, iv x44, iv x50, iv x52, iv x55, iv x62, rv b69, .unset, .unset, .unset, .unset, .unset, .unset, .unset, .unset, .unset, .unset] [(.long pj4), (.int x30), (.int x62), (.int x52), (.ref b69)])) rfl (by rw [hml]; rfl) (Steps.refl _) (argsL := [(.int x52), (.int x62), (.int x30), (.long pj4)]) (rest := []) (lenOf pd__IIZJ_V rfl) rfl (by show 2 * 0 + _ ≤ _; exact Nat.le_of_eq rfl) (hb hby at_190) (fun _ _ => ⟨rfl, eh292, (by decide : 1 + 0 ≤ _), (by decide : 6 + 0 ≤ _)⟩)
        dsimp only [Pt.U, Pt.locs, Pt.cells, Pt.slots] at X311 l311 y311 z311 st311 hQ311
        subst l311 y311 z311
        obtain ⟨hv311, N311q, K311q, p311_0, p311_1, p311_2, p311_3, p311_4, p311_5⟩ := hQ311
        have N312 := Fr.app N293 N311q
        subst hv311
        have pre313 : ∀ t, Steps p.tables e below (T311.setTop (mkF m 193 #[iv pi0, iv pi1, iv pi2, jv pj3, .second, jv pj4, .second, jv pj5, .second, iv x2, iv x9, iv x16, iv x23, iv x30, iv x37, iv x44, iv x50, iv x52, iv x55, iv x62, rv b69, .unset, .unset, .unset, .unset, .unset, .unset, .unset, .unset, .unset, .unset] [])) t → Go t := fun t kt => pre310 t (st311.trans kt)
        obtain ⟨h311, eh311⟩ : ∃ z, T311.heap = z := ⟨_, rfl⟩
        rw [eh311] at K311q p311_0 p311_1 p311_2 p311_3 p311_4 p311_5
        have f314 : Exa Z h311 b69 "com/example/roamd/roamd/net/DelayedAck" := (f295.keep K311q)
        obtain ⟨x321, hx321⟩ : ∃ z : Int32, z = ((0 : Int32) + x52) := ⟨_, rfl⟩
        rw [← hx321] at p311_0
        rw [if_pos (rfl : (0 : Int32) = (0 : Int32))] at p311_1
        rw [if_pos (rfl : (0 : Int32) = (0 : Int32))] at p311_4
        obtain ⟨x322, hx322⟩ : ∃ z : Int64, z = (if (if (1 : Int32) = (0 : Int32) then (0 : Int32) else (if (700000000 : Int64) < (pj4 - pj3) then (0 : Int32) else (1 : Int32))) = (0 : Int32) then (150000000 : Int64) else (700000000 : Int64)) := ⟨_, rfl⟩
        rw [← hx322] at p311_4
        obtain ⟨x323, hx323⟩ : ∃ z : Int32, z = (nar .boolean ((0 : Int32) ||| (if x62 = x52 then (if x30 = (0 : Int32) then (1 : Int32) else (if ((0 : Int32) + x52) < (16 : Int32) then (0 : Int32) else (1 : Int32))) else (1 : Int32)))) := ⟨_, rfl⟩
        rw [← hx323] at p311_5
        have O324 := O302.keep K311q (allS G71 all0)
        have pre325 : ∀ t, Steps p.tables e below (T311.setTop (mkF m 197 #[iv pi0, iv pi1, iv pi2, jv pj3, .second, jv pj4, .second, jv pj5, .second, iv x2, iv x9, iv x16, iv x23, iv x30, iv x37, iv x44, iv x50, iv x52, iv x55, iv x62, rv b69, .unset, .unset, .unset, .unset, .unset, .unset, .unset, .unset, .unset, .unset] [(.long pj5), (.ref b69)])) t → Go t := fun t kt => pre313 t (by
            refine y_aload X311.here hx (hb hby at_193) rfl rfl (pc' := 195) rfl ?_
            refine y_lload X311.here hx (hb hby at_195) rfl (pc' := 197) rfl ?_
            exact kt)
        obtain ⟨cq326, kq326, q326a, q326b, q326c⟩ := isOf hZ eh311 f314
        obtain ⟨v326, _, ⟨T326, L326, k326, n326⟩, -, X326, ⟨Lc326, hQ326, l326, y326, z326⟩, st326⟩ := X311.virtualBack hx (y := (⟨"com/example/roamd/roamd/net/DelayedAck", "due", "(J)Z"⟩ : MethodName)) (z := (⟨"com/example/roamd/roamd/net/DelayedAck", "due", "(J)Z"⟩ : MethodName)) hown (mvT hZ (hw _ (List.mem_of_getElem? (i := 9) rfl))) (mvT hZ (hw _ (List.mem_of_getElem? (i := 10) rfl))) (notFace_of_selects (args := #[]) (mvT hZ (hw _ (List.mem_of_getElem? (i := 12) rfl)))) (mvT hZ (hw _ (List.mem_of_getElem? (i := 12) rfl))) (mvT hZ (hw _ (List.mem_of_getElem? (i := 11) rfl))) (by decide) (backOf (W := 0) (rm3 l Z a0 hw [] b69 pj5 x321 pj4 x322 x323 h311 n0 O324 f314 p311_0 p311_1 p311_4 p311_5) hZ (hw _ (List.mem_of_getElem? (i := 13) rfl)) (hw _ (List.mem_of_getElem? (i := 2) rfl)) (by decide) (by decide)) q326a q326c (g := (mkF m 197 #[iv pi0, iv pi1, iv pi2, jv pj3, .second, jv pj4, .second, jv pj5, .second, iv x2, iv x9, iv x16, iv x23, iv x30, iv x37, iv x44, iv x50, iv x52, iv x55, iv x62, rv b69, .unset, .unset, .unset, .unset, .unset, .unset, .unset, .unset, .unset, .unset] [(.long pj5), (.ref b69)])) rfl (by rw [hml]; rfl) (Steps.refl _) (argsL := [(.long pj5)]) (rest := []) (lenOf pd__J_Z rfl) rfl (by show 2 * 0 + _ ≤ _; exact Nat.le_of_eq rfl) (hb hby at_197) (fun _ _ => ⟨rfl, eh311, (by decide : 1 + 0 ≤ _), (by decide : 6 + 0 ≤ _)⟩)
        dsimp only [Pt.U, Pt.locs, Pt.cells, Pt.slots] at X326 l326 y326 z326 st326 hQ326
        subst l326 y326 z326
        obtain ⟨hv326, N326q, e326q⟩ := hQ326
        have N327 := Fr.app N312 N326q
        have hw326 := hv326
        obtain ⟨x328, hx328⟩ : ∃ z : Int32, z = (if x323 = (0 : Int32) then (if (0 : Int32) < x321 then (if (pj5 - pj4) < x322 then (0 : Int32) else (1 : Int32)) else (0 : Int32)) else (1 : Int32)) := ⟨_, rfl⟩
        rw [← hx328] at hw326
        subst hw326
        have pre329 : ∀ t, Steps p.tables e below (T326.setTop (mkF m 200 #[iv pi0, iv pi1, iv pi2, jv pj3, .second, jv pj4, .second, jv pj5, .second, iv x2, iv x9, iv x16, iv x23, iv x30, iv x37, iv x44, iv x50, iv x52, iv x55, iv x62, rv b69, .unset, .unset, .unset, .unset, .unset, .unset, .unset, .unset, .unset, .unset] [(.int x328)])) t → Go t := fun t kt => pre325 t (st326.trans kt)
        obtain ⟨x330, hx330⟩ : ∃ z : Int32, z = ((0 : Int32) + x52) := ⟨_, rfl⟩
        have pre331 : ∀ t, Steps p.tables e below (T326.setTop (mkF m 250 #[iv pi0, iv pi1, iv pi2, jv pj3, .second, jv pj4, .second, jv pj5, .second, iv x2, iv x9, iv x16, iv x23, iv x30, iv x37, iv x44, iv x50, iv x52, iv x55, iv x62, rv b69, iv x328, iv (0 : Int32), iv x16, iv x330, .unset, .unset, .unset, .unset, .unset, .unset] [])) t → Go t := fun t kt => pre329 t (by
            subst hx330
            refine y_istore X326.here hx (hb hby at_200) (l' := #[iv pi0, iv pi1, iv pi2, jv pj3, .second, jv pj4, .second, jv pj5, .second, iv x2, iv x9, iv x16, iv x23, iv x30, iv x37, iv x44, iv x50, iv x52, iv x55, iv x62, rv b69, iv x328, .unset, .unset, .unset, .unset, .unset, .unset, .unset, .unset, .unset]) rfl (pc' := 202) rfl ?_
            refine y_iload X326.here hx (hb hby at_202) rfl (pc' := 204) rfl ?_
            refine y_ifNo X326.here hx (hb hby at_204) ((if0 _ _).trans (feq hc150_83).1) (pc' := 207) rfl ?_
            refine y_iload X326.here hx (hb hby at_207) rfl (pc' := 209) rfl ?_
            refine y_ifYes X326.here hx (hb hby at_209) ((if0 _ _).trans (feq hc167_168).2) (pc' := 216) (by decide) rfl ?_
            refine y_iconst X326.here hx (hb hby at_216) (v := (0 : Int32)) rfl (pc' := 217) rfl ?_
            refine y_istore X326.here hx (hb hby at_217) (l' := #[iv pi0, iv pi1, iv pi2, jv pj3, .second, jv pj4, .second, jv pj5, .second, iv x2, iv x9, iv x16, iv x23, iv x30, iv x37, iv x44, iv x50, iv x52, iv x55, iv x62, rv b69, iv x328, iv (0 : Int32), .unset, .unset, .unset, .unset, .unset, .unset, .unset, .unset]) rfl (pc' := 219) rfl ?_
            refine y_iload X326.here hx (hb hby at_219) rfl (pc' := 221) rfl ?_
            refine y_istore X326.here hx (hb hby at_221) (l' := #[iv pi0, iv pi1, iv pi2, jv pj3, .second, jv pj4, .second, jv pj5, .second, iv x2, iv x9, iv x16, iv x23, iv x30, iv x37, iv x44, iv x50, iv x52, iv x55, iv x62, rv b69, iv x328, iv (0 : Int32), iv x16, .unset, .unset, .unset, .unset, .unset, .unset, .unset]) rfl (pc' := 223) rfl ?_
            refine y_iconst X326.here hx (hb hby at_223) (v := (0 : Int32)) rfl (pc' := 224) rfl ?_
            refine y_istore X326.here hx (hb hby at_224) (l' := #[iv pi0, iv pi1, iv pi2, jv pj3, .second, jv pj4, .second, jv pj5, .second, iv x2, iv x9, iv x16, iv x23, iv x30, iv x37, iv x44, iv x50, iv x52, iv x55, iv x62, rv b69, iv x328, iv (0 : Int32), iv x16, iv (0 : Int32), .unset, .unset, .unset, .unset, .unset, .unset]) rfl (pc' := 226) rfl ?_
            refine y_iload X326.here hx (hb hby at_226) rfl (pc' := 228) rfl ?_
            refine y_ifYes X326.here hx (hb hby at_228) ((if0 _ _).trans (teq (rfl : (0 : Int32) = (0 : Int32))).1) (pc' := 238) (by decide) rfl ?_
            refine y_iload X326.here hx (hb hby at_238) rfl (pc' := 240) rfl ?_
            refine y_ifNo X326.here hx (hb hby at_240) ((if0 _ _).trans (feq hc177_304).1) (pc' := 243) rfl ?_
            refine y_iload X326.here hx (hb hby at_243) rfl (pc' := 245) rfl ?_
            refine y_iload X326.here hx (hb hby at_245) rfl (pc' := 247) rfl ?_
            refine y_iadd X326.here hx (hb hby at_247) rfl (pc' := 248) rfl ?_
            refine y_istore X326.here hx (hb hby at_248) (l' := #[iv pi0, iv pi1, iv pi2, jv pj3, .second, jv pj4, .second, jv pj5, .second, iv x2, iv x9, iv x16, iv x23, iv x30, iv x37, iv x44, iv x50, iv x52, iv x55, iv x62, rv b69, iv x328, iv (0 : Int32), iv x16, iv ((0 : Int32) + x52), .unset, .unset, .unset, .unset, .unset, .unset]) rfl (pc' := 250) rfl ?_
            exact kt)
        have pre332 : ∀ t, Steps p.tables e below (T326.setTop (mkF m 282 #[iv pi0, iv pi1, iv pi2, jv pj3, .second, jv pj4, .second, jv pj5, .second, iv x2, iv x9, iv x16, iv x23, iv x30, iv x37, iv x44, iv x50, iv x52, iv x55, iv x62, rv b69, iv x328, iv (0 : Int32), iv x16, iv x330, iv (0 : Int32), .unset, .unset, .unset, .unset, .unset] [(.int x52), (.int x62)])) t → Go t := fun t kt => pre331 t (by
            refine y_iconst X326.here hx (hb hby at_250) (v := (0 : Int32)) rfl (pc' := 251) rfl ?_
            refine y_istore X326.here hx (hb hby at_251) (l' := #[iv pi0, iv pi1, iv pi2, jv pj3, .second, jv pj4, .second, jv pj5, .second, iv x2, iv x9, iv x16, iv x23, iv x30, iv x37, iv x44, iv x50, iv x52, iv x55, iv x62, rv b69, iv x328, iv (0 : Int32), iv x16, iv x330, iv (0 : Int32), .unset, .unset, .unset, .unset, .unset]) rfl (pc' := 253) rfl ?_
            refine y_iload X326.here hx (hb hby at_253) rfl (pc' := 255) rfl ?_
            refine y_ifYes X326.here hx (hb hby at_255) ((if0 _ _).trans (teq (rfl : (0 : Int32) = (0 : Int32))).1) (pc' := 273) (by decide) rfl ?_
            refine y_iload X326.here hx (hb hby at_273) rfl (pc' := 275) rfl ?_
            refine y_ifNo X326.here hx (hb hby at_275) ((if0 _ _).trans (feq hc177_304).1) (pc' := 278) rfl ?_
            refine y_iload X326.here hx (hb hby at_278) rfl (pc' := 280) rfl ?_
            refine y_iload X326.here hx (hb hby at_280) rfl (pc' := 282) rfl ?_
            exact kt)
        obtain ⟨x333, hx333⟩ : ∃ z : Int32, z = (if x62 = x52 then (if x30 = (0 : Int32) then (1 : Int32) else (0 : Int32)) else (1 : Int32)) := ⟨_, rfl⟩
        obtain ⟨T334, ⟨X334, q334⟩, st334⟩ : ∃ T', Nx X326 T' ∧ ∀ t, Steps p.tables e below (T'.setTop (mkF m 293 #[iv pi0, iv pi1, iv pi2, jv pj3, .second, jv pj4, .second, jv pj5, .second, iv x2, iv x9, iv x16, iv x23, iv x30, iv x37, iv x44, iv x50, iv x52, iv x55, iv x62, rv b69, iv x328, iv (0 : Int32), iv x16, iv x330, iv x333, .unset, .unset, .unset, .unset, .unset] [])) t → Steps p.tables e below (T326.setTop (mkF m 282 #[iv pi0, iv pi1, iv pi2, jv pj3, .second, jv pj4, .second, jv pj5, .second, iv x2, iv x9, iv x16, iv x23, iv x30, iv x37, iv x44, iv x50, iv x52, iv x55, iv x62, rv b69, iv x328, iv (0 : Int32), iv x16, iv x330, iv (0 : Int32), .unset, .unset, .unset, .unset, .unset] [(.int x52), (.int x62)])) t := by
          have pre334_ : ∀ t, Steps p.tables e below (T326.setTop (mkF m 282 #[iv pi0, iv pi1, iv pi2, jv pj3, .second, jv pj4, .second, jv pj5, .second, iv x2, iv x9, iv x16, iv x23, iv x30, iv x37, iv x44, iv x50, iv x52, iv x55, iv x62, rv b69, iv x328, iv (0 : Int32), iv x16, iv x330, iv (0 : Int32), .unset, .unset, .unset, .unset, .unset] [(.int x52), (.int x62)])) t → Steps p.tables e below (T326.setTop (mkF m 282 #[iv pi0, iv pi1, iv pi2, jv pj3, .second, jv pj4, .second, jv pj5, .second, iv x2, iv x9, iv x16, iv x23, iv x30, iv x37, iv x44, iv x50, iv x52, iv x55, iv x62, rv b69, iv x328, iv (0 : Int32), iv x16, iv x330, iv (0 : Int32), .unset, .unset, .unset, .unset, .unset] [(.int x52), (.int x62)])) t := fun t kt => kt
          subst hx333
          by_cases hm282_335 : x62 = x52
          · have pre336 : ∀ t, Steps p.tables e below (T326.setTop (mkF m 287 #[iv pi0, iv pi1, iv pi2, jv pj3, .second, jv pj4, .second, jv pj5, .second, iv x2, iv x9, iv x16, iv x23, iv x30, iv x37, iv x44, iv x50, iv x52, iv x55, iv x62, rv b69, iv x328, iv (0 : Int32), iv x16, iv x330, iv (0 : Int32), .unset, .unset, .unset, .unset, .unset] [(.int x30)])) t → Steps p.tables e below (T326.setTop (mkF m 282 #[iv pi0, iv pi1, iv pi2, jv pj3, .second, jv pj4, .second, jv pj5, .second, iv x2, iv x9, iv x16, iv x23, iv x30, iv x37, iv x44, iv x50, iv x52, iv x55, iv x62, rv b69, iv x328, iv (0 : Int32), iv x16, iv x330, iv (0 : Int32), .unset, .unset, .unset, .unset, .unset] [(.int x52), (.int x62)])) t := fun t kt => pre334_ t (by
                refine y_icmpNo X326.here hx (hb hby at_282) (teq hm282_335).2 (pc' := 285) rfl ?_
                refine y_iload X326.here hx (hb hby at_285) rfl (pc' := 287) rfl ?_
                exact kt)
            by_cases hm287_337 : x30 = (0 : Int32)
            · have pre338 : ∀ t, Steps p.tables e below (T326.setTop (mkF m 293 #[iv pi0, iv pi1, iv pi2, jv pj3, .second, jv pj4, .second, jv pj5, .second, iv x2, iv x9, iv x16, iv x23, iv x30, iv x37, iv x44, iv x50, iv x52, iv x55, iv x62, rv b69, iv x328, iv (0 : Int32), iv x16, iv x330, iv (1 : Int32), .unset, .unset, .unset, .unset, .unset] [])) t → Steps p.tables e below (T326.setTop (mkF m 282 #[iv pi0, iv pi1, iv pi2, jv pj3, .second, jv pj4, .second, jv pj5, .second, iv x2, iv x9, iv x16, iv x23, iv x30, iv x37, iv x44, iv x50, iv x52, iv x55, iv x62, rv b69, iv x328, iv (0 : Int32), iv x16, iv x330, iv (0 : Int32), .unset, .unset, .unset, .unset, .unset] [(.int x52), (.int x62)])) t := fun t kt => pre336 t (by
                  refine y_ifNo X326.here hx (hb hby at_287) ((if0 _ _).trans (teq hm287_337).2) (pc' := 290) rfl ?_
                  refine y_iconst X326.here hx (hb hby at_290) (v := (1 : Int32)) rfl (pc' := 291) rfl ?_
                  refine y_istore X326.here hx (hb hby at_291) (l' := #[iv pi0, iv pi1, iv pi2, jv pj3, .second, jv pj4, .second, jv pj5, .second, iv x2, iv x9, iv x16, iv x23, iv x30, iv x37, iv x44, iv x50, iv x52, iv x55, iv x62, rv b69, iv x328, iv (0 : Int32), iv x16, iv x330, iv (1 : Int32), .unset, .unset, .unset, .unset, .unset]) rfl (pc' := 293) rfl ?_
                  exact kt)
              refine ⟨T326, ⟨X326, e326q.trans e326q.symm⟩, fun t kt => pre338 t ?_⟩
              (try simp only [if_pos hm282_335, if_pos hm287_337] at kt)
              exact kt
            · have pre339 : ∀ t, Steps p.tables e below (T326.setTop (mkF m 293 #[iv pi0, iv pi1, iv pi2, jv pj3, .second, jv pj4, .second, jv pj5, .second, iv x2, iv x9, iv x16, iv x23, iv x30, iv x37, iv x44, iv x50, iv x52, iv x55, iv x62, rv b69, iv x328, iv (0 : Int32), iv x16, iv x330, iv (0 : Int32), .unset, .unset, .unset, .unset, .unset] [])) t → Steps p.tables e below (T326.setTop (mkF m 282 #[iv pi0, iv pi1, iv pi2, jv pj3, .second, jv pj4, .second, jv pj5, .second, iv x2, iv x9, iv x16, iv x23, iv x30, iv x37, iv x44, iv x50, iv x52, iv x55, iv x62, rv b69, iv x328, iv (0 : Int32), iv x16, iv x330, iv (0 : Int32), .unset, .unset, .unset, .unset, .unset] [(.int x52), (.int x62)])) t := fun t kt => pre336 t (by
                  refine y_ifYes X326.here hx (hb hby at_287) ((if0 _ _).trans (feq hm287_337).2) (pc' := 293) (by decide) rfl ?_
                  exact kt)
              refine ⟨T326, ⟨X326, e326q.trans e326q.symm⟩, fun t kt => pre339 t ?_⟩
              (try simp only [if_pos hm282_335, if_neg hm287_337] at kt)
              exact kt
          · have pre340 : ∀ t, Steps p.tables e below (T326.setTop (mkF m 293 #[iv pi0, iv pi1, iv pi2, jv pj3, .second, jv pj4, .second, jv pj5, .second, iv x2, iv x9, iv x16, iv x23, iv x30, iv x37, iv x44, iv x50, iv x52, iv x55, iv x62, rv b69, iv x328, iv (0 : Int32), iv x16, iv x330, iv (1 : Int32), .unset, .unset, .unset, .unset, .unset] [])) t → Steps p.tables e below (T326.setTop (mkF m 282 #[iv pi0, iv pi1, iv pi2, jv pj3, .second, jv pj4, .second, jv pj5, .second, iv x2, iv x9, iv x16, iv x23, iv x30, iv x37, iv x44, iv x50, iv x52, iv x55, iv x62, rv b69, iv x328, iv (0 : Int32), iv x16, iv x330, iv (0 : Int32), .unset, .unset, .unset, .unset, .unset] [(.int x52), (.int x62)])) t := fun t kt => pre334_ t (by
                refine y_icmpYes X326.here hx (hb hby at_282) (feq hm282_335).2 (pc' := 290) (by decide) rfl ?_
                refine y_iconst X326.here hx (hb hby at_290) (v := (1 : Int32)) rfl (pc' := 291) rfl ?_
                refine y_istore X326.here hx (hb hby at_291) (l' := #[iv pi0, iv pi1, iv pi2, jv pj3, .second, jv pj4, .second, jv pj5, .second, iv x2, iv x9, iv x16, iv x23, iv x30, iv x37, iv x44, iv x50, iv x52, iv x55, iv x62, rv b69, iv x328, iv (0 : Int32), iv x16, iv x330, iv (1 : Int32), .unset, .unset, .unset, .unset, .unset]) rfl (pc' := 293) rfl ?_
                exact kt)
            refine ⟨T326, ⟨X326, e326q.trans e326q.symm⟩, fun t kt => pre340 t ?_⟩
            (try simp only [if_neg hm282_335] at kt)
            exact kt
        have e334 : T334.heap = h311 := q334.trans e326q
        have pre341 : ∀ t, Steps p.tables e below (T334.setTop (mkF m 293 #[iv pi0, iv pi1, iv pi2, jv pj3, .second, jv pj4, .second, jv pj5, .second, iv x2, iv x9, iv x16, iv x23, iv x30, iv x37, iv x44, iv x50, iv x52, iv x55, iv x62, rv b69, iv x328, iv (0 : Int32), iv x16, iv x330, iv x333, .unset, .unset, .unset, .unset, .unset] [])) t → Go t := fun t kt => pre332 t (st334 t kt)
        have pre342 : ∀ t, Steps p.tables e below (T334.setTop (mkF m 295 #[iv pi0, iv pi1, iv pi2, jv pj3, .second, jv pj4, .second, jv pj5, .second, iv x2, iv x9, iv x16, iv x23, iv x30, iv x37, iv x44, iv x50, iv x52, iv x55, iv x62, rv b69, iv x328, iv (0 : Int32), iv x16, iv x330, iv x333, .unset, .unset, .unset, .unset, .unset] [(.int x330)])) t → Go t := fun t kt => pre341 t (by
            refine y_iload X334.here hx (hb hby at_293) rfl (pc' := 295) rfl ?_
            exact kt)
        by_cases hc295_343 : x330 = (0 : Int32)
        · have pre345 : ∀ t, Steps p.tables e below (T334.setTop (mkF m 388 #[iv pi0, iv pi1, iv pi2, jv pj3, .second, jv pj4, .second, jv pj5, .second, iv x2, iv x9, iv x16, iv x23, iv x30, iv x37, iv x44, iv x50, iv x52, iv x55, iv x62, rv b69, iv x328, iv (0 : Int32), iv x16, iv x330, iv x333, iv (0 : Int32), .unset, .unset, .unset, .unset] [(.int (0 : Int32)), (.int x328)])) t → Go t := fun t kt => pre342 t (by
              refine y_ifNo X334.here hx (hb hby at_295) ((if0 _ _).trans (teq hc295_343).2) (pc' := 298) rfl ?_
              refine y_iconst X334.here hx (hb hby at_298) (v := (0 : Int32)) rfl (pc' := 299) rfl ?_
              refine y_istore X334.here hx (hb hby at_299) (l' := #[iv pi0, iv pi1, iv pi2, jv pj3, .second, jv pj4, .second, jv pj5, .second, iv x2, iv x9, iv x16, iv x23, iv x30, iv x37, iv x44, iv x50, iv x52, iv x55, iv x62, rv b69, iv x328, iv (0 : Int32), iv x16, iv x330, iv x333, iv (0 : Int32), .unset, .unset, .unset, .unset]) rfl (pc' := 301) rfl ?_
              refine y_goto X334.here hx (hb hby at_301) (pc' := 384) (by decide) rfl ?_
              refine y_iload X334.here hx (hb hby at_384) rfl (pc' := 386) rfl ?_
              refine y_iload X334.here hx (hb hby at_386) rfl (pc' := 388) rfl ?_
              exact kt)
          have hf388_344 : x328 = (0 : Int32) := by
              exact law0_346 pj3 pj4 pj5 x2 x9 x16 x30 x50 x52 x62 x321 x322 x323 x328 x330 hx321 hx322 hx323 hx328 hx330 hc150_83 hc167_168 hc177_304 hc295_343 B1 B2
          have pre347 : ∀ t, Steps p.tables e below (T334.setTop (mkF m 396 #[iv pi0, iv pi1, iv pi2, jv pj3, .second, jv pj4, .second, jv pj5, .second, iv x2, iv x9, iv x16, iv x23, iv x30, iv x37, iv x44, iv x50, iv x52, iv x55, iv x62, rv b69, iv x328, iv (0 : Int32), iv x16, iv x330, iv x333, iv (0 : Int32), .unset, .unset, .unset, .unset] [(.int (1 : Int32))])) t → Go t := fun t kt => pre345 t (by
              refine y_icmpNo X334.here hx (hb hby at_388) (teq hf388_344).2 (pc' := 391) rfl ?_
              refine y_iconst X334.here hx (hb hby at_391) (v := (1 : Int32)) rfl (pc' := 392) rfl ?_
              refine y_goto X334.here hx (hb hby at_392) (pc' := 396) (by decide) rfl ?_
              exact kt)
          obtain ⟨fs, hr, hrun, hended, hW, hsame⟩ := X334.leave (v := some (.int (1 : Int32))) (fun h => by rw [Bd.returns] at h; cases h)
          refine ⟨_, _, (hGo _).mp (pre347 _ ?_), hrun, hended, _, _, rfl, ?_, ⟨_, rfl⟩, hW, hsame.mono (by decide) (by decide)⟩
          · exact retN X334 hx (t := .boolean) Bd.returns (by simp) (hb hby at_396) hr
          · show Q0 Z pi0 pi1 pi2 pj3 pj4 pj5 h0 n0 _ T334.heap _
            rw [e334]
            exact ⟨rfl, N327⟩
        · have pre348 : ∀ t, Steps p.tables e below (T334.setTop (mkF m 306 #[iv pi0, iv pi1, iv pi2, jv pj3, .second, jv pj4, .second, jv pj5, .second, iv x2, iv x9, iv x16, iv x23, iv x30, iv x37, iv x44, iv x50, iv x52, iv x55, iv x62, rv b69, iv x328, iv (0 : Int32), iv x16, iv x330, iv x333, .unset, .unset, .unset, .unset, .unset] [(.int x333)])) t → Go t := fun t kt => pre342 t (by
              refine y_ifYes X334.here hx (hb hby at_295) ((if0 _ _).trans (feq hc295_343).2) (pc' := 304) (by decide) rfl ?_
              refine y_iload X334.here hx (hb hby at_304) rfl (pc' := 306) rfl ?_
              exact kt)
          by_cases hc306_349 : x333 = (0 : Int32)
          · have pre350 : ∀ t, Steps p.tables e below (T334.setTop (mkF m 313 #[iv pi0, iv pi1, iv pi2, jv pj3, .second, jv pj4, .second, jv pj5, .second, iv x2, iv x9, iv x16, iv x23, iv x30, iv x37, iv x44, iv x50, iv x52, iv x55, iv x62, rv b69, iv x328, iv (0 : Int32), iv x16, iv x330, iv x333, .unset, .unset, .unset, .unset, .unset] [(.int (16 : Int32)), (.int x330)])) t → Go t := fun t kt => pre348 t (by
                refine y_ifNo X334.here hx (hb hby at_306) ((if0 _ _).trans (teq hc306_349).2) (pc' := 309) rfl ?_
                refine y_iload X334.here hx (hb hby at_309) rfl (pc' := 311) rfl ?_
                refine y_bipush X334.here hx (hb hby at_311) (v := (16 : Int32)) rfl (pc' := 313) rfl ?_
                exact kt)
            by_cases hc313_351 : x330 < (16 : Int32)
            · have pre352 : ∀ t, Steps p.tables e below (T334.setTop (mkF m 358 #[iv pi0, iv pi1, iv pi2, jv pj3, .second, jv pj4, .second, jv pj5, .second, iv x2, iv x9, iv x16, iv x23, iv x30, iv x37, iv x44, iv x50, iv x52, iv x55, iv x62, rv b69, iv x328, iv (0 : Int32), iv x16, iv x330, iv x333, .unset, jv pj4, .second, jv (150000000 : Int64), .second] [(.int (lcmpW (pj4 - pj3) (700000000 : Int64)))])) t → Go t := fun t kt => pre350 t (by
                  refine y_icmpYes X334.here hx (hb hby at_313) (tlt hc313_351).1 (pc' := 322) (by decide) rfl ?_
                  refine y_iload X334.here hx (hb hby at_322) rfl (pc' := 324) rfl ?_
                  refine y_ifYes X334.here hx (hb hby at_324) ((if0 _ _).trans (teq (rfl : (0 : Int32) = (0 : Int32))).1) (pc' := 331) (by decide) rfl ?_
                  refine y_lload X334.here hx (hb hby at_331) rfl (pc' := 333) rfl ?_
                  refine y_lstore X334.here hx (hb hby at_333) (l' := #[iv pi0, iv pi1, iv pi2, jv pj3, .second, jv pj4, .second, jv pj5, .second, iv x2, iv x9, iv x16, iv x23, iv x30, iv x37, iv x44, iv x50, iv x52, iv x55, iv x62, rv b69, iv x328, iv (0 : Int32), iv x16, iv x330, iv x333, .unset, jv pj4, .second, .unset, .unset]) rfl (pc' := 335) rfl ?_
                  refine X334.ldc2Long hx hown (mvT hZ (hw _ (List.mem_of_getElem? (i := 40) rfl))) (g := (mkF m 335 #[iv pi0, iv pi1, iv pi2, jv pj3, .second, jv pj4, .second, jv pj5, .second, iv x2, iv x9, iv x16, iv x23, iv x30, iv x37, iv x44, iv x50, iv x52, iv x55, iv x62, rv b69, iv x328, iv (0 : Int32), iv x16, iv x330, iv x333, .unset, jv pj4, .second, .unset, .unset] [])) rfl (hb hby at_335) _ ?_
                  show Steps p.tables e below (T334.setTop (mkF m 338 #[iv pi0, iv pi1, iv pi2, jv pj3, .second, jv pj4, .second, jv pj5, .second, iv x2, iv x9, iv x16, iv x23, iv x30, iv x37, iv x44, iv x50, iv x52, iv x55, iv x62, rv b69, iv x328, iv (0 : Int32), iv x16, iv x330, iv x333, .unset, jv pj4, .second, .unset, .unset] [(.long (150000000 : Int64))])) _
                  refine y_lstore X334.here hx (hb hby at_338) (l' := #[iv pi0, iv pi1, iv pi2, jv pj3, .second, jv pj4, .second, jv pj5, .second, iv x2, iv x9, iv x16, iv x23, iv x30, iv x37, iv x44, iv x50, iv x52, iv x55, iv x62, rv b69, iv x328, iv (0 : Int32), iv x16, iv x330, iv x333, .unset, jv pj4, .second, jv (150000000 : Int64), .second]) rfl (pc' := 340) rfl ?_
                  refine y_iload X334.here hx (hb hby at_340) rfl (pc' := 342) rfl ?_
                  refine y_ifNo X334.here hx (hb hby at_342) ((if0 _ _).trans (teq (rfl : (0 : Int32) = (0 : Int32))).2) (pc' := 345) rfl ?_
                  refine y_iload X334.here hx (hb hby at_345) rfl (pc' := 347) rfl ?_
                  refine y_ifNo X334.here hx (hb hby at_347) ((if0 _ _).trans (feq hc150_83).1) (pc' := 350) rfl ?_
                  refine y_lload X334.here hx (hb hby at_350) rfl (pc' := 352) rfl ?_
                  refine y_lloadN X334.here hx (hb hby at_352) rfl (pc' := 353) rfl ?_
                  refine y_lsub X334.here hx (hb hby at_353) rfl (pc' := 354) rfl ?_
                  refine X334.ldc2Long hx hown (mvT hZ (hw _ (List.mem_of_getElem? (i := 41) rfl))) (g := (mkF m 354 #[iv pi0, iv pi1, iv pi2, jv pj3, .second, jv pj4, .second, jv pj5, .second, iv x2, iv x9, iv x16, iv x23, iv x30, iv x37, iv x44, iv x50, iv x52, iv x55, iv x62, rv b69, iv x328, iv (0 : Int32), iv x16, iv x330, iv x333, .unset, jv pj4, .second, jv (150000000 : Int64), .second] [(.long (pj4 - pj3))])) rfl (hb hby at_354) _ ?_
                  show Steps p.tables e below (T334.setTop (mkF m 357 #[iv pi0, iv pi1, iv pi2, jv pj3, .second, jv pj4, .second, jv pj5, .second, iv x2, iv x9, iv x16, iv x23, iv x30, iv x37, iv x44, iv x50, iv x52, iv x55, iv x62, rv b69, iv x328, iv (0 : Int32), iv x16, iv x330, iv x333, .unset, jv pj4, .second, jv (150000000 : Int64), .second] [(.long (700000000 : Int64)), (.long (pj4 - pj3))])) _
                  refine y_lcmp X334.here hx (hb hby at_357) (pc' := 358) rfl ?_
                  exact kt)
              obtain ⟨x353, hx353⟩ : ∃ z : Int64, z = (if (700000000 : Int64) < (pj4 - pj3) then (150000000 : Int64) else (700000000 : Int64)) := ⟨_, rfl⟩
              obtain ⟨T354, ⟨X354, q354⟩, st354⟩ : ∃ T', Nx X334 T' ∧ ∀ t, Steps p.tables e below (T'.setTop (mkF m 366 #[iv pi0, iv pi1, iv pi2, jv pj3, .second, jv pj4, .second, jv pj5, .second, iv x2, iv x9, iv x16, iv x23, iv x30, iv x37, iv x44, iv x50, iv x52, iv x55, iv x62, rv b69, iv x328, iv (0 : Int32), iv x16, iv x330, iv x333, .unset, jv pj4, .second, jv x353, .second] [])) t → Steps p.tables e below (T334.setTop (mkF m 358 #[iv pi0, iv pi1, iv pi2, jv pj3, .second, jv pj4, .second, jv pj5, .second, iv x2, iv x9, iv x16, iv x23, iv x30, iv x37, iv x44, iv x50, iv x52, iv x55, iv x62, rv b69, iv x328, iv (0 : Int32), iv x16, iv x330, iv x333, .unset, jv pj4, .second, jv (150000000 : Int64), .second] [(.int (lcmpW (pj4 - pj3) (700000000 : Int64)))])) t := by
                have pre354_ : ∀ t, Steps p.tables e below (T334.setTop (mkF m 358 #[iv pi0, iv pi1, iv pi2, jv pj3, .second, jv pj4, .second, jv pj5, .second, iv x2, iv x9, iv x16, iv x23, iv x30, iv x37, iv x44, iv x50, iv x52, iv x55, iv x62, rv b69, iv x328, iv (0 : Int32), iv x16, iv x330, iv x333, .unset, jv pj4, .second, jv (150000000 : Int64), .second] [(.int (lcmpW (pj4 - pj3) (700000000 : Int64)))])) t → Steps p.tables e below (T334.setTop (mkF m 358 #[iv pi0, iv pi1, iv pi2, jv pj3, .second, jv pj4, .second, jv pj5, .second, iv x2, iv x9, iv x16, iv x23, iv x30, iv x37, iv x44, iv x50, iv x52, iv x55, iv x62, rv b69, iv x328, iv (0 : Int32), iv x16, iv x330, iv x333, .unset, jv pj4, .second, jv (150000000 : Int64), .second] [(.int (lcmpW (pj4 - pj3) (700000000 : Int64)))])) t := fun t kt => kt
                subst hx353
                by_cases hm358_355 : (700000000 : Int64) < (pj4 - pj3)
                · have pre356 : ∀ t, Steps p.tables e below (T334.setTop (mkF m 366 #[iv pi0, iv pi1, iv pi2, jv pj3, .second, jv pj4, .second, jv pj5, .second, iv x2, iv x9, iv x16, iv x23, iv x30, iv x37, iv x44, iv x50, iv x52, iv x55, iv x62, rv b69, iv x328, iv (0 : Int32), iv x16, iv x330, iv x333, .unset, jv pj4, .second, jv (150000000 : Int64), .second] [])) t → Steps p.tables e below (T334.setTop (mkF m 358 #[iv pi0, iv pi1, iv pi2, jv pj3, .second, jv pj4, .second, jv pj5, .second, iv x2, iv x9, iv x16, iv x23, iv x30, iv x37, iv x44, iv x50, iv x52, iv x55, iv x62, rv b69, iv x328, iv (0 : Int32), iv x16, iv x330, iv x333, .unset, jv pj4, .second, jv (150000000 : Int64), .second] [(.int (lcmpW (pj4 - pj3) (700000000 : Int64)))])) t := fun t kt => pre354_ t (by
                      refine y_ifYes X334.here hx (hb hby at_358) ((if0 _ _).trans (tlt (lq_gt hm358_355)).2.2.1) (pc' := 366) (by decide) rfl ?_
                      exact kt)
                  refine ⟨T334, ⟨X334, e334.trans e334.symm⟩, fun t kt => pre356 t ?_⟩
                  (try simp only [if_pos hm358_355] at kt)
                  exact kt
                · have pre357 : ∀ t, Steps p.tables e below (T334.setTop (mkF m 366 #[iv pi0, iv pi1, iv pi2, jv pj3, .second, jv pj4, .second, jv pj5, .second, iv x2, iv x9, iv x16, iv x23, iv x30, iv x37, iv x44, iv x50, iv x52, iv x55, iv x62, rv b69, iv x328, iv (0 : Int32), iv x16, iv x330, iv x333, .unset, jv pj4, .second, jv (700000000 : Int64), .second] [])) t → Steps p.tables e below (T334.setTop (mkF m 358 #[iv pi0, iv pi1, iv pi2, jv pj3, .second, jv pj4, .second, jv pj5, .second, iv x2, iv x9, iv x16, iv x23, iv x30, iv x37, iv x44, iv x50, iv x52, iv x55, iv x62, rv b69, iv x328, iv (0 : Int32), iv x16, iv x330, iv x333, .unset, jv pj4, .second, jv (150000000 : Int64), .second] [(.int (lcmpW (pj4 - pj3) (700000000 : Int64)))])) t := fun t kt => pre354_ t (by
                      refine y_ifNo X334.here hx (hb hby at_358) ((if0 _ _).trans (flt (lq_ngt hm358_355)).2.2.1) (pc' := 361) rfl ?_
                      refine X334.ldc2Long hx hown (mvT hZ (hw _ (List.mem_of_getElem? (i := 41) rfl))) (g := (mkF m 361 #[iv pi0, iv pi1, iv pi2, jv pj3, .second, jv pj4, .second, jv pj5, .second, iv x2, iv x9, iv x16, iv x23, iv x30, iv x37, iv x44, iv x50, iv x52, iv x55, iv x62, rv b69, iv x328, iv (0 : Int32), iv x16, iv x330, iv x333, .unset, jv pj4, .second, jv (150000000 : Int64), .second] [])) rfl (hb hby at_361) _ ?_
                      show Steps p.tables e below (T334.setTop (mkF m 364 #[iv pi0, iv pi1, iv pi2, jv pj3, .second, jv pj4, .second, jv pj5, .second, iv x2, iv x9, iv x16, iv x23, iv x30, iv x37, iv x44, iv x50, iv x52, iv x55, iv x62, rv b69, iv x328, iv (0 : Int32), iv x16, iv x330, iv x333, .unset, jv pj4, .second, jv (150000000 : Int64), .second] [(.long (700000000 : Int64))])) _
                      refine y_lstore X334.here hx (hb hby at_364) (l' := #[iv pi0, iv pi1, iv pi2, jv pj3, .second, jv pj4, .second, jv pj5, .second, iv x2, iv x9, iv x16, iv x23, iv x30, iv x37, iv x44, iv x50, iv x52, iv x55, iv x62, rv b69, iv x328, iv (0 : Int32), iv x16, iv x330, iv x333, .unset, jv pj4, .second, jv (700000000 : Int64), .second]) rfl (pc' := 366) rfl ?_
                      exact kt)
                  refine ⟨T334, ⟨X334, e334.trans e334.symm⟩, fun t kt => pre357 t ?_⟩
                  (try simp only [if_neg hm358_355] at kt)
                  exact kt
              have e354 : T354.heap = h311 := q354.trans e334
              have pre358 : ∀ t, Steps p.tables e below (T354.setTop (mkF m 366 #[iv pi0, iv pi1, iv pi2, jv pj3, .second, jv pj4, .second, jv pj5, .second, iv x2, iv x9, iv x16, iv x23, iv x30, iv x37, iv x44, iv x50, iv x52, iv x55, iv x62, rv b69, iv x328, iv (0 : Int32), iv x16, iv x330, iv x333, .unset, jv pj4, .second, jv x353, .second] [])) t → Go t := fun t kt => pre352 t (st354 t kt)
              have pre359 : ∀ t, Steps p.tables e below (T354.setTop (mkF m 374 #[iv pi0, iv pi1, iv pi2, jv pj3, .second, jv pj4, .second, jv pj5, .second, iv x2, iv x9, iv x16, iv x23, iv x30, iv x37, iv x44, iv x50, iv x52, iv x55, iv x62, rv b69, iv x328, iv (0 : Int32), iv x16, iv x330, iv x333, .unset, jv pj4, .second, jv x353, .second] [(.int (lcmpW (pj5 - pj4) x353))])) t → Go t := fun t kt => pre358 t (by
                  refine y_lload X354.here hx (hb hby at_366) rfl (pc' := 368) rfl ?_
                  refine y_lload X354.here hx (hb hby at_368) rfl (pc' := 370) rfl ?_
                  refine y_lsub X354.here hx (hb hby at_370) rfl (pc' := 371) rfl ?_
                  refine y_lload X354.here hx (hb hby at_371) rfl (pc' := 373) rfl ?_
                  refine y_lcmp X354.here hx (hb hby at_373) (pc' := 374) rfl ?_
                  exact kt)
              obtain ⟨x360, hx360⟩ : ∃ z : Int32, z = (if (pj5 - pj4) < x353 then (0 : Int32) else (1 : Int32)) := ⟨_, rfl⟩
              obtain ⟨T361, ⟨X361, q361⟩, st361⟩ : ∃ T', Nx X354 T' ∧ ∀ t, Steps p.tables e below (T'.setTop (mkF m 382 #[iv pi0, iv pi1, iv pi2, jv pj3, .second, jv pj4, .second, jv pj5, .second, iv x2, iv x9, iv x16, iv x23, iv x30, iv x37, iv x44, iv x50, iv x52, iv x55, iv x62, rv b69, iv x328, iv (0 : Int32), iv x16, iv x330, iv x333, .unset, jv pj4, .second, jv x353, .second] [(.int x360)])) t → Steps p.tables e below (T354.setTop (mkF m 374 #[iv pi0, iv pi1, iv pi2, jv pj3, .second, jv pj4, .second, jv pj5, .second, iv x2, iv x9, iv x16, iv x23, iv x30, iv x37, iv x44, iv x50, iv x52, iv x55, iv x62, rv b69, iv x328, iv (0 : Int32), iv x16, iv x330, iv x333, .unset, jv pj4, .second, jv x353, .second] [(.int (lcmpW (pj5 - pj4) x353))])) t := by
                have pre361_ : ∀ t, Steps p.tables e below (T354.setTop (mkF m 374 #[iv pi0, iv pi1, iv pi2, jv pj3, .second, jv pj4, .second, jv pj5, .second, iv x2, iv x9, iv x16, iv x23, iv x30, iv x37, iv x44, iv x50, iv x52, iv x55, iv x62, rv b69, iv x328, iv (0 : Int32), iv x16, iv x330, iv x333, .unset, jv pj4, .second, jv x353, .second] [(.int (lcmpW (pj5 - pj4) x353))])) t → Steps p.tables e below (T354.setTop (mkF m 374 #[iv pi0, iv pi1, iv pi2, jv pj3, .second, jv pj4, .second, jv pj5, .second, iv x2, iv x9, iv x16, iv x23, iv x30, iv x37, iv x44, iv x50, iv x52, iv x55, iv x62, rv b69, iv x328, iv (0 : Int32), iv x16, iv x330, iv x333, .unset, jv pj4, .second, jv x353, .second] [(.int (lcmpW (pj5 - pj4) x353))])) t := fun t kt => kt
                subst hx360
                by_cases hm374_362 : (pj5 - pj4) < x353
                · have pre363 : ∀ t, Steps p.tables e below (T354.setTop (mkF m 382 #[iv pi0, iv pi1, iv pi2, jv pj3, .second, jv pj4, .second, jv pj5, .second, iv x2, iv x9, iv x16, iv x23, iv x30, iv x37, iv x44, iv x50, iv x52, iv x55, iv x62, rv b69, iv x328, iv (0 : Int32), iv x16, iv x330, iv x333, .unset, jv pj4, .second, jv x353, .second] [(.int (0 : Int32))])) t → Steps p.tables e below (T354.setTop (mkF m 374 #[iv pi0, iv pi1, iv pi2, jv pj3, .second, jv pj4, .second, jv pj5, .second, iv x2, iv x9, iv x16, iv x23, iv x30, iv x37, iv x44, iv x50, iv x52, iv x55, iv x62, rv b69, iv x328, iv (0 : Int32), iv x16, iv x330, iv x333, .unset, jv pj4, .second, jv x353, .second] [(.int (lcmpW (pj5 - pj4) x353))])) t := fun t kt => pre361_ t (by
                      refine y_ifYes X354.here hx (hb hby at_374) ((if0 _ _).trans (tlt (lq_lt hm374_362)).1) (pc' := 381) (by decide) rfl ?_
                      refine y_iconst X354.here hx (hb hby at_381) (v := (0 : Int32)) rfl (pc' := 382) rfl ?_
                      exact kt)
                  refine ⟨T354, ⟨X354, e354.trans e354.symm⟩, fun t kt => pre363 t ?_⟩
                  (try simp only [if_pos hm374_362] at kt)
                  exact kt
                · have pre364 : ∀ t, Steps p.tables e below (T354.setTop (mkF m 382 #[iv pi0, iv pi1, iv pi2, jv pj3, .second, jv pj4, .second, jv pj5, .second, iv x2, iv x9, iv x16, iv x23, iv x30, iv x37, iv x44, iv x50, iv x52, iv x55, iv x62, rv b69, iv x328, iv (0 : Int32), iv x16, iv x330, iv x333, .unset, jv pj4, .second, jv x353, .second] [(.int (1 : Int32))])) t → Steps p.tables e below (T354.setTop (mkF m 374 #[iv pi0, iv pi1, iv pi2, jv pj3, .second, jv pj4, .second, jv pj5, .second, iv x2, iv x9, iv x16, iv x23, iv x30, iv x37, iv x44, iv x50, iv x52, iv x55, iv x62, rv b69, iv x328, iv (0 : Int32), iv x16, iv x330, iv x333, .unset, jv pj4, .second, jv x353, .second] [(.int (lcmpW (pj5 - pj4) x353))])) t := fun t kt => pre361_ t (by
                      refine y_ifNo X354.here hx (hb hby at_374) ((if0 _ _).trans (flt (lq_nlt hm374_362)).1) (pc' := 377) rfl ?_
                      refine y_iconst X354.here hx (hb hby at_377) (v := (1 : Int32)) rfl (pc' := 378) rfl ?_
                      refine y_goto X354.here hx (hb hby at_378) (pc' := 382) (by decide) rfl ?_
                      exact kt)
                  refine ⟨T354, ⟨X354, e354.trans e354.symm⟩, fun t kt => pre364 t ?_⟩
                  (try simp only [if_neg hm374_362] at kt)
                  exact kt
              have e361 : T361.heap = h311 := q361.trans e354
              have pre365 : ∀ t, Steps p.tables e below (T361.setTop (mkF m 382 #[iv pi0, iv pi1, iv pi2, jv pj3, .second, jv pj4, .second, jv pj5, .second, iv x2, iv x9, iv x16, iv x23, iv x30, iv x37, iv x44, iv x50, iv x52, iv x55, iv x62, rv b69, iv x328, iv (0 : Int32), iv x16, iv x330, iv x333, .unset, jv pj4, .second, jv x353, .second] [(.int x360)])) t → Go t := fun t kt => pre359 t (st361 t kt)
              have pre367 : ∀ t, Steps p.tables e below (T361.setTop (mkF m 388 #[iv pi0, iv pi1, iv pi2, jv pj3, .second, jv pj4, .second, jv pj5, .second, iv x2, iv x9, iv x16, iv x23, iv x30, iv x37, iv x44, iv x50, iv x52, iv x55, iv x62, rv b69, iv x328, iv (0 : Int32), iv x16, iv x330, iv x333, iv x360, jv pj4, .second, jv x353, .second] [(.int x360), (.int x328)])) t → Go t := fun t kt => pre365 t (by
                  refine y_istore X361.here hx (hb hby at_382) (l' := #[iv pi0, iv pi1, iv pi2, jv pj3, .second, jv pj4, .second, jv pj5, .second, iv x2, iv x9, iv x16, iv x23, iv x30, iv x37, iv x44, iv x50, iv x52, iv x55, iv x62, rv b69, iv x328, iv (0 : Int32), iv x16, iv x330, iv x333, iv x360, jv pj4, .second, jv x353, .second]) rfl (pc' := 384) rfl ?_
                  refine y_iload X361.here hx (hb hby at_384) rfl (pc' := 386) rfl ?_
                  refine y_iload X361.here hx (hb hby at_386) rfl (pc' := 388) rfl ?_
                  exact kt)
              have hf388_366 : x328 = x360 := by
                  exact law0_368 pj3 pj4 pj5 x2 x9 x16 x30 x50 x52 x62 x321 x322 x323 x328 x330 x333 x353 x360 hx321 hx322 hx323 hx328 hx330 hx333 hx353 hx360 hc150_83 hc167_168 hc177_304 hc295_343 hc306_349 hc313_351 B1 B2
              have pre369 : ∀ t, Steps p.tables e below (T361.setTop (mkF m 396 #[iv pi0, iv pi1, iv pi2, jv pj3, .second, jv pj4, .second, jv pj5, .second, iv x2, iv x9, iv x16, iv x23, iv x30, iv x37, iv x44, iv x50, iv x52, iv x55, iv x62, rv b69, iv x328, iv (0 : Int32), iv x16, iv x330, iv x333, iv x360, jv pj4, .second, jv x353, .second] [(.int (1 : Int32))])) t → Go t := fun t kt => pre367 t (by
                  refine y_icmpNo X361.here hx (hb hby at_388) (teq hf388_366).2 (pc' := 391) rfl ?_
                  refine y_iconst X361.here hx (hb hby at_391) (v := (1 : Int32)) rfl (pc' := 392) rfl ?_
                  refine y_goto X361.here hx (hb hby at_392) (pc' := 396) (by decide) rfl ?_
                  exact kt)
              obtain ⟨fs, hr, hrun, hended, hW, hsame⟩ := X361.leave (v := some (.int (1 : Int32))) (fun h => by rw [Bd.returns] at h; cases h)
              refine ⟨_, _, (hGo _).mp (pre369 _ ?_), hrun, hended, _, _, rfl, ?_, ⟨_, rfl⟩, hW, hsame.mono (by decide) (by decide)⟩
              · exact retN X361 hx (t := .boolean) Bd.returns (by simp) (hb hby at_396) hr
              · show Q0 Z pi0 pi1 pi2 pj3 pj4 pj5 h0 n0 _ T361.heap _
                rw [e361]
                exact ⟨rfl, N327⟩
            · have pre371 : ∀ t, Steps p.tables e below (T334.setTop (mkF m 388 #[iv pi0, iv pi1, iv pi2, jv pj3, .second, jv pj4, .second, jv pj5, .second, iv x2, iv x9, iv x16, iv x23, iv x30, iv x37, iv x44, iv x50, iv x52, iv x55, iv x62, rv b69, iv x328, iv (0 : Int32), iv x16, iv x330, iv x333, iv (1 : Int32), .unset, .unset, .unset, .unset] [(.int (1 : Int32)), (.int x328)])) t → Go t := fun t kt => pre350 t (by
                  refine y_icmpNo X334.here hx (hb hby at_313) (flt hc313_351).1 (pc' := 316) rfl ?_
                  refine y_iconst X334.here hx (hb hby at_316) (v := (1 : Int32)) rfl (pc' := 317) rfl ?_
                  refine y_istore X334.here hx (hb hby at_317) (l' := #[iv pi0, iv pi1, iv pi2, jv pj3, .second, jv pj4, .second, jv pj5, .second, iv x2, iv x9, iv x16, iv x23, iv x30, iv x37, iv x44, iv x50, iv x52, iv x55, iv x62, rv b69, iv x328, iv (0 : Int32), iv x16, iv x330, iv x333, iv (1 : Int32), .unset, .unset, .unset, .unset]) rfl (pc' := 319) rfl ?_
                  refine y_goto X334.here hx (hb hby at_319) (pc' := 384) (by decide) rfl ?_
                  refine y_iload X334.here hx (hb hby at_384) rfl (pc' := 386) rfl ?_
                  refine y_iload X334.here hx (hb hby at_386) rfl (pc' := 388) rfl ?_
                  exact kt)
              have hf388_370 : x328 = (1 : Int32) := by
                  exact law0_372 pj3 pj4 pj5 x2 x9 x16 x30 x50 x52 x62 x321 x322 x323 x328 x330 x333 hx321 hx322 hx323 hx328 hx330 hx333 hc150_83 hc167_168 hc177_304 hc295_343 hc306_349 hc313_351 B1 B2
              have pre373 : ∀ t, Steps p.tables e below (T334.setTop (mkF m 396 #[iv pi0, iv pi1, iv pi2, jv pj3, .second, jv pj4, .second, jv pj5, .second, iv x2, iv x9, iv x16, iv x23, iv x30, iv x37, iv x44, iv x50, iv x52, iv x55, iv x62, rv b69, iv x328, iv (0 : Int32), iv x16, iv x330, iv x333, iv (1 : Int32), .unset, .unset, .unset, .unset] [(.int (1 : Int32))])) t → Go t := fun t kt => pre371 t (by
                  refine y_icmpNo X334.here hx (hb hby at_388) (teq hf388_370).2 (pc' := 391) rfl ?_
                  refine y_iconst X334.here hx (hb hby at_391) (v := (1 : Int32)) rfl (pc' := 392) rfl ?_
                  refine y_goto X334.here hx (hb hby at_392) (pc' := 396) (by decide) rfl ?_
                  exact kt)
              obtain ⟨fs, hr, hrun, hended, hW, hsame⟩ := X334.leave (v := some (.int (1 : Int32))) (fun h => by rw [Bd.returns] at h; cases h)
              refine ⟨_, _, (hGo _).mp (pre373 _ ?_), hrun, hended, _, _, rfl, ?_, ⟨_, rfl⟩, hW, hsame.mono (by decide) (by decide)⟩
              · exact retN X334 hx (t := .boolean) Bd.returns (by simp) (hb hby at_396) hr
              · show Q0 Z pi0 pi1 pi2 pj3 pj4 pj5 h0 n0 _ T334.heap _
                rw [e334]
                exact ⟨rfl, N327⟩
          · have pre375 : ∀ t, Steps p.tables e below (T334.setTop (mkF m 388 #[iv pi0, iv pi1, iv pi2, jv pj3, .second, jv pj4, .second, jv pj5, .second, iv x2, iv x9, iv x16, iv x23, iv x30, iv x37, iv x44, iv x50, iv x52, iv x55, iv x62, rv b69, iv x328, iv (0 : Int32), iv x16, iv x330, iv x333, iv (1 : Int32), .unset, .unset, .unset, .unset] [(.int (1 : Int32)), (.int x328)])) t → Go t := fun t kt => pre348 t (by
                refine y_ifYes X334.here hx (hb hby at_306) ((if0 _ _).trans (feq hc306_349).2) (pc' := 316) (by decide) rfl ?_
                refine y_iconst X334.here hx (hb hby at_316) (v := (1 : Int32)) rfl (pc' := 317) rfl ?_
                refine y_istore X334.here hx (hb hby at_317) (l' := #[iv pi0, iv pi1, iv pi2, jv pj3, .second, jv pj4, .second, jv pj5, .second, iv x2, iv x9, iv x16, iv x23, iv x30, iv x37, iv x44, iv x50, iv x52, iv x55, iv x62, rv b69, iv x328, iv (0 : Int32), iv x16, iv x330, iv x333, iv (1 : Int32), .unset, .unset, .unset, .unset]) rfl (pc' := 319) rfl ?_
                refine y_goto X334.here hx (hb hby at_319) (pc' := 384) (by decide) rfl ?_
                refine y_iload X334.here hx (hb hby at_384) rfl (pc' := 386) rfl ?_
                refine y_iload X334.here hx (hb hby at_386) rfl (pc' := 388) rfl ?_
                exact kt)
            have hf388_374 : x328 = (1 : Int32) := by
                exact law0_376 pj3 pj4 pj5 x2 x9 x16 x30 x50 x52 x62 x321 x322 x323 x328 x330 x333 hx321 hx322 hx323 hx328 hx330 hx333 hc150_83 hc167_168 hc177_304 hc295_343 hc306_349 B1 B2
            have pre377 : ∀ t, Steps p.tables e below (T334.setTop (mkF m 396 #[iv pi0, iv pi1, iv pi2, jv pj3, .second, jv pj4, .second, jv pj5, .second, iv x2, iv x9, iv x16, iv x23, iv x30, iv x37, iv x44, iv x50, iv x52, iv x55, iv x62, rv b69, iv x328, iv (0 : Int32), iv x16, iv x330, iv x333, iv (1 : Int32), .unset, .unset, .unset, .unset] [(.int (1 : Int32))])) t → Go t := fun t kt => pre375 t (by
                refine y_icmpNo X334.here hx (hb hby at_388) (teq hf388_374).2 (pc' := 391) rfl ?_
                refine y_iconst X334.here hx (hb hby at_391) (v := (1 : Int32)) rfl (pc' := 392) rfl ?_
                refine y_goto X334.here hx (hb hby at_392) (pc' := 396) (by decide) rfl ?_
                exact kt)
            obtain ⟨fs, hr, hrun, hended, hW, hsame⟩ := X334.leave (v := some (.int (1 : Int32))) (fun h => by rw [Bd.returns] at h; cases h)
            refine ⟨_, _, (hGo _).mp (pre377 _ ?_), hrun, hended, _, _, rfl, ?_, ⟨_, rfl⟩, hW, hsame.mono (by decide) (by decide)⟩
            · exact retN X334 hx (t := .boolean) Bd.returns (by simp) (hb hby at_396) hr
            · show Q0 Z pi0 pi1 pi2 pj3 pj4 pj5 h0 n0 _ T334.heap _
              rw [e334]
              exact ⟨rfl, N327⟩
set_option maxRecDepth 65536 in
set_option maxHeartbeats 40000000 in
theorem comes_1 {Post : Tables → Env → Array Value → State → Outcome → State → Prop} (hpost : ∀ tb e args s v u, (limb_1_1.after args s (.returned v) u = true ∧ limb_1_2.after args s (.returned v) u = true ∧ True) → FrameEnd s (.returned v) u (Jvm.fieldLocs frame_1_writes args s ++ Jvm.arrayLocs frame_1_arrays args s ++ Jvm.staticLocs frame_1_statics s) 16 128 → Post tb e args s (.returned v) u) :
    ArmFor flags0 classFile x code maxLocals ret World_1 tables_1 room_1 Calls_1 rest_1 Pre_1 Post := by
  intro l hfl _ _ p e ha hc hk s m args below hf hA hF happ hP
  obtain ⟨hcalls, hrest, hpre⟩ := hP
  obtain ⟨-, -, -, hnamed, -, -, -, hat⟩ := (Spec.applies_iff hf).mp happ
  obtain ⟨hg, hn⟩ := and_e (Cond.before_iff.mp (show (Jvm.Cond.and given_1 narrow_1).before args s = true from hpre))
  obtain ⟨g0, gr0⟩ := and_e hg
  obtain ⟨g1, gr1⟩ := and_e gr0
  obtain ⟨g2, gr2⟩ := and_e gr1
  obtain ⟨g3, gr3⟩ := and_e gr2
  obtain ⟨g4, gr4⟩ := and_e gr3
  obtain ⟨g5, gr5⟩ := and_e gr4
  obtain ⟨w0, w1, w2, w3, w4, w5, rfl⟩ : ∃ w0 w1 w2 w3 w4 w5 : Value, args = #[w0, w1, w2, w3, w4, w5] := by
    have hs : args.size = 6 := by simpa [Cond.value, given_1] using g0
    obtain ⟨L⟩ := args
    match L, hs with
    | [w0, w1, w2, w3, w4, w5], _ => exact ⟨w0, w1, w2, w3, w4, w5, rfl⟩
  have hw := fun d (hd : d ∈ tables_1) => atoms_spec (ws := Jvm.Cond.code x code maxLocals ret :: tables_1) hat d (List.mem_cons_of_mem _ hd)
  have hfit : Fit s := fun {y c} hc i hi => by
    obtain ⟨ha, rfl⟩ := Array.getElem?_eq_some_iff.mp hc
    have q := List.all_eq_true.mp ((Array.all_eq_true_iff_forall_mem.mp hF) _ (Array.getElem_mem ha)) i (List.mem_range.mpr hi)
    simpa [Array.getElem?_eq_getElem hi] using q
  obtain ⟨i0, ei0⟩ := is_v g1
  obtain rfl : w0 = (.int i0) := Option.some.inj ei0
  obtain ⟨i1, ei1⟩ := is_v g2
  obtain rfl : w1 = (.int i1) := Option.some.inj ei1
  obtain ⟨i2, ei2⟩ := is_v g3
  obtain rfl : w2 = (.int i2) := Option.some.inj ei2
  obtain ⟨i3, ei3⟩ := isL_v g4
  obtain rfl : w3 = (.long i3) := Option.some.inj ei3
  obtain ⟨i4, ei4⟩ := isL_v g5
  obtain rfl : w4 = (.long i4) := Option.some.inj ei4
  obtain ⟨i5, ei5⟩ := isL_v gr5
  obtain rfl : w5 = (.long i5) := Option.some.inj ei5
  obtain ⟨n0, nr0⟩ := and_e hn
  have S_ALONE_DELAY_NANOS := Sta.start (own_eqL n0) (Or.inr ⟨(hw _ (List.mem_of_getElem? (i := 2) rfl)), (hw _ (List.mem_of_getElem? (i := 28) rfl))⟩)
  have S_DELAY_NANOS := Sta.start (own_eqL nr0) (Or.inr ⟨(hw _ (List.mem_of_getElem? (i := 2) rfl)), (hw _ (List.mem_of_getElem? (i := 39) rfl))⟩)
  obtain ⟨n, o, h1, h2, h3, _, L, rfl, ⟨rfl, N⟩, hq⟩ := rm0 l s _ hw tables_1 i0 i1 i2 i3 i4 i5 s.heap s.heap.size (Old.start s) S_DELAY_NANOS S_ALONE_DELAY_NANOS p e ha hc hk s m _ below hf ((Spec.applies_iff_loose hf).mp happ).1 ⟨rfl, State.Warmed39.refl s, rfl⟩ trivial
  refine ⟨n, _, h1, h2, h3, hpost _ _ _ _ _ _ ⟨Cond.after_iff.mpr rfl, Cond.after_iff.mpr (eq_i res_at (Term.int_eval (1)) rfl), trivial⟩ ⟨hq.1, hq.2.1, (hq.2.2.sift fun y hy => Or.inr (N y hy)).mono (by decide) (by decide)⟩⟩
theorem main_1_1 : Claimed_1_1 := comes_1 fun _ _ _ _ _ _ h hF => ⟨h.1, hF⟩
theorem main_1_2 : Claimed_1_2 := comes_1 fun _ _ _ _ _ _ h hF => ⟨h.2.1, hF⟩
end Jvm.Pilot.@@N@@
namespace Jvm.Pilot.@@N@@
open Jvm Jvm.ClassFile Sem Op Lib Jvm.Free Jvm.Stand Jvm.Pilot.@@N@@.Jvm.D
/-! MADE BY PROGRAM (witnessworld.py) out of the Statement's table words and the real class files: 7 classes; the members and pool entries that the words name. The judged class is class 1, her method 1. -/
namespace start1
open Jvm.ClassFile
def u (s : String) : CpInfo := .utf8 (stringToUtf16 s)
/-- a pool by its gaps: so many unusable entries, then the entry; so many at the end -/
def gap : Nat → List CpInfo → List CpInfo
  | 0, r => r
  | n + 1, r => .unusable :: gap n r
def poolList (es : List (Nat × CpInfo)) (last : Nat) : List CpInfo := es.foldr (fun e r => gap e.1 (e.2 :: r)) (gap last [])
def pool (es : List (Nat × CpInfo)) (last : Nat) : Array CpInfo := ⟨poolList es last⟩
def fileOf (pool : Array CpInfo) (this : Nat) (attrs : Array Attribute := #[]) (ms : Array MethodInfo := #[]) (fl : Nat := 33) (sup : Nat := 0) (ifs : Array Nat := #[]) (fds : Array FieldInfo := #[]) : ClassFile where
  minorVersion := 0
  majorVersion := 65
  constantPool := pool
  accessFlags := fl
  thisClass := this
  superClass := sup
  interfaces := ifs
  fields := fds
  methods := ms
  attributes := attrs
def plain (name : String) (sup : Option ClassId) : Class where
  name := name
  kind := .ordinary
  loader := none
  accessFlags := 33
  super := sup
  interfaces := #[]
  cf := none
  fields := #[]
  methods := #[]
  instanceTypes := #[]
  staticTypes := #[]
  resolved := #[]
  callSites := []
  init := .initialized
  statics := none
  mirror := none

def pool0 : Array CpInfo := pool [(5, u "<init>"), (0, u "()V"), (1, .class_ 10), (1, u "java/lang/Object")] 113

def k0c0 : Code := { maxStack := 0, maxLocals := 1, code := object_method_1_code, exceptionTable := #[], attributes := #[] }
def k0m0 : Method := { name := "<init>", desc := "()V", sig := { parameters := [], returnType := none }, accessFlags := 1, code := some k0c0 }
/-- java/lang/Object -/
def k0 : Class := { plain "java/lang/Object" none with
  accessFlags := 33
  interfaces := #[]
  cf := some (fileOf pool0 8 #[] #[{ accessFlags := 1, nameIndex := 5, descriptorIndex := 6, attributes := #[] }] 33 0 #[] #[])
  fields := #[]
  methods := #[k0m0]
  instanceTypes := #[]
  staticTypes := #[]
  resolved := Array.replicate 124 none
  statics := none }

def pool1 : Array CpInfo := pool [(2, .class_ 4), (0, .nameAndType 5 6), (0, u "java/lang/Object"), (0, u "<init>"), (0, u "()V"), (0, .class_ 8), (0, u "com/example/roamd/roamd/net/DelayedAck"), (0, .methodref 7 3), (0, .methodref 7 11), (0, .nameAndType 12 13), (0, u "arrived"), (0, u "(IIZJ)V"), (0, .methodref 7 15), (0, .nameAndType 16 6), (0, u "sent"), (0, .methodref 7 18), (0, .nameAndType 19 20), (0, u "due"), (0, u "(J)Z"), (0, .long 150000000), (1, .long 700000000), (1, .class_ 26), (0, u "com/example/roamd/roamd/net/DelayedAckDuePinLaw"), (2, u "law"), (0, u "(IIIJJJ)Z")] 3

def k1m0 : Method := { name := "<init>", desc := "()V", sig := { parameters := [], returnType := none }, accessFlags := 1, code := none }
def k1c1 : Code := { maxStack := 6, maxLocals := 31, code := code, exceptionTable := #[], attributes := #[] }
def k1m1 : Method := { name := "law", desc := "(IIIJJJ)Z", sig := { parameters := [.int, .int, .int, .long, .long, .long], returnType := some .boolean }, accessFlags := 9, code := some k1c1 }
/-- com/example/roamd/roamd/net/DelayedAckDuePinLaw -/
def k1 : Class := { plain "com/example/roamd/roamd/net/DelayedAckDuePinLaw" (some 0) with
  accessFlags := 49
  interfaces := #[]
  cf := some (fileOf pool1 25 #[] #[{ accessFlags := 1, nameIndex := 5, descriptorIndex := 6, attributes := #[] }, { accessFlags := 9, nameIndex := 29, descriptorIndex := 30, attributes := #[] }] 49 2 #[] #[])
  fields := #[]
  methods := #[k1m0, k1m1]
  instanceTypes := #[]
  staticTypes := #[]
  resolved := Array.replicate 34 none
  statics := none }

def pool2 : Array CpInfo := pool [(1, .methodref 2 3), (0, .class_ 4), (0, .nameAndType 5 6), (0, u "java/lang/Object"), (0, u "<init>"), (0, u "()V"), (0, .fieldref 8 9), (0, .class_ 10), (0, .nameAndType 11 12), (0, u "com/example/roamd/roamd/net/DelayedAck"), (0, u "waiting"), (0, u "I"), (0, .fieldref 8 14), (0, .nameAndType 15 16), (0, u "firstAt"), (0, u "J"), (0, .fieldref 8 18), (0, .nameAndType 19 20), (0, u "arrivedBefore"), (0, u "Z"), (0, .fieldref 8 22), (0, .nameAndType 23 16), (0, u "lastArrivedAt"), (0, .fieldref 8 25), (0, .nameAndType 26 16), (0, u "DELAY_NANOS"), (0, .fieldref 8 28), (0, .nameAndType 29 16), (0, u "ALONE_DELAY_NANOS"), (0, .fieldref 8 31), (0, .nameAndType 32 16), (0, u "holdNanos"), (0, .fieldref 8 34), (0, .nameAndType 35 20), (0, u "urgent"), (18, u "EVERY"), (4, u "arrived"), (0, u "(IIZJ)V"), (1, u "due"), (0, u "(J)Z"), (1, u "sent")] 3

def k2c0 : Code := { maxStack := 1, maxLocals := 1, code := prog_16_method_1_code, exceptionTable := #[], attributes := #[] }
def k2m0 : Method := { name := "<init>", desc := "()V", sig := { parameters := [], returnType := none }, accessFlags := 0, code := some k2c0 }
def k2c1 : Code := { maxStack := 4, maxLocals := 7, code := prog_16_method_2_code, exceptionTable := #[], attributes := #[] }
def k2m1 : Method := { name := "arrived", desc := "(IIZJ)V", sig := { parameters := [.int, .int, .boolean, .long], returnType := none }, accessFlags := 0, code := some k2c1 }
def k2c2 : Code := { maxStack := 4, maxLocals := 3, code := prog_16_method_3_code, exceptionTable := #[], attributes := #[] }
def k2m2 : Method := { name := "due", desc := "(J)Z", sig := { parameters := [.long], returnType := some .boolean }, accessFlags := 0, code := some k2c2 }
def k2c3 : Code := { maxStack := 2, maxLocals := 1, code := prog_16_method_5_code, exceptionTable := #[], attributes := #[] }
def k2m3 : Method := { name := "sent", desc := "()V", sig := { parameters := [], returnType := none }, accessFlags := 0, code := some k2c3 }
/-- com/example/roamd/roamd/net/DelayedAck -/
def k2 : Class := { plain "com/example/roamd/roamd/net/DelayedAck" (some 0) with
  accessFlags := 32
  interfaces := #[]
  cf := some (fileOf pool2 8 #[] #[{ accessFlags := 0, nameIndex := 5, descriptorIndex := 6, attributes := #[] }, { accessFlags := 0, nameIndex := 59, descriptorIndex := 60, attributes := #[] }, { accessFlags := 0, nameIndex := 62, descriptorIndex := 63, attributes := #[] }, { accessFlags := 0, nameIndex := 65, descriptorIndex := 6, attributes := #[] }] 32 2 #[] #[{ accessFlags := 24, nameIndex := 54, descriptorIndex := 12, attributes := #[] }, { accessFlags := 24, nameIndex := 26, descriptorIndex := 16, attributes := #[] }, { accessFlags := 24, nameIndex := 29, descriptorIndex := 16, attributes := #[] }, { accessFlags := 2, nameIndex := 11, descriptorIndex := 12, attributes := #[] }, { accessFlags := 2, nameIndex := 15, descriptorIndex := 16, attributes := #[] }, { accessFlags := 2, nameIndex := 32, descriptorIndex := 16, attributes := #[] }, { accessFlags := 2, nameIndex := 19, descriptorIndex := 20, attributes := #[] }, { accessFlags := 2, nameIndex := 23, descriptorIndex := 16, attributes := #[] }, { accessFlags := 2, nameIndex := 35, descriptorIndex := 20, attributes := #[] }])
  fields := #[{ name := "EVERY", type := .int, accessFlags := 24, slot := 0, constantValue := 0 }, { name := "DELAY_NANOS", type := .long, accessFlags := 24, slot := 1, constantValue := 0 }, { name := "ALONE_DELAY_NANOS", type := .long, accessFlags := 24, slot := 2, constantValue := 0 }, { name := "waiting", type := .int, accessFlags := 2, slot := 0, constantValue := 0 }, { name := "firstAt", type := .long, accessFlags := 2, slot := 1, constantValue := 0 }, { name := "holdNanos", type := .long, accessFlags := 2, slot := 2, constantValue := 0 }, { name := "arrivedBefore", type := .boolean, accessFlags := 2, slot := 3, constantValue := 0 }, { name := "lastArrivedAt", type := .long, accessFlags := 2, slot := 4, constantValue := 0 }, { name := "urgent", type := .boolean, accessFlags := 2, slot := 5, constantValue := 0 }]
  methods := #[k2m0, k2m1, k2m2, k2m3]
  instanceTypes := #[.int, .long, .long, .boolean, .long, .boolean]
  staticTypes := #[.int, .long, .long]
  resolved := Array.replicate 69 none
  statics := some 0 }

def pool3 : Array CpInfo := pool [(1, u "java/lang/Cloneable"), (0, .class_ 1), (0, u "java/lang/Object"), (0, .class_ 3)] 3

/-- java/lang/Cloneable -/
def k3 : Class := { plain "java/lang/Cloneable" (some 0) with
  accessFlags := 1537
  interfaces := #[]
  cf := some (fileOf pool3 2 #[] #[] 1537 4 #[] #[])
  fields := #[]
  methods := #[]
  instanceTypes := #[]
  staticTypes := #[]
  resolved := Array.replicate 8 none
  statics := none }

def pool4 : Array CpInfo := pool [(1, u "java/io/Serializable"), (0, .class_ 1), (0, u "java/lang/Object"), (0, .class_ 3)] 3

/-- java/io/Serializable -/
def k4 : Class := { plain "java/io/Serializable" (some 0) with
  accessFlags := 1537
  interfaces := #[]
  cf := some (fileOf pool4 2 #[] #[] 1537 4 #[] #[])
  fields := #[]
  methods := #[]
  instanceTypes := #[]
  staticTypes := #[]
  resolved := Array.replicate 8 none
  statics := none }

/-- the primitive byte -/
def k5 : Class := { plain "byte" none with kind := .primitive 'B', accessFlags := 0x411 }
/-- [B -/
def k6 : Class := { plain "[B" (some 0) with kind := .array 5 .byte, interfaces := #[3, 4], accessFlags := 1041 }

def heap : Heap := #[{ cls := 2, slots := #[.int 0, .long 700000000, .long 150000000], vm := .statics 2 }]
def classes : Array Class := #[k0, k1, k2, k3, k4, k5, k6]
def interned : List (Array UInt16 × Addr) := []
def slotsUsed : Nat := 3
def theMethod : MethodId := ⟨1, 1⟩
def args0 : Array Value := #[.int 5, .int 1, .int 7, .long 5, .long 6, .long 7]
def aboutOver (below : List Frame) : State where
  vm := { classes := classes, interned := interned.toArray }
  heap := heap
  slotsUsed := slotsUsed
  threads := #[{ frames := .invoking theMethod args0 :: below }]
def below0 : List Frame := [.native { method := ⟨0, 0⟩, args := #[] }]
def about1 : State := aboutOver below0
def p0 : Program := .bare "" "" ""
def e0 : Env := launch0.env 0 0 0
theorem w_frames : about1.frames = Frame.invoking theMethod args0 :: below0 := rfl
set_option maxRecDepth 65536 in
theorem w_args : argsFit about1.vm theMethod args0 = true := by decide +kernel
set_option maxRecDepth 65536 in
theorem w_heap : heapFits about1 = true := by decide +kernel
set_option maxRecDepth 65536 in
theorem w_runnable : about1.curStatus? = some .runnable := by decide +kernel
set_option maxRecDepth 65536 in
theorem w_alone : about1.alone = true := by decide +kernel
set_option maxRecDepth 65536 in
theorem w_named : about1.methodNamed? x = some theMethod := by decide +kernel
set_option maxRecDepth 65536 in
theorem w_hears : about1.hears theMethod below0 = true := by decide +kernel
set_option maxRecDepth 65536 in
theorem w_ripe : about1.ripe theMethod args0 below0 = true := by decide +kernel
theorem w_running : about1.status = .running := rfl
set_option maxRecDepth 65536 in
theorem w_room : about1.hasRoom e0.platform room_1 = true :=
  launch0.hasRoom_least _ room_1 (by decide +kernel) (by decide +kernel) (by decide +kernel) (by decide +kernel) (by decide +kernel) (by decide +kernel)
theorem allAtoms_all (ts : List Jvm.Cond) (a : Array Jvm.Value) (st : Jvm.State) : (allAtoms ts).before a st = ts.all (fun c => c.before a st) := by
  induction ts with
  | nil => rfl
  | cons c t ih =>
    show (Jvm.Cond.and c (allAtoms t)).before a st = _
    rw [Jvm.Cond.before_and, ih, List.all_cons]
def words1 : List Jvm.Cond := Jvm.Cond.code x code maxLocals ret :: tables_1
/-- a 'code' word, met by the world's own term for the bytes: nothing is compared byte by byte -/
theorem code_word {y : MethodName} {bytes : ByteArray} {mx : Nat} {rt : Option FieldType} {a : Array Value} {s : State} {m : MethodId} {meth : Method} {c : Code} (h1 : s.methodNamed? y = some m) (h2 : s.vm.method? m = some meth) (h3 : meth.code = some c) (h4 : c.code = bytes)
    (h5 : (c.maxLocals == mx && c.exceptionTable.isEmpty && decide (c.maxStack ≤ mostOperands) && decide (meth.sig.returnType = rt) && !meth.locks && decide (parseMethodDescriptor y.desc = some meth.sig)) = true) : (Jvm.Cond.code y bytes mx rt).before a s = true := by
  simp only [Bool.and_eq_true, beq_iff_eq, Bool.not_eq_true', decide_eq_true_eq] at h5
  obtain ⟨⟨⟨⟨⟨g1, g2⟩, g3⟩, g4⟩, g5⟩, g6⟩ := h5
  simp [Cond.before, Cond.holds, Cond.value, h1, h2, h3, h4, g1, g2, g3, g4, g5, g6]
def isCode : Jvm.Cond → Bool
  | .code _ _ _ _ => true
  | _ => false
theorem all_split {L : List Jvm.Cond} {P : Jvm.Cond → Bool} (h1 : L.all (fun c => isCode c || P c) = true) (h2 : ∀ c ∈ L.filter isCode, P c = true) : L.all P = true := by
  refine List.all_eq_true.mpr fun c hc => ?_
  have h := List.all_eq_true.mp h1 c hc
  rcases Bool.eq_false_or_eq_true (isCode c) with hi | hi
  · exact h2 c (List.mem_filter.mpr ⟨hc, hi⟩)
  · simpa [hi] using h
set_option maxRecDepth 65536 in
theorem w_c0 : (Jvm.Cond.code x code maxLocals ret).before args0 about1 = true := code_word (m := ⟨1, 1⟩) (meth := k1m1) (c := k1c1) (by decide +kernel) rfl rfl rfl (by decide +kernel)
set_option maxRecDepth 65536 in
theorem w_c1 : (Jvm.Cond.code ({ cls := "com/example/roamd/roamd/net/DelayedAck", name := "<init>", desc := "()V" } : Jvm.MethodName) prog_16_method_1_code (1 : Nat) (Option.none : Option Jvm.ClassFile.FieldType)).before args0 about1 = true := code_word (m := ⟨2, 0⟩) (meth := k2m0) (c := k2c0) (by decide +kernel) rfl rfl rfl (by decide +kernel)
set_option maxRecDepth 65536 in
theorem w_c2 : (Jvm.Cond.code ({ cls := "java/lang/Object", name := "<init>", desc := "()V" } : Jvm.MethodName) object_method_1_code (1 : Nat) (Option.none : Option Jvm.ClassFile.FieldType)).before args0 about1 = true := code_word (m := ⟨0, 0⟩) (meth := k0m0) (c := k0c0) (by decide +kernel) rfl rfl rfl (by decide +kernel)
set_option maxRecDepth 65536 in
theorem w_c3 : (Jvm.Cond.code ({ cls := "com/example/roamd/roamd/net/DelayedAck", name := "due", desc := "(J)Z" } : Jvm.MethodName) prog_16_method_3_code (3 : Nat) (Option.some Jvm.ClassFile.FieldType.boolean)).before args0 about1 = true := code_word (m := ⟨2, 2⟩) (meth := k2m2) (c := k2c2) (by decide +kernel) rfl rfl rfl (by decide +kernel)
set_option maxRecDepth 65536 in
theorem w_c4 : (Jvm.Cond.code ({ cls := "com/example/roamd/roamd/net/DelayedAck", name := "arrived", desc := "(IIZJ)V" } : Jvm.MethodName) prog_16_method_2_code (7 : Nat) (Option.none : Option Jvm.ClassFile.FieldType)).before args0 about1 = true := code_word (m := ⟨2, 1⟩) (meth := k2m1) (c := k2c1) (by decide +kernel) rfl rfl rfl (by decide +kernel)
set_option maxRecDepth 65536 in
theorem w_c5 : (Jvm.Cond.code ({ cls := "com/example/roamd/roamd/net/DelayedAck", name := "sent", desc := "()V" } : Jvm.MethodName) prog_16_method_5_code (1 : Nat) (Option.none : Option Jvm.ClassFile.FieldType)).before args0 about1 = true := code_word (m := ⟨2, 3⟩) (meth := k2m3) (c := k2c3) (by decide +kernel) rfl rfl rfl (by decide +kernel)
def codes1 : List Jvm.Cond := [Jvm.Cond.code x code maxLocals ret, Jvm.Cond.code ({ cls := "com/example/roamd/roamd/net/DelayedAck", name := "<init>", desc := "()V" } : Jvm.MethodName) prog_16_method_1_code (1 : Nat) (Option.none : Option Jvm.ClassFile.FieldType), Jvm.Cond.code ({ cls := "java/lang/Object", name := "<init>", desc := "()V" } : Jvm.MethodName) object_method_1_code (1 : Nat) (Option.none : Option Jvm.ClassFile.FieldType), Jvm.Cond.code ({ cls := "com/example/roamd/roamd/net/DelayedAck", name := "due", desc := "(J)Z" } : Jvm.MethodName) prog_16_method_3_code (3 : Nat) (Option.some Jvm.ClassFile.FieldType.boolean), Jvm.Cond.code ({ cls := "com/example/roamd/roamd/net/DelayedAck", name := "arrived", desc := "(IIZJ)V" } : Jvm.MethodName) prog_16_method_2_code (7 : Nat) (Option.none : Option Jvm.ClassFile.FieldType), Jvm.Cond.code ({ cls := "com/example/roamd/roamd/net/DelayedAck", name := "sent", desc := "()V" } : Jvm.MethodName) prog_16_method_5_code (1 : Nat) (Option.none : Option Jvm.ClassFile.FieldType)]
set_option maxRecDepth 65536 in
theorem codes_eq : words1.filter isCode = codes1 := rfl
theorem w_codes : ∀ c ∈ words1.filter isCode, c.before args0 about1 = true := by
  rw [codes_eq]
  intro c hc
  simp only [codes1, List.mem_cons, List.not_mem_nil, or_false] at hc
  rcases hc with rfl | rfl | rfl | rfl | rfl | rfl
  · exact w_c0
  · exact w_c1
  · exact w_c2
  · exact w_c3
  · exact w_c4
  · exact w_c5
set_option maxRecDepth 65536 in
theorem w_t1 : (words1.take 24).all (fun c => isCode c || c.before args0 about1) = true := by decide +kernel
set_option maxRecDepth 65536 in
theorem w_t2 : (words1.drop 24).all (fun c => isCode c || c.before args0 about1) = true := by decide +kernel
theorem w_tables : (allAtoms (Jvm.Cond.code x code maxLocals ret :: tables_1)).before args0 about1 = true := by
  rw [allAtoms_all]
  show words1.all (fun c => c.before args0 about1) = true
  refine all_split ?_ w_codes
  rw [← List.take_append_drop 24 words1, List.all_append, w_t1, w_t2]
  rfl
set_option maxRecDepth 65536 in
theorem w_case : (Jvm.Cond.and given_1 narrow_1).before args0 about1 = true := by decide +kernel
theorem w_applies : (headSpec (Jvm.Cond.code x code maxLocals ret :: tables_1) room_1).applies x e0.platform about1 = true :=
  (Spec.applies_iff w_frames).mpr ⟨w_running, w_runnable, w_alone, w_named, w_hears, w_ripe, w_room, w_tables⟩
theorem atStart : AtStart classFile x code maxLocals ret World_1 tables_1 room_1 Calls_1 rest_1 Pre_1 launch0 p0 e0 about1 theMethod args0 below0 :=
  ⟨lists_1, trivial, launch0.admits_env _ _ _, launch0.least_env, fairChoices_fair.cas, fairChoices_fair.clock, w_frames, w_args, w_heap, w_applies, trivial, trivial, w_case⟩
end start1
theorem witness_1 : WitnessClaimed_1 := ⟨start1.p0, start1.e0, start1.about1, start1.theMethod, start1.args0, start1.below0, start1.atStart⟩
end Jvm.Pilot.@@N@@
