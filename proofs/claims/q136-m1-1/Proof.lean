import JvmDerived
import JvmDerived.Pilot.@@N@@Statement
import JvmDerived.Pilot.@@N@@Code
set_option linter.unusedVariables false
set_option linter.unusedSimpArgs false
namespace Jvm.Pilot.@@N@@
open Jvm Jvm.ClassFile Sem Op Lib Jvm.Free Jvm.Stand Jvm.LawKit Jvm.RoadKit Bundle Jvm.Pilot.@@N@@.Jvm.D
/-- the run stands at T' as it stood at T: the heap is the same -/
def Nx {p : Program} {l : Launch} {e : Env} {R : Room} {s : State} {m : MethodId} {args : Array Value} {below : List Frame} {meth : Method} {c : Code} {T : State} {locs : List Loc} {cells slots : Nat} (X : Stand p l e R s m args below meth c T locs cells slots) (T' : State) : Prop := Stand p l e R s m args below meth c T' locs cells slots ∧ T'.heap = T.heap
theorem lq_eq {x y : Int64} (h : x = y) : lcmpW x y = 0 := (lcW x y).trans ((lc_eq x y).mpr h)
theorem lq_ne {x y : Int64} (h : ¬ x = y) : ¬ lcmpW x y = 0 := fun q => h ((lc_eq x y).mp ((lcW x y).symm.trans q))
theorem lq_lt {x y : Int64} (h : x < y) : lcmpW x y < 0 := by rw [lcW]; exact (lc_lt x y).mpr h
theorem lq_nlt {x y : Int64} (h : ¬ x < y) : ¬ lcmpW x y < 0 := by rw [lcW]; exact fun q => h ((lc_lt x y).mp q)
theorem lq_gt {x y : Int64} (h : y < x) : 0 < lcmpW x y := by rw [lcW]; exact (lc_gt x y).mpr h
theorem lq_ngt {x y : Int64} (h : ¬ y < x) : ¬ 0 < lcmpW x y := by rw [lcW]; exact fun q => h ((lc_gt x y).mp q)
theorem own_eqI {args : Array Value} {first s : State} {o : Option Outcome} {idx : List Nat} {t : Term} {k : Int32} (h : (Jvm.Cond.eq t (.int k)).value args first o s idx = some true) : t.eval args first o idx s = some (.int k) := by
  simp only [Cond.value, Term.eval] at h
  cases ht : t.eval args first o idx s with
  | none => simp [ht] at h
  | some x => cases x <;> simp [ht] at h ⊢; exact h
theorem own_eqL {args : Array Value} {first s : State} {o : Option Outcome} {idx : List Nat} {t : Term} {k : Int64} (h : (Jvm.Cond.eq t (.long k)).value args first o s idx = some true) : t.eval args first o idx s = some (.long k) := by
  simp only [Cond.value, Term.eval] at h
  cases ht : t.eval args first o idx s with
  | none => simp [ht] at h
  | some x => cases x <;> simp [ht] at h ⊢; exact h
abbrev jv (x : Int64) : Slot := .val (.long x)
theorem y_iloadN {tb : Tables} [Ours tb] {e : Env} {below : List Frame} {T target : State} {m : MethodId} {c : Code} (h : At T m c below) (hx : tb.exec = Jvm.exec) {pc pc' : Nat} {L : Array Slot} {S : List Value} {k : Fin 4} {v : Int32} (hd : decode c.code pc = .ok (.iload_n k, 1)) (hl : L[k.val]? = some (.val (.int v))) (hp : pc + 1 = pc') (hr : Steps tb e below (T.setTop (mkF m pc' L (.int v :: S))) target) : Steps tb e below (T.setTop (mkF m pc L S)) target := by subst hp; exact XS.iloadN h hx rfl hd hl hr
theorem y_lloadN {tb : Tables} [Ours tb] {e : Env} {below : List Frame} {T target : State} {m : MethodId} {c : Code} (h : At T m c below) (hx : tb.exec = Jvm.exec) {pc pc' : Nat} {L : Array Slot} {S : List Value} {k : Fin 4} {v : Int64} (hd : decode c.code pc = .ok (.lload_n k, 1)) (hl : L[k.val]? = some (.val (.long v))) (hp : pc + 1 = pc') (hr : Steps tb e below (T.setTop (mkF m pc' L (.long v :: S))) target) : Steps tb e below (T.setTop (mkF m pc L S)) target := by subst hp; exact XS.lloadN h hx rfl hd hl hr
theorem y_aloadN {tb : Tables} [Ours tb] {e : Env} {below : List Frame} {T target : State} {m : MethodId} {c : Code} (h : At T m c below) (hx : tb.exec = Jvm.exec) {pc pc' : Nat} {L : Array Slot} {S : List Value} {k : Fin 4} {v : Value} (hd : decode c.code pc = .ok (.aload_n k, 1)) (hl : L[k.val]? = some (.val v)) (hv : v.isRef = true) (hp : pc + 1 = pc') (hr : Steps tb e below (T.setTop (mkF m pc' L (v :: S))) target) : Steps tb e below (T.setTop (mkF m pc L S)) target := by subst hp; exact XS.aloadN h hx rfl hd hl hv hr
theorem y_istoreN {tb : Tables} [Ours tb] {e : Env} {below : List Frame} {T target : State} {m : MethodId} {c : Code} (h : At T m c below) (hx : tb.exec = Jvm.exec) {pc pc' : Nat} {L : Array Slot} {S : List Value} {k : Fin 4} {v : Int32} {l' : Array Slot} (hd : decode c.code pc = .ok (.istore_n k, 1)) (hl : storeLocals L k.val (.int v) = some l') (hp : pc + 1 = pc') (hr : Steps tb e below (T.setTop (mkF m pc' l' S)) target) : Steps tb e below (T.setTop (mkF m pc L (.int v :: S))) target := by subst hp; exact XS.istoreN h hx rfl hd rfl hl hr
theorem y_lstoreN {tb : Tables} [Ours tb] {e : Env} {below : List Frame} {T target : State} {m : MethodId} {c : Code} (h : At T m c below) (hx : tb.exec = Jvm.exec) {pc pc' : Nat} {L : Array Slot} {S : List Value} {k : Fin 4} {v : Int64} {l' : Array Slot} (hd : decode c.code pc = .ok (.lstore_n k, 1)) (hl : storeLocals L k.val (.long v) = some l') (hp : pc + 1 = pc') (hr : Steps tb e below (T.setTop (mkF m pc' l' S)) target) : Steps tb e below (T.setTop (mkF m pc L (.long v :: S))) target := by subst hp; exact XS.lstoreN h hx rfl hd rfl hl hr
theorem y_astoreN {tb : Tables} [Ours tb] {e : Env} {below : List Frame} {T target : State} {m : MethodId} {c : Code} (h : At T m c below) (hx : tb.exec = Jvm.exec) {pc pc' : Nat} {L : Array Slot} {S : List Value} {k : Fin 4} {v : Value} {l' : Array Slot} (hd : decode c.code pc = .ok (.astore_n k, 1)) (hv : v.isRef = true) (hl : storeLocals L k.val v = some l') (hp : pc + 1 = pc') (hr : Steps tb e below (T.setTop (mkF m pc' l' S)) target) : Steps tb e below (T.setTop (mkF m pc L (v :: S))) target := by subst hp; exact XS.astoreN h hx rfl hd rfl hv hl hr
theorem y_iload {tb : Tables} [Ours tb] {e : Env} {below : List Frame} {T target : State} {m : MethodId} {c : Code} (h : At T m c below) (hx : tb.exec = Jvm.exec) {pc pc' : Nat} {L : Array Slot} {S : List Value} {k : Nat} {v : Int32} (hd : decode c.code pc = .ok (.iload k, 2)) (hl : L[k]? = some (.val (.int v))) (hp : pc + 2 = pc') (hr : Steps tb e below (T.setTop (mkF m pc' L (.int v :: S))) target) : Steps tb e below (T.setTop (mkF m pc L S)) target := by subst hp; exact XS.iload h hx rfl hd hl hr
theorem y_lload {tb : Tables} [Ours tb] {e : Env} {below : List Frame} {T target : State} {m : MethodId} {c : Code} (h : At T m c below) (hx : tb.exec = Jvm.exec) {pc pc' : Nat} {L : Array Slot} {S : List Value} {k : Nat} {v : Int64} (hd : decode c.code pc = .ok (.lload k, 2)) (hl : L[k]? = some (.val (.long v))) (hp : pc + 2 = pc') (hr : Steps tb e below (T.setTop (mkF m pc' L (.long v :: S))) target) : Steps tb e below (T.setTop (mkF m pc L S)) target := by subst hp; exact XS.lload h hx rfl hd hl hr
theorem y_aload {tb : Tables} [Ours tb] {e : Env} {below : List Frame} {T target : State} {m : MethodId} {c : Code} (h : At T m c below) (hx : tb.exec = Jvm.exec) {pc pc' : Nat} {L : Array Slot} {S : List Value} {k : Nat} {v : Value} (hd : decode c.code pc = .ok (.aload k, 2)) (hl : L[k]? = some (.val v)) (hv : v.isRef = true) (hp : pc + 2 = pc') (hr : Steps tb e below (T.setTop (mkF m pc' L (v :: S))) target) : Steps tb e below (T.setTop (mkF m pc L S)) target := by subst hp; exact XS.aload h hx rfl hd hl hv hr
theorem y_istore {tb : Tables} [Ours tb] {e : Env} {below : List Frame} {T target : State} {m : MethodId} {c : Code} (h : At T m c below) (hx : tb.exec = Jvm.exec) {pc pc' : Nat} {L : Array Slot} {S : List Value} {k : Nat} {v : Int32} {l' : Array Slot} (hd : decode c.code pc = .ok (.istore k, 2)) (hl : storeLocals L k (.int v) = some l') (hp : pc + 2 = pc') (hr : Steps tb e below (T.setTop (mkF m pc' l' S)) target) : Steps tb e below (T.setTop (mkF m pc L (.int v :: S))) target := by subst hp; exact XS.istore h hx rfl hd rfl hl hr
theorem y_lstore {tb : Tables} [Ours tb] {e : Env} {below : List Frame} {T target : State} {m : MethodId} {c : Code} (h : At T m c below) (hx : tb.exec = Jvm.exec) {pc pc' : Nat} {L : Array Slot} {S : List Value} {k : Nat} {v : Int64} {l' : Array Slot} (hd : decode c.code pc = .ok (.lstore k, 2)) (hl : storeLocals L k (.long v) = some l') (hp : pc + 2 = pc') (hr : Steps tb e below (T.setTop (mkF m pc' l' S)) target) : Steps tb e below (T.setTop (mkF m pc L (.long v :: S))) target := by subst hp; exact XS.lstore h hx rfl hd rfl hl hr
theorem y_astore {tb : Tables} [Ours tb] {e : Env} {below : List Frame} {T target : State} {m : MethodId} {c : Code} (h : At T m c below) (hx : tb.exec = Jvm.exec) {pc pc' : Nat} {L : Array Slot} {S : List Value} {k : Nat} {v : Value} {l' : Array Slot} (hd : decode c.code pc = .ok (.astore k, 2)) (hv : v.isRef = true) (hl : storeLocals L k v = some l') (hp : pc + 2 = pc') (hr : Steps tb e below (T.setTop (mkF m pc' l' S)) target) : Steps tb e below (T.setTop (mkF m pc L (v :: S))) target := by subst hp; exact XS.astore h hx rfl hd rfl hv hl hr
theorem y_iconst {tb : Tables} [Ours tb] {e : Env} {below : List Frame} {T target : State} {m : MethodId} {c : Code} (h : At T m c below) (hx : tb.exec = Jvm.exec) {pc pc' : Nat} {L : Array Slot} {S : List Value} {i : Int} {v : Int32} (hd : decode c.code pc = .ok (.iconst i, 1)) (hv : Int32.ofInt i = v) (hp : pc + 1 = pc') (hr : Steps tb e below (T.setTop (mkF m pc' L (.int v :: S))) target) : Steps tb e below (T.setTop (mkF m pc L S)) target := by subst hp; exact XS.iconst h hx rfl hd (by rw [hv]; exact hr)
theorem y_bipush {tb : Tables} [Ours tb] {e : Env} {below : List Frame} {T target : State} {m : MethodId} {c : Code} (h : At T m c below) (hx : tb.exec = Jvm.exec) {pc pc' : Nat} {L : Array Slot} {S : List Value} {i : Int} {v : Int32} (hd : decode c.code pc = .ok (.bipush i, 2)) (hv : (Int8.ofInt i).toInt32 = v) (hp : pc + 2 = pc') (hr : Steps tb e below (T.setTop (mkF m pc' L (.int v :: S))) target) : Steps tb e below (T.setTop (mkF m pc L S)) target := by subst hp; exact XS.bipush h hx rfl hd (by rw [hv]; exact hr)
theorem y_sipush {tb : Tables} [Ours tb] {e : Env} {below : List Frame} {T target : State} {m : MethodId} {c : Code} (h : At T m c below) (hx : tb.exec = Jvm.exec) {pc pc' : Nat} {L : Array Slot} {S : List Value} {i : Int} {v : Int32} (hd : decode c.code pc = .ok (.sipush i, 3)) (hv : (Int16.ofInt i).toInt32 = v) (hp : pc + 3 = pc') (hr : Steps tb e below (T.setTop (mkF m pc' L (.int v :: S))) target) : Steps tb e below (T.setTop (mkF m pc L S)) target := by subst hp; exact XS.sipush h hx rfl hd (by rw [hv]; exact hr)
theorem y_lconst {tb : Tables} [Ours tb] {e : Env} {below : List Frame} {T target : State} {m : MethodId} {c : Code} (h : At T m c below) (hx : tb.exec = Jvm.exec) {pc pc' : Nat} {L : Array Slot} {S : List Value} {k : Fin 2} {v : Int64} (hd : decode c.code pc = .ok (.lconst k, 1)) (hv : Int64.ofNat k.val = v) (hp : pc + 1 = pc') (hr : Steps tb e below (T.setTop (mkF m pc' L (.long v :: S))) target) : Steps tb e below (T.setTop (mkF m pc L S)) target := by subst hp; exact XS.lconst h hx rfl hd (by first | exact hv ▸ hr | (rw [hv]; exact hr) | (subst hv; exact hr))
theorem y_aconstNull {tb : Tables} [Ours tb] {e : Env} {below : List Frame} {T target : State} {m : MethodId} {c : Code} (h : At T m c below) (hx : tb.exec = Jvm.exec) {pc pc' : Nat} {L : Array Slot} {S : List Value} (hd : decode c.code pc = .ok (.aconst_null, 1)) (hp : pc + 1 = pc') (hr : Steps tb e below (T.setTop (mkF m pc' L (.null :: S))) target) : Steps tb e below (T.setTop (mkF m pc L S)) target := by subst hp; exact XS.aconstNull h hx rfl hd hr
theorem y_iadd {tb : Tables} [Ours tb] {e : Env} {below : List Frame} {T target : State} {m : MethodId} {c : Code} (h : At T m c below) (hx : tb.exec = Jvm.exec) {pc pc' : Nat} {L : Array Slot} {S : List Value} {x y z : Int32} (hd : decode c.code pc = .ok (.iadd, 1)) (hz : x + y = z) (hp : pc + 1 = pc') (hr : Steps tb e below (T.setTop (mkF m pc' L (.int z :: S))) target) : Steps tb e below (T.setTop (mkF m pc L (.int y :: .int x :: S))) target := by subst hp; exact XS.iadd h hx rfl hd rfl (by rw [hz]; exact hr)
theorem y_isub {tb : Tables} [Ours tb] {e : Env} {below : List Frame} {T target : State} {m : MethodId} {c : Code} (h : At T m c below) (hx : tb.exec = Jvm.exec) {pc pc' : Nat} {L : Array Slot} {S : List Value} {x y z : Int32} (hd : decode c.code pc = .ok (.isub, 1)) (hz : x - y = z) (hp : pc + 1 = pc') (hr : Steps tb e below (T.setTop (mkF m pc' L (.int z :: S))) target) : Steps tb e below (T.setTop (mkF m pc L (.int y :: .int x :: S))) target := by subst hp; exact XS.isub h hx rfl hd rfl (by rw [hz]; exact hr)
theorem y_imul {tb : Tables} [Ours tb] {e : Env} {below : List Frame} {T target : State} {m : MethodId} {c : Code} (h : At T m c below) (hx : tb.exec = Jvm.exec) {pc pc' : Nat} {L : Array Slot} {S : List Value} {x y z : Int32} (hd : decode c.code pc = .ok (.imul, 1)) (hz : x * y = z) (hp : pc + 1 = pc') (hr : Steps tb e below (T.setTop (mkF m pc' L (.int z :: S))) target) : Steps tb e below (T.setTop (mkF m pc L (.int y :: .int x :: S))) target := by subst hp; exact XS.imul h hx rfl hd rfl (by rw [hz]; exact hr)
theorem y_iand {tb : Tables} [Ours tb] {e : Env} {below : List Frame} {T target : State} {m : MethodId} {c : Code} (h : At T m c below) (hx : tb.exec = Jvm.exec) {pc pc' : Nat} {L : Array Slot} {S : List Value} {x y z : Int32} (hd : decode c.code pc = .ok (.iand, 1)) (hz : x &&& y = z) (hp : pc + 1 = pc') (hr : Steps tb e below (T.setTop (mkF m pc' L (.int z :: S))) target) : Steps tb e below (T.setTop (mkF m pc L (.int y :: .int x :: S))) target := by subst hp; exact XS.iand h hx rfl hd rfl (by rw [hz]; exact hr)
theorem y_ior {tb : Tables} [Ours tb] {e : Env} {below : List Frame} {T target : State} {m : MethodId} {c : Code} (h : At T m c below) (hx : tb.exec = Jvm.exec) {pc pc' : Nat} {L : Array Slot} {S : List Value} {x y z : Int32} (hd : decode c.code pc = .ok (.ior, 1)) (hz : x ||| y = z) (hp : pc + 1 = pc') (hr : Steps tb e below (T.setTop (mkF m pc' L (.int z :: S))) target) : Steps tb e below (T.setTop (mkF m pc L (.int y :: .int x :: S))) target := by subst hp; exact XS.ior h hx rfl hd rfl (by rw [hz]; exact hr)
theorem y_ixor {tb : Tables} [Ours tb] {e : Env} {below : List Frame} {T target : State} {m : MethodId} {c : Code} (h : At T m c below) (hx : tb.exec = Jvm.exec) {pc pc' : Nat} {L : Array Slot} {S : List Value} {x y z : Int32} (hd : decode c.code pc = .ok (.ixor, 1)) (hz : x ^^^ y = z) (hp : pc + 1 = pc') (hr : Steps tb e below (T.setTop (mkF m pc' L (.int z :: S))) target) : Steps tb e below (T.setTop (mkF m pc L (.int y :: .int x :: S))) target := by subst hp; exact XS.ixor h hx rfl hd rfl (by rw [hz]; exact hr)
theorem y_ladd {tb : Tables} [Ours tb] {e : Env} {below : List Frame} {T target : State} {m : MethodId} {c : Code} (h : At T m c below) (hx : tb.exec = Jvm.exec) {pc pc' : Nat} {L : Array Slot} {S : List Value} {x y z : Int64} (hd : decode c.code pc = .ok (.ladd, 1)) (hz : x + y = z) (hp : pc + 1 = pc') (hr : Steps tb e below (T.setTop (mkF m pc' L (.long z :: S))) target) : Steps tb e below (T.setTop (mkF m pc L (.long y :: .long x :: S))) target := by subst hp; exact XS.ladd h hx rfl hd rfl (by rw [hz]; exact hr)
theorem y_lsub {tb : Tables} [Ours tb] {e : Env} {below : List Frame} {T target : State} {m : MethodId} {c : Code} (h : At T m c below) (hx : tb.exec = Jvm.exec) {pc pc' : Nat} {L : Array Slot} {S : List Value} {x y z : Int64} (hd : decode c.code pc = .ok (.lsub, 1)) (hz : x - y = z) (hp : pc + 1 = pc') (hr : Steps tb e below (T.setTop (mkF m pc' L (.long z :: S))) target) : Steps tb e below (T.setTop (mkF m pc L (.long y :: .long x :: S))) target := by subst hp; exact XS.lsub h hx rfl hd rfl (by rw [hz]; exact hr)
theorem y_lmul {tb : Tables} [Ours tb] {e : Env} {below : List Frame} {T target : State} {m : MethodId} {c : Code} (h : At T m c below) (hx : tb.exec = Jvm.exec) {pc pc' : Nat} {L : Array Slot} {S : List Value} {x y z : Int64} (hd : decode c.code pc = .ok (.lmul, 1)) (hz : x * y = z) (hp : pc + 1 = pc') (hr : Steps tb e below (T.setTop (mkF m pc' L (.long z :: S))) target) : Steps tb e below (T.setTop (mkF m pc L (.long y :: .long x :: S))) target := by subst hp; exact XS.lmul h hx rfl hd rfl (by rw [hz]; exact hr)
theorem y_land {tb : Tables} [Ours tb] {e : Env} {below : List Frame} {T target : State} {m : MethodId} {c : Code} (h : At T m c below) (hx : tb.exec = Jvm.exec) {pc pc' : Nat} {L : Array Slot} {S : List Value} {x y z : Int64} (hd : decode c.code pc = .ok (.land, 1)) (hz : x &&& y = z) (hp : pc + 1 = pc') (hr : Steps tb e below (T.setTop (mkF m pc' L (.long z :: S))) target) : Steps tb e below (T.setTop (mkF m pc L (.long y :: .long x :: S))) target := by subst hp; exact XS.land h hx rfl hd rfl (by rw [hz]; exact hr)
theorem y_lor {tb : Tables} [Ours tb] {e : Env} {below : List Frame} {T target : State} {m : MethodId} {c : Code} (h : At T m c below) (hx : tb.exec = Jvm.exec) {pc pc' : Nat} {L : Array Slot} {S : List Value} {x y z : Int64} (hd : decode c.code pc = .ok (.lor, 1)) (hz : x ||| y = z) (hp : pc + 1 = pc') (hr : Steps tb e below (T.setTop (mkF m pc' L (.long z :: S))) target) : Steps tb e below (T.setTop (mkF m pc L (.long y :: .long x :: S))) target := by subst hp; exact XS.lor h hx rfl hd rfl (by rw [hz]; exact hr)
theorem y_lxor {tb : Tables} [Ours tb] {e : Env} {below : List Frame} {T target : State} {m : MethodId} {c : Code} (h : At T m c below) (hx : tb.exec = Jvm.exec) {pc pc' : Nat} {L : Array Slot} {S : List Value} {x y z : Int64} (hd : decode c.code pc = .ok (.lxor, 1)) (hz : x ^^^ y = z) (hp : pc + 1 = pc') (hr : Steps tb e below (T.setTop (mkF m pc' L (.long z :: S))) target) : Steps tb e below (T.setTop (mkF m pc L (.long y :: .long x :: S))) target := by subst hp; exact XS.lxor h hx rfl hd rfl (by rw [hz]; exact hr)
theorem y_ineg {tb : Tables} [Ours tb] {e : Env} {below : List Frame} {T target : State} {m : MethodId} {c : Code} (h : At T m c below) (hx : tb.exec = Jvm.exec) {pc pc' : Nat} {L : Array Slot} {S : List Value} {x : Int32} {z : Int32} (hd : decode c.code pc = .ok (.ineg, 1)) (hz : -x = z) (hp : pc + 1 = pc') (hr : Steps tb e below (T.setTop (mkF m pc' L (.int z :: S))) target) : Steps tb e below (T.setTop (mkF m pc L (.int x :: S))) target := by subst hp; exact XS.ineg h hx rfl hd rfl (by subst hz; exact hr)
theorem y_lneg {tb : Tables} [Ours tb] {e : Env} {below : List Frame} {T target : State} {m : MethodId} {c : Code} (h : At T m c below) (hx : tb.exec = Jvm.exec) {pc pc' : Nat} {L : Array Slot} {S : List Value} {x : Int64} {z : Int64} (hd : decode c.code pc = .ok (.lneg, 1)) (hz : -x = z) (hp : pc + 1 = pc') (hr : Steps tb e below (T.setTop (mkF m pc' L (.long z :: S))) target) : Steps tb e below (T.setTop (mkF m pc L (.long x :: S))) target := by subst hp; exact XS.lneg h hx rfl hd rfl (by subst hz; exact hr)
theorem y_i2l {tb : Tables} [Ours tb] {e : Env} {below : List Frame} {T target : State} {m : MethodId} {c : Code} (h : At T m c below) (hx : tb.exec = Jvm.exec) {pc pc' : Nat} {L : Array Slot} {S : List Value} {x : Int32} {z : Int64} (hd : decode c.code pc = .ok (.i2l, 1)) (hz : x.toInt64 = z) (hp : pc + 1 = pc') (hr : Steps tb e below (T.setTop (mkF m pc' L (.long z :: S))) target) : Steps tb e below (T.setTop (mkF m pc L (.int x :: S))) target := by subst hp; exact XS.i2l h hx rfl hd rfl (by subst hz; exact hr)
theorem y_l2i {tb : Tables} [Ours tb] {e : Env} {below : List Frame} {T target : State} {m : MethodId} {c : Code} (h : At T m c below) (hx : tb.exec = Jvm.exec) {pc pc' : Nat} {L : Array Slot} {S : List Value} {x : Int64} {z : Int32} (hd : decode c.code pc = .ok (.l2i, 1)) (hz : x.toInt32 = z) (hp : pc + 1 = pc') (hr : Steps tb e below (T.setTop (mkF m pc' L (.int z :: S))) target) : Steps tb e below (T.setTop (mkF m pc L (.long x :: S))) target := by subst hp; exact XS.l2i h hx rfl hd rfl (by subst hz; exact hr)
theorem y_i2b {tb : Tables} [Ours tb] {e : Env} {below : List Frame} {T target : State} {m : MethodId} {c : Code} (h : At T m c below) (hx : tb.exec = Jvm.exec) {pc pc' : Nat} {L : Array Slot} {S : List Value} {x : Int32} {z : Int32} (hd : decode c.code pc = .ok (.i2b, 1)) (hz : x.toInt8.toInt32 = z) (hp : pc + 1 = pc') (hr : Steps tb e below (T.setTop (mkF m pc' L (.int z :: S))) target) : Steps tb e below (T.setTop (mkF m pc L (.int x :: S))) target := by subst hp; exact XS.i2b h hx rfl hd rfl (by subst hz; exact hr)
theorem y_i2s {tb : Tables} [Ours tb] {e : Env} {below : List Frame} {T target : State} {m : MethodId} {c : Code} (h : At T m c below) (hx : tb.exec = Jvm.exec) {pc pc' : Nat} {L : Array Slot} {S : List Value} {x : Int32} {z : Int32} (hd : decode c.code pc = .ok (.i2s, 1)) (hz : x.toInt16.toInt32 = z) (hp : pc + 1 = pc') (hr : Steps tb e below (T.setTop (mkF m pc' L (.int z :: S))) target) : Steps tb e below (T.setTop (mkF m pc L (.int x :: S))) target := by subst hp; exact XS.i2s h hx rfl hd rfl (by subst hz; exact hr)
theorem y_i2c {tb : Tables} [Ours tb] {e : Env} {below : List Frame} {T target : State} {m : MethodId} {c : Code} (h : At T m c below) (hx : tb.exec = Jvm.exec) {pc pc' : Nat} {L : Array Slot} {S : List Value} {x : Int32} {z : Int32} (hd : decode c.code pc = .ok (.i2c, 1)) (hz : x.toUInt32.toUInt16.toUInt32.toInt32 = z) (hp : pc + 1 = pc') (hr : Steps tb e below (T.setTop (mkF m pc' L (.int z :: S))) target) : Steps tb e below (T.setTop (mkF m pc L (.int x :: S))) target := by subst hp; exact XS.i2c h hx rfl hd rfl (by subst hz; exact hr)
theorem y_ishl {tb : Tables} [Ours tb] {e : Env} {below : List Frame} {T target : State} {m : MethodId} {c : Code} (h : At T m c below) (hx : tb.exec = Jvm.exec) {pc pc' : Nat} {L : Array Slot} {S : List Value} {x z : Int32} {y : Int32} (hd : decode c.code pc = .ok (.ishl, 1)) (hz : (x <<< (y &&& 31)) = z) (hp : pc + 1 = pc') (hr : Steps tb e below (T.setTop (mkF m pc' L (.int z :: S))) target) : Steps tb e below (T.setTop (mkF m pc L (.int y :: .int x :: S))) target := by subst hp; exact XS.ishl h hx rfl hd rfl (by subst hz; exact hr)
theorem y_ishr {tb : Tables} [Ours tb] {e : Env} {below : List Frame} {T target : State} {m : MethodId} {c : Code} (h : At T m c below) (hx : tb.exec = Jvm.exec) {pc pc' : Nat} {L : Array Slot} {S : List Value} {x z : Int32} {y : Int32} (hd : decode c.code pc = .ok (.ishr, 1)) (hz : (x >>> (y &&& 31)) = z) (hp : pc + 1 = pc') (hr : Steps tb e below (T.setTop (mkF m pc' L (.int z :: S))) target) : Steps tb e below (T.setTop (mkF m pc L (.int y :: .int x :: S))) target := by subst hp; exact XS.ishr h hx rfl hd rfl (by subst hz; exact hr)
theorem y_iushr {tb : Tables} [Ours tb] {e : Env} {below : List Frame} {T target : State} {m : MethodId} {c : Code} (h : At T m c below) (hx : tb.exec = Jvm.exec) {pc pc' : Nat} {L : Array Slot} {S : List Value} {x z : Int32} {y : Int32} (hd : decode c.code pc = .ok (.iushr, 1)) (hz : ((x.toUInt32 >>> (y &&& 31).toUInt32).toInt32) = z) (hp : pc + 1 = pc') (hr : Steps tb e below (T.setTop (mkF m pc' L (.int z :: S))) target) : Steps tb e below (T.setTop (mkF m pc L (.int y :: .int x :: S))) target := by subst hp; exact XS.iushr h hx rfl hd rfl (by subst hz; exact hr)
theorem y_lshl {tb : Tables} [Ours tb] {e : Env} {below : List Frame} {T target : State} {m : MethodId} {c : Code} (h : At T m c below) (hx : tb.exec = Jvm.exec) {pc pc' : Nat} {L : Array Slot} {S : List Value} {x z : Int64} {y : Int32} (hd : decode c.code pc = .ok (.lshl, 1)) (hz : (x <<< (y &&& 0x3f).toInt64) = z) (hp : pc + 1 = pc') (hr : Steps tb e below (T.setTop (mkF m pc' L (.long z :: S))) target) : Steps tb e below (T.setTop (mkF m pc L (.int y :: .long x :: S))) target := by subst hp; exact XS.lshl h hx rfl hd rfl (by subst hz; exact hr)
theorem y_lshr {tb : Tables} [Ours tb] {e : Env} {below : List Frame} {T target : State} {m : MethodId} {c : Code} (h : At T m c below) (hx : tb.exec = Jvm.exec) {pc pc' : Nat} {L : Array Slot} {S : List Value} {x z : Int64} {y : Int32} (hd : decode c.code pc = .ok (.lshr, 1)) (hz : (x >>> (y &&& 0x3f).toInt64) = z) (hp : pc + 1 = pc') (hr : Steps tb e below (T.setTop (mkF m pc' L (.long z :: S))) target) : Steps tb e below (T.setTop (mkF m pc L (.int y :: .long x :: S))) target := by subst hp; exact XS.lshr h hx rfl hd rfl (by subst hz; exact hr)
theorem y_lushr {tb : Tables} [Ours tb] {e : Env} {below : List Frame} {T target : State} {m : MethodId} {c : Code} (h : At T m c below) (hx : tb.exec = Jvm.exec) {pc pc' : Nat} {L : Array Slot} {S : List Value} {x z : Int64} {y : Int32} (hd : decode c.code pc = .ok (.lushr, 1)) (hz : ((x.toUInt64 >>> (y &&& 0x3f).toInt64.toUInt64).toInt64) = z) (hp : pc + 1 = pc') (hr : Steps tb e below (T.setTop (mkF m pc' L (.long z :: S))) target) : Steps tb e below (T.setTop (mkF m pc L (.int y :: .long x :: S))) target := by subst hp; exact XS.lushr h hx rfl hd rfl (by subst hz; exact hr)
theorem y_lcmp {tb : Tables} [Ours tb] {e : Env} {below : List Frame} {T target : State} {m : MethodId} {c : Code} (h : At T m c below) (hx : tb.exec = Jvm.exec) {pc pc' : Nat} {L : Array Slot} {S : List Value} {x y : Int64} (hd : decode c.code pc = .ok (.lcmp, 1)) (hp : pc + 1 = pc') (hr : Steps tb e below (T.setTop (mkF m pc' L (.int (lcmpW x y) :: S))) target) : Steps tb e below (T.setTop (mkF m pc L (.long y :: .long x :: S))) target := by subst hp; exact XS.lcmp h hx rfl hd rfl hr
theorem y_iinc {tb : Tables} [Ours tb] {e : Env} {below : List Frame} {T target : State} {m : MethodId} {c : Code} (h : At T m c below) (hx : tb.exec = Jvm.exec) {pc pc' : Nat} {L : Array Slot} {S : List Value} {k : Nat} {cst : Int} {x : Int32} {l' : Array Slot} (hd : decode c.code pc = .ok (.iinc k cst, 3)) (hl : L[k]? = some (.val (.int x))) (hl' : storeLocals L k (.int (x + Int32.ofInt cst)) = some l') (hp : pc + 3 = pc') (hr : Steps tb e below (T.setTop (mkF m pc' l' S)) target) : Steps tb e below (T.setTop (mkF m pc L S)) target := by subst hp; exact XS.iinc h hx rfl hd hl hl' hr
theorem y_dup {tb : Tables} [Ours tb] {e : Env} {below : List Frame} {T target : State} {m : MethodId} {c : Code} (h : At T m c below) (hx : tb.exec = Jvm.exec) {pc pc' : Nat} {L : Array Slot} {S : List Value} {v : Value} (hd : decode c.code pc = .ok (.dup, 1)) (hc : v.category = 1) (hp : pc + 1 = pc') (hr : Steps tb e below (T.setTop (mkF m pc' L (v :: v :: S))) target) : Steps tb e below (T.setTop (mkF m pc L (v :: S))) target := by subst hp; exact XS.dup h hx rfl hd rfl hc hr
theorem y_goto {tb : Tables} [Ours tb] {e : Env} {below : List Frame} {T target : State} {m : MethodId} {c : Code} (h : At T m c below) (hx : tb.exec = Jvm.exec) {pc pc' : Nat} {L : Array Slot} {S : List Value} {o : Int} (hd : decode c.code pc = .ok (.goto o, 3)) (ho : 0 ≤ (pc : Int) + o) (hp : ((pc : Int) + o).toNat = pc') (hr : Steps tb e below (T.setTop (mkF m pc' L S)) target) : Steps tb e below (T.setTop (mkF m pc L S)) target := XS.goto h hx rfl rfl hd ho hp hr
theorem y_ifYes {tb : Tables} [Ours tb] {e : Env} {below : List Frame} {T target : State} {m : MethodId} {c : Code} (h : At T m c below) (hx : tb.exec = Jvm.exec) {pc pc' : Nat} {L : Array Slot} {S : List Value} {cd : ClassFile.Cond} {x : Int32} {o : Int} (hd : decode c.code pc = .ok (.ifCond cd o, 3)) (hc : ifCond.holds cd x = true) (ho : 0 ≤ (pc : Int) + o) (hp : ((pc : Int) + o).toNat = pc') (hr : Steps tb e below (T.setTop (mkF m pc' L S)) target) : Steps tb e below (T.setTop (mkF m pc L (.int x :: S))) target := XS.ifYes h hx rfl rfl hd rfl hc ho hp hr
theorem y_ifNo {tb : Tables} [Ours tb] {e : Env} {below : List Frame} {T target : State} {m : MethodId} {c : Code} (h : At T m c below) (hx : tb.exec = Jvm.exec) {pc pc' : Nat} {L : Array Slot} {S : List Value} {cd : ClassFile.Cond} {x : Int32} {o : Int} (hd : decode c.code pc = .ok (.ifCond cd o, 3)) (hc : ifCond.holds cd x = false) (hp : pc + 3 = pc') (hr : Steps tb e below (T.setTop (mkF m pc' L S)) target) : Steps tb e below (T.setTop (mkF m pc L (.int x :: S))) target := by subst hp; exact XS.ifNo h hx rfl hd rfl hc hr
theorem y_icmpYes {tb : Tables} [Ours tb] {e : Env} {below : List Frame} {T target : State} {m : MethodId} {c : Code} (h : At T m c below) (hx : tb.exec = Jvm.exec) {pc pc' : Nat} {L : Array Slot} {S : List Value} {cd : ClassFile.Cond} {x y : Int32} {o : Int} (hd : decode c.code pc = .ok (.if_icmp cd o, 3)) (hc : if_icmp.holds cd x y = true) (ho : 0 ≤ (pc : Int) + o) (hp : ((pc : Int) + o).toNat = pc') (hr : Steps tb e below (T.setTop (mkF m pc' L S)) target) : Steps tb e below (T.setTop (mkF m pc L (.int y :: .int x :: S))) target := XS.icmpYes h hx rfl rfl hd rfl hc ho hp hr
theorem y_icmpNo {tb : Tables} [Ours tb] {e : Env} {below : List Frame} {T target : State} {m : MethodId} {c : Code} (h : At T m c below) (hx : tb.exec = Jvm.exec) {pc pc' : Nat} {L : Array Slot} {S : List Value} {cd : ClassFile.Cond} {x y : Int32} {o : Int} (hd : decode c.code pc = .ok (.if_icmp cd o, 3)) (hc : if_icmp.holds cd x y = false) (hp : pc + 3 = pc') (hr : Steps tb e below (T.setTop (mkF m pc' L S)) target) : Steps tb e below (T.setTop (mkF m pc L (.int y :: .int x :: S))) target := by subst hp; exact XS.icmpNo h hx rfl hd rfl hc hr
theorem own_getR {p : Program} {l : Launch} {e : Env} {R : Room} {s : State} {m : MethodId} {args : Array Value} {below : List Frame} {meth : Method} {c : Code} {T : State} {locs : List Loc} {cells slots : Nat} {Z : State} {a0 : Array Value} {h : Heap}
    (X : Stand p l e R s m args below meth c T locs cells slots) (hx : p.tables.exec = Jvm.exec) (hZ : Z.Warmed39 s.vm) {own R0 O n d : String} {index : Nat} (hown : s.vm.findClass own = some m.cls) (w : (Jvm.Cond.fieldRef own index R0 n d).before a0 Z = true) (via : Via Z R0 O n d)
    (eT : T.heap = h) {a : Addr} {v : Value} (F : Fld Z h a O n d v) {g : JFrame} (hg : g.method = m) {rest : List Value} (hs : g.stack = .ref a :: rest) (hd : decode c.code g.pc = .ok (.getfield index, 3)) : ∃ T', Stand p l e R s m args below meth c T' locs cells slots ∧ T'.heap = h ∧ ∀ target, Steps p.tables e below (T'.setTop { g with pc := g.pc + 3, stack := v :: rest }) target → Steps p.tables e below (T.setTop g) target := by
  obtain ⟨cell, cf, k, i, f, h1, h2, h3, h4, -, -, h7⟩ := F
  have hT : Z.Warmed39 T.vm := wtrans hZ X.warmed
  have w1 := Cond.fieldRef_warmed39 hT w
  have hc : (Z.setVm T.vm).vm.findClass own = some m.cls := by
    show T.vm.findClass own = _
    rw [X.warmed.alike.findClass]; exact hown
  obtain ⟨c', k', i', f', g1, g2⟩ := Cond.fieldRef_spec hc w1
  obtain ⟨k2, hi, -⟩ := State.fieldFound?_setVm (s := Z) hT.alike (via _ h2)
  cases g1.symm.trans hi
  refine ⟨T, X, eT, fun target hrest => ?_⟩
  subst hg
  jvm_step X.here [hx, hd, getfield.wp_ready (e := e) (s := T) (f := g) X.here.top g2 h3 hs (show T.heap[a]? = some cell by rw [eT]; exact h1) h4 h7]
  exact hrest
theorem d1_0 : decode prog_4_method_1_code 0 = .ok (.aload_n 0, 1) := by decide +kernel
theorem d1_1 : decode prog_4_method_1_code 1 = .ok (.invokespecial 1, 3) := by decide +kernel
theorem d1_4 : decode prog_4_method_1_code 4 = .ok (.aload_n 0, 1) := by decide +kernel
theorem d1_5 : decode prog_4_method_1_code 5 = .ok (.iload_n 1, 1) := by decide +kernel
theorem d1_6 : decode prog_4_method_1_code 6 = .ok (.putfield 7, 3) := by decide +kernel
theorem d1_9 : decode prog_4_method_1_code 9 = .ok (.aload_n 0, 1) := by decide +kernel
theorem d1_10 : decode prog_4_method_1_code 10 = .ok (.aload_n 2, 1) := by decide +kernel
theorem d1_11 : decode prog_4_method_1_code 11 = .ok (.putfield 13, 3) := by decide +kernel
theorem d1_14 : decode prog_4_method_1_code 14 = .ok (.return_, 1) := by decide +kernel
theorem pn_com_example_chronosieve_chronosieve_expression_Amount : plainName "com/example/chronosieve/chronosieve/expression/Amount" = true := by first | (simp [plainName, overriddenIn]; done) | decide +kernel
theorem ef_1 (m : MethodId) (x0 : Addr) (x1 : Int32) (x2 : Addr) : entryFrame m #[(.ref x0), (.int x1), (.ref x2)] 3 = mkF m 0 #[rv x0, iv x1, rv x2] [] := by first | (simp [entryFrame, mkF, argsToLocals, Value.category]; done) | rfl
def Q1 (Z : State) (pr0 : Addr) (pi1 : Int32) (pr2 : Addr) (h0 : Heap) (n0 : Nat) (v : Option Value) (h : Heap) (L : List Loc) : Prop := v = none ∧ Fr n0 L ∧ Keep h0 h [pr0] ∧ Fld Z h pr0 "com/example/chronosieve/chronosieve/expression/Amount" "number" "I" (.int pi1) ∧ Fld Z h pr0 "com/example/chronosieve/chronosieve/expression/Amount" "unit" "Lcom/example/chronosieve/chronosieve/expression/Amount$Unit;" (.ref pr2)
set_option maxRecDepth 65536 in
set_option maxHeartbeats 40000000 in
theorem rm1 (l : Launch) (Z : State) (a0 : Array Value) (hw : ∀ d ∈ tables_1, d.before a0 Z = true) (ws : List Jvm.Cond) (pr0 : Addr) (pi1 : Int32) (pr2 : Addr) (h0 : Heap) (n0 : Nat) (O0 : Old Z n0 h0) (E_pr0 : Exa Z h0 pr0 "com/example/chronosieve/chronosieve/expression/Amount") (F_number_pr0 : Fld Z h0 pr0 "com/example/chronosieve/chronosieve/expression/Amount" "number" "I" (.int (0 : Int32))) (F_unit_pr0 : Fld Z h0 pr0 "com/example/chronosieve/chronosieve/expression/Amount" "unit" "Lcom/example/chronosieve/chronosieve/expression/Amount$Unit;" .null) (G_pr0 : n0 ≤ pr0) :
    MetFree l (⟨"com/example/chronosieve/chronosieve/expression/Amount", "<init>", "(ILcom/example/chronosieve/chronosieve/expression/Amount$Unit;)V"⟩ : MethodName) (head1 (Jvm.Cond.code (⟨"com/example/chronosieve/chronosieve/expression/Amount", "<init>", "(ILcom/example/chronosieve/chronosieve/expression/Amount$Unit;)V"⟩ : MethodName) prog_4_method_1_code 3 none :: ws) ({ frames := 1, cells := 0, slots := 0, locals := 12 } : Room)) (fun a U => a = #[(.ref pr0), (.int pi1), (.ref pr2)] ∧ Z.Warmed39 U.vm ∧ U.heap = h0) (fun _ _ _ _ _ => True) (fun _ U o U' => ∃ v L, o = .returned v ∧ Q1 Z pr0 pi1 pr2 h0 n0 v U'.heap L ∧ FrameEnd U o U' L ({ frames := 1, cells := 0, slots := 0, locals := 12 } : Room).cells ({ frames := 1, cells := 0, slots := 0, locals := 12 } : Room).slots) := by
  refine MetFree.of_bodySF (plainFor_of_name pn_com_example_chronosieve_chronosieve_expression_Amount) hisR ?_
  intro p e s m args below meth c s₁ Bd hml0 hP hK
  obtain ⟨rfl, hZ, hh⟩ := hP
  have hx := Bd.exec
  have hby := Bd.bytes
  have hml : c.maxLocals = 3 := hml0
  have hown : s.vm.findClass "com/example/chronosieve/chronosieve/expression/Amount" = some m.cls := findClass_of_methodNamed Bd.named
  have hnm := (name_of_methodNamed Bd.named Bd.method).1
  have X0 : Stand p l e ({ frames := 1, cells := 0, slots := 0, locals := 12 } : Room) s m #[(.ref pr0), (.int pi1), (.ref pr2)] below meth c s₁ [] 0 0 := Stand.of_body Bd
  have e0 : s₁.heap = h0 := by rw [← hh, Bd.state]; rfl
  have N0 := Fr.nil n0
  obtain ⟨Go, hGo⟩ : ∃ P : State → Prop, ∀ t, P t ↔ Steps p.tables e below (s₁.setTop (entryFrame m #[(.ref pr0), (.int pi1), (.ref pr2)] 3)) t := ⟨_, fun _ => Iff.rfl⟩
  have pre0 : ∀ t, Steps p.tables e below (s₁.setTop (mkF m 0 #[rv pr0, iv pi1, rv pr2] [])) t → Go t := fun t k => (hGo t).mpr (castTop (ef_1 m pr0 pi1 pr2) k)
  have K0 : Keep h0 h0 [pr0] := Keep.refl _ _
  have pre1 : ∀ t, Steps p.tables e below (s₁.setTop (mkF m 1 #[rv pr0, iv pi1, rv pr2] [(.ref pr0)])) t → Go t := fun t kt => pre0 t (by
      refine y_aloadN X0.here hx (hb hby d1_0) rfl rfl (pc' := 1) rfl ?_
      exact kt)
  obtain ⟨T2, X2, e2, st2⟩ := initO X0 hx hZ hown (hw _ (List.mem_of_getElem? (i := 10) rfl)) (hw _ (List.mem_of_getElem? (i := 11) rfl)) (hw _ (List.mem_of_getElem? (i := 12) rfl)) e0 (g := (mkF m 1 #[rv pr0, iv pi1, rv pr2] [(.ref pr0)])) rfl (by rw [hml]; rfl) rfl (hb hby d1_1) (by decide) (W := 0) (by show 2 * 0 + _ ≤ _; exact Nat.le_of_eq rfl) (by decide)
  have pre3 : ∀ t, Steps p.tables e below (T2.setTop (mkF m 4 #[rv pr0, iv pi1, rv pr2] [])) t → Go t := fun t kt => pre1 t (st2 t kt)
  have pre4 : ∀ t, Steps p.tables e below (T2.setTop (mkF m 6 #[rv pr0, iv pi1, rv pr2] [(.int pi1), (.ref pr0)])) t → Go t := fun t kt => pre3 t (by
      refine y_aloadN X2.here hx (hb hby d1_4) rfl rfl (pc' := 5) rfl ?_
      refine y_iloadN X2.here hx (hb hby d1_5) rfl (pc' := 6) rfl ?_
      exact kt)
  obtain ⟨T5, h5, X5, e5, W5, st5⟩ := putF X2 hx hZ hown (host := "") (Or.inl (hw _ (List.mem_of_getElem? (i := 13) rfl))) Via.refl e2 F_number_pr0 E_pr0 (Or.inr ⟨(hw _ (List.mem_of_getElem? (i := 14) rfl)), rfl, hnm⟩) (hw _ (List.mem_of_getElem? (i := 5) rfl)) (ty := .int) (by decide) rfl rfl (g := (mkF m 6 #[rv pr0, iv pi1, rv pr2] [(.int pi1), (.ref pr0)])) rfl rfl (hb hby d1_6)
  have pre6 : ∀ t, Steps p.tables e below (T5.setTop (mkF m 9 #[rv pr0, iv pi1, rv pr2] [])) t → Go t := fun t kt => pre4 t (st5 t kt)
  have f7 : Exa Z h5 pr0 "com/example/chronosieve/chronosieve/expression/Amount" := (E_pr0.wr W5)
  have f9 : Fld Z h5 pr0 "com/example/chronosieve/chronosieve/expression/Amount" "unit" "Lcom/example/chronosieve/chronosieve/expression/Amount$Unit;" .null := (F_unit_pr0.other W5 (Or.inr (slot_ne (Or.inr (hw _ (List.mem_of_getElem? (i := 16) rfl))) (Or.inr (hw _ (List.mem_of_getElem? (i := 14) rfl))) (by decide) (t := (.object "com/example/chronosieve/chronosieve/expression/Amount$Unit")) (t' := .int) (by decide) (by decide))))
  have f10 : Fld Z h5 pr0 "com/example/chronosieve/chronosieve/expression/Amount" "number" "I" (.int pi1) := F_number_pr0.same W5
  have N11 := Fr.snoc X5 N0 G_pr0
  have O11 := O0.wr W5 G_pr0
  have K11 : Keep h0 h5 [pr0] := K0.wr W5 (Or.inl (List.mem_of_getElem? (i := 0) rfl))
  have pre12 : ∀ t, Steps p.tables e below (T5.setTop (mkF m 11 #[rv pr0, iv pi1, rv pr2] [(.ref pr2), (.ref pr0)])) t → Go t := fun t kt => pre6 t (by
      refine y_aloadN X5.here hx (hb hby d1_9) rfl rfl (pc' := 10) rfl ?_
      refine y_aloadN X5.here hx (hb hby d1_10) rfl rfl (pc' := 11) rfl ?_
      exact kt)
  obtain ⟨T13, h13, X13, e13, W13, st13⟩ := putF X5 hx hZ hown (host := "") (Or.inl (hw _ (List.mem_of_getElem? (i := 15) rfl))) Via.refl e5 f9 f7 (Or.inr ⟨(hw _ (List.mem_of_getElem? (i := 16) rfl)), rfl, hnm⟩) (hw _ (List.mem_of_getElem? (i := 5) rfl)) (ty := (.object "com/example/chronosieve/chronosieve/expression/Amount$Unit")) (by decide) rfl rfl (g := (mkF m 11 #[rv pr0, iv pi1, rv pr2] [(.ref pr2), (.ref pr0)])) rfl rfl (hb hby d1_11)
  have pre14 : ∀ t, Steps p.tables e below (T13.setTop (mkF m 14 #[rv pr0, iv pi1, rv pr2] [])) t → Go t := fun t kt => pre12 t (st13 t kt)
  have f15 : Exa Z h13 pr0 "com/example/chronosieve/chronosieve/expression/Amount" := (f7.wr W13)
  have f17 : Fld Z h13 pr0 "com/example/chronosieve/chronosieve/expression/Amount" "number" "I" (.int pi1) := (f10.other W13 (Or.inr (slot_ne (Or.inr (hw _ (List.mem_of_getElem? (i := 14) rfl))) (Or.inr (hw _ (List.mem_of_getElem? (i := 16) rfl))) (by decide) (t := .int) (t' := (.object "com/example/chronosieve/chronosieve/expression/Amount$Unit")) (by decide) (by decide))))
  have f18 : Fld Z h13 pr0 "com/example/chronosieve/chronosieve/expression/Amount" "unit" "Lcom/example/chronosieve/chronosieve/expression/Amount$Unit;" (.ref pr2) := f9.same W13
  have N19 := Fr.snoc X13 N11 G_pr0
  have O19 := O11.wr W13 G_pr0
  have K19 : Keep h0 h13 [pr0] := K11.wr W13 (Or.inl (List.mem_of_getElem? (i := 0) rfl))
  obtain ⟨fs, hr, hrun, hended, hW, hsame⟩ := X13.leave (v := none) (fun _ => rfl)
  refine ⟨_, _, (hGo _).mp (pre14 _ ?_), hrun, hended, _, _, rfl, ?_, ⟨_, rfl⟩, hW, hsame.mono (by decide) (by decide)⟩
  · exact X13.returnOut hx Bd.returns (hb hby d1_14) hr
  · show Q1 Z pr0 pi1 pr2 h0 n0 _ T13.heap _
    rw [e13]
    exact ⟨rfl, N19, K19, f17, f18⟩
theorem d3_0 : decode prog_4_method_4_code 0 = .ok (.aload_n 0, 1) := by decide +kernel
theorem d3_1 : decode prog_4_method_4_code 1 = .ok (.getfield 7, 3) := by decide +kernel
theorem d3_4 : decode prog_4_method_4_code 4 = .ok (.i2l, 1) := by decide +kernel
theorem d3_5 : decode prog_4_method_4_code 5 = .ok (.aload_n 0, 1) := by decide +kernel
theorem d3_6 : decode prog_4_method_4_code 6 = .ok (.getfield 13, 3) := by decide +kernel
theorem d3_9 : decode prog_4_method_4_code 9 = .ok (.getfield 17, 3) := by decide +kernel
theorem d3_12 : decode prog_4_method_4_code 12 = .ok (.i2l, 1) := by decide +kernel
theorem d3_13 : decode prog_4_method_4_code 13 = .ok (.lmul, 1) := by decide +kernel
theorem d3_14 : decode prog_4_method_4_code 14 = .ok (.lreturn, 1) := by decide +kernel
theorem ef_3 (m : MethodId) (x0 : Addr) : entryFrame m #[(.ref x0)] 1 = mkF m 0 #[rv x0] [] := by first | (simp [entryFrame, mkF, argsToLocals, Value.category]; done) | rfl
def Q3 (Z : State) (pr0 : Addr) (u_number_pr0 : Int32) (u_unit_pr0 : Addr) (u_seconds_u_unit_pr0 : Int32) (h0 : Heap) (n0 : Nat) (v : Option Value) (h : Heap) (L : List Loc) : Prop := v = some (.long ((u_number_pr0.toInt64) * (u_seconds_u_unit_pr0.toInt64))) ∧ Fr n0 L ∧ h = h0
set_option maxRecDepth 65536 in
set_option maxHeartbeats 40000000 in
theorem rm3 (l : Launch) (Z : State) (a0 : Array Value) (hw : ∀ d ∈ tables_1, d.before a0 Z = true) (ws : List Jvm.Cond) (pr0 : Addr) (u_number_pr0 : Int32) (u_unit_pr0 : Addr) (u_seconds_u_unit_pr0 : Int32) (h0 : Heap) (n0 : Nat) (O0 : Old Z n0 h0) (E_pr0 : Exa Z h0 pr0 "com/example/chronosieve/chronosieve/expression/Amount") (F_number_pr0 : Fld Z h0 pr0 "com/example/chronosieve/chronosieve/expression/Amount" "number" "I" (.int u_number_pr0)) (F_unit_pr0 : Fld Z h0 pr0 "com/example/chronosieve/chronosieve/expression/Amount" "unit" "Lcom/example/chronosieve/chronosieve/expression/Amount$Unit;" (.ref u_unit_pr0)) (E_u_unit_pr0 : Exa Z h0 u_unit_pr0 "com/example/chronosieve/chronosieve/expression/Amount$Unit") (F_seconds_u_unit_pr0 : Fld Z h0 u_unit_pr0 "com/example/chronosieve/chronosieve/expression/Amount$Unit" "seconds" "I" (.int u_seconds_u_unit_pr0)) :
    MetFree l (⟨"com/example/chronosieve/chronosieve/expression/Amount", "seconds", "()J"⟩ : MethodName) (head1 (Jvm.Cond.code (⟨"com/example/chronosieve/chronosieve/expression/Amount", "seconds", "()J"⟩ : MethodName) prog_4_method_4_code 1 (some .long) :: ws) ({ frames := 0, cells := 0, slots := 0, locals := 0 } : Room)) (fun a U => a = #[(.ref pr0)] ∧ Z.Warmed39 U.vm ∧ U.heap = h0) (fun _ _ _ _ _ => True) (fun _ U o U' => ∃ v L, o = .returned v ∧ Q3 Z pr0 u_number_pr0 u_unit_pr0 u_seconds_u_unit_pr0 h0 n0 v U'.heap L ∧ FrameEnd U o U' L ({ frames := 0, cells := 0, slots := 0, locals := 0 } : Room).cells ({ frames := 0, cells := 0, slots := 0, locals := 0 } : Room).slots) := by
  refine MetFree.of_bodySF (plainFor_of_name pn_com_example_chronosieve_chronosieve_expression_Amount) hisR ?_
  intro p e s m args below meth c s₁ Bd hml0 hP hK
  obtain ⟨rfl, hZ, hh⟩ := hP
  have hx := Bd.exec
  have hby := Bd.bytes
  have hml : c.maxLocals = 1 := hml0
  have hown : s.vm.findClass "com/example/chronosieve/chronosieve/expression/Amount" = some m.cls := findClass_of_methodNamed Bd.named
  have hnm := (name_of_methodNamed Bd.named Bd.method).1
  have X0 : Stand p l e ({ frames := 0, cells := 0, slots := 0, locals := 0 } : Room) s m #[(.ref pr0)] below meth c s₁ [] 0 0 := Stand.of_body Bd
  have e0 : s₁.heap = h0 := by rw [← hh, Bd.state]; rfl
  have N0 := Fr.nil n0
  obtain ⟨Go, hGo⟩ : ∃ P : State → Prop, ∀ t, P t ↔ Steps p.tables e below (s₁.setTop (entryFrame m #[(.ref pr0)] 1)) t := ⟨_, fun _ => Iff.rfl⟩
  have pre0 : ∀ t, Steps p.tables e below (s₁.setTop (mkF m 0 #[rv pr0] [])) t → Go t := fun t k => (hGo t).mpr (castTop (ef_3 m pr0) k)
  have pre1 : ∀ t, Steps p.tables e below (s₁.setTop (mkF m 1 #[rv pr0] [(.ref pr0)])) t → Go t := fun t kt => pre0 t (by
      refine y_aloadN X0.here hx (hb hby d3_0) rfl rfl (pc' := 1) rfl ?_
      exact kt)
  obtain ⟨T2, X2, e2, st2⟩ := getF X0 hx hZ hown (host := "") (Or.inl (hw _ (List.mem_of_getElem? (i := 13) rfl))) Via.refl e0 F_number_pr0 (g := (mkF m 1 #[rv pr0] [(.ref pr0)])) rfl rfl (hb hby d3_1)
  have pre3 : ∀ t, Steps p.tables e below (T2.setTop (mkF m 4 #[rv pr0] [(.int u_number_pr0)])) t → Go t := fun t kt => pre1 t (st2 t kt)
  have pre4 : ∀ t, Steps p.tables e below (T2.setTop (mkF m 6 #[rv pr0] [(.ref pr0), (.long (u_number_pr0.toInt64))])) t → Go t := fun t kt => pre3 t (by
      refine y_i2l X2.here hx (hb hby d3_4) (z := (u_number_pr0.toInt64)) rfl (pc' := 5) rfl ?_
      refine y_aloadN X2.here hx (hb hby d3_5) rfl rfl (pc' := 6) rfl ?_
      exact kt)
  obtain ⟨T5, X5, e5, st5⟩ := getF X2 hx hZ hown (host := "") (Or.inl (hw _ (List.mem_of_getElem? (i := 15) rfl))) Via.refl e2 F_unit_pr0 (g := (mkF m 6 #[rv pr0] [(.ref pr0), (.long (u_number_pr0.toInt64))])) rfl rfl (hb hby d3_6)
  have pre6 : ∀ t, Steps p.tables e below (T5.setTop (mkF m 9 #[rv pr0] [(.ref u_unit_pr0), (.long (u_number_pr0.toInt64))])) t → Go t := fun t kt => pre4 t (st5 t kt)
  obtain ⟨T7, X7, e7, st7⟩ := own_getR X5 hx hZ hown (hw _ (List.mem_of_getElem? (i := 22) rfl)) Via.refl e5 F_seconds_u_unit_pr0 (g := (mkF m 9 #[rv pr0] [(.ref u_unit_pr0), (.long (u_number_pr0.toInt64))])) rfl rfl (hb hby d3_9)
  have pre8 : ∀ t, Steps p.tables e below (T7.setTop (mkF m 12 #[rv pr0] [(.int u_seconds_u_unit_pr0), (.long (u_number_pr0.toInt64))])) t → Go t := fun t kt => pre6 t (st7 t kt)
  have pre9 : ∀ t, Steps p.tables e below (T7.setTop (mkF m 14 #[rv pr0] [(.long ((u_number_pr0.toInt64) * (u_seconds_u_unit_pr0.toInt64)))])) t → Go t := fun t kt => pre8 t (by
      refine y_i2l X7.here hx (hb hby d3_12) (z := (u_seconds_u_unit_pr0.toInt64)) rfl (pc' := 13) rfl ?_
      refine y_lmul X7.here hx (hb hby d3_13) rfl (pc' := 14) rfl ?_
      exact kt)
  obtain ⟨fs, hr, hrun, hended, hW, hsame⟩ := X7.leave (v := some (.long ((u_number_pr0.toInt64) * (u_seconds_u_unit_pr0.toInt64)))) (fun h => by rw [Bd.returns] at h; cases h)
  refine ⟨_, _, (hGo _).mp (pre9 _ ?_), hrun, hended, _, _, rfl, ?_, ⟨_, rfl⟩, hW, hsame.mono (by decide) (by decide)⟩
  · exact retOut X7 hx Bd.returns rfl (Or.inr (Or.inl ⟨rfl, rfl, _, rfl⟩)) (hb hby d3_14) hr
  · show Q3 Z pr0 u_number_pr0 u_unit_pr0 u_seconds_u_unit_pr0 h0 n0 _ T7.heap _
    rw [e7]
    exact ⟨rfl, N0, rfl⟩
theorem d4_0 : decode prog_4_method_2_code 0 = .ok (.aload_n 0, 1) := by decide +kernel
theorem d4_1 : decode prog_4_method_2_code 1 = .ok (.getfield 7, 3) := by decide +kernel
theorem d4_4 : decode prog_4_method_2_code 4 = .ok (.ireturn, 1) := by decide +kernel
theorem ef_4 (m : MethodId) (x0 : Addr) : entryFrame m #[(.ref x0)] 1 = mkF m 0 #[rv x0] [] := by first | (simp [entryFrame, mkF, argsToLocals, Value.category]; done) | rfl
def Q4 (Z : State) (pr0 : Addr) (u_number_pr0 : Int32) (h0 : Heap) (n0 : Nat) (v : Option Value) (h : Heap) (L : List Loc) : Prop := v = some (.int u_number_pr0) ∧ Fr n0 L ∧ h = h0
set_option maxRecDepth 65536 in
set_option maxHeartbeats 40000000 in
theorem rm4 (l : Launch) (Z : State) (a0 : Array Value) (hw : ∀ d ∈ tables_1, d.before a0 Z = true) (ws : List Jvm.Cond) (pr0 : Addr) (u_number_pr0 : Int32) (h0 : Heap) (n0 : Nat) (O0 : Old Z n0 h0) (E_pr0 : Exa Z h0 pr0 "com/example/chronosieve/chronosieve/expression/Amount") (F_number_pr0 : Fld Z h0 pr0 "com/example/chronosieve/chronosieve/expression/Amount" "number" "I" (.int u_number_pr0)) :
    MetFree l (⟨"com/example/chronosieve/chronosieve/expression/Amount", "number", "()I"⟩ : MethodName) (head1 (Jvm.Cond.code (⟨"com/example/chronosieve/chronosieve/expression/Amount", "number", "()I"⟩ : MethodName) prog_4_method_2_code 1 (some .int) :: ws) ({ frames := 0, cells := 0, slots := 0, locals := 0 } : Room)) (fun a U => a = #[(.ref pr0)] ∧ Z.Warmed39 U.vm ∧ U.heap = h0) (fun _ _ _ _ _ => True) (fun _ U o U' => ∃ v L, o = .returned v ∧ Q4 Z pr0 u_number_pr0 h0 n0 v U'.heap L ∧ FrameEnd U o U' L ({ frames := 0, cells := 0, slots := 0, locals := 0 } : Room).cells ({ frames := 0, cells := 0, slots := 0, locals := 0 } : Room).slots) := by
  refine MetFree.of_bodySF (plainFor_of_name pn_com_example_chronosieve_chronosieve_expression_Amount) hisR ?_
  intro p e s m args below meth c s₁ Bd hml0 hP hK
  obtain ⟨rfl, hZ, hh⟩ := hP
  have hx := Bd.exec
  have hby := Bd.bytes
  have hml : c.maxLocals = 1 := hml0
  have hown : s.vm.findClass "com/example/chronosieve/chronosieve/expression/Amount" = some m.cls := findClass_of_methodNamed Bd.named
  have hnm := (name_of_methodNamed Bd.named Bd.method).1
  have X0 : Stand p l e ({ frames := 0, cells := 0, slots := 0, locals := 0 } : Room) s m #[(.ref pr0)] below meth c s₁ [] 0 0 := Stand.of_body Bd
  have e0 : s₁.heap = h0 := by rw [← hh, Bd.state]; rfl
  have N0 := Fr.nil n0
  obtain ⟨Go, hGo⟩ : ∃ P : State → Prop, ∀ t, P t ↔ Steps p.tables e below (s₁.setTop (entryFrame m #[(.ref pr0)] 1)) t := ⟨_, fun _ => Iff.rfl⟩
  have pre0 : ∀ t, Steps p.tables e below (s₁.setTop (mkF m 0 #[rv pr0] [])) t → Go t := fun t k => (hGo t).mpr (castTop (ef_4 m pr0) k)
  have pre1 : ∀ t, Steps p.tables e below (s₁.setTop (mkF m 1 #[rv pr0] [(.ref pr0)])) t → Go t := fun t kt => pre0 t (by
      refine y_aloadN X0.here hx (hb hby d4_0) rfl rfl (pc' := 1) rfl ?_
      exact kt)
  obtain ⟨T2, X2, e2, st2⟩ := getF X0 hx hZ hown (host := "") (Or.inl (hw _ (List.mem_of_getElem? (i := 13) rfl))) Via.refl e0 F_number_pr0 (g := (mkF m 1 #[rv pr0] [(.ref pr0)])) rfl rfl (hb hby d4_1)
  have pre3 : ∀ t, Steps p.tables e below (T2.setTop (mkF m 4 #[rv pr0] [(.int u_number_pr0)])) t → Go t := fun t kt => pre1 t (st2 t kt)
  obtain ⟨fs, hr, hrun, hended, hW, hsame⟩ := X2.leave (v := some (.int u_number_pr0)) (fun h => by rw [Bd.returns] at h; cases h)
  refine ⟨_, _, (hGo _).mp (pre3 _ ?_), hrun, hended, _, _, rfl, ?_, ⟨_, rfl⟩, hW, hsame.mono (by decide) (by decide)⟩
  · exact retOut X2 hx Bd.returns rfl (Or.inl ⟨rfl, Or.inl rfl, _, rfl⟩) (hb hby d4_4) hr
  · show Q4 Z pr0 u_number_pr0 h0 n0 _ T2.heap _
    rw [e2]
    exact ⟨rfl, N0, rfl⟩
theorem d5_0 : decode prog_4_method_3_code 0 = .ok (.aload_n 0, 1) := by decide +kernel
theorem d5_1 : decode prog_4_method_3_code 1 = .ok (.getfield 13, 3) := by decide +kernel
theorem d5_4 : decode prog_4_method_3_code 4 = .ok (.areturn, 1) := by decide +kernel
theorem ef_5 (m : MethodId) (x0 : Addr) : entryFrame m #[(.ref x0)] 1 = mkF m 0 #[rv x0] [] := by first | (simp [entryFrame, mkF, argsToLocals, Value.category]; done) | rfl
def Q5 (Z : State) (pr0 : Addr) (u_unit_pr0 : Addr) (h0 : Heap) (n0 : Nat) (v : Option Value) (h : Heap) (L : List Loc) : Prop := v = some (.ref u_unit_pr0) ∧ Fr n0 L ∧ h = h0
set_option maxRecDepth 65536 in
set_option maxHeartbeats 40000000 in
theorem rm5 (l : Launch) (Z : State) (a0 : Array Value) (hw : ∀ d ∈ tables_1, d.before a0 Z = true) (ws : List Jvm.Cond) (pr0 : Addr) (u_unit_pr0 : Addr) (h0 : Heap) (n0 : Nat) (O0 : Old Z n0 h0) (E_pr0 : Exa Z h0 pr0 "com/example/chronosieve/chronosieve/expression/Amount") (F_unit_pr0 : Fld Z h0 pr0 "com/example/chronosieve/chronosieve/expression/Amount" "unit" "Lcom/example/chronosieve/chronosieve/expression/Amount$Unit;" (.ref u_unit_pr0)) :
    MetFree l (⟨"com/example/chronosieve/chronosieve/expression/Amount", "unit", "()Lcom/example/chronosieve/chronosieve/expression/Amount$Unit;"⟩ : MethodName) (head1 (Jvm.Cond.code (⟨"com/example/chronosieve/chronosieve/expression/Amount", "unit", "()Lcom/example/chronosieve/chronosieve/expression/Amount$Unit;"⟩ : MethodName) prog_4_method_3_code 1 (some (.object "com/example/chronosieve/chronosieve/expression/Amount$Unit")) :: ws) ({ frames := 0, cells := 0, slots := 0, locals := 0 } : Room)) (fun a U => a = #[(.ref pr0)] ∧ Z.Warmed39 U.vm ∧ U.heap = h0) (fun _ _ _ _ _ => True) (fun _ U o U' => ∃ v L, o = .returned v ∧ Q5 Z pr0 u_unit_pr0 h0 n0 v U'.heap L ∧ FrameEnd U o U' L ({ frames := 0, cells := 0, slots := 0, locals := 0 } : Room).cells ({ frames := 0, cells := 0, slots := 0, locals := 0 } : Room).slots) := by
  refine MetFree.of_bodySF (plainFor_of_name pn_com_example_chronosieve_chronosieve_expression_Amount) hisR ?_
  intro p e s m args below meth c s₁ Bd hml0 hP hK
  obtain ⟨rfl, hZ, hh⟩ := hP
  have hx := Bd.exec
  have hby := Bd.bytes
  have hml : c.maxLocals = 1 := hml0
  have hown : s.vm.findClass "com/example/chronosieve/chronosieve/expression/Amount" = some m.cls := findClass_of_methodNamed Bd.named
  have hnm := (name_of_methodNamed Bd.named Bd.method).1
  have X0 : Stand p l e ({ frames := 0, cells := 0, slots := 0, locals := 0 } : Room) s m #[(.ref pr0)] below meth c s₁ [] 0 0 := Stand.of_body Bd
  have e0 : s₁.heap = h0 := by rw [← hh, Bd.state]; rfl
  have N0 := Fr.nil n0
  obtain ⟨Go, hGo⟩ : ∃ P : State → Prop, ∀ t, P t ↔ Steps p.tables e below (s₁.setTop (entryFrame m #[(.ref pr0)] 1)) t := ⟨_, fun _ => Iff.rfl⟩
  have pre0 : ∀ t, Steps p.tables e below (s₁.setTop (mkF m 0 #[rv pr0] [])) t → Go t := fun t k => (hGo t).mpr (castTop (ef_5 m pr0) k)
  have pre1 : ∀ t, Steps p.tables e below (s₁.setTop (mkF m 1 #[rv pr0] [(.ref pr0)])) t → Go t := fun t kt => pre0 t (by
      refine y_aloadN X0.here hx (hb hby d5_0) rfl rfl (pc' := 1) rfl ?_
      exact kt)
  obtain ⟨T2, X2, e2, st2⟩ := getF X0 hx hZ hown (host := "") (Or.inl (hw _ (List.mem_of_getElem? (i := 15) rfl))) Via.refl e0 F_unit_pr0 (g := (mkF m 1 #[rv pr0] [(.ref pr0)])) rfl rfl (hb hby d5_1)
  have pre3 : ∀ t, Steps p.tables e below (T2.setTop (mkF m 4 #[rv pr0] [(.ref u_unit_pr0)])) t → Go t := fun t kt => pre1 t (st2 t kt)
  obtain ⟨fs, hr, hrun, hended, hW, hsame⟩ := X2.leave (v := some (.ref u_unit_pr0)) (fun h => by rw [Bd.returns] at h; cases h)
  refine ⟨_, _, (hGo _).mp (pre3 _ ?_), hrun, hended, _, _, rfl, ?_, ⟨_, rfl⟩, hW, hsame.mono (by decide) (by decide)⟩
  · exact retOut X2 hx Bd.returns rfl (Or.inr (Or.inr (Or.inr (Or.inr ⟨rfl, rfl, rfl⟩)))) (hb hby d5_4) hr
  · show Q5 Z pr0 u_unit_pr0 h0 n0 _ T2.heap _
    rw [e2]
    exact ⟨rfl, N0, rfl⟩
theorem pn_com_example_chronosieve_chronosieve_expression_AmountSecondsPinLaw : plainName "com/example/chronosieve/chronosieve/expression/AmountSecondsPinLaw" = true := by first | (simp [plainName, overriddenIn]; done) | decide +kernel
theorem pd__ILcom_example_chronosieve_chronosieve_expression_Amount_Unit__V : parseMethodDescriptor "(ILcom/example/chronosieve/chronosieve/expression/Amount$Unit;)V" = some ⟨[.int, (.object "com/example/chronosieve/chronosieve/expression/Amount$Unit")], none⟩ := by decide +kernel
theorem pd___J : parseMethodDescriptor "()J" = some ⟨[], some .long⟩ := by decide +kernel
theorem pd___I : parseMethodDescriptor "()I" = some ⟨[], some .int⟩ := by decide +kernel
theorem pd___Lcom_example_chronosieve_chronosieve_expression_Amount_Unit_ : parseMethodDescriptor "()Lcom/example/chronosieve/chronosieve/expression/Amount$Unit;" = some ⟨[], some (.object "com/example/chronosieve/chronosieve/expression/Amount$Unit")⟩ := by decide +kernel
theorem ef_0 (m : MethodId) (x0 : Int32) (x1 : Int32) : entryFrame m #[(.int x0), (.int x1)] maxLocals = mkF m 0 #[iv x0, iv x1, .unset, .unset, .unset, .unset, .unset, .unset, .unset] [] := by first | (simp [entryFrame, mkF, argsToLocals, Value.category, maxLocals]; done) | rfl
def Q0 (Z : State) (pi0 : Int32) (pi1 : Int32) (w_SECOND : Addr) (w_MINUTE : Addr) (w_HOUR : Addr) (h0 : Heap) (n0 : Nat) (v : Option Value) (h : Heap) (L : List Loc) : Prop := v = some (.int (1 : Int32)) ∧ Fr n0 L
set_option maxRecDepth 65536 in
set_option maxHeartbeats 40000000 in
theorem rm0 (l : Launch) (Z : State) (a0 : Array Value) (hw : ∀ d ∈ tables_1, d.before a0 Z = true) (ws : List Jvm.Cond) (pi0 : Int32) (pi1 : Int32) (w_SECOND : Addr) (w_MINUTE : Addr) (w_HOUR : Addr) (h0 : Heap) (n0 : Nat) (O0 : Old Z n0 h0) (S_SECOND : Sta Z Z.heap "com/example/chronosieve/chronosieve/expression/Amount$Unit" "SECOND" "Lcom/example/chronosieve/chronosieve/expression/Amount$Unit;" (.ref w_SECOND)) (S_MINUTE : Sta Z Z.heap "com/example/chronosieve/chronosieve/expression/Amount$Unit" "MINUTE" "Lcom/example/chronosieve/chronosieve/expression/Amount$Unit;" (.ref w_MINUTE)) (S_HOUR : Sta Z Z.heap "com/example/chronosieve/chronosieve/expression/Amount$Unit" "HOUR" "Lcom/example/chronosieve/chronosieve/expression/Amount$Unit;" (.ref w_HOUR)) (E_w_SECOND : Exa Z Z.heap w_SECOND "com/example/chronosieve/chronosieve/expression/Amount$Unit") (E_w_MINUTE : Exa Z Z.heap w_MINUTE "com/example/chronosieve/chronosieve/expression/Amount$Unit") (E_w_HOUR : Exa Z Z.heap w_HOUR "com/example/chronosieve/chronosieve/expression/Amount$Unit") (F_seconds_w_SECOND : Fld Z Z.heap w_SECOND "com/example/chronosieve/chronosieve/expression/Amount$Unit" "seconds" "I" (.int (1 : Int32))) (F_seconds_w_MINUTE : Fld Z Z.heap w_MINUTE "com/example/chronosieve/chronosieve/expression/Amount$Unit" "seconds" "I" (.int (60 : Int32))) (F_seconds_w_HOUR : Fld Z Z.heap w_HOUR "com/example/chronosieve/chronosieve/expression/Amount$Unit" "seconds" "I" (.int (3600 : Int32))) :
    MetFree l x (head1 (Jvm.Cond.code x code maxLocals ret :: ws) room_1) (fun a U => a = #[(.int pi0), (.int pi1)] ∧ Z.Warmed39 U.vm ∧ U.heap = h0) (fun _ _ _ _ _ => True) (fun _ U o U' => ∃ v L, o = .returned v ∧ Q0 Z pi0 pi1 w_SECOND w_MINUTE w_HOUR h0 n0 v U'.heap L ∧ FrameEnd U o U' L room_1.cells room_1.slots) := by
  refine MetFree.of_bodySF (plainFor_of_name pn_com_example_chronosieve_chronosieve_expression_AmountSecondsPinLaw) hisR ?_
  intro p e s m args below meth c s₁ Bd hml0 hP hK
  obtain ⟨rfl, hZ, hh⟩ := hP
  have hx := Bd.exec
  have hby := Bd.bytes
  have hml : c.maxLocals = 9 := hml0
  have hown : s.vm.findClass "com/example/chronosieve/chronosieve/expression/AmountSecondsPinLaw" = some m.cls := findClass_of_methodNamed Bd.named
  have hnm := (name_of_methodNamed Bd.named Bd.method).1
  have X0 : Stand p l e room_1 s m #[(.int pi0), (.int pi1)] below meth c s₁ [] 0 0 := Stand.of_body Bd
  have e0 : s₁.heap = h0 := by rw [← hh, Bd.state]; rfl
  have N0 := Fr.nil n0
  obtain ⟨Go, hGo⟩ : ∃ P : State → Prop, ∀ t, P t ↔ Steps p.tables e below (s₁.setTop (entryFrame m #[(.int pi0), (.int pi1)] maxLocals)) t := ⟨_, fun _ => Iff.rfl⟩
  have pre0 : ∀ t, Steps p.tables e below (s₁.setTop (mkF m 0 #[iv pi0, iv pi1, .unset, .unset, .unset, .unset, .unset, .unset, .unset] [])) t → Go t := fun t k => (hGo t).mpr (castTop (ef_0 m pi0 pi1) k)
  obtain ⟨x1, hx1⟩ : ∃ z : Int32, z = ((pi1 &&& (2147483647 : Int32)) % (3 : Int32)) := ⟨_, rfl⟩
  have pre2 : ∀ t, Steps p.tables e below (s₁.setTop (mkF m 7 #[iv pi0, iv pi1, iv x1, .unset, .unset, .unset, .unset, .unset, .unset] [])) t → Go t := fun t kt => pre0 t (by
      subst hx1
      refine y_iloadN X0.here hx (hb hby at_0) rfl (pc' := 1) rfl ?_
      refine X0.ldcInt hx hown (mvT hZ (hw _ (List.mem_of_getElem? (i := 0) rfl))) (g := (mkF m 1 #[iv pi0, iv pi1, .unset, .unset, .unset, .unset, .unset, .unset, .unset] [(.int pi1)])) rfl (hb hby at_1) _ ?_
      show Steps p.tables e below (s₁.setTop (mkF m 3 #[iv pi0, iv pi1, .unset, .unset, .unset, .unset, .unset, .unset, .unset] [(.int (2147483647 : Int32)), (.int pi1)])) _
      refine y_iand X0.here hx (hb hby at_3) rfl (pc' := 4) rfl ?_
      refine y_iconst X0.here hx (hb hby at_4) (v := (3 : Int32)) rfl (pc' := 5) rfl ?_
      refine iremM (g := (mkF m 5 #[iv pi0, iv pi1, .unset, .unset, .unset, .unset, .unset, .unset, .unset] [(.int (3 : Int32)), (.int (pi1 &&& (2147483647 : Int32)))])) X0 hx rfl (hb hby at_5) rfl (by decide) ?_
      show Steps p.tables e below (s₁.setTop (mkF m 6 #[iv pi0, iv pi1, .unset, .unset, .unset, .unset, .unset, .unset, .unset] [(.int ((pi1 &&& (2147483647 : Int32)) % (3 : Int32)))])) _
      refine y_istoreN X0.here hx (hb hby at_6) (l' := #[iv pi0, iv pi1, iv ((pi1 &&& (2147483647 : Int32)) % (3 : Int32)), .unset, .unset, .unset, .unset, .unset, .unset]) rfl (pc' := 7) rfl ?_
      exact kt)
  have pre3 : ∀ t, Steps p.tables e below (s₁.setTop (mkF m 8 #[iv pi0, iv pi1, iv x1, .unset, .unset, .unset, .unset, .unset, .unset] [(.int x1)])) t → Go t := fun t kt => pre2 t (by
      refine y_iloadN X0.here hx (hb hby at_7) rfl (pc' := 8) rfl ?_
      exact kt)
  by_cases hc8_4 : x1 = (0 : Int32)
  · have pre5 : ∀ t, Steps p.tables e below (s₁.setTop (mkF m 11 #[iv pi0, iv pi1, iv x1, .unset, .unset, .unset, .unset, .unset, .unset] [])) t → Go t := fun t kt => pre3 t (by
        refine y_ifNo X0.here hx (hb hby at_8) ((if0 _ _).trans (teq hc8_4).2) (pc' := 11) rfl ?_
        exact kt)
    obtain ⟨T6, X6, e6, st6⟩ := getS2 X0 hx hZ hown (host := "") (Or.inl (hw _ (List.mem_of_getElem? (i := 1) rfl))) Via.refl e0 (S_SECOND.ext O0.2) (g := (mkF m 11 #[iv pi0, iv pi1, iv x1, .unset, .unset, .unset, .unset, .unset, .unset] [])) rfl (hb hby at_11)
    have pre7 : ∀ t, Steps p.tables e below (T6.setTop (mkF m 14 #[iv pi0, iv pi1, iv x1, .unset, .unset, .unset, .unset, .unset, .unset] [(.ref w_SECOND)])) t → Go t := fun t kt => pre5 t (st6 t kt)
    have pre8 : ∀ t, Steps p.tables e below (T6.setTop (mkF m 47 #[iv pi0, iv pi1, iv x1, rv w_SECOND, jv (1 : Int64), .second, .unset, .unset, .unset] [])) t → Go t := fun t kt => pre7 t (by
        refine y_astoreN X6.here hx (hb hby at_14) rfl (l' := #[iv pi0, iv pi1, iv x1, rv w_SECOND, .unset, .unset, .unset, .unset, .unset]) rfl (pc' := 15) rfl ?_
        refine y_lconst X6.here hx (hb hby at_15) (v := (1 : Int64)) rfl (pc' := 16) rfl ?_
        refine y_lstore X6.here hx (hb hby at_16) (l' := #[iv pi0, iv pi1, iv x1, rv w_SECOND, jv (1 : Int64), .second, .unset, .unset, .unset]) rfl (pc' := 18) rfl ?_
        refine y_goto X6.here hx (hb hby at_18) (pc' := 47) (by decide) rfl ?_
        exact kt)
    obtain ⟨T9, h9, X9, e9, E9, A9, D9, -, st9⟩ := newO X6 hx hZ hown (hw _ (List.mem_of_getElem? (i := 4) rfl)) (hw _ (List.mem_of_getElem? (i := 5) rfl)) (hw _ (List.mem_of_getElem? (i := 6) rfl)) e6 (g := (mkF m 47 #[iv pi0, iv pi1, iv x1, rv w_SECOND, jv (1 : Int64), .second, .unset, .unset, .unset] [])) rfl (hb hby at_47) (by decide) (by decide)
    obtain ⟨b9, g9⟩ : ∃ z, z = h0.size := ⟨_, rfl⟩
    rw [← g9] at A9 D9 st9
    have pre10 : ∀ t, Steps p.tables e below (T9.setTop (mkF m 50 #[iv pi0, iv pi1, iv x1, rv w_SECOND, jv (1 : Int64), .second, .unset, .unset, .unset] [(.ref b9)])) t → Go t := fun t kt => pre8 t (st9 t kt)
    have G11 : n0 ≤ b9 := Nat.le_trans (O0.1 ▸ O0.2.1) (Nat.le_of_eq g9.symm)
    have O11 := O0.ext E9
    have f12 : Fld Z h9 b9 "com/example/chronosieve/chronosieve/expression/Amount" "number" "I" (.int (0 : Int32)) := D9 (Or.inr (hw _ (List.mem_of_getElem? (i := 14) rfl))) (ty := .int) (by decide)
    have f13 : Fld Z h9 b9 "com/example/chronosieve/chronosieve/expression/Amount" "unit" "Lcom/example/chronosieve/chronosieve/expression/Amount$Unit;" .null := D9 (Or.inr (hw _ (List.mem_of_getElem? (i := 16) rfl))) (ty := (.object "com/example/chronosieve/chronosieve/expression/Amount$Unit")) (by decide)
    have pre14 : ∀ t, Steps p.tables e below (T9.setTop (mkF m 53 #[iv pi0, iv pi1, iv x1, rv w_SECOND, jv (1 : Int64), .second, .unset, .unset, .unset] [(.ref w_SECOND), (.int pi0), (.ref b9), (.ref b9)])) t → Go t := fun t kt => pre10 t (by
        refine y_dup X9.here hx (hb hby at_50) rfl (pc' := 51) rfl ?_
        refine y_iloadN X9.here hx (hb hby at_51) rfl (pc' := 52) rfl ?_
        refine y_aloadN X9.here hx (hb hby at_52) rfl rfl (pc' := 53) rfl ?_
        exact kt)
    obtain ⟨v15, _, ⟨T15, L15, k15, n15⟩, -, X15, ⟨Lc15, hQ15, l15, y15, z15⟩, st15⟩ := X9.specialBack hx (y := (⟨"com/example/chronosieve/chronosieve/expression/Amount", "<init>", "(ILcom/example/chronosieve/chronosieve/expression/Amount$Unit;)V"⟩ : MethodName)) rfl hown (mvT hZ (hw _ (List.mem_of_getElem? (i := 7) rfl))) (mvT hZ (hw _ (List.mem_of_getElem? (i := 8) rfl))) (mvT hZ (hw _ (List.mem_of_getElem? (i := 9) rfl))) (by decide) (backOf (W := 1) (rm1 l Z a0 hw [] b9 pi0 w_SECOND h9 n0 O11 A9 f12 f13 G11) hZ (hw _ (List.mem_of_getElem? (i := 9) rfl)) (hw _ (List.mem_of_getElem? (i := 6) rfl)) (by decide) (by decide)) (g := (mkF m 53 #[iv pi0, iv pi1, iv x1, rv w_SECOND, jv (1 : Int64), .second, .unset, .unset, .unset] [(.ref w_SECOND), (.int pi0), (.ref b9), (.ref b9)])) rfl (by rw [hml]; rfl) (Steps.refl _) (a := b9) (argsL := [(.int pi0), (.ref w_SECOND)]) (rest := [(.ref b9)]) (lenOf pd__ILcom_example_chronosieve_chronosieve_expression_Amount_Unit__V rfl) rfl (by show 2 * 0 + _ ≤ _; exact Nat.le_of_eq rfl) (hb hby at_53) (fun _ _ => ⟨rfl, e9, (by decide : 1 + 0 ≤ _), (by decide : 2 + 0 ≤ _)⟩)
    dsimp only [Pt.U, Pt.locs, Pt.cells, Pt.slots] at X15 l15 y15 z15 st15 hQ15
    subst l15 y15 z15
    obtain ⟨hv15, N15q, K15q, p15_0, p15_1⟩ := hQ15
    have N16 := Fr.app N0 N15q
    subst hv15
    have pre17 : ∀ t, Steps p.tables e below (T15.setTop (mkF m 56 #[iv pi0, iv pi1, iv x1, rv w_SECOND, jv (1 : Int64), .second, .unset, .unset, .unset] [(.ref b9)])) t → Go t := fun t kt => pre14 t (st15.trans kt)
    obtain ⟨h15, eh15⟩ : ∃ z, T15.heap = z := ⟨_, rfl⟩
    rw [eh15] at K15q p15_0 p15_1
    have f18 : Exa Z h15 b9 "com/example/chronosieve/chronosieve/expression/Amount" := (A9.keep K15q)
    have O21 := O11.keep K15q (allS G11 all0)
    obtain ⟨x22, hx22⟩ : ∃ z : Int64, z = ((pi0.toInt64) * (1 : Int64)) := ⟨_, rfl⟩
    have pre23 : ∀ t, Steps p.tables e below (T15.setTop (mkF m 65 #[iv pi0, iv pi1, iv x1, rv w_SECOND, jv (1 : Int64), .second, rv b9, jv x22, .second] [])) t → Go t := fun t kt => pre17 t (by
        subst hx22
        refine y_astore X15.here hx (hb hby at_56) rfl (l' := #[iv pi0, iv pi1, iv x1, rv w_SECOND, jv (1 : Int64), .second, rv b9, .unset, .unset]) rfl (pc' := 58) rfl ?_
        refine y_iloadN X15.here hx (hb hby at_58) rfl (pc' := 59) rfl ?_
        refine y_i2l X15.here hx (hb hby at_59) (z := (pi0.toInt64)) rfl (pc' := 60) rfl ?_
        refine y_lload X15.here hx (hb hby at_60) rfl (pc' := 62) rfl ?_
        refine y_lmul X15.here hx (hb hby at_62) rfl (pc' := 63) rfl ?_
        refine y_lstore X15.here hx (hb hby at_63) (l' := #[iv pi0, iv pi1, iv x1, rv w_SECOND, jv (1 : Int64), .second, rv b9, jv ((pi0.toInt64) * (1 : Int64)), .second]) rfl (pc' := 65) rfl ?_
        exact kt)
    have pre24 : ∀ t, Steps p.tables e below (T15.setTop (mkF m 67 #[iv pi0, iv pi1, iv x1, rv w_SECOND, jv (1 : Int64), .second, rv b9, jv x22, .second] [(.ref b9)])) t → Go t := fun t kt => pre23 t (by
        refine y_aload X15.here hx (hb hby at_65) rfl rfl (pc' := 67) rfl ?_
        exact kt)
    obtain ⟨cq25, kq25, q25a, q25b, q25c⟩ := isOf hZ eh15 f18
    obtain ⟨v25, _, ⟨T25, L25, k25, n25⟩, -, X25, ⟨Lc25, hQ25, l25, y25, z25⟩, st25⟩ := X15.virtualBack hx (y := (⟨"com/example/chronosieve/chronosieve/expression/Amount", "seconds", "()J"⟩ : MethodName)) (z := (⟨"com/example/chronosieve/chronosieve/expression/Amount", "seconds", "()J"⟩ : MethodName)) hown (mvT hZ (hw _ (List.mem_of_getElem? (i := 17) rfl))) (mvT hZ (hw _ (List.mem_of_getElem? (i := 18) rfl))) (notFace_of_selects (args := #[]) (mvT hZ (hw _ (List.mem_of_getElem? (i := 20) rfl)))) (mvT hZ (hw _ (List.mem_of_getElem? (i := 20) rfl))) (mvT hZ (hw _ (List.mem_of_getElem? (i := 19) rfl))) (by decide) (backOf (W := 0) (rm3 l Z a0 hw [] b9 pi0 w_SECOND (1 : Int32) h15 n0 O21 f18 p15_0 p15_1 (E_w_SECOND.ext O21.2) (F_seconds_w_SECOND.ext O21.2)) hZ (hw _ (List.mem_of_getElem? (i := 21) rfl)) (hw _ (List.mem_of_getElem? (i := 6) rfl)) (by decide) (by decide)) q25a q25c (g := (mkF m 67 #[iv pi0, iv pi1, iv x1, rv w_SECOND, jv (1 : Int64), .second, rv b9, jv x22, .second] [(.ref b9)])) rfl (by rw [hml]; rfl) (Steps.refl _) (argsL := []) (rest := []) (lenOf pd___J rfl) rfl (by show 2 * 0 + _ ≤ _; exact Nat.le_of_eq rfl) (hb hby at_67) (fun _ _ => ⟨rfl, eh15, (by decide : 1 + 0 ≤ _), (by decide : 2 + 0 ≤ _)⟩)
    dsimp only [Pt.U, Pt.locs, Pt.cells, Pt.slots] at X25 l25 y25 z25 st25 hQ25
    subst l25 y25 z25
    obtain ⟨hv25, N25q, e25q⟩ := hQ25
    have N26 := Fr.app N16 N25q
    have hw25 := hv25
    obtain ⟨x27, hx27⟩ : ∃ z : Int64, z = ((pi0.toInt64) * ((1 : Int32).toInt64)) := ⟨_, rfl⟩
    rw [← hx27] at hw25
    subst hw25
    have pre28 : ∀ t, Steps p.tables e below (T25.setTop (mkF m 70 #[iv pi0, iv pi1, iv x1, rv w_SECOND, jv (1 : Int64), .second, rv b9, jv x22, .second] [(.long x27)])) t → Go t := fun t kt => pre24 t (st25.trans kt)
    have pre30 : ∀ t, Steps p.tables e below (T25.setTop (mkF m 73 #[iv pi0, iv pi1, iv x1, rv w_SECOND, jv (1 : Int64), .second, rv b9, jv x22, .second] [(.int (lcmpW x27 x22))])) t → Go t := fun t kt => pre28 t (by
        refine y_lload X25.here hx (hb hby at_70) rfl (pc' := 72) rfl ?_
        refine y_lcmp X25.here hx (hb hby at_72) (pc' := 73) rfl ?_
        exact kt)
    have hf73_29 : x27 = x22 := by
        rw [hx27, hx22]; rfl
    have pre31 : ∀ t, Steps p.tables e below (T25.setTop (mkF m 78 #[iv pi0, iv pi1, iv x1, rv w_SECOND, jv (1 : Int64), .second, rv b9, jv x22, .second] [(.ref b9)])) t → Go t := fun t kt => pre30 t (by
        refine y_ifNo X25.here hx (hb hby at_73) ((if0 _ _).trans (teq (lq_eq hf73_29)).2) (pc' := 76) rfl ?_
        refine y_aload X25.here hx (hb hby at_76) rfl rfl (pc' := 78) rfl ?_
        exact kt)
    obtain ⟨cq32, kq32, q32a, q32b, q32c⟩ := isOf hZ e25q f18
    obtain ⟨v32, _, ⟨T32, L32, k32, n32⟩, -, X32, ⟨Lc32, hQ32, l32, y32, z32⟩, st32⟩ := X25.virtualBack hx (y := (⟨"com/example/chronosieve/chronosieve/expression/Amount", "number", "()I"⟩ : MethodName)) (z := (⟨"com/example/chronosieve/chronosieve/expression/Amount", "number", "()I"⟩ : MethodName)) hown (mvT hZ (hw _ (List.mem_of_getElem? (i := 24) rfl))) (mvT hZ (hw _ (List.mem_of_getElem? (i := 25) rfl))) (notFace_of_selects (args := #[]) (mvT hZ (hw _ (List.mem_of_getElem? (i := 27) rfl)))) (mvT hZ (hw _ (List.mem_of_getElem? (i := 27) rfl))) (mvT hZ (hw _ (List.mem_of_getElem? (i := 26) rfl))) (by decide) (backOf (W := 0) (rm4 l Z a0 hw [] b9 pi0 h15 n0 O21 f18 p15_0) hZ (hw _ (List.mem_of_getElem? (i := 28) rfl)) (hw _ (List.mem_of_getElem? (i := 6) rfl)) (by decide) (by decide)) q32a q32c (g := (mkF m 78 #[iv pi0, iv pi1, iv x1, rv w_SECOND, jv (1 : Int64), .second, rv b9, jv x22, .second] [(.ref b9)])) rfl (by rw [hml]; rfl) (Steps.refl _) (argsL := []) (rest := []) (lenOf pd___I rfl) rfl (by show 2 * 0 + _ ≤ _; exact Nat.le_of_eq rfl) (hb hby at_78) (fun _ _ => ⟨rfl, e25q, (by decide : 1 + 0 ≤ _), (by decide : 2 + 0 ≤ _)⟩)
    dsimp only [Pt.U, Pt.locs, Pt.cells, Pt.slots] at X32 l32 y32 z32 st32 hQ32
    subst l32 y32 z32
    obtain ⟨hv32, N32q, e32q⟩ := hQ32
    have N33 := Fr.app N26 N32q
    have hw32 := hv32
    subst hw32
    have pre34 : ∀ t, Steps p.tables e below (T32.setTop (mkF m 81 #[iv pi0, iv pi1, iv x1, rv w_SECOND, jv (1 : Int64), .second, rv b9, jv x22, .second] [(.int pi0)])) t → Go t := fun t kt => pre31 t (st32.trans kt)
    have pre35 : ∀ t, Steps p.tables e below (T32.setTop (mkF m 87 #[iv pi0, iv pi1, iv x1, rv w_SECOND, jv (1 : Int64), .second, rv b9, jv x22, .second] [(.ref b9)])) t → Go t := fun t kt => pre34 t (by
        refine y_iloadN X32.here hx (hb hby at_81) rfl (pc' := 82) rfl ?_
        refine y_icmpNo X32.here hx (hb hby at_82) (teq (rfl : pi0 = pi0)).2 (pc' := 85) rfl ?_
        refine y_aload X32.here hx (hb hby at_85) rfl rfl (pc' := 87) rfl ?_
        exact kt)
    obtain ⟨cq36, kq36, q36a, q36b, q36c⟩ := isOf hZ e32q f18
    obtain ⟨v36, _, ⟨T36, L36, k36, n36⟩, -, X36, ⟨Lc36, hQ36, l36, y36, z36⟩, st36⟩ := X32.virtualBack hx (y := (⟨"com/example/chronosieve/chronosieve/expression/Amount", "unit", "()Lcom/example/chronosieve/chronosieve/expression/Amount$Unit;"⟩ : MethodName)) (z := (⟨"com/example/chronosieve/chronosieve/expression/Amount", "unit", "()Lcom/example/chronosieve/chronosieve/expression/Amount$Unit;"⟩ : MethodName)) hown (mvT hZ (hw _ (List.mem_of_getElem? (i := 29) rfl))) (mvT hZ (hw _ (List.mem_of_getElem? (i := 30) rfl))) (notFace_of_selects (args := #[]) (mvT hZ (hw _ (List.mem_of_getElem? (i := 32) rfl)))) (mvT hZ (hw _ (List.mem_of_getElem? (i := 32) rfl))) (mvT hZ (hw _ (List.mem_of_getElem? (i := 31) rfl))) (by decide) (backOf (W := 0) (rm5 l Z a0 hw [] b9 w_SECOND h15 n0 O21 f18 p15_1) hZ (hw _ (List.mem_of_getElem? (i := 33) rfl)) (hw _ (List.mem_of_getElem? (i := 6) rfl)) (by decide) (by decide)) q36a q36c (g := (mkF m 87 #[iv pi0, iv pi1, iv x1, rv w_SECOND, jv (1 : Int64), .second, rv b9, jv x22, .second] [(.ref b9)])) rfl (by rw [hml]; rfl) (Steps.refl _) (argsL := []) (rest := []) (lenOf pd___Lcom_example_chronosieve_chronosieve_expression_Amount_Unit_ rfl) rfl (by show 2 * 0 + _ ≤ _; exact Nat.le_of_eq rfl) (hb hby at_87) (fun _ _ => ⟨rfl, e32q, (by decide : 1 + 0 ≤ _), (by decide : 2 + 0 ≤ _)⟩)
    dsimp only [Pt.U, Pt.locs, Pt.cells, Pt.slots] at X36 l36 y36 z36 st36 hQ36
    subst l36 y36 z36
    obtain ⟨hv36, N36q, e36q⟩ := hQ36
    have N37 := Fr.app N33 N36q
    have hw36 := hv36
    subst hw36
    have pre38 : ∀ t, Steps p.tables e below (T36.setTop (mkF m 90 #[iv pi0, iv pi1, iv x1, rv w_SECOND, jv (1 : Int64), .second, rv b9, jv x22, .second] [(.ref w_SECOND)])) t → Go t := fun t kt => pre35 t (st36.trans kt)
    have pre39 : ∀ t, Steps p.tables e below (T36.setTop (mkF m 99 #[iv pi0, iv pi1, iv x1, rv w_SECOND, jv (1 : Int64), .second, rv b9, jv x22, .second] [(.int (1 : Int32))])) t → Go t := fun t kt => pre38 t (by
        refine y_aloadN X36.here hx (hb hby at_90) rfl rfl (pc' := 91) rfl ?_
        refine Jvm.RoadKit.acmp (g := (mkF m 91 #[iv pi0, iv pi1, iv x1, rv w_SECOND, jv (1 : Int64), .second, rv b9, jv x22, .second] [(.ref w_SECOND), (.ref w_SECOND)])) X36 hx rfl rfl rfl (pc0 := 91) (pc' := 94) (same := true) rfl (hb hby at_91) rfl (decide_eq_true (congrArg Value.ref (rfl : w_SECOND = w_SECOND))) (by decide) (by decide) ?_
        show Steps p.tables e below (T36.setTop (mkF m 94 #[iv pi0, iv pi1, iv x1, rv w_SECOND, jv (1 : Int64), .second, rv b9, jv x22, .second] [])) _
        refine y_iconst X36.here hx (hb hby at_94) (v := (1 : Int32)) rfl (pc' := 95) rfl ?_
        refine y_goto X36.here hx (hb hby at_95) (pc' := 99) (by decide) rfl ?_
        exact kt)
    obtain ⟨fs, hr, hrun, hended, hW, hsame⟩ := X36.leave (v := some (.int (1 : Int32))) (fun h => by rw [Bd.returns] at h; cases h)
    refine ⟨_, _, (hGo _).mp (pre39 _ ?_), hrun, hended, _, _, rfl, ?_, ⟨_, rfl⟩, hW, hsame.mono (by decide) (by decide)⟩
    · exact retN X36 hx (t := .boolean) Bd.returns (by simp) (hb hby at_99) hr
    · show Q0 Z pi0 pi1 w_SECOND w_MINUTE w_HOUR h0 n0 _ T36.heap _
      rw [e36q]
      exact ⟨rfl, N37⟩
  · have pre40 : ∀ t, Steps p.tables e below (s₁.setTop (mkF m 23 #[iv pi0, iv pi1, iv x1, .unset, .unset, .unset, .unset, .unset, .unset] [(.int (1 : Int32)), (.int x1)])) t → Go t := fun t kt => pre3 t (by
        refine y_ifYes X0.here hx (hb hby at_8) ((if0 _ _).trans (feq hc8_4).2) (pc' := 21) (by decide) rfl ?_
        refine y_iloadN X0.here hx (hb hby at_21) rfl (pc' := 22) rfl ?_
        refine y_iconst X0.here hx (hb hby at_22) (v := (1 : Int32)) rfl (pc' := 23) rfl ?_
        exact kt)
    by_cases hc23_41 : x1 = (1 : Int32)
    · have pre42 : ∀ t, Steps p.tables e below (s₁.setTop (mkF m 26 #[iv pi0, iv pi1, iv x1, .unset, .unset, .unset, .unset, .unset, .unset] [])) t → Go t := fun t kt => pre40 t (by
          refine y_icmpNo X0.here hx (hb hby at_23) (teq hc23_41).2 (pc' := 26) rfl ?_
          exact kt)
      obtain ⟨T43, X43, e43, st43⟩ := getS2 X0 hx hZ hown (host := "") (Or.inl (hw _ (List.mem_of_getElem? (i := 34) rfl))) Via.refl e0 (S_MINUTE.ext O0.2) (g := (mkF m 26 #[iv pi0, iv pi1, iv x1, .unset, .unset, .unset, .unset, .unset, .unset] [])) rfl (hb hby at_26)
      have pre44 : ∀ t, Steps p.tables e below (T43.setTop (mkF m 29 #[iv pi0, iv pi1, iv x1, .unset, .unset, .unset, .unset, .unset, .unset] [(.ref w_MINUTE)])) t → Go t := fun t kt => pre42 t (st43 t kt)
      have pre45 : ∀ t, Steps p.tables e below (T43.setTop (mkF m 47 #[iv pi0, iv pi1, iv x1, rv w_MINUTE, jv (60 : Int64), .second, .unset, .unset, .unset] [])) t → Go t := fun t kt => pre44 t (by
          refine y_astoreN X43.here hx (hb hby at_29) rfl (l' := #[iv pi0, iv pi1, iv x1, rv w_MINUTE, .unset, .unset, .unset, .unset, .unset]) rfl (pc' := 30) rfl ?_
          refine X43.ldc2Long hx hown (mvT hZ (hw _ (List.mem_of_getElem? (i := 36) rfl))) (g := (mkF m 30 #[iv pi0, iv pi1, iv x1, rv w_MINUTE, .unset, .unset, .unset, .unset, .unset] [])) rfl (hb hby at_30) _ ?_
          show Steps p.tables e below (T43.setTop (mkF m 33 #[iv pi0, iv pi1, iv x1, rv w_MINUTE, .unset, .unset, .unset, .unset, .unset] [(.long (60 : Int64))])) _
          refine y_lstore X43.here hx (hb hby at_33) (l' := #[iv pi0, iv pi1, iv x1, rv w_MINUTE, jv (60 : Int64), .second, .unset, .unset, .unset]) rfl (pc' := 35) rfl ?_
          refine y_goto X43.here hx (hb hby at_35) (pc' := 47) (by decide) rfl ?_
          exact kt)
      obtain ⟨T46, h46, X46, e46, E46, A46, D46, -, st46⟩ := newO X43 hx hZ hown (hw _ (List.mem_of_getElem? (i := 4) rfl)) (hw _ (List.mem_of_getElem? (i := 5) rfl)) (hw _ (List.mem_of_getElem? (i := 6) rfl)) e43 (g := (mkF m 47 #[iv pi0, iv pi1, iv x1, rv w_MINUTE, jv (60 : Int64), .second, .unset, .unset, .unset] [])) rfl (hb hby at_47) (by decide) (by decide)
      obtain ⟨b46, g46⟩ : ∃ z, z = h0.size := ⟨_, rfl⟩
      rw [← g46] at A46 D46 st46
      have pre47 : ∀ t, Steps p.tables e below (T46.setTop (mkF m 50 #[iv pi0, iv pi1, iv x1, rv w_MINUTE, jv (60 : Int64), .second, .unset, .unset, .unset] [(.ref b46)])) t → Go t := fun t kt => pre45 t (st46 t kt)
      have G48 : n0 ≤ b46 := Nat.le_trans (O0.1 ▸ O0.2.1) (Nat.le_of_eq g46.symm)
      have O48 := O0.ext E46
      have f49 : Fld Z h46 b46 "com/example/chronosieve/chronosieve/expression/Amount" "number" "I" (.int (0 : Int32)) := D46 (Or.inr (hw _ (List.mem_of_getElem? (i := 14) rfl))) (ty := .int) (by decide)
      have f50 : Fld Z h46 b46 "com/example/chronosieve/chronosieve/expression/Amount" "unit" "Lcom/example/chronosieve/chronosieve/expression/Amount$Unit;" .null := D46 (Or.inr (hw _ (List.mem_of_getElem? (i := 16) rfl))) (ty := (.object "com/example/chronosieve/chronosieve/expression/Amount$Unit")) (by decide)
      have pre51 : ∀ t, Steps p.tables e below (T46.setTop (mkF m 53 #[iv pi0, iv pi1, iv x1, rv w_MINUTE, jv (60 : Int64), .second, .unset, .unset, .unset] [(.ref w_MINUTE), (.int pi0), (.ref b46), (.ref b46)])) t → Go t := fun t kt => pre47 t (by
          refine y_dup X46.here hx (hb hby at_50) rfl (pc' := 51) rfl ?_
          refine y_iloadN X46.here hx (hb hby at_51) rfl (pc' := 52) rfl ?_
          refine y_aloadN X46.here hx (hb hby at_52) rfl rfl (pc' := 53) rfl ?_
          exact kt)
      obtain ⟨v52, _, ⟨T52, L52, k52, n52⟩, -, X52, ⟨Lc52, hQ52, l52, y52, z52⟩, st52⟩ := X46.specialBack hx (y := (⟨"com/example/chronosieve/chronosieve/expression/Amount", "<init>", "(ILcom/example/chronosieve/chronosieve/expression/Amount$Unit;)V"⟩ : MethodName)) rfl hown (mvT hZ (hw _ (List.mem_of_getElem? (i := 7) rfl))) (mvT hZ (hw _ (List.mem_of_getElem? (i := 8) rfl))) (mvT hZ (hw _ (List.mem_of_getElem? (i := 9) rfl))) (by decide) (backOf (W := 1) (rm1 l Z a0 hw [] b46 pi0 w_MINUTE h46 n0 O48 A46 f49 f50 G48) hZ (hw _ (List.mem_of_getElem? (i := 9) rfl)) (hw _ (List.mem_of_getElem? (i := 6) rfl)) (by decide) (by decide)) (g := (mkF m 53 #[iv pi0, iv pi1, iv x1, rv w_MINUTE, jv (60 : Int64), .second, .unset, .unset, .unset] [(.ref w_MINUTE), (.int pi0), (.ref b46), (.ref b46)])) rfl (by rw [hml]; rfl) (Steps.refl _) (a := b46) (argsL := [(.int pi0), (.ref w_MINUTE)]) (rest := [(.ref b46)]) (lenOf pd__ILcom_example_chronosieve_chronosieve_expression_Amount_Unit__V rfl) rfl (by show 2 * 0 + _ ≤ _; exact Nat.le_of_eq rfl) (hb hby at_53) (fun _ _ => ⟨rfl, e46, (by decide : 1 + 0 ≤ _), (by decide : 2 + 0 ≤ _)⟩)
      dsimp only [Pt.U, Pt.locs, Pt.cells, Pt.slots] at X52 l52 y52 z52 st52 hQ52
      subst l52 y52 z52
      obtain ⟨hv52, N52q, K52q, p52_0, p52_1⟩ := hQ52
      have N53 := Fr.app N0 N52q
      subst hv52
      have pre54 : ∀ t, Steps p.tables e below (T52.setTop (mkF m 56 #[iv pi0, iv pi1, iv x1, rv w_MINUTE, jv (60 : Int64), .second, .unset, .unset, .unset] [(.ref b46)])) t → Go t := fun t kt => pre51 t (st52.trans kt)
      obtain ⟨h52, eh52⟩ : ∃ z, T52.heap = z := ⟨_, rfl⟩
      rw [eh52] at K52q p52_0 p52_1
      have f55 : Exa Z h52 b46 "com/example/chronosieve/chronosieve/expression/Amount" := (A46.keep K52q)
      have O58 := O48.keep K52q (allS G48 all0)
      obtain ⟨x59, hx59⟩ : ∃ z : Int64, z = ((pi0.toInt64) * (60 : Int64)) := ⟨_, rfl⟩
      have pre60 : ∀ t, Steps p.tables e below (T52.setTop (mkF m 65 #[iv pi0, iv pi1, iv x1, rv w_MINUTE, jv (60 : Int64), .second, rv b46, jv x59, .second] [])) t → Go t := fun t kt => pre54 t (by
          subst hx59
          refine y_astore X52.here hx (hb hby at_56) rfl (l' := #[iv pi0, iv pi1, iv x1, rv w_MINUTE, jv (60 : Int64), .second, rv b46, .unset, .unset]) rfl (pc' := 58) rfl ?_
          refine y_iloadN X52.here hx (hb hby at_58) rfl (pc' := 59) rfl ?_
          refine y_i2l X52.here hx (hb hby at_59) (z := (pi0.toInt64)) rfl (pc' := 60) rfl ?_
          refine y_lload X52.here hx (hb hby at_60) rfl (pc' := 62) rfl ?_
          refine y_lmul X52.here hx (hb hby at_62) rfl (pc' := 63) rfl ?_
          refine y_lstore X52.here hx (hb hby at_63) (l' := #[iv pi0, iv pi1, iv x1, rv w_MINUTE, jv (60 : Int64), .second, rv b46, jv ((pi0.toInt64) * (60 : Int64)), .second]) rfl (pc' := 65) rfl ?_
          exact kt)
      have pre61 : ∀ t, Steps p.tables e below (T52.setTop (mkF m 67 #[iv pi0, iv pi1, iv x1, rv w_MINUTE, jv (60 : Int64), .second, rv b46, jv x59, .second] [(.ref b46)])) t → Go t := fun t kt => pre60 t (by
          refine y_aload X52.here hx (hb hby at_65) rfl rfl (pc' := 67) rfl ?_
          exact kt)
      obtain ⟨cq62, kq62, q62a, q62b, q62c⟩ := isOf hZ eh52 f55
      obtain ⟨v62, _, ⟨T62, L62, k62, n62⟩, -, X62, ⟨Lc62, hQ62, l62, y62, z62⟩, st62⟩ := X52.virtualBack hx (y := (⟨"com/example/chronosieve/chronosieve/expression/Amount", "seconds", "()J"⟩ : MethodName)) (z := (⟨"com/example/chronosieve/chronosieve/expression/Amount", "seconds", "()J"⟩ : MethodName)) hown (mvT hZ (hw _ (List.mem_of_getElem? (i := 17) rfl))) (mvT hZ (hw _ (List.mem_of_getElem? (i := 18) rfl))) (notFace_of_selects (args := #[]) (mvT hZ (hw _ (List.mem_of_getElem? (i := 20) rfl)))) (mvT hZ (hw _ (List.mem_of_getElem? (i := 20) rfl))) (mvT hZ (hw _ (List.mem_of_getElem? (i := 19) rfl))) (by decide) (backOf (W := 0) (rm3 l Z a0 hw [] b46 pi0 w_MINUTE (60 : Int32) h52 n0 O58 f55 p52_0 p52_1 (E_w_MINUTE.ext O58.2) (F_seconds_w_MINUTE.ext O58.2)) hZ (hw _ (List.mem_of_getElem? (i := 21) rfl)) (hw _ (List.mem_of_getElem? (i := 6) rfl)) (by decide) (by decide)) q62a q62c (g := (mkF m 67 #[iv pi0, iv pi1, iv x1, rv w_MINUTE, jv (60 : Int64), .second, rv b46, jv x59, .second] [(.ref b46)])) rfl (by rw [hml]; rfl) (Steps.refl _) (argsL := []) (rest := []) (lenOf pd___J rfl) rfl (by show 2 * 0 + _ ≤ _; exact Nat.le_of_eq rfl) (hb hby at_67) (fun _ _ => ⟨rfl, eh52, (by decide : 1 + 0 ≤ _), (by decide : 2 + 0 ≤ _)⟩)
      dsimp only [Pt.U, Pt.locs, Pt.cells, Pt.slots] at X62 l62 y62 z62 st62 hQ62
      subst l62 y62 z62
      obtain ⟨hv62, N62q, e62q⟩ := hQ62
      have N63 := Fr.app N53 N62q
      have hw62 := hv62
      obtain ⟨x64, hx64⟩ : ∃ z : Int64, z = ((pi0.toInt64) * ((60 : Int32).toInt64)) := ⟨_, rfl⟩
      rw [← hx64] at hw62
      subst hw62
      have pre65 : ∀ t, Steps p.tables e below (T62.setTop (mkF m 70 #[iv pi0, iv pi1, iv x1, rv w_MINUTE, jv (60 : Int64), .second, rv b46, jv x59, .second] [(.long x64)])) t → Go t := fun t kt => pre61 t (st62.trans kt)
      have pre67 : ∀ t, Steps p.tables e below (T62.setTop (mkF m 73 #[iv pi0, iv pi1, iv x1, rv w_MINUTE, jv (60 : Int64), .second, rv b46, jv x59, .second] [(.int (lcmpW x64 x59))])) t → Go t := fun t kt => pre65 t (by
          refine y_lload X62.here hx (hb hby at_70) rfl (pc' := 72) rfl ?_
          refine y_lcmp X62.here hx (hb hby at_72) (pc' := 73) rfl ?_
          exact kt)
      have hf73_66 : x64 = x59 := by
          rw [hx64, hx59]; rfl
      have pre68 : ∀ t, Steps p.tables e below (T62.setTop (mkF m 78 #[iv pi0, iv pi1, iv x1, rv w_MINUTE, jv (60 : Int64), .second, rv b46, jv x59, .second] [(.ref b46)])) t → Go t := fun t kt => pre67 t (by
          refine y_ifNo X62.here hx (hb hby at_73) ((if0 _ _).trans (teq (lq_eq hf73_66)).2) (pc' := 76) rfl ?_
          refine y_aload X62.here hx (hb hby at_76) rfl rfl (pc' := 78) rfl ?_
          exact kt)
      obtain ⟨cq69, kq69, q69a, q69b, q69c⟩ := isOf hZ e62q f55
      obtain ⟨v69, _, ⟨T69, L69, k69, n69⟩, -, X69, ⟨Lc69, hQ69, l69, y69, z69⟩, st69⟩ := X62.virtualBack hx (y := (⟨"com/example/chronosieve/chronosieve/expression/Amount", "number", "()I"⟩ : MethodName)) (z := (⟨"com/example/chronosieve/chronosieve/expression/Amount", "number", "()I"⟩ : MethodName)) hown (mvT hZ (hw _ (List.mem_of_getElem? (i := 24) rfl))) (mvT hZ (hw _ (List.mem_of_getElem? (i := 25) rfl))) (notFace_of_selects (args := #[]) (mvT hZ (hw _ (List.mem_of_getElem? (i := 27) rfl)))) (mvT hZ (hw _ (List.mem_of_getElem? (i := 27) rfl))) (mvT hZ (hw _ (List.mem_of_getElem? (i := 26) rfl))) (by decide) (backOf (W := 0) (rm4 l Z a0 hw [] b46 pi0 h52 n0 O58 f55 p52_0) hZ (hw _ (List.mem_of_getElem? (i := 28) rfl)) (hw _ (List.mem_of_getElem? (i := 6) rfl)) (by decide) (by decide)) q69a q69c (g := (mkF m 78 #[iv pi0, iv pi1, iv x1, rv w_MINUTE, jv (60 : Int64), .second, rv b46, jv x59, .second] [(.ref b46)])) rfl (by rw [hml]; rfl) (Steps.refl _) (argsL := []) (rest := []) (lenOf pd___I rfl) rfl (by show 2 * 0 + _ ≤ _; exact Nat.le_of_eq rfl) (hb hby at_78) (fun _ _ => ⟨rfl, e62q, (by decide : 1 + 0 ≤ _), (by decide : 2 + 0 ≤ _)⟩)
      dsimp only [Pt.U, Pt.locs, Pt.cells, Pt.slots] at X69 l69 y69 z69 st69 hQ69
      subst l69 y69 z69
      obtain ⟨hv69, N69q, e69q⟩ := hQ69
      have N70 := Fr.app N63 N69q
      have hw69 := hv69
      subst hw69
      have pre71 : ∀ t, Steps p.tables e below (T69.setTop (mkF m 81 #[iv pi0, iv pi1, iv x1, rv w_MINUTE, jv (60 : Int64), .second, rv b46, jv x59, .second] [(.int pi0)])) t → Go t := fun t kt => pre68 t (st69.trans kt)
      have pre72 : ∀ t, Steps p.tables e below (T69.setTop (mkF m 87 #[iv pi0, iv pi1, iv x1, rv w_MINUTE, jv (60 : Int64), .second, rv b46, jv x59, .second] [(.ref b46)])) t → Go t := fun t kt => pre71 t (by
          refine y_iloadN X69.here hx (hb hby at_81) rfl (pc' := 82) rfl ?_
          refine y_icmpNo X69.here hx (hb hby at_82) (teq (rfl : pi0 = pi0)).2 (pc' := 85) rfl ?_
          refine y_aload X69.here hx (hb hby at_85) rfl rfl (pc' := 87) rfl ?_
          exact kt)
      obtain ⟨cq73, kq73, q73a, q73b, q73c⟩ := isOf hZ e69q f55
      obtain ⟨v73, _, ⟨T73, L73, k73, n73⟩, -, X73, ⟨Lc73, hQ73, l73, y73, z73⟩, st73⟩ := X69.virtualBack hx (y := (⟨"com/example/chronosieve/chronosieve/expression/Amount", "unit", "()Lcom/example/chronosieve/chronosieve/expression/Amount$Unit;"⟩ : MethodName)) (z := (⟨"com/example/chronosieve/chronosieve/expression/Amount", "unit", "()Lcom/example/chronosieve/chronosieve/expression/Amount$Unit;"⟩ : MethodName)) hown (mvT hZ (hw _ (List.mem_of_getElem? (i := 29) rfl))) (mvT hZ (hw _ (List.mem_of_getElem? (i := 30) rfl))) (notFace_of_selects (args := #[]) (mvT hZ (hw _ (List.mem_of_getElem? (i := 32) rfl)))) (mvT hZ (hw _ (List.mem_of_getElem? (i := 32) rfl))) (mvT hZ (hw _ (List.mem_of_getElem? (i := 31) rfl))) (by decide) (backOf (W := 0) (rm5 l Z a0 hw [] b46 w_MINUTE h52 n0 O58 f55 p52_1) hZ (hw _ (List.mem_of_getElem? (i := 33) rfl)) (hw _ (List.mem_of_getElem? (i := 6) rfl)) (by decide) (by decide)) q73a q73c (g := (mkF m 87 #[iv pi0, iv pi1, iv x1, rv w_MINUTE, jv (60 : Int64), .second, rv b46, jv x59, .second] [(.ref b46)])) rfl (by rw [hml]; rfl) (Steps.refl _) (argsL := []) (rest := []) (lenOf pd___Lcom_example_chronosieve_chronosieve_expression_Amount_Unit_ rfl) rfl (by show 2 * 0 + _ ≤ _; exact Nat.le_of_eq rfl) (hb hby at_87) (fun _ _ => ⟨rfl, e69q, (by decide : 1 + 0 ≤ _), (by decide : 2 + 0 ≤ _)⟩)
      dsimp only [Pt.U, Pt.locs, Pt.cells, Pt.slots] at X73 l73 y73 z73 st73 hQ73
      subst l73 y73 z73
      obtain ⟨hv73, N73q, e73q⟩ := hQ73
      have N74 := Fr.app N70 N73q
      have hw73 := hv73
      subst hw73
      have pre75 : ∀ t, Steps p.tables e below (T73.setTop (mkF m 90 #[iv pi0, iv pi1, iv x1, rv w_MINUTE, jv (60 : Int64), .second, rv b46, jv x59, .second] [(.ref w_MINUTE)])) t → Go t := fun t kt => pre72 t (st73.trans kt)
      have pre76 : ∀ t, Steps p.tables e below (T73.setTop (mkF m 99 #[iv pi0, iv pi1, iv x1, rv w_MINUTE, jv (60 : Int64), .second, rv b46, jv x59, .second] [(.int (1 : Int32))])) t → Go t := fun t kt => pre75 t (by
          refine y_aloadN X73.here hx (hb hby at_90) rfl rfl (pc' := 91) rfl ?_
          refine Jvm.RoadKit.acmp (g := (mkF m 91 #[iv pi0, iv pi1, iv x1, rv w_MINUTE, jv (60 : Int64), .second, rv b46, jv x59, .second] [(.ref w_MINUTE), (.ref w_MINUTE)])) X73 hx rfl rfl rfl (pc0 := 91) (pc' := 94) (same := true) rfl (hb hby at_91) rfl (decide_eq_true (congrArg Value.ref (rfl : w_MINUTE = w_MINUTE))) (by decide) (by decide) ?_
          show Steps p.tables e below (T73.setTop (mkF m 94 #[iv pi0, iv pi1, iv x1, rv w_MINUTE, jv (60 : Int64), .second, rv b46, jv x59, .second] [])) _
          refine y_iconst X73.here hx (hb hby at_94) (v := (1 : Int32)) rfl (pc' := 95) rfl ?_
          refine y_goto X73.here hx (hb hby at_95) (pc' := 99) (by decide) rfl ?_
          exact kt)
      obtain ⟨fs, hr, hrun, hended, hW, hsame⟩ := X73.leave (v := some (.int (1 : Int32))) (fun h => by rw [Bd.returns] at h; cases h)
      refine ⟨_, _, (hGo _).mp (pre76 _ ?_), hrun, hended, _, _, rfl, ?_, ⟨_, rfl⟩, hW, hsame.mono (by decide) (by decide)⟩
      · exact retN X73 hx (t := .boolean) Bd.returns (by simp) (hb hby at_99) hr
      · show Q0 Z pi0 pi1 w_SECOND w_MINUTE w_HOUR h0 n0 _ T73.heap _
        rw [e73q]
        exact ⟨rfl, N74⟩
    · have pre77 : ∀ t, Steps p.tables e below (s₁.setTop (mkF m 38 #[iv pi0, iv pi1, iv x1, .unset, .unset, .unset, .unset, .unset, .unset] [])) t → Go t := fun t kt => pre40 t (by
          refine y_icmpYes X0.here hx (hb hby at_23) (feq hc23_41).2 (pc' := 38) (by decide) rfl ?_
          exact kt)
      obtain ⟨T78, X78, e78, st78⟩ := getS2 X0 hx hZ hown (host := "") (Or.inl (hw _ (List.mem_of_getElem? (i := 37) rfl))) Via.refl e0 (S_HOUR.ext O0.2) (g := (mkF m 38 #[iv pi0, iv pi1, iv x1, .unset, .unset, .unset, .unset, .unset, .unset] [])) rfl (hb hby at_38)
      have pre79 : ∀ t, Steps p.tables e below (T78.setTop (mkF m 41 #[iv pi0, iv pi1, iv x1, .unset, .unset, .unset, .unset, .unset, .unset] [(.ref w_HOUR)])) t → Go t := fun t kt => pre77 t (st78 t kt)
      have pre80 : ∀ t, Steps p.tables e below (T78.setTop (mkF m 47 #[iv pi0, iv pi1, iv x1, rv w_HOUR, jv (3600 : Int64), .second, .unset, .unset, .unset] [])) t → Go t := fun t kt => pre79 t (by
          refine y_astoreN X78.here hx (hb hby at_41) rfl (l' := #[iv pi0, iv pi1, iv x1, rv w_HOUR, .unset, .unset, .unset, .unset, .unset]) rfl (pc' := 42) rfl ?_
          refine X78.ldc2Long hx hown (mvT hZ (hw _ (List.mem_of_getElem? (i := 39) rfl))) (g := (mkF m 42 #[iv pi0, iv pi1, iv x1, rv w_HOUR, .unset, .unset, .unset, .unset, .unset] [])) rfl (hb hby at_42) _ ?_
          show Steps p.tables e below (T78.setTop (mkF m 45 #[iv pi0, iv pi1, iv x1, rv w_HOUR, .unset, .unset, .unset, .unset, .unset] [(.long (3600 : Int64))])) _
          refine y_lstore X78.here hx (hb hby at_45) (l' := #[iv pi0, iv pi1, iv x1, rv w_HOUR, jv (3600 : Int64), .second, .unset, .unset, .unset]) rfl (pc' := 47) rfl ?_
          exact kt)
      obtain ⟨T81, h81, X81, e81, E81, A81, D81, -, st81⟩ := newO X78 hx hZ hown (hw _ (List.mem_of_getElem? (i := 4) rfl)) (hw _ (List.mem_of_getElem? (i := 5) rfl)) (hw _ (List.mem_of_getElem? (i := 6) rfl)) e78 (g := (mkF m 47 #[iv pi0, iv pi1, iv x1, rv w_HOUR, jv (3600 : Int64), .second, .unset, .unset, .unset] [])) rfl (hb hby at_47) (by decide) (by decide)
      obtain ⟨b81, g81⟩ : ∃ z, z = h0.size := ⟨_, rfl⟩
      rw [← g81] at A81 D81 st81
      have pre82 : ∀ t, Steps p.tables e below (T81.setTop (mkF m 50 #[iv pi0, iv pi1, iv x1, rv w_HOUR, jv (3600 : Int64), .second, .unset, .unset, .unset] [(.ref b81)])) t → Go t := fun t kt => pre80 t (st81 t kt)
      have G83 : n0 ≤ b81 := Nat.le_trans (O0.1 ▸ O0.2.1) (Nat.le_of_eq g81.symm)
      have O83 := O0.ext E81
      have f84 : Fld Z h81 b81 "com/example/chronosieve/chronosieve/expression/Amount" "number" "I" (.int (0 : Int32)) := D81 (Or.inr (hw _ (List.mem_of_getElem? (i := 14) rfl))) (ty := .int) (by decide)
      have f85 : Fld Z h81 b81 "com/example/chronosieve/chronosieve/expression/Amount" "unit" "Lcom/example/chronosieve/chronosieve/expression/Amount$Unit;" .null := D81 (Or.inr (hw _ (List.mem_of_getElem? (i := 16) rfl))) (ty := (.object "com/example/chronosieve/chronosieve/expression/Amount$Unit")) (by decide)
      have pre86 : ∀ t, Steps p.tables e below (T81.setTop (mkF m 53 #[iv pi0, iv pi1, iv x1, rv w_HOUR, jv (3600 : Int64), .second, .unset, .unset, .unset] [(.ref w_HOUR), (.int pi0), (.ref b81), (.ref b81)])) t → Go t := fun t kt => pre82 t (by
          refine y_dup X81.here hx (hb hby at_50) rfl (pc' := 51) rfl ?_
          refine y_iloadN X81.here hx (hb hby at_51) rfl (pc' := 52) rfl ?_
          refine y_aloadN X81.here hx (hb hby at_52) rfl rfl (pc' := 53) rfl ?_
          exact kt)
      obtain ⟨v87, _, ⟨T87, L87, k87, n87⟩, -, X87, ⟨Lc87, hQ87, l87, y87, z87⟩, st87⟩ := X81.specialBack hx (y := (⟨"com/example/chronosieve/chronosieve/expression/Amount", "<init>", "(ILcom/example/chronosieve/chronosieve/expression/Amount$Unit;)V"⟩ : MethodName)) rfl hown (mvT hZ (hw _ (List.mem_of_getElem? (i := 7) rfl))) (mvT hZ (hw _ (List.mem_of_getElem? (i := 8) rfl))) (mvT hZ (hw _ (List.mem_of_getElem? (i := 9) rfl))) (by decide) (backOf (W := 1) (rm1 l Z a0 hw [] b81 pi0 w_HOUR h81 n0 O83 A81 f84 f85 G83) hZ (hw _ (List.mem_of_getElem? (i := 9) rfl)) (hw _ (List.mem_of_getElem? (i := 6) rfl)) (by decide) (by decide)) (g := (mkF m 53 #[iv pi0, iv pi1, iv x1, rv w_HOUR, jv (3600 : Int64), .second, .unset, .unset, .unset] [(.ref w_HOUR), (.int pi0), (.ref b81), (.ref b81)])) rfl (by rw [hml]; rfl) (Steps.refl _) (a := b81) (argsL := [(.int pi0), (.ref w_HOUR)]) (rest := [(.ref b81)]) (lenOf pd__ILcom_example_chronosieve_chronosieve_expression_Amount_Unit__V rfl) rfl (by show 2 * 0 + _ ≤ _; exact Nat.le_of_eq rfl) (hb hby at_53) (fun _ _ => ⟨rfl, e81, (by decide : 1 + 0 ≤ _), (by decide : 2 + 0 ≤ _)⟩)
      dsimp only [Pt.U, Pt.locs, Pt.cells, Pt.slots] at X87 l87 y87 z87 st87 hQ87
      subst l87 y87 z87
      obtain ⟨hv87, N87q, K87q, p87_0, p87_1⟩ := hQ87
      have N88 := Fr.app N0 N87q
      subst hv87
      have pre89 : ∀ t, Steps p.tables e below (T87.setTop (mkF m 56 #[iv pi0, iv pi1, iv x1, rv w_HOUR, jv (3600 : Int64), .second, .unset, .unset, .unset] [(.ref b81)])) t → Go t := fun t kt => pre86 t (st87.trans kt)
      obtain ⟨h87, eh87⟩ : ∃ z, T87.heap = z := ⟨_, rfl⟩
      rw [eh87] at K87q p87_0 p87_1
      have f90 : Exa Z h87 b81 "com/example/chronosieve/chronosieve/expression/Amount" := (A81.keep K87q)
      have O93 := O83.keep K87q (allS G83 all0)
      obtain ⟨x94, hx94⟩ : ∃ z : Int64, z = ((pi0.toInt64) * (3600 : Int64)) := ⟨_, rfl⟩
      have pre95 : ∀ t, Steps p.tables e below (T87.setTop (mkF m 65 #[iv pi0, iv pi1, iv x1, rv w_HOUR, jv (3600 : Int64), .second, rv b81, jv x94, .second] [])) t → Go t := fun t kt => pre89 t (by
          subst hx94
          refine y_astore X87.here hx (hb hby at_56) rfl (l' := #[iv pi0, iv pi1, iv x1, rv w_HOUR, jv (3600 : Int64), .second, rv b81, .unset, .unset]) rfl (pc' := 58) rfl ?_
          refine y_iloadN X87.here hx (hb hby at_58) rfl (pc' := 59) rfl ?_
          refine y_i2l X87.here hx (hb hby at_59) (z := (pi0.toInt64)) rfl (pc' := 60) rfl ?_
          refine y_lload X87.here hx (hb hby at_60) rfl (pc' := 62) rfl ?_
          refine y_lmul X87.here hx (hb hby at_62) rfl (pc' := 63) rfl ?_
          refine y_lstore X87.here hx (hb hby at_63) (l' := #[iv pi0, iv pi1, iv x1, rv w_HOUR, jv (3600 : Int64), .second, rv b81, jv ((pi0.toInt64) * (3600 : Int64)), .second]) rfl (pc' := 65) rfl ?_
          exact kt)
      have pre96 : ∀ t, Steps p.tables e below (T87.setTop (mkF m 67 #[iv pi0, iv pi1, iv x1, rv w_HOUR, jv (3600 : Int64), .second, rv b81, jv x94, .second] [(.ref b81)])) t → Go t := fun t kt => pre95 t (by
          refine y_aload X87.here hx (hb hby at_65) rfl rfl (pc' := 67) rfl ?_
          exact kt)
      obtain ⟨cq97, kq97, q97a, q97b, q97c⟩ := isOf hZ eh87 f90
      obtain ⟨v97, _, ⟨T97, L97, k97, n97⟩, -, X97, ⟨Lc97, hQ97, l97, y97, z97⟩, st97⟩ := X87.virtualBack hx (y := (⟨"com/example/chronosieve/chronosieve/expression/Amount", "seconds", "()J"⟩ : MethodName)) (z := (⟨"com/example/chronosieve/chronosieve/expression/Amount", "seconds", "()J"⟩ : MethodName)) hown (mvT hZ (hw _ (List.mem_of_getElem? (i := 17) rfl))) (mvT hZ (hw _ (List.mem_of_getElem? (i := 18) rfl))) (notFace_of_selects (args := #[]) (mvT hZ (hw _ (List.mem_of_getElem? (i := 20) rfl)))) (mvT hZ (hw _ (List.mem_of_getElem? (i := 20) rfl))) (mvT hZ (hw _ (List.mem_of_getElem? (i := 19) rfl))) (by decide) (backOf (W := 0) (rm3 l Z a0 hw [] b81 pi0 w_HOUR (3600 : Int32) h87 n0 O93 f90 p87_0 p87_1 (E_w_HOUR.ext O93.2) (F_seconds_w_HOUR.ext O93.2)) hZ (hw _ (List.mem_of_getElem? (i := 21) rfl)) (hw _ (List.mem_of_getElem? (i := 6) rfl)) (by decide) (by decide)) q97a q97c (g := (mkF m 67 #[iv pi0, iv pi1, iv x1, rv w_HOUR, jv (3600 : Int64), .second, rv b81, jv x94, .second] [(.ref b81)])) rfl (by rw [hml]; rfl) (Steps.refl _) (argsL := []) (rest := []) (lenOf pd___J rfl) rfl (by show 2 * 0 + _ ≤ _; exact Nat.le_of_eq rfl) (hb hby at_67) (fun _ _ => ⟨rfl, eh87, (by decide : 1 + 0 ≤ _), (by decide : 2 + 0 ≤ _)⟩)
      dsimp only [Pt.U, Pt.locs, Pt.cells, Pt.slots] at X97 l97 y97 z97 st97 hQ97
      subst l97 y97 z97
      obtain ⟨hv97, N97q, e97q⟩ := hQ97
      have N98 := Fr.app N88 N97q
      have hw97 := hv97
      obtain ⟨x99, hx99⟩ : ∃ z : Int64, z = ((pi0.toInt64) * ((3600 : Int32).toInt64)) := ⟨_, rfl⟩
      rw [← hx99] at hw97
      subst hw97
      have pre100 : ∀ t, Steps p.tables e below (T97.setTop (mkF m 70 #[iv pi0, iv pi1, iv x1, rv w_HOUR, jv (3600 : Int64), .second, rv b81, jv x94, .second] [(.long x99)])) t → Go t := fun t kt => pre96 t (st97.trans kt)
      have pre102 : ∀ t, Steps p.tables e below (T97.setTop (mkF m 73 #[iv pi0, iv pi1, iv x1, rv w_HOUR, jv (3600 : Int64), .second, rv b81, jv x94, .second] [(.int (lcmpW x99 x94))])) t → Go t := fun t kt => pre100 t (by
          refine y_lload X97.here hx (hb hby at_70) rfl (pc' := 72) rfl ?_
          refine y_lcmp X97.here hx (hb hby at_72) (pc' := 73) rfl ?_
          exact kt)
      have hf73_101 : x99 = x94 := by
          rw [hx99, hx94]; rfl
      have pre103 : ∀ t, Steps p.tables e below (T97.setTop (mkF m 78 #[iv pi0, iv pi1, iv x1, rv w_HOUR, jv (3600 : Int64), .second, rv b81, jv x94, .second] [(.ref b81)])) t → Go t := fun t kt => pre102 t (by
          refine y_ifNo X97.here hx (hb hby at_73) ((if0 _ _).trans (teq (lq_eq hf73_101)).2) (pc' := 76) rfl ?_
          refine y_aload X97.here hx (hb hby at_76) rfl rfl (pc' := 78) rfl ?_
          exact kt)
      obtain ⟨cq104, kq104, q104a, q104b, q104c⟩ := isOf hZ e97q f90
      obtain ⟨v104, _, ⟨T104, L104, k104, n104⟩, -, X104, ⟨Lc104, hQ104, l104, y104, z104⟩, st104⟩ := X97.virtualBack hx (y := (⟨"com/example/chronosieve/chronosieve/expression/Amount", "number", "()I"⟩ : MethodName)) (z := (⟨"com/example/chronosieve/chronosieve/expression/Amount", "number", "()I"⟩ : MethodName)) hown (mvT hZ (hw _ (List.mem_of_getElem? (i := 24) rfl))) (mvT hZ (hw _ (List.mem_of_getElem? (i := 25) rfl))) (notFace_of_selects (args := #[]) (mvT hZ (hw _ (List.mem_of_getElem? (i := 27) rfl)))) (mvT hZ (hw _ (List.mem_of_getElem? (i := 27) rfl))) (mvT hZ (hw _ (List.mem_of_getElem? (i := 26) rfl))) (by decide) (backOf (W := 0) (rm4 l Z a0 hw [] b81 pi0 h87 n0 O93 f90 p87_0) hZ (hw _ (List.mem_of_getElem? (i := 28) rfl)) (hw _ (List.mem_of_getElem? (i := 6) rfl)) (by decide) (by decide)) q104a q104c (g := (mkF m 78 #[iv pi0, iv pi1, iv x1, rv w_HOUR, jv (3600 : Int64), .second, rv b81, jv x94, .second] [(.ref b81)])) rfl (by rw [hml]; rfl) (Steps.refl _) (argsL := []) (rest := []) (lenOf pd___I rfl) rfl (by show 2 * 0 + _ ≤ _; exact Nat.le_of_eq rfl) (hb hby at_78) (fun _ _ => ⟨rfl, e97q, (by decide : 1 + 0 ≤ _), (by decide : 2 + 0 ≤ _)⟩)
      dsimp only [Pt.U, Pt.locs, Pt.cells, Pt.slots] at X104 l104 y104 z104 st104 hQ104
      subst l104 y104 z104
      obtain ⟨hv104, N104q, e104q⟩ := hQ104
      have N105 := Fr.app N98 N104q
      have hw104 := hv104
      subst hw104
      have pre106 : ∀ t, Steps p.tables e below (T104.setTop (mkF m 81 #[iv pi0, iv pi1, iv x1, rv w_HOUR, jv (3600 : Int64), .second, rv b81, jv x94, .second] [(.int pi0)])) t → Go t := fun t kt => pre103 t (st104.trans kt)
      have pre107 : ∀ t, Steps p.tables e below (T104.setTop (mkF m 87 #[iv pi0, iv pi1, iv x1, rv w_HOUR, jv (3600 : Int64), .second, rv b81, jv x94, .second] [(.ref b81)])) t → Go t := fun t kt => pre106 t (by
          refine y_iloadN X104.here hx (hb hby at_81) rfl (pc' := 82) rfl ?_
          refine y_icmpNo X104.here hx (hb hby at_82) (teq (rfl : pi0 = pi0)).2 (pc' := 85) rfl ?_
          refine y_aload X104.here hx (hb hby at_85) rfl rfl (pc' := 87) rfl ?_
          exact kt)
      obtain ⟨cq108, kq108, q108a, q108b, q108c⟩ := isOf hZ e104q f90
      obtain ⟨v108, _, ⟨T108, L108, k108, n108⟩, -, X108, ⟨Lc108, hQ108, l108, y108, z108⟩, st108⟩ := X104.virtualBack hx (y := (⟨"com/example/chronosieve/chronosieve/expression/Amount", "unit", "()Lcom/example/chronosieve/chronosieve/expression/Amount$Unit;"⟩ : MethodName)) (z := (⟨"com/example/chronosieve/chronosieve/expression/Amount", "unit", "()Lcom/example/chronosieve/chronosieve/expression/Amount$Unit;"⟩ : MethodName)) hown (mvT hZ (hw _ (List.mem_of_getElem? (i := 29) rfl))) (mvT hZ (hw _ (List.mem_of_getElem? (i := 30) rfl))) (notFace_of_selects (args := #[]) (mvT hZ (hw _ (List.mem_of_getElem? (i := 32) rfl)))) (mvT hZ (hw _ (List.mem_of_getElem? (i := 32) rfl))) (mvT hZ (hw _ (List.mem_of_getElem? (i := 31) rfl))) (by decide) (backOf (W := 0) (rm5 l Z a0 hw [] b81 w_HOUR h87 n0 O93 f90 p87_1) hZ (hw _ (List.mem_of_getElem? (i := 33) rfl)) (hw _ (List.mem_of_getElem? (i := 6) rfl)) (by decide) (by decide)) q108a q108c (g := (mkF m 87 #[iv pi0, iv pi1, iv x1, rv w_HOUR, jv (3600 : Int64), .second, rv b81, jv x94, .second] [(.ref b81)])) rfl (by rw [hml]; rfl) (Steps.refl _) (argsL := []) (rest := []) (lenOf pd___Lcom_example_chronosieve_chronosieve_expression_Amount_Unit_ rfl) rfl (by show 2 * 0 + _ ≤ _; exact Nat.le_of_eq rfl) (hb hby at_87) (fun _ _ => ⟨rfl, e104q, (by decide : 1 + 0 ≤ _), (by decide : 2 + 0 ≤ _)⟩)
      dsimp only [Pt.U, Pt.locs, Pt.cells, Pt.slots] at X108 l108 y108 z108 st108 hQ108
      subst l108 y108 z108
      obtain ⟨hv108, N108q, e108q⟩ := hQ108
      have N109 := Fr.app N105 N108q
      have hw108 := hv108
      subst hw108
      have pre110 : ∀ t, Steps p.tables e below (T108.setTop (mkF m 90 #[iv pi0, iv pi1, iv x1, rv w_HOUR, jv (3600 : Int64), .second, rv b81, jv x94, .second] [(.ref w_HOUR)])) t → Go t := fun t kt => pre107 t (st108.trans kt)
      have pre111 : ∀ t, Steps p.tables e below (T108.setTop (mkF m 99 #[iv pi0, iv pi1, iv x1, rv w_HOUR, jv (3600 : Int64), .second, rv b81, jv x94, .second] [(.int (1 : Int32))])) t → Go t := fun t kt => pre110 t (by
          refine y_aloadN X108.here hx (hb hby at_90) rfl rfl (pc' := 91) rfl ?_
          refine Jvm.RoadKit.acmp (g := (mkF m 91 #[iv pi0, iv pi1, iv x1, rv w_HOUR, jv (3600 : Int64), .second, rv b81, jv x94, .second] [(.ref w_HOUR), (.ref w_HOUR)])) X108 hx rfl rfl rfl (pc0 := 91) (pc' := 94) (same := true) rfl (hb hby at_91) rfl (decide_eq_true (congrArg Value.ref (rfl : w_HOUR = w_HOUR))) (by decide) (by decide) ?_
          show Steps p.tables e below (T108.setTop (mkF m 94 #[iv pi0, iv pi1, iv x1, rv w_HOUR, jv (3600 : Int64), .second, rv b81, jv x94, .second] [])) _
          refine y_iconst X108.here hx (hb hby at_94) (v := (1 : Int32)) rfl (pc' := 95) rfl ?_
          refine y_goto X108.here hx (hb hby at_95) (pc' := 99) (by decide) rfl ?_
          exact kt)
      obtain ⟨fs, hr, hrun, hended, hW, hsame⟩ := X108.leave (v := some (.int (1 : Int32))) (fun h => by rw [Bd.returns] at h; cases h)
      refine ⟨_, _, (hGo _).mp (pre111 _ ?_), hrun, hended, _, _, rfl, ?_, ⟨_, rfl⟩, hW, hsame.mono (by decide) (by decide)⟩
      · exact retN X108 hx (t := .boolean) Bd.returns (by simp) (hb hby at_99) hr
      · show Q0 Z pi0 pi1 w_SECOND w_MINUTE w_HOUR h0 n0 _ T108.heap _
        rw [e108q]
        exact ⟨rfl, N109⟩
set_option maxRecDepth 65536 in
set_option maxHeartbeats 40000000 in
theorem comes_1 {Post : Tables → Env → Array Value → State → Outcome → State → Prop} (hpost : ∀ tb e args s v u, (limb_1_1.after args s (.returned v) u = true ∧ limb_1_2.after args s (.returned v) u = true ∧ True) → FrameEnd s (.returned v) u (Jvm.fieldLocs frame_1_writes args s ++ Jvm.arrayLocs frame_1_arrays args s ++ Jvm.staticLocs frame_1_statics s) 16 128 → Post tb e args s (.returned v) u) :
    ArmFor flags0 classFile x code maxLocals ret World_1 tables_1 room_1 Calls_1 rest_1 Pre_1 Post := by
  intro l hfl _ _ p e ha hc hk s m args below hf hA hF happ hP
  obtain ⟨hcalls, hrest, hpre⟩ := hP
  obtain ⟨-, -, -, hnamed, -, -, -, hat⟩ := (Spec.applies_iff hf).mp happ
  obtain ⟨hg, hn⟩ := and_e (Cond.before_iff.mp (show (Jvm.Cond.and given_1 narrow_1).before args s = true from hpre))
  obtain ⟨g0, gr0⟩ := and_e hg
  obtain ⟨g1, gr1⟩ := and_e gr0
  obtain ⟨w0, w1, rfl⟩ : ∃ w0 w1 : Value, args = #[w0, w1] := by
    have hs : args.size = 2 := by simpa [Cond.value, given_1] using g0
    obtain ⟨L⟩ := args
    match L, hs with
    | [w0, w1], _ => exact ⟨w0, w1, rfl⟩
  have hw := fun d (hd : d ∈ tables_1) => atoms_spec (ws := Jvm.Cond.code x code maxLocals ret :: tables_1) hat d (List.mem_cons_of_mem _ hd)
  have hfit : Fit s := fun {y c} hc i hi => by
    obtain ⟨ha, rfl⟩ := Array.getElem?_eq_some_iff.mp hc
    have q := List.all_eq_true.mp ((Array.all_eq_true_iff_forall_mem.mp hF) _ (Array.getElem_mem ha)) i (List.mem_range.mpr hi)
    simpa [Array.getElem?_eq_getElem hi] using q
  obtain ⟨i0, ei0⟩ := is_v g1
  obtain rfl : w0 = (.int i0) := Option.some.inj ei0
  obtain ⟨i1, ei1⟩ := is_v gr1
  obtain rfl : w1 = (.int i1) := Option.some.inj ei1
  obtain ⟨n0, nr0⟩ := and_e hn
  obtain ⟨n1, nr1⟩ := and_e nr0
  obtain ⟨n2, nr2⟩ := and_e nr1
  obtain ⟨n3, nr3⟩ := and_e nr2
  obtain ⟨n4, nr4⟩ := and_e nr3
  obtain ⟨w_SECOND, ev_SECOND⟩ := exa_v n0
  have S_SECOND := Sta.start ev_SECOND (Or.inr ⟨(hw _ (List.mem_of_getElem? (i := 2) rfl)), (hw _ (List.mem_of_getElem? (i := 3) rfl))⟩)
  have E_w_SECOND := Exa.start ev_SECOND n0
  have F_seconds_w_SECOND := Fld.start ((fld_at ev_SECOND).symm.trans (own_eqI n1))
  obtain ⟨w_MINUTE, ev_MINUTE⟩ := exa_v n2
  have S_MINUTE := Sta.start ev_MINUTE (Or.inr ⟨(hw _ (List.mem_of_getElem? (i := 2) rfl)), (hw _ (List.mem_of_getElem? (i := 35) rfl))⟩)
  have E_w_MINUTE := Exa.start ev_MINUTE n2
  have F_seconds_w_MINUTE := Fld.start ((fld_at ev_MINUTE).symm.trans (own_eqI n3))
  obtain ⟨w_HOUR, ev_HOUR⟩ := exa_v n4
  have S_HOUR := Sta.start ev_HOUR (Or.inr ⟨(hw _ (List.mem_of_getElem? (i := 2) rfl)), (hw _ (List.mem_of_getElem? (i := 38) rfl))⟩)
  have E_w_HOUR := Exa.start ev_HOUR n4
  have F_seconds_w_HOUR := Fld.start ((fld_at ev_HOUR).symm.trans (own_eqI nr4))
  obtain ⟨n, o, h1, h2, h3, _, L, rfl, ⟨rfl, N⟩, hq⟩ := rm0 l s _ hw tables_1 i0 i1 w_SECOND w_MINUTE w_HOUR s.heap s.heap.size (Old.start s) S_SECOND S_MINUTE S_HOUR E_w_SECOND E_w_MINUTE E_w_HOUR F_seconds_w_SECOND F_seconds_w_MINUTE F_seconds_w_HOUR p e ha hc hk s m _ below hf ((Spec.applies_iff_loose hf).mp happ).1 ⟨rfl, State.Warmed39.refl s, rfl⟩ trivial
  refine ⟨n, _, h1, h2, h3, hpost _ _ _ _ _ _ ⟨Cond.after_iff.mpr rfl, Cond.after_iff.mpr (eq_i res_at (Term.int_eval (1)) rfl), trivial⟩ ⟨hq.1, hq.2.1, (hq.2.2.sift fun y hy => Or.inr (N y hy)).mono (by decide) (by decide)⟩⟩
theorem main_1_1 : Claimed_1_1 := comes_1 fun _ _ _ _ _ _ h hF => ⟨h.1, hF⟩
theorem main_1_2 : Claimed_1_2 := comes_1 fun _ _ _ _ _ _ h hF => ⟨h.2.1, hF⟩
end Jvm.Pilot.@@N@@
namespace Jvm.Pilot.@@N@@
open Jvm Jvm.ClassFile Sem Op Lib Jvm.Free Jvm.Stand Jvm.Pilot.@@N@@.Jvm.D
/-! MADE BY PROGRAM (witnessworld.py) out of the Statement's table words and the real class files: 13 classes; the members and pool entries that the words name. The judged class is class 1, her method 1. -/
namespace start1
open Jvm.ClassFile
def u (s : String) : CpInfo := .utf8 (stringToUtf16 s)
/-- a pool by its gaps: so many unusable entries, then the entry; so many at the end -/
def gap : Nat → List CpInfo → List CpInfo
  | 0, r => r
  | n + 1, r => .unusable :: gap n r
def poolList (es : List (Nat × CpInfo)) (last : Nat) : List CpInfo := es.foldr (fun e r => gap e.1 (e.2 :: r)) (gap last [])
def pool (es : List (Nat × CpInfo)) (last : Nat) : Array CpInfo := ⟨poolList es last⟩
def fileOf (pool : Array CpInfo) (this : Nat) (attrs : Array Attribute := #[]) (ms : Array MethodInfo := #[]) (fl : Nat := 33) (sup : Nat := 0) (ifs : Array Nat := #[]) (fds : Array FieldInfo := #[]) : ClassFile where
  minorVersion := 0
  majorVersion := 65
  constantPool := pool
  accessFlags := fl
  thisClass := this
  superClass := sup
  interfaces := ifs
  fields := fds
  methods := ms
  attributes := attrs
def plain (name : String) (sup : Option ClassId) : Class where
  name := name
  kind := .ordinary
  loader := none
  accessFlags := 33
  super := sup
  interfaces := #[]
  cf := none
  fields := #[]
  methods := #[]
  instanceTypes := #[]
  staticTypes := #[]
  resolved := #[]
  callSites := []
  init := .initialized
  statics := none
  mirror := none

def pool0 : Array CpInfo := pool [(5, u "<init>"), (0, u "()V"), (1, .class_ 10), (1, u "java/lang/Object")] 113

def k0c0 : Code := { maxStack := 0, maxLocals := 1, code := object_method_1_code, exceptionTable := #[], attributes := #[] }
def k0m0 : Method := { name := "<init>", desc := "()V", sig := { parameters := [], returnType := none }, accessFlags := 1, code := some k0c0 }
/-- java/lang/Object -/
def k0 : Class := { plain "java/lang/Object" none with
  accessFlags := 33
  interfaces := #[]
  cf := some (fileOf pool0 8 #[] #[{ accessFlags := 1, nameIndex := 5, descriptorIndex := 6, attributes := #[] }] 33 0 #[] #[])
  fields := #[]
  methods := #[k0m0]
  instanceTypes := #[]
  staticTypes := #[]
  resolved := Array.replicate 124 none
  statics := none }

def pool1 : Array CpInfo := pool [(2, .class_ 4), (1, u "java/lang/Object"), (0, u "<init>"), (0, u "()V"), (0, .integer 2147483647), (0, .fieldref 9 10), (0, .class_ 11), (0, .nameAndType 12 13), (0, u "com/example/chronosieve/chronosieve/expression/Amount$Unit"), (0, u "SECOND"), (0, u "Lcom/example/chronosieve/chronosieve/expression/Amount$Unit;"), (0, .fieldref 9 15), (0, .nameAndType 16 13), (0, u "MINUTE"), (0, .long 60), (1, .fieldref 9 20), (0, .nameAndType 21 13), (0, u "HOUR"), (0, .long 3600), (1, .class_ 25), (0, u "com/example/chronosieve/chronosieve/expression/Amount"), (0, .methodref 24 27), (0, .nameAndType 5 28), (0, u "(ILcom/example/chronosieve/chronosieve/expression/Amount$Unit;)V"), (0, .methodref 24 30), (0, .nameAndType 31 32), (0, u "seconds"), (0, u "()J"), (0, .methodref 24 34), (0, .nameAndType 35 36), (0, u "number"), (0, u "()I"), (0, .methodref 24 38), (0, .nameAndType 39 40), (0, u "unit"), (0, u "()Lcom/example/chronosieve/chronosieve/expression/Amount$Unit;"), (0, .class_ 42), (0, u "com/example/chronosieve/chronosieve/expression/AmountSecondsPinLaw"), (2, u "law"), (0, u "(II)Z")] 5

def k1m0 : Method := { name := "<init>", desc := "()V", sig := { parameters := [], returnType := none }, accessFlags := 1, code := none }
def k1c1 : Code := { maxStack := 4, maxLocals := 9, code := code, exceptionTable := #[], attributes := #[] }
def k1m1 : Method := { name := "law", desc := "(II)Z", sig := { parameters := [.int, .int], returnType := some .boolean }, accessFlags := 9, code := some k1c1 }
/-- com/example/chronosieve/chronosieve/expression/AmountSecondsPinLaw -/
def k1 : Class := { plain "com/example/chronosieve/chronosieve/expression/AmountSecondsPinLaw" (some 0) with
  accessFlags := 49
  interfaces := #[]
  cf := some (fileOf pool1 41 #[] #[{ accessFlags := 1, nameIndex := 5, descriptorIndex := 6, attributes := #[] }, { accessFlags := 9, nameIndex := 45, descriptorIndex := 46, attributes := #[] }] 49 2 #[] #[])
  fields := #[]
  methods := #[k1m0, k1m1]
  instanceTypes := #[]
  staticTypes := #[]
  resolved := Array.replicate 52 none
  statics := none }

def pool2 : Array CpInfo := pool [(1, .class_ 2), (0, u "java/lang/constant/Constable"), (0, .class_ 4), (0, u "java/lang/Object")] 6

/-- java/lang/constant/Constable -/
def k2 : Class := { plain "java/lang/constant/Constable" (some 0) with
  accessFlags := 1537
  interfaces := #[]
  cf := some (fileOf pool2 1 #[] #[] 1537 3 #[] #[])
  fields := #[]
  methods := #[]
  instanceTypes := #[]
  staticTypes := #[]
  resolved := Array.replicate 11 none
  statics := none }

def pool3 : Array CpInfo := pool [(1, .class_ 2), (0, u "java/lang/Comparable"), (0, .class_ 4), (0, u "java/lang/Object")] 7

/-- java/lang/Comparable -/
def k3 : Class := { plain "java/lang/Comparable" (some 0) with
  accessFlags := 1537
  interfaces := #[]
  cf := some (fileOf pool3 1 #[] #[] 1537 3 #[] #[])
  fields := #[]
  methods := #[]
  instanceTypes := #[]
  staticTypes := #[]
  resolved := Array.replicate 12 none
  statics := none }

def pool4 : Array CpInfo := pool [(1, .class_ 2), (0, u "java/io/Serializable"), (0, .class_ 4), (0, u "java/lang/Object")] 2

/-- java/io/Serializable -/
def k4 : Class := { plain "java/io/Serializable" (some 0) with
  accessFlags := 1537
  interfaces := #[]
  cf := some (fileOf pool4 1 #[] #[] 1537 3 #[] #[])
  fields := #[]
  methods := #[]
  instanceTypes := #[]
  staticTypes := #[]
  resolved := Array.replicate 7 none
  statics := none }

def pool5 : Array CpInfo := pool [(2, .class_ 4), (1, u "java/lang/Enum"), (0, u "name"), (0, u "Ljava/lang/String;"), (2, u "ordinal"), (0, u "I"), (1, .class_ 14), (1, u "java/lang/Object"), (4, u "hash"), (86, .class_ 108), (1, u "java/lang/Enum$EnumDesc"), (2, .class_ 112), (0, u "java/lang/constant/Constable"), (0, .class_ 114), (0, u "java/lang/Comparable"), (0, .class_ 116), (0, u "java/io/Serializable")] 87

/-- java/lang/Enum -/
def k5 : Class := { plain "java/lang/Enum" (some 0) with
  accessFlags := 1057
  interfaces := #[2, 3, 4]
  cf := some (fileOf pool5 2 #[.nestMembers #[106]] #[] 1057 12 #[111, 113, 115] #[{ accessFlags := 18, nameIndex := 5, descriptorIndex := 6, attributes := #[] }, { accessFlags := 18, nameIndex := 9, descriptorIndex := 10, attributes := #[] }, { accessFlags := 2, nameIndex := 19, descriptorIndex := 10, attributes := #[] }])
  fields := #[{ name := "name", type := (.object "java/lang/String"), accessFlags := 18, slot := 0, constantValue := 0 }, { name := "ordinal", type := .int, accessFlags := 18, slot := 1, constantValue := 0 }, { name := "hash", type := .int, accessFlags := 2, slot := 2, constantValue := 0 }]
  methods := #[]
  instanceTypes := #[(.object "java/lang/String"), .int, .int]
  staticTypes := #[]
  resolved := Array.replicate 204 none
  statics := none }

def pool6 : Array CpInfo := pool [(1, .class_ 2), (0, u "com/example/chronosieve/chronosieve/expression/Amount$Unit"), (2, u "SECOND"), (0, u "Lcom/example/chronosieve/chronosieve/expression/Amount$Unit;"), (2, u "MINUTE"), (2, u "HOUR"), (2, u "$VALUES"), (0, u "[Lcom/example/chronosieve/chronosieve/expression/Amount$Unit;"), (6, .class_ 25), (1, u "java/lang/Enum"), (8, u "letter"), (0, u "C"), (2, u "seconds"), (0, u "I"), (2, u "field"), (0, u "Lcom/example/chronosieve/chronosieve/expression/Field;"), (39, .class_ 84), (0, u "com/example/chronosieve/chronosieve/expression/Amount")] 2

/-- com/example/chronosieve/chronosieve/expression/Amount$Unit -/
def k6 : Class := { plain "com/example/chronosieve/chronosieve/expression/Amount$Unit" (some 5) with
  accessFlags := 16432
  interfaces := #[]
  cf := some (fileOf pool6 1 #[.nestHost 83] #[] 16432 23 #[] #[{ accessFlags := 16409, nameIndex := 5, descriptorIndex := 6, attributes := #[] }, { accessFlags := 16409, nameIndex := 9, descriptorIndex := 6, attributes := #[] }, { accessFlags := 16409, nameIndex := 12, descriptorIndex := 6, attributes := #[] }, { accessFlags := 18, nameIndex := 34, descriptorIndex := 35, attributes := #[] }, { accessFlags := 18, nameIndex := 38, descriptorIndex := 39, attributes := #[] }, { accessFlags := 18, nameIndex := 42, descriptorIndex := 43, attributes := #[] }, { accessFlags := 4122, nameIndex := 15, descriptorIndex := 16, attributes := #[] }])
  fields := #[{ name := "SECOND", type := (.object "com/example/chronosieve/chronosieve/expression/Amount$Unit"), accessFlags := 16409, slot := 0, constantValue := 0 }, { name := "MINUTE", type := (.object "com/example/chronosieve/chronosieve/expression/Amount$Unit"), accessFlags := 16409, slot := 1, constantValue := 0 }, { name := "HOUR", type := (.object "com/example/chronosieve/chronosieve/expression/Amount$Unit"), accessFlags := 16409, slot := 2, constantValue := 0 }, { name := "letter", type := .char, accessFlags := 18, slot := 3, constantValue := 0 }, { name := "seconds", type := .int, accessFlags := 18, slot := 4, constantValue := 0 }, { name := "field", type := (.object "com/example/chronosieve/chronosieve/expression/Field"), accessFlags := 18, slot := 5, constantValue := 0 }, { name := "$VALUES", type := (.array (.object "com/example/chronosieve/chronosieve/expression/Amount$Unit")), accessFlags := 4122, slot := 3, constantValue := 0 }]
  methods := #[]
  instanceTypes := #[(.object "java/lang/String"), .int, .int, .char, .int, (.object "com/example/chronosieve/chronosieve/expression/Field")]
  staticTypes := #[(.object "com/example/chronosieve/chronosieve/expression/Amount$Unit"), (.object "com/example/chronosieve/chronosieve/expression/Amount$Unit"), (.object "com/example/chronosieve/chronosieve/expression/Amount$Unit"), (.array (.object "com/example/chronosieve/chronosieve/expression/Amount$Unit"))]
  resolved := Array.replicate 87 none
  statics := some 0 }

def pool7 : Array CpInfo := pool [(1, .methodref 2 3), (0, .class_ 4), (0, .nameAndType 5 6), (0, u "java/lang/Object"), (0, u "<init>"), (0, u "()V"), (0, .fieldref 8 9), (0, .class_ 10), (0, .nameAndType 11 12), (0, u "com/example/chronosieve/chronosieve/expression/Amount"), (0, u "number"), (0, u "I"), (0, .fieldref 8 14), (0, .nameAndType 15 16), (0, u "unit"), (0, u "Lcom/example/chronosieve/chronosieve/expression/Amount$Unit;"), (0, .fieldref 18 19), (0, .class_ 20), (0, .nameAndType 21 12), (0, u "com/example/chronosieve/chronosieve/expression/Amount$Unit"), (0, u "seconds"), (0, u "(ILcom/example/chronosieve/chronosieve/expression/Amount$Unit;)V"), (2, u "()I"), (0, u "()Lcom/example/chronosieve/chronosieve/expression/Amount$Unit;"), (0, u "()J")] 5

def k7c0 : Code := { maxStack := 2, maxLocals := 3, code := prog_4_method_1_code, exceptionTable := #[], attributes := #[] }
def k7m0 : Method := { name := "<init>", desc := "(ILcom/example/chronosieve/chronosieve/expression/Amount$Unit;)V", sig := { parameters := [.int, (.object "com/example/chronosieve/chronosieve/expression/Amount$Unit")], returnType := none }, accessFlags := 0, code := some k7c0 }
def k7c1 : Code := { maxStack := 1, maxLocals := 1, code := prog_4_method_2_code, exceptionTable := #[], attributes := #[] }
def k7m1 : Method := { name := "number", desc := "()I", sig := { parameters := [], returnType := some .int }, accessFlags := 0, code := some k7c1 }
def k7c2 : Code := { maxStack := 1, maxLocals := 1, code := prog_4_method_3_code, exceptionTable := #[], attributes := #[] }
def k7m2 : Method := { name := "unit", desc := "()Lcom/example/chronosieve/chronosieve/expression/Amount$Unit;", sig := { parameters := [], returnType := some (.object "com/example/chronosieve/chronosieve/expression/Amount$Unit") }, accessFlags := 0, code := some k7c2 }
def k7c3 : Code := { maxStack := 4, maxLocals := 1, code := prog_4_method_4_code, exceptionTable := #[], attributes := #[] }
def k7m3 : Method := { name := "seconds", desc := "()J", sig := { parameters := [], returnType := some .long }, accessFlags := 0, code := some k7c3 }
/-- com/example/chronosieve/chronosieve/expression/Amount -/
def k7 : Class := { plain "com/example/chronosieve/chronosieve/expression/Amount" (some 0) with
  accessFlags := 48
  interfaces := #[]
  cf := some (fileOf pool7 8 #[.nestMembers #[18]] #[{ accessFlags := 0, nameIndex := 5, descriptorIndex := 22, attributes := #[] }, { accessFlags := 0, nameIndex := 11, descriptorIndex := 25, attributes := #[] }, { accessFlags := 0, nameIndex := 15, descriptorIndex := 26, attributes := #[] }, { accessFlags := 0, nameIndex := 21, descriptorIndex := 27, attributes := #[] }] 48 2 #[] #[{ accessFlags := 18, nameIndex := 11, descriptorIndex := 12, attributes := #[] }, { accessFlags := 18, nameIndex := 15, descriptorIndex := 16, attributes := #[] }])
  fields := #[{ name := "number", type := .int, accessFlags := 18, slot := 0, constantValue := 0 }, { name := "unit", type := (.object "com/example/chronosieve/chronosieve/expression/Amount$Unit"), accessFlags := 18, slot := 1, constantValue := 0 }]
  methods := #[k7m0, k7m1, k7m2, k7m3]
  instanceTypes := #[.int, (.object "com/example/chronosieve/chronosieve/expression/Amount$Unit")]
  staticTypes := #[]
  resolved := (Array.replicate 33 none).setIfInBounds 17 (some (.field 6 4))
  statics := none }

def pool8 : Array CpInfo := pool [(1, u "java/lang/Cloneable"), (0, .class_ 1), (0, u "java/lang/Object"), (0, .class_ 3)] 3

/-- java/lang/Cloneable -/
def k8 : Class := { plain "java/lang/Cloneable" (some 0) with
  accessFlags := 1537
  interfaces := #[]
  cf := some (fileOf pool8 2 #[] #[] 1537 4 #[] #[])
  fields := #[]
  methods := #[]
  instanceTypes := #[]
  staticTypes := #[]
  resolved := Array.replicate 8 none
  statics := none }

/-- the primitive byte -/
def k9 : Class := { plain "byte" none with kind := .primitive 'B', accessFlags := 0x411 }
/-- [B -/
def k10 : Class := { plain "[B" (some 0) with kind := .array 9 .byte, interfaces := #[8, 4], accessFlags := 1041 }

/-- the primitive int -/
def k11 : Class := { plain "int" none with kind := .primitive 'I', accessFlags := 0x411 }
/-- [I -/
def k12 : Class := { plain "[I" (some 0) with kind := .array 11 .int, interfaces := #[8, 4], accessFlags := 1041 }

def heap : Heap := #[{ cls := 6, slots := #[.ref 1, .ref 2, .ref 3, .null], vm := .statics 6 },
  { cls := 6, slots := #[.null, .int 0, .int 0, .int 115, .int 1, .null], vm := .none },
  { cls := 6, slots := #[.null, .int 1, .int 0, .int 109, .int 60, .null], vm := .none },
  { cls := 6, slots := #[.null, .int 2, .int 0, .int 104, .int 3600, .null], vm := .none }]
def classes : Array Class := #[k0, k1, k2, k3, k4, k5, k6, k7, k8, k9, k10, k11, k12]
def interned : List (Array UInt16 × Addr) := []
def slotsUsed : Nat := 22
def theMethod : MethodId := ⟨1, 1⟩
def args0 : Array Value := #[.int 5, .int 7]
def aboutOver (below : List Frame) : State where
  vm := { classes := classes, interned := interned.toArray }
  heap := heap
  slotsUsed := slotsUsed
  threads := #[{ frames := .invoking theMethod args0 :: below }]
def below0 : List Frame := [.native { method := ⟨0, 0⟩, args := #[] }]
def about1 : State := aboutOver below0
def p0 : Program := .bare "" "" ""
def e0 : Env := launch0.env 0 0 0
theorem w_frames : about1.frames = Frame.invoking theMethod args0 :: below0 := rfl
set_option maxRecDepth 65536 in
theorem w_args : argsFit about1.vm theMethod args0 = true := by decide +kernel
set_option maxRecDepth 65536 in
theorem w_heap : heapFits about1 = true := by decide +kernel
set_option maxRecDepth 65536 in
theorem w_runnable : about1.curStatus? = some .runnable := by decide +kernel
set_option maxRecDepth 65536 in
theorem w_alone : about1.alone = true := by decide +kernel
set_option maxRecDepth 65536 in
theorem w_named : about1.methodNamed? x = some theMethod := by decide +kernel
set_option maxRecDepth 65536 in
theorem w_hears : about1.hears theMethod below0 = true := by decide +kernel
set_option maxRecDepth 65536 in
theorem w_ripe : about1.ripe theMethod args0 below0 = true := by decide +kernel
theorem w_running : about1.status = .running := rfl
set_option maxRecDepth 65536 in
theorem w_room : about1.hasRoom e0.platform room_1 = true :=
  launch0.hasRoom_least _ room_1 (by decide +kernel) (by decide +kernel) (by decide +kernel) (by decide +kernel) (by decide +kernel) (by decide +kernel)
theorem allAtoms_all (ts : List Jvm.Cond) (a : Array Jvm.Value) (st : Jvm.State) : (allAtoms ts).before a st = ts.all (fun c => c.before a st) := by
  induction ts with
  | nil => rfl
  | cons c t ih =>
    show (Jvm.Cond.and c (allAtoms t)).before a st = _
    rw [Jvm.Cond.before_and, ih, List.all_cons]
def words1 : List Jvm.Cond := Jvm.Cond.code x code maxLocals ret :: tables_1
/-- a 'code' word, met by the world's own term for the bytes: nothing is compared byte by byte -/
theorem code_word {y : MethodName} {bytes : ByteArray} {mx : Nat} {rt : Option FieldType} {a : Array Value} {s : State} {m : MethodId} {meth : Method} {c : Code} (h1 : s.methodNamed? y = some m) (h2 : s.vm.method? m = some meth) (h3 : meth.code = some c) (h4 : c.code = bytes)
    (h5 : (c.maxLocals == mx && c.exceptionTable.isEmpty && decide (c.maxStack ≤ mostOperands) && decide (meth.sig.returnType = rt) && !meth.locks && decide (parseMethodDescriptor y.desc = some meth.sig)) = true) : (Jvm.Cond.code y bytes mx rt).before a s = true := by
  simp only [Bool.and_eq_true, beq_iff_eq, Bool.not_eq_true', decide_eq_true_eq] at h5
  obtain ⟨⟨⟨⟨⟨g1, g2⟩, g3⟩, g4⟩, g5⟩, g6⟩ := h5
  simp [Cond.before, Cond.holds, Cond.value, h1, h2, h3, h4, g1, g2, g3, g4, g5, g6]
def isCode : Jvm.Cond → Bool
  | .code _ _ _ _ => true
  | _ => false
theorem all_split {L : List Jvm.Cond} {P : Jvm.Cond → Bool} (h1 : L.all (fun c => isCode c || P c) = true) (h2 : ∀ c ∈ L.filter isCode, P c = true) : L.all P = true := by
  refine List.all_eq_true.mpr fun c hc => ?_
  have h := List.all_eq_true.mp h1 c hc
  rcases Bool.eq_false_or_eq_true (isCode c) with hi | hi
  · exact h2 c (List.mem_filter.mpr ⟨hc, hi⟩)
  · simpa [hi] using h
set_option maxRecDepth 65536 in
theorem w_c0 : (Jvm.Cond.code x code maxLocals ret).before args0 about1 = true := code_word (m := ⟨1, 1⟩) (meth := k1m1) (c := k1c1) (by decide +kernel) rfl rfl rfl (by decide +kernel)
set_option maxRecDepth 65536 in
theorem w_c1 : (Jvm.Cond.code ({ cls := "com/example/chronosieve/chronosieve/expression/Amount", name := "<init>", desc := "(ILcom/example/chronosieve/chronosieve/expression/Amount$Unit;)V" } : Jvm.MethodName) prog_4_method_1_code (3 : Nat) (Option.none : Option Jvm.ClassFile.FieldType)).before args0 about1 = true := code_word (m := ⟨7, 0⟩) (meth := k7m0) (c := k7c0) (by decide +kernel) rfl rfl rfl (by decide +kernel)
set_option maxRecDepth 65536 in
theorem w_c2 : (Jvm.Cond.code ({ cls := "java/lang/Object", name := "<init>", desc := "()V" } : Jvm.MethodName) object_method_1_code (1 : Nat) (Option.none : Option Jvm.ClassFile.FieldType)).before args0 about1 = true := code_word (m := ⟨0, 0⟩) (meth := k0m0) (c := k0c0) (by decide +kernel) rfl rfl rfl (by decide +kernel)
set_option maxRecDepth 65536 in
theorem w_c3 : (Jvm.Cond.code ({ cls := "com/example/chronosieve/chronosieve/expression/Amount", name := "seconds", desc := "()J" } : Jvm.MethodName) prog_4_method_4_code (1 : Nat) (Option.some Jvm.ClassFile.FieldType.long)).before args0 about1 = true := code_word (m := ⟨7, 3⟩) (meth := k7m3) (c := k7c3) (by decide +kernel) rfl rfl rfl (by decide +kernel)
set_option maxRecDepth 65536 in
theorem w_c4 : (Jvm.Cond.code ({ cls := "com/example/chronosieve/chronosieve/expression/Amount", name := "number", desc := "()I" } : Jvm.MethodName) prog_4_method_2_code (1 : Nat) (Option.some Jvm.ClassFile.FieldType.int)).before args0 about1 = true := code_word (m := ⟨7, 1⟩) (meth := k7m1) (c := k7c1) (by decide +kernel) rfl rfl rfl (by decide +kernel)
set_option maxRecDepth 65536 in
theorem w_c5 : (Jvm.Cond.code ({ cls := "com/example/chronosieve/chronosieve/expression/Amount", name := "unit", desc := "()Lcom/example/chronosieve/chronosieve/expression/Amount$Unit;" } : Jvm.MethodName) prog_4_method_3_code (1 : Nat) (Option.some (Jvm.ClassFile.FieldType.object "com/example/chronosieve/chronosieve/expression/Amount$Unit"))).before args0 about1 = true := code_word (m := ⟨7, 2⟩) (meth := k7m2) (c := k7c2) (by decide +kernel) rfl rfl rfl (by decide +kernel)
def codes1 : List Jvm.Cond := [Jvm.Cond.code x code maxLocals ret, Jvm.Cond.code ({ cls := "com/example/chronosieve/chronosieve/expression/Amount", name := "<init>", desc := "(ILcom/example/chronosieve/chronosieve/expression/Amount$Unit;)V" } : Jvm.MethodName) prog_4_method_1_code (3 : Nat) (Option.none : Option Jvm.ClassFile.FieldType), Jvm.Cond.code ({ cls := "java/lang/Object", name := "<init>", desc := "()V" } : Jvm.MethodName) object_method_1_code (1 : Nat) (Option.none : Option Jvm.ClassFile.FieldType), Jvm.Cond.code ({ cls := "com/example/chronosieve/chronosieve/expression/Amount", name := "seconds", desc := "()J" } : Jvm.MethodName) prog_4_method_4_code (1 : Nat) (Option.some Jvm.ClassFile.FieldType.long), Jvm.Cond.code ({ cls := "com/example/chronosieve/chronosieve/expression/Amount", name := "number", desc := "()I" } : Jvm.MethodName) prog_4_method_2_code (1 : Nat) (Option.some Jvm.ClassFile.FieldType.int), Jvm.Cond.code ({ cls := "com/example/chronosieve/chronosieve/expression/Amount", name := "unit", desc := "()Lcom/example/chronosieve/chronosieve/expression/Amount$Unit;" } : Jvm.MethodName) prog_4_method_3_code (1 : Nat) (Option.some (Jvm.ClassFile.FieldType.object "com/example/chronosieve/chronosieve/expression/Amount$Unit"))]
set_option maxRecDepth 65536 in
theorem codes_eq : words1.filter isCode = codes1 := rfl
theorem w_codes : ∀ c ∈ words1.filter isCode, c.before args0 about1 = true := by
  rw [codes_eq]
  intro c hc
  simp only [codes1, List.mem_cons, List.not_mem_nil, or_false] at hc
  rcases hc with rfl | rfl | rfl | rfl | rfl | rfl
  · exact w_c0
  · exact w_c1
  · exact w_c2
  · exact w_c3
  · exact w_c4
  · exact w_c5
set_option maxRecDepth 65536 in
theorem w_t1 : (words1.take 24).all (fun c => isCode c || c.before args0 about1) = true := by decide +kernel
set_option maxRecDepth 65536 in
theorem w_t2 : (words1.drop 24).all (fun c => isCode c || c.before args0 about1) = true := by decide +kernel
theorem w_tables : (allAtoms (Jvm.Cond.code x code maxLocals ret :: tables_1)).before args0 about1 = true := by
  rw [allAtoms_all]
  show words1.all (fun c => c.before args0 about1) = true
  refine all_split ?_ w_codes
  rw [← List.take_append_drop 24 words1, List.all_append, w_t1, w_t2]
  rfl
set_option maxRecDepth 65536 in
theorem w_case : (Jvm.Cond.and given_1 narrow_1).before args0 about1 = true := by decide +kernel
theorem w_applies : (headSpec (Jvm.Cond.code x code maxLocals ret :: tables_1) room_1).applies x e0.platform about1 = true :=
  (Spec.applies_iff w_frames).mpr ⟨w_running, w_runnable, w_alone, w_named, w_hears, w_ripe, w_room, w_tables⟩
theorem atStart : AtStart classFile x code maxLocals ret World_1 tables_1 room_1 Calls_1 rest_1 Pre_1 launch0 p0 e0 about1 theMethod args0 below0 :=
  ⟨lists_1, trivial, launch0.admits_env _ _ _, launch0.least_env, fairChoices_fair.cas, fairChoices_fair.clock, w_frames, w_args, w_heap, w_applies, trivial, trivial, w_case⟩
end start1
theorem witness_1 : WitnessClaimed_1 := ⟨start1.p0, start1.e0, start1.about1, start1.theMethod, start1.args0, start1.below0, start1.atStart⟩
end Jvm.Pilot.@@N@@
