import JvmDerived
import JvmDerived.Pilot.@@N@@Statement
import JvmDerived.Pilot.@@N@@Code
set_option linter.unusedVariables false
set_option linter.unusedSimpArgs false
namespace Jvm.Pilot.@@N@@
open Jvm Jvm.ClassFile Sem Op Lib Jvm.Free Jvm.Stand Jvm.LawKit Jvm.RoadKit Bundle Jvm.Pilot.@@N@@.Jvm.D
/-- the run stands at T' as it stood at T: the heap is the same -/
def Nx {p : Program} {l : Launch} {e : Env} {R : Room} {s : State} {m : MethodId} {args : Array Value} {below : List Frame} {meth : Method} {c : Code} {T : State} {locs : List Loc} {cells slots : Nat} (X : Stand p l e R s m args below meth c T locs cells slots) (T' : State) : Prop := Stand p l e R s m args below meth c T' locs cells slots ∧ T'.heap = T.heap
theorem lq_eq {x y : Int64} (h : x = y) : lcmpW x y = 0 := (lcW x y).trans ((lc_eq x y).mpr h)
theorem lq_ne {x y : Int64} (h : ¬ x = y) : ¬ lcmpW x y = 0 := fun q => h ((lc_eq x y).mp ((lcW x y).symm.trans q))
theorem lq_lt {x y : Int64} (h : x < y) : lcmpW x y < 0 := by rw [lcW]; exact (lc_lt x y).mpr h
theorem lq_nlt {x y : Int64} (h : ¬ x < y) : ¬ lcmpW x y < 0 := by rw [lcW]; exact fun q => h ((lc_lt x y).mp q)
theorem lq_gt {x y : Int64} (h : y < x) : 0 < lcmpW x y := by rw [lcW]; exact (lc_gt x y).mpr h
theorem lq_ngt {x y : Int64} (h : ¬ y < x) : ¬ 0 < lcmpW x y := by rw [lcW]; exact fun q => h ((lc_gt x y).mp q)
theorem own_eqI {args : Array Value} {first s : State} {o : Option Outcome} {idx : List Nat} {t : Term} {k : Int32} (h : (Jvm.Cond.eq t (.int k)).value args first o s idx = some true) : t.eval args first o idx s = some (.int k) := by
  simp only [Cond.value, Term.eval] at h
  cases ht : t.eval args first o idx s with
  | none => simp [ht] at h
  | some x => cases x <;> simp [ht] at h ⊢; exact h
theorem own_eqL {args : Array Value} {first s : State} {o : Option Outcome} {idx : List Nat} {t : Term} {k : Int64} (h : (Jvm.Cond.eq t (.long k)).value args first o s idx = some true) : t.eval args first o idx s = some (.long k) := by
  simp only [Cond.value, Term.eval] at h
  cases ht : t.eval args first o idx s with
  | none => simp [ht] at h
  | some x => cases x <;> simp [ht] at h ⊢; exact h
abbrev jv (x : Int64) : Slot := .val (.long x)
theorem y_iloadN {tb : Tables} [Ours tb] {e : Env} {below : List Frame} {T target : State} {m : MethodId} {c : Code} (h : At T m c below) (hx : tb.exec = Jvm.exec) {pc pc' : Nat} {L : Array Slot} {S : List Value} {k : Fin 4} {v : Int32} (hd : decode c.code pc = .ok (.iload_n k, 1)) (hl : L[k.val]? = some (.val (.int v))) (hp : pc + 1 = pc') (hr : Steps tb e below (T.setTop (mkF m pc' L (.int v :: S))) target) : Steps tb e below (T.setTop (mkF m pc L S)) target := by subst hp; exact XS.iloadN h hx rfl hd hl hr
theorem y_lloadN {tb : Tables} [Ours tb] {e : Env} {below : List Frame} {T target : State} {m : MethodId} {c : Code} (h : At T m c below) (hx : tb.exec = Jvm.exec) {pc pc' : Nat} {L : Array Slot} {S : List Value} {k : Fin 4} {v : Int64} (hd : decode c.code pc = .ok (.lload_n k, 1)) (hl : L[k.val]? = some (.val (.long v))) (hp : pc + 1 = pc') (hr : Steps tb e below (T.setTop (mkF m pc' L (.long v :: S))) target) : Steps tb e below (T.setTop (mkF m pc L S)) target := by subst hp; exact XS.lloadN h hx rfl hd hl hr
theorem y_aloadN {tb : Tables} [Ours tb] {e : Env} {below : List Frame} {T target : State} {m : MethodId} {c : Code} (h : At T m c below) (hx : tb.exec = Jvm.exec) {pc pc' : Nat} {L : Array Slot} {S : List Value} {k : Fin 4} {v : Value} (hd : decode c.code pc = .ok (.aload_n k, 1)) (hl : L[k.val]? = some (.val v)) (hv : v.isRef = true) (hp : pc + 1 = pc') (hr : Steps tb e below (T.setTop (mkF m pc' L (v :: S))) target) : Steps tb e below (T.setTop (mkF m pc L S)) target := by subst hp; exact XS.aloadN h hx rfl hd hl hv hr
theorem y_istoreN {tb : Tables} [Ours tb] {e : Env} {below : List Frame} {T target : State} {m : MethodId} {c : Code} (h : At T m c below) (hx : tb.exec = Jvm.exec) {pc pc' : Nat} {L : Array Slot} {S : List Value} {k : Fin 4} {v : Int32} {l' : Array Slot} (hd : decode c.code pc = .ok (.istore_n k, 1)) (hl : storeLocals L k.val (.int v) = some l') (hp : pc + 1 = pc') (hr : Steps tb e below (T.setTop (mkF m pc' l' S)) target) : Steps tb e below (T.setTop (mkF m pc L (.int v :: S))) target := by subst hp; exact XS.istoreN h hx rfl hd rfl hl hr
theorem y_lstoreN {tb : Tables} [Ours tb] {e : Env} {below : List Frame} {T target : State} {m : MethodId} {c : Code} (h : At T m c below) (hx : tb.exec = Jvm.exec) {pc pc' : Nat} {L : Array Slot} {S : List Value} {k : Fin 4} {v : Int64} {l' : Array Slot} (hd : decode c.code pc = .ok (.lstore_n k, 1)) (hl : storeLocals L k.val (.long v) = some l') (hp : pc + 1 = pc') (hr : Steps tb e below (T.setTop (mkF m pc' l' S)) target) : Steps tb e below (T.setTop (mkF m pc L (.long v :: S))) target := by subst hp; exact XS.lstoreN h hx rfl hd rfl hl hr
theorem y_astoreN {tb : Tables} [Ours tb] {e : Env} {below : List Frame} {T target : State} {m : MethodId} {c : Code} (h : At T m c below) (hx : tb.exec = Jvm.exec) {pc pc' : Nat} {L : Array Slot} {S : List Value} {k : Fin 4} {v : Value} {l' : Array Slot} (hd : decode c.code pc = .ok (.astore_n k, 1)) (hv : v.isRef = true) (hl : storeLocals L k.val v = some l') (hp : pc + 1 = pc') (hr : Steps tb e below (T.setTop (mkF m pc' l' S)) target) : Steps tb e below (T.setTop (mkF m pc L (v :: S))) target := by subst hp; exact XS.astoreN h hx rfl hd rfl hv hl hr
theorem y_iload {tb : Tables} [Ours tb] {e : Env} {below : List Frame} {T target : State} {m : MethodId} {c : Code} (h : At T m c below) (hx : tb.exec = Jvm.exec) {pc pc' : Nat} {L : Array Slot} {S : List Value} {k : Nat} {v : Int32} (hd : decode c.code pc = .ok (.iload k, 2)) (hl : L[k]? = some (.val (.int v))) (hp : pc + 2 = pc') (hr : Steps tb e below (T.setTop (mkF m pc' L (.int v :: S))) target) : Steps tb e below (T.setTop (mkF m pc L S)) target := by subst hp; exact XS.iload h hx rfl hd hl hr
theorem y_lload {tb : Tables} [Ours tb] {e : Env} {below : List Frame} {T target : State} {m : MethodId} {c : Code} (h : At T m c below) (hx : tb.exec = Jvm.exec) {pc pc' : Nat} {L : Array Slot} {S : List Value} {k : Nat} {v : Int64} (hd : decode c.code pc = .ok (.lload k, 2)) (hl : L[k]? = some (.val (.long v))) (hp : pc + 2 = pc') (hr : Steps tb e below (T.setTop (mkF m pc' L (.long v :: S))) target) : Steps tb e below (T.setTop (mkF m pc L S)) target := by subst hp; exact XS.lload h hx rfl hd hl hr
theorem y_aload {tb : Tables} [Ours tb] {e : Env} {below : List Frame} {T target : State} {m : MethodId} {c : Code} (h : At T m c below) (hx : tb.exec = Jvm.exec) {pc pc' : Nat} {L : Array Slot} {S : List Value} {k : Nat} {v : Value} (hd : decode c.code pc = .ok (.aload k, 2)) (hl : L[k]? = some (.val v)) (hv : v.isRef = true) (hp : pc + 2 = pc') (hr : Steps tb e below (T.setTop (mkF m pc' L (v :: S))) target) : Steps tb e below (T.setTop (mkF m pc L S)) target := by subst hp; exact XS.aload h hx rfl hd hl hv hr
theorem y_istore {tb : Tables} [Ours tb] {e : Env} {below : List Frame} {T target : State} {m : MethodId} {c : Code} (h : At T m c below) (hx : tb.exec = Jvm.exec) {pc pc' : Nat} {L : Array Slot} {S : List Value} {k : Nat} {v : Int32} {l' : Array Slot} (hd : decode c.code pc = .ok (.istore k, 2)) (hl : storeLocals L k (.int v) = some l') (hp : pc + 2 = pc') (hr : Steps tb e below (T.setTop (mkF m pc' l' S)) target) : Steps tb e below (T.setTop (mkF m pc L (.int v :: S))) target := by subst hp; exact XS.istore h hx rfl hd rfl hl hr
theorem y_lstore {tb : Tables} [Ours tb] {e : Env} {below : List Frame} {T target : State} {m : MethodId} {c : Code} (h : At T m c below) (hx : tb.exec = Jvm.exec) {pc pc' : Nat} {L : Array Slot} {S : List Value} {k : Nat} {v : Int64} {l' : Array Slot} (hd : decode c.code pc = .ok (.lstore k, 2)) (hl : storeLocals L k (.long v) = some l') (hp : pc + 2 = pc') (hr : Steps tb e below (T.setTop (mkF m pc' l' S)) target) : Steps tb e below (T.setTop (mkF m pc L (.long v :: S))) target := by subst hp; exact XS.lstore h hx rfl hd rfl hl hr
theorem y_astore {tb : Tables} [Ours tb] {e : Env} {below : List Frame} {T target : State} {m : MethodId} {c : Code} (h : At T m c below) (hx : tb.exec = Jvm.exec) {pc pc' : Nat} {L : Array Slot} {S : List Value} {k : Nat} {v : Value} {l' : Array Slot} (hd : decode c.code pc = .ok (.astore k, 2)) (hv : v.isRef = true) (hl : storeLocals L k v = some l') (hp : pc + 2 = pc') (hr : Steps tb e below (T.setTop (mkF m pc' l' S)) target) : Steps tb e below (T.setTop (mkF m pc L (v :: S))) target := by subst hp; exact XS.astore h hx rfl hd rfl hv hl hr
theorem y_iconst {tb : Tables} [Ours tb] {e : Env} {below : List Frame} {T target : State} {m : MethodId} {c : Code} (h : At T m c below) (hx : tb.exec = Jvm.exec) {pc pc' : Nat} {L : Array Slot} {S : List Value} {i : Int} {v : Int32} (hd : decode c.code pc = .ok (.iconst i, 1)) (hv : Int32.ofInt i = v) (hp : pc + 1 = pc') (hr : Steps tb e below (T.setTop (mkF m pc' L (.int v :: S))) target) : Steps tb e below (T.setTop (mkF m pc L S)) target := by subst hp; exact XS.iconst h hx rfl hd (by rw [hv]; exact hr)
theorem y_bipush {tb : Tables} [Ours tb] {e : Env} {below : List Frame} {T target : State} {m : MethodId} {c : Code} (h : At T m c below) (hx : tb.exec = Jvm.exec) {pc pc' : Nat} {L : Array Slot} {S : List Value} {i : Int} {v : Int32} (hd : decode c.code pc = .ok (.bipush i, 2)) (hv : (Int8.ofInt i).toInt32 = v) (hp : pc + 2 = pc') (hr : Steps tb e below (T.setTop (mkF m pc' L (.int v :: S))) target) : Steps tb e below (T.setTop (mkF m pc L S)) target := by subst hp; exact XS.bipush h hx rfl hd (by rw [hv]; exact hr)
theorem y_sipush {tb : Tables} [Ours tb] {e : Env} {below : List Frame} {T target : State} {m : MethodId} {c : Code} (h : At T m c below) (hx : tb.exec = Jvm.exec) {pc pc' : Nat} {L : Array Slot} {S : List Value} {i : Int} {v : Int32} (hd : decode c.code pc = .ok (.sipush i, 3)) (hv : (Int16.ofInt i).toInt32 = v) (hp : pc + 3 = pc') (hr : Steps tb e below (T.setTop (mkF m pc' L (.int v :: S))) target) : Steps tb e below (T.setTop (mkF m pc L S)) target := by subst hp; exact XS.sipush h hx rfl hd (by rw [hv]; exact hr)
theorem y_lconst {tb : Tables} [Ours tb] {e : Env} {below : List Frame} {T target : State} {m : MethodId} {c : Code} (h : At T m c below) (hx : tb.exec = Jvm.exec) {pc pc' : Nat} {L : Array Slot} {S : List Value} {k : Fin 2} {v : Int64} (hd : decode c.code pc = .ok (.lconst k, 1)) (hv : Int64.ofNat k.val = v) (hp : pc + 1 = pc') (hr : Steps tb e below (T.setTop (mkF m pc' L (.long v :: S))) target) : Steps tb e below (T.setTop (mkF m pc L S)) target := by subst hp; exact XS.lconst h hx rfl hd (by first | exact hv ▸ hr | (rw [hv]; exact hr) | (subst hv; exact hr))
theorem y_aconstNull {tb : Tables} [Ours tb] {e : Env} {below : List Frame} {T target : State} {m : MethodId} {c : Code} (h : At T m c below) (hx : tb.exec = Jvm.exec) {pc pc' : Nat} {L : Array Slot} {S : List Value} (hd : decode c.code pc = .ok (.aconst_null, 1)) (hp : pc + 1 = pc') (hr : Steps tb e below (T.setTop (mkF m pc' L (.null :: S))) target) : Steps tb e below (T.setTop (mkF m pc L S)) target := by subst hp; exact XS.aconstNull h hx rfl hd hr
theorem y_iadd {tb : Tables} [Ours tb] {e : Env} {below : List Frame} {T target : State} {m : MethodId} {c : Code} (h : At T m c below) (hx : tb.exec = Jvm.exec) {pc pc' : Nat} {L : Array Slot} {S : List Value} {x y z : Int32} (hd : decode c.code pc = .ok (.iadd, 1)) (hz : x + y = z) (hp : pc + 1 = pc') (hr : Steps tb e below (T.setTop (mkF m pc' L (.int z :: S))) target) : Steps tb e below (T.setTop (mkF m pc L (.int y :: .int x :: S))) target := by subst hp; exact XS.iadd h hx rfl hd rfl (by rw [hz]; exact hr)
theorem y_isub {tb : Tables} [Ours tb] {e : Env} {below : List Frame} {T target : State} {m : MethodId} {c : Code} (h : At T m c below) (hx : tb.exec = Jvm.exec) {pc pc' : Nat} {L : Array Slot} {S : List Value} {x y z : Int32} (hd : decode c.code pc = .ok (.isub, 1)) (hz : x - y = z) (hp : pc + 1 = pc') (hr : Steps tb e below (T.setTop (mkF m pc' L (.int z :: S))) target) : Steps tb e below (T.setTop (mkF m pc L (.int y :: .int x :: S))) target := by subst hp; exact XS.isub h hx rfl hd rfl (by rw [hz]; exact hr)
theorem y_imul {tb : Tables} [Ours tb] {e : Env} {below : List Frame} {T target : State} {m : MethodId} {c : Code} (h : At T m c below) (hx : tb.exec = Jvm.exec) {pc pc' : Nat} {L : Array Slot} {S : List Value} {x y z : Int32} (hd : decode c.code pc = .ok (.imul, 1)) (hz : x * y = z) (hp : pc + 1 = pc') (hr : Steps tb e below (T.setTop (mkF m pc' L (.int z :: S))) target) : Steps tb e below (T.setTop (mkF m pc L (.int y :: .int x :: S))) target := by subst hp; exact XS.imul h hx rfl hd rfl (by rw [hz]; exact hr)
theorem y_iand {tb : Tables} [Ours tb] {e : Env} {below : List Frame} {T target : State} {m : MethodId} {c : Code} (h : At T m c below) (hx : tb.exec = Jvm.exec) {pc pc' : Nat} {L : Array Slot} {S : List Value} {x y z : Int32} (hd : decode c.code pc = .ok (.iand, 1)) (hz : x &&& y = z) (hp : pc + 1 = pc') (hr : Steps tb e below (T.setTop (mkF m pc' L (.int z :: S))) target) : Steps tb e below (T.setTop (mkF m pc L (.int y :: .int x :: S))) target := by subst hp; exact XS.iand h hx rfl hd rfl (by rw [hz]; exact hr)
theorem y_ior {tb : Tables} [Ours tb] {e : Env} {below : List Frame} {T target : State} {m : MethodId} {c : Code} (h : At T m c below) (hx : tb.exec = Jvm.exec) {pc pc' : Nat} {L : Array Slot} {S : List Value} {x y z : Int32} (hd : decode c.code pc = .ok (.ior, 1)) (hz : x ||| y = z) (hp : pc + 1 = pc') (hr : Steps tb e below (T.setTop (mkF m pc' L (.int z :: S))) target) : Steps tb e below (T.setTop (mkF m pc L (.int y :: .int x :: S))) target := by subst hp; exact XS.ior h hx rfl hd rfl (by rw [hz]; exact hr)
theorem y_ixor {tb : Tables} [Ours tb] {e : Env} {below : List Frame} {T target : State} {m : MethodId} {c : Code} (h : At T m c below) (hx : tb.exec = Jvm.exec) {pc pc' : Nat} {L : Array Slot} {S : List Value} {x y z : Int32} (hd : decode c.code pc = .ok (.ixor, 1)) (hz : x ^^^ y = z) (hp : pc + 1 = pc') (hr : Steps tb e below (T.setTop (mkF m pc' L (.int z :: S))) target) : Steps tb e below (T.setTop (mkF m pc L (.int y :: .int x :: S))) target := by subst hp; exact XS.ixor h hx rfl hd rfl (by rw [hz]; exact hr)
theorem y_ladd {tb : Tables} [Ours tb] {e : Env} {below : List Frame} {T target : State} {m : MethodId} {c : Code} (h : At T m c below) (hx : tb.exec = Jvm.exec) {pc pc' : Nat} {L : Array Slot} {S : List Value} {x y z : Int64} (hd : decode c.code pc = .ok (.ladd, 1)) (hz : x + y = z) (hp : pc + 1 = pc') (hr : Steps tb e below (T.setTop (mkF m pc' L (.long z :: S))) target) : Steps tb e below (T.setTop (mkF m pc L (.long y :: .long x :: S))) target := by subst hp; exact XS.ladd h hx rfl hd rfl (by rw [hz]; exact hr)
theorem y_lsub {tb : Tables} [Ours tb] {e : Env} {below : List Frame} {T target : State} {m : MethodId} {c : Code} (h : At T m c below) (hx : tb.exec = Jvm.exec) {pc pc' : Nat} {L : Array Slot} {S : List Value} {x y z : Int64} (hd : decode c.code pc = .ok (.lsub, 1)) (hz : x - y = z) (hp : pc + 1 = pc') (hr : Steps tb e below (T.setTop (mkF m pc' L (.long z :: S))) target) : Steps tb e below (T.setTop (mkF m pc L (.long y :: .long x :: S))) target := by subst hp; exact XS.lsub h hx rfl hd rfl (by rw [hz]; exact hr)
theorem y_lmul {tb : Tables} [Ours tb] {e : Env} {below : List Frame} {T target : State} {m : MethodId} {c : Code} (h : At T m c below) (hx : tb.exec = Jvm.exec) {pc pc' : Nat} {L : Array Slot} {S : List Value} {x y z : Int64} (hd : decode c.code pc = .ok (.lmul, 1)) (hz : x * y = z) (hp : pc + 1 = pc') (hr : Steps tb e below (T.setTop (mkF m pc' L (.long z :: S))) target) : Steps tb e below (T.setTop (mkF m pc L (.long y :: .long x :: S))) target := by subst hp; exact XS.lmul h hx rfl hd rfl (by rw [hz]; exact hr)
theorem y_land {tb : Tables} [Ours tb] {e : Env} {below : List Frame} {T target : State} {m : MethodId} {c : Code} (h : At T m c below) (hx : tb.exec = Jvm.exec) {pc pc' : Nat} {L : Array Slot} {S : List Value} {x y z : Int64} (hd : decode c.code pc = .ok (.land, 1)) (hz : x &&& y = z) (hp : pc + 1 = pc') (hr : Steps tb e below (T.setTop (mkF m pc' L (.long z :: S))) target) : Steps tb e below (T.setTop (mkF m pc L (.long y :: .long x :: S))) target := by subst hp; exact XS.land h hx rfl hd rfl (by rw [hz]; exact hr)
theorem y_lor {tb : Tables} [Ours tb] {e : Env} {below : List Frame} {T target : State} {m : MethodId} {c : Code} (h : At T m c below) (hx : tb.exec = Jvm.exec) {pc pc' : Nat} {L : Array Slot} {S : List Value} {x y z : Int64} (hd : decode c.code pc = .ok (.lor, 1)) (hz : x ||| y = z) (hp : pc + 1 = pc') (hr : Steps tb e below (T.setTop (mkF m pc' L (.long z :: S))) target) : Steps tb e below (T.setTop (mkF m pc L (.long y :: .long x :: S))) target := by subst hp; exact XS.lor h hx rfl hd rfl (by rw [hz]; exact hr)
theorem y_lxor {tb : Tables} [Ours tb] {e : Env} {below : List Frame} {T target : State} {m : MethodId} {c : Code} (h : At T m c below) (hx : tb.exec = Jvm.exec) {pc pc' : Nat} {L : Array Slot} {S : List Value} {x y z : Int64} (hd : decode c.code pc = .ok (.lxor, 1)) (hz : x ^^^ y = z) (hp : pc + 1 = pc') (hr : Steps tb e below (T.setTop (mkF m pc' L (.long z :: S))) target) : Steps tb e below (T.setTop (mkF m pc L (.long y :: .long x :: S))) target := by subst hp; exact XS.lxor h hx rfl hd rfl (by rw [hz]; exact hr)
theorem y_ineg {tb : Tables} [Ours tb] {e : Env} {below : List Frame} {T target : State} {m : MethodId} {c : Code} (h : At T m c below) (hx : tb.exec = Jvm.exec) {pc pc' : Nat} {L : Array Slot} {S : List Value} {x : Int32} {z : Int32} (hd : decode c.code pc = .ok (.ineg, 1)) (hz : -x = z) (hp : pc + 1 = pc') (hr : Steps tb e below (T.setTop (mkF m pc' L (.int z :: S))) target) : Steps tb e below (T.setTop (mkF m pc L (.int x :: S))) target := by subst hp; exact XS.ineg h hx rfl hd rfl (by subst hz; exact hr)
theorem y_lneg {tb : Tables} [Ours tb] {e : Env} {below : List Frame} {T target : State} {m : MethodId} {c : Code} (h : At T m c below) (hx : tb.exec = Jvm.exec) {pc pc' : Nat} {L : Array Slot} {S : List Value} {x : Int64} {z : Int64} (hd : decode c.code pc = .ok (.lneg, 1)) (hz : -x = z) (hp : pc + 1 = pc') (hr : Steps tb e below (T.setTop (mkF m pc' L (.long z :: S))) target) : Steps tb e below (T.setTop (mkF m pc L (.long x :: S))) target := by subst hp; exact XS.lneg h hx rfl hd rfl (by subst hz; exact hr)
theorem y_i2l {tb : Tables} [Ours tb] {e : Env} {below : List Frame} {T target : State} {m : MethodId} {c : Code} (h : At T m c below) (hx : tb.exec = Jvm.exec) {pc pc' : Nat} {L : Array Slot} {S : List Value} {x : Int32} {z : Int64} (hd : decode c.code pc = .ok (.i2l, 1)) (hz : x.toInt64 = z) (hp : pc + 1 = pc') (hr : Steps tb e below (T.setTop (mkF m pc' L (.long z :: S))) target) : Steps tb e below (T.setTop (mkF m pc L (.int x :: S))) target := by subst hp; exact XS.i2l h hx rfl hd rfl (by subst hz; exact hr)
theorem y_l2i {tb : Tables} [Ours tb] {e : Env} {below : List Frame} {T target : State} {m : MethodId} {c : Code} (h : At T m c below) (hx : tb.exec = Jvm.exec) {pc pc' : Nat} {L : Array Slot} {S : List Value} {x : Int64} {z : Int32} (hd : decode c.code pc = .ok (.l2i, 1)) (hz : x.toInt32 = z) (hp : pc + 1 = pc') (hr : Steps tb e below (T.setTop (mkF m pc' L (.int z :: S))) target) : Steps tb e below (T.setTop (mkF m pc L (.long x :: S))) target := by subst hp; exact XS.l2i h hx rfl hd rfl (by subst hz; exact hr)
theorem y_i2b {tb : Tables} [Ours tb] {e : Env} {below : List Frame} {T target : State} {m : MethodId} {c : Code} (h : At T m c below) (hx : tb.exec = Jvm.exec) {pc pc' : Nat} {L : Array Slot} {S : List Value} {x : Int32} {z : Int32} (hd : decode c.code pc = .ok (.i2b, 1)) (hz : x.toInt8.toInt32 = z) (hp : pc + 1 = pc') (hr : Steps tb e below (T.setTop (mkF m pc' L (.int z :: S))) target) : Steps tb e below (T.setTop (mkF m pc L (.int x :: S))) target := by subst hp; exact XS.i2b h hx rfl hd rfl (by subst hz; exact hr)
theorem y_i2s {tb : Tables} [Ours tb] {e : Env} {below : List Frame} {T target : State} {m : MethodId} {c : Code} (h : At T m c below) (hx : tb.exec = Jvm.exec) {pc pc' : Nat} {L : Array Slot} {S : List Value} {x : Int32} {z : Int32} (hd : decode c.code pc = .ok (.i2s, 1)) (hz : x.toInt16.toInt32 = z) (hp : pc + 1 = pc') (hr : Steps tb e below (T.setTop (mkF m pc' L (.int z :: S))) target) : Steps tb e below (T.setTop (mkF m pc L (.int x :: S))) target := by subst hp; exact XS.i2s h hx rfl hd rfl (by subst hz; exact hr)
theorem y_i2c {tb : Tables} [Ours tb] {e : Env} {below : List Frame} {T target : State} {m : MethodId} {c : Code} (h : At T m c below) (hx : tb.exec = Jvm.exec) {pc pc' : Nat} {L : Array Slot} {S : List Value} {x : Int32} {z : Int32} (hd : decode c.code pc = .ok (.i2c, 1)) (hz : x.toUInt32.toUInt16.toUInt32.toInt32 = z) (hp : pc + 1 = pc') (hr : Steps tb e below (T.setTop (mkF m pc' L (.int z :: S))) target) : Steps tb e below (T.setTop (mkF m pc L (.int x :: S))) target := by subst hp; exact XS.i2c h hx rfl hd rfl (by subst hz; exact hr)
theorem y_ishl {tb : Tables} [Ours tb] {e : Env} {below : List Frame} {T target : State} {m : MethodId} {c : Code} (h : At T m c below) (hx : tb.exec = Jvm.exec) {pc pc' : Nat} {L : Array Slot} {S : List Value} {x z : Int32} {y : Int32} (hd : decode c.code pc = .ok (.ishl, 1)) (hz : (x <<< (y &&& 31)) = z) (hp : pc + 1 = pc') (hr : Steps tb e below (T.setTop (mkF m pc' L (.int z :: S))) target) : Steps tb e below (T.setTop (mkF m pc L (.int y :: .int x :: S))) target := by subst hp; exact XS.ishl h hx rfl hd rfl (by subst hz; exact hr)
theorem y_ishr {tb : Tables} [Ours tb] {e : Env} {below : List Frame} {T target : State} {m : MethodId} {c : Code} (h : At T m c below) (hx : tb.exec = Jvm.exec) {pc pc' : Nat} {L : Array Slot} {S : List Value} {x z : Int32} {y : Int32} (hd : decode c.code pc = .ok (.ishr, 1)) (hz : (x >>> (y &&& 31)) = z) (hp : pc + 1 = pc') (hr : Steps tb e below (T.setTop (mkF m pc' L (.int z :: S))) target) : Steps tb e below (T.setTop (mkF m pc L (.int y :: .int x :: S))) target := by subst hp; exact XS.ishr h hx rfl hd rfl (by subst hz; exact hr)
theorem y_iushr {tb : Tables} [Ours tb] {e : Env} {below : List Frame} {T target : State} {m : MethodId} {c : Code} (h : At T m c below) (hx : tb.exec = Jvm.exec) {pc pc' : Nat} {L : Array Slot} {S : List Value} {x z : Int32} {y : Int32} (hd : decode c.code pc = .ok (.iushr, 1)) (hz : ((x.toUInt32 >>> (y &&& 31).toUInt32).toInt32) = z) (hp : pc + 1 = pc') (hr : Steps tb e below (T.setTop (mkF m pc' L (.int z :: S))) target) : Steps tb e below (T.setTop (mkF m pc L (.int y :: .int x :: S))) target := by subst hp; exact XS.iushr h hx rfl hd rfl (by subst hz; exact hr)
theorem y_lshl {tb : Tables} [Ours tb] {e : Env} {below : List Frame} {T target : State} {m : MethodId} {c : Code} (h : At T m c below) (hx : tb.exec = Jvm.exec) {pc pc' : Nat} {L : Array Slot} {S : List Value} {x z : Int64} {y : Int32} (hd : decode c.code pc = .ok (.lshl, 1)) (hz : (x <<< (y &&& 0x3f).toInt64) = z) (hp : pc + 1 = pc') (hr : Steps tb e below (T.setTop (mkF m pc' L (.long z :: S))) target) : Steps tb e below (T.setTop (mkF m pc L (.int y :: .long x :: S))) target := by subst hp; exact XS.lshl h hx rfl hd rfl (by subst hz; exact hr)
theorem y_lshr {tb : Tables} [Ours tb] {e : Env} {below : List Frame} {T target : State} {m : MethodId} {c : Code} (h : At T m c below) (hx : tb.exec = Jvm.exec) {pc pc' : Nat} {L : Array Slot} {S : List Value} {x z : Int64} {y : Int32} (hd : decode c.code pc = .ok (.lshr, 1)) (hz : (x >>> (y &&& 0x3f).toInt64) = z) (hp : pc + 1 = pc') (hr : Steps tb e below (T.setTop (mkF m pc' L (.long z :: S))) target) : Steps tb e below (T.setTop (mkF m pc L (.int y :: .long x :: S))) target := by subst hp; exact XS.lshr h hx rfl hd rfl (by subst hz; exact hr)
theorem y_lushr {tb : Tables} [Ours tb] {e : Env} {below : List Frame} {T target : State} {m : MethodId} {c : Code} (h : At T m c below) (hx : tb.exec = Jvm.exec) {pc pc' : Nat} {L : Array Slot} {S : List Value} {x z : Int64} {y : Int32} (hd : decode c.code pc = .ok (.lushr, 1)) (hz : ((x.toUInt64 >>> (y &&& 0x3f).toInt64.toUInt64).toInt64) = z) (hp : pc + 1 = pc') (hr : Steps tb e below (T.setTop (mkF m pc' L (.long z :: S))) target) : Steps tb e below (T.setTop (mkF m pc L (.int y :: .long x :: S))) target := by subst hp; exact XS.lushr h hx rfl hd rfl (by subst hz; exact hr)
theorem y_lcmp {tb : Tables} [Ours tb] {e : Env} {below : List Frame} {T target : State} {m : MethodId} {c : Code} (h : At T m c below) (hx : tb.exec = Jvm.exec) {pc pc' : Nat} {L : Array Slot} {S : List Value} {x y : Int64} (hd : decode c.code pc = .ok (.lcmp, 1)) (hp : pc + 1 = pc') (hr : Steps tb e below (T.setTop (mkF m pc' L (.int (lcmpW x y) :: S))) target) : Steps tb e below (T.setTop (mkF m pc L (.long y :: .long x :: S))) target := by subst hp; exact XS.lcmp h hx rfl hd rfl hr
theorem y_iinc {tb : Tables} [Ours tb] {e : Env} {below : List Frame} {T target : State} {m : MethodId} {c : Code} (h : At T m c below) (hx : tb.exec = Jvm.exec) {pc pc' : Nat} {L : Array Slot} {S : List Value} {k : Nat} {cst : Int} {x : Int32} {l' : Array Slot} (hd : decode c.code pc = .ok (.iinc k cst, 3)) (hl : L[k]? = some (.val (.int x))) (hl' : storeLocals L k (.int (x + Int32.ofInt cst)) = some l') (hp : pc + 3 = pc') (hr : Steps tb e below (T.setTop (mkF m pc' l' S)) target) : Steps tb e below (T.setTop (mkF m pc L S)) target := by subst hp; exact XS.iinc h hx rfl hd hl hl' hr
theorem y_dup {tb : Tables} [Ours tb] {e : Env} {below : List Frame} {T target : State} {m : MethodId} {c : Code} (h : At T m c below) (hx : tb.exec = Jvm.exec) {pc pc' : Nat} {L : Array Slot} {S : List Value} {v : Value} (hd : decode c.code pc = .ok (.dup, 1)) (hc : v.category = 1) (hp : pc + 1 = pc') (hr : Steps tb e below (T.setTop (mkF m pc' L (v :: v :: S))) target) : Steps tb e below (T.setTop (mkF m pc L (v :: S))) target := by subst hp; exact XS.dup h hx rfl hd rfl hc hr
theorem y_goto {tb : Tables} [Ours tb] {e : Env} {below : List Frame} {T target : State} {m : MethodId} {c : Code} (h : At T m c below) (hx : tb.exec = Jvm.exec) {pc pc' : Nat} {L : Array Slot} {S : List Value} {o : Int} (hd : decode c.code pc = .ok (.goto o, 3)) (ho : 0 ≤ (pc : Int) + o) (hp : ((pc : Int) + o).toNat = pc') (hr : Steps tb e below (T.setTop (mkF m pc' L S)) target) : Steps tb e below (T.setTop (mkF m pc L S)) target := XS.goto h hx rfl rfl hd ho hp hr
theorem y_ifYes {tb : Tables} [Ours tb] {e : Env} {below : List Frame} {T target : State} {m : MethodId} {c : Code} (h : At T m c below) (hx : tb.exec = Jvm.exec) {pc pc' : Nat} {L : Array Slot} {S : List Value} {cd : ClassFile.Cond} {x : Int32} {o : Int} (hd : decode c.code pc = .ok (.ifCond cd o, 3)) (hc : ifCond.holds cd x = true) (ho : 0 ≤ (pc : Int) + o) (hp : ((pc : Int) + o).toNat = pc') (hr : Steps tb e below (T.setTop (mkF m pc' L S)) target) : Steps tb e below (T.setTop (mkF m pc L (.int x :: S))) target := XS.ifYes h hx rfl rfl hd rfl hc ho hp hr
theorem y_ifNo {tb : Tables} [Ours tb] {e : Env} {below : List Frame} {T target : State} {m : MethodId} {c : Code} (h : At T m c below) (hx : tb.exec = Jvm.exec) {pc pc' : Nat} {L : Array Slot} {S : List Value} {cd : ClassFile.Cond} {x : Int32} {o : Int} (hd : decode c.code pc = .ok (.ifCond cd o, 3)) (hc : ifCond.holds cd x = false) (hp : pc + 3 = pc') (hr : Steps tb e below (T.setTop (mkF m pc' L S)) target) : Steps tb e below (T.setTop (mkF m pc L (.int x :: S))) target := by subst hp; exact XS.ifNo h hx rfl hd rfl hc hr
theorem y_icmpYes {tb : Tables} [Ours tb] {e : Env} {below : List Frame} {T target : State} {m : MethodId} {c : Code} (h : At T m c below) (hx : tb.exec = Jvm.exec) {pc pc' : Nat} {L : Array Slot} {S : List Value} {cd : ClassFile.Cond} {x y : Int32} {o : Int} (hd : decode c.code pc = .ok (.if_icmp cd o, 3)) (hc : if_icmp.holds cd x y = true) (ho : 0 ≤ (pc : Int) + o) (hp : ((pc : Int) + o).toNat = pc') (hr : Steps tb e below (T.setTop (mkF m pc' L S)) target) : Steps tb e below (T.setTop (mkF m pc L (.int y :: .int x :: S))) target := XS.icmpYes h hx rfl rfl hd rfl hc ho hp hr
theorem y_icmpNo {tb : Tables} [Ours tb] {e : Env} {below : List Frame} {T target : State} {m : MethodId} {c : Code} (h : At T m c below) (hx : tb.exec = Jvm.exec) {pc pc' : Nat} {L : Array Slot} {S : List Value} {cd : ClassFile.Cond} {x y : Int32} {o : Int} (hd : decode c.code pc = .ok (.if_icmp cd o, 3)) (hc : if_icmp.holds cd x y = false) (hp : pc + 3 = pc') (hr : Steps tb e below (T.setTop (mkF m pc' L S)) target) : Steps tb e below (T.setTop (mkF m pc L (.int y :: .int x :: S))) target := by subst hp; exact XS.icmpNo h hx rfl hd rfl hc hr
theorem own_eqR {args : Array Value} {first s : State} {o : Option Outcome} {idx : List Nat} {a b : Term} {y : Addr} (h : (Jvm.Cond.eq a b).value args first o s idx = some true) (hb : b.eval args first o idx s = some (.ref y)) : a.eval args first o idx s = some (.ref y) := by
  obtain ⟨x, z, h1, h2, k1, k2⟩ := cmp_v (Or.inl h)
  cases hb.symm.trans h2
  have q := gotT (eq_R h1 h2 k2.2 k2.1) h
  rw [h1, q]
theorem own_len {args : Array Value} {first s : State} {o : Option Outcome} {idx : List Nat} {t : Term} {a : Addr} {c : Cell} {k : Int32} (ht : t.eval args first o idx s = some (.ref a)) (ha : s.arrayAt? a = some c) (h : (Term.length t).eval args first o idx s = some (.int k)) : c.slots.size < 2 ^ 31 ∧ c.slots.size.toInt32 = k := by
  simp [Term.eval, ht, ha] at h
  exact h
theorem own_sz {c : Cell} {z : Int32} (h : c.slots.size < 2 ^ 31 ∧ c.slots.size.toInt32 = z) : c.slots.size = z.toNatClampNeg := by
  rw [← h.2]; simp only [Int32.toNatClampNeg, len_toInt h.1]; rfl
theorem own_nar01 {x : Int32} (h : x = 0 ∨ x = 1) : nar .boolean x = x := by rcases h with rfl | rfl <;> rfl
theorem own_ite01 {c : Prop} [Decidable c] : (if c then (0 : Int32) else (1 : Int32)) = 0 ∨ (if c then (0 : Int32) else (1 : Int32)) = 1 := by split <;> simp
theorem own_narI {c : Prop} [Decidable c] : nar .boolean (if c then (1 : Int32) else (0 : Int32)) = (if c then (1 : Int32) else (0 : Int32)) := by split <;> rfl
theorem own_ne1 (a : Int32) : ¬ a = a + 1 := fun h => by
  have q := c_iadd a 1
  rw [← h] at q
  have e : (1 : Int32).toInt = 1 := rfl
  omega
theorem own_of {x k : Int32} (h : x.toInt = k.toInt) : x = k := Int32.toInt_inj.mp h
theorem own_and3 (k : Int32) : k &&& 3 = 0 ∨ k &&& 3 = 1 ∨ k &&& 3 = 2 ∨ k &&& 3 = 3 := by
  have q : (k &&& 3).toInt = k.toInt % 4 := c_mask k 3 2 (by decide) (by decide)
  generalize k &&& 3 = x at q ⊢
  have : x.toInt = 0 ∨ x.toInt = 1 ∨ x.toInt = 2 ∨ x.toInt = 3 := by omega
  rcases this with h | h | h | h
  · exact Or.inl (own_of h)
  · exact Or.inr (Or.inl (own_of h))
  · exact Or.inr (Or.inr (Or.inl (own_of h)))
  · exact Or.inr (Or.inr (Or.inr (own_of h)))
theorem own_and1 (k : Int32) : k &&& 1 = 0 ∨ k &&& 1 = 1 := by
  have q : (k &&& 1).toInt = k.toInt % 2 := c_mask k 1 1 (by decide) (by decide)
  generalize k &&& 1 = x at q ⊢
  have : x.toInt = 0 ∨ x.toInt = 1 := by omega
  exact this.imp own_of own_of
def tb_SEQUENCE_LENGTH (x : Int32) : Int32 := if x < (128 : Int32) then (1 : Int32) else if x < (194 : Int32) then (0 : Int32) else if x < (224 : Int32) then (2 : Int32) else if x < (240 : Int32) then (3 : Int32) else if x < (245 : Int32) then (4 : Int32) else (0 : Int32)
def tb_SECOND_LOW (x : Int32) : Int32 := if x < (194 : Int32) then (0 : Int32) else if x < (224 : Int32) then (128 : Int32) else if x < (225 : Int32) then (160 : Int32) else if x < (240 : Int32) then (128 : Int32) else if x < (241 : Int32) then (144 : Int32) else if x < (245 : Int32) then (128 : Int32) else (0 : Int32)
def tb_SECOND_HIGH (x : Int32) : Int32 := if x < (194 : Int32) then (0 : Int32) else if x < (237 : Int32) then (191 : Int32) else if x < (238 : Int32) then (159 : Int32) else if x < (244 : Int32) then (191 : Int32) else if x < (245 : Int32) then (143 : Int32) else (0 : Int32)
theorem own_b (y : Int32) : ¬ (y &&& (255 : Int32)) < 0 ∧ (y &&& (255 : Int32)) < (256 : Int32) := by
  have q : (y &&& (255 : Int32)).toInt = y.toInt % 256 := c_mask y 255 8 (by decide) (by decide)
  have e0 : (0 : Int32).toInt = 0 := rfl
  have e1 : (256 : Int32).toInt = 256 := rfl
  simp only [Int32.lt_iff_toInt_lt]; omega
theorem own_w4 (x : Int32) : ¬ (4 : Int32) < tb_SEQUENCE_LENGTH x := by
  unfold tb_SEQUENCE_LENGTH
  repeat' split
  all_goals decide
theorem own_nle {a b : Int32} (h : b < a) : ¬ a ≤ b := by
  rw [Int32.le_iff_toInt_le]; rw [Int32.lt_iff_toInt_lt] at h; omega
theorem own_sq {j lo hi : Int32} (h1 : ¬ j < lo) (h2 : j < hi) (e : hi.toInt = lo.toInt + 1) : j = lo := by
  rw [Int32.lt_iff_toInt_lt] at h1 h2; exact own_of (by omega)
theorem own_tb_SEQUENCE_LENGTH (j x : Int32) (hj : ¬ j < 0) (hj2 : j < (256 : Int32)) (c0 : (128 : Int32) ≤ j ∨ x = (1 : Int32)) (c1 : j < (128 : Int32) ∨ ¬ j < (194 : Int32) ∨ x = (0 : Int32)) (c2 : j < (194 : Int32) ∨ ¬ j < (224 : Int32) ∨ x = (2 : Int32)) (c3 : j < (224 : Int32) ∨ ¬ j < (240 : Int32) ∨ x = (3 : Int32)) (c4 : j < (240 : Int32) ∨ ¬ j < (245 : Int32) ∨ x = (4 : Int32)) (c5 : j < (245 : Int32) ∨ x = (0 : Int32)) : x = tb_SEQUENCE_LENGTH j := by
  unfold tb_SEQUENCE_LENGTH
  by_cases h0 : j < (128 : Int32)
  · rw [if_pos h0]; exact c0.resolve_left (own_nle h0)
  rw [if_neg h0]
  by_cases h1 : j < (194 : Int32)
  · rw [if_pos h1]; exact (c1.resolve_left h0).resolve_left (fun q => q h1)
  rw [if_neg h1]
  by_cases h2 : j < (224 : Int32)
  · rw [if_pos h2]; exact (c2.resolve_left h1).resolve_left (fun q => q h2)
  rw [if_neg h2]
  by_cases h3 : j < (240 : Int32)
  · rw [if_pos h3]; exact (c3.resolve_left h2).resolve_left (fun q => q h3)
  rw [if_neg h3]
  by_cases h4 : j < (245 : Int32)
  · rw [if_pos h4]; exact (c4.resolve_left h3).resolve_left (fun q => q h4)
  rw [if_neg h4]
  exact c5.resolve_left h4
theorem own_tb_SECOND_LOW (j x : Int32) (hj : ¬ j < 0) (hj2 : j < (256 : Int32)) (c0 : (194 : Int32) ≤ j ∨ x = (0 : Int32)) (c1 : j < (194 : Int32) ∨ ¬ j < (224 : Int32) ∨ x = (128 : Int32)) (c2 : j = (224 : Int32) → x = (160 : Int32)) (c3 : j < (225 : Int32) ∨ ¬ j < (240 : Int32) ∨ x = (128 : Int32)) (c4 : j = (240 : Int32) → x = (144 : Int32)) (c5 : j < (241 : Int32) ∨ ¬ j < (245 : Int32) ∨ x = (128 : Int32)) (c6 : j < (245 : Int32) ∨ x = (0 : Int32)) : x = tb_SECOND_LOW j := by
  unfold tb_SECOND_LOW
  by_cases h0 : j < (194 : Int32)
  · rw [if_pos h0]; exact c0.resolve_left (own_nle h0)
  rw [if_neg h0]
  by_cases h1 : j < (224 : Int32)
  · rw [if_pos h1]; exact (c1.resolve_left h0).resolve_left (fun q => q h1)
  rw [if_neg h1]
  by_cases h2 : j < (225 : Int32)
  · rw [if_pos h2]; exact c2 (own_sq h1 h2 rfl)
  rw [if_neg h2]
  by_cases h3 : j < (240 : Int32)
  · rw [if_pos h3]; exact (c3.resolve_left h2).resolve_left (fun q => q h3)
  rw [if_neg h3]
  by_cases h4 : j < (241 : Int32)
  · rw [if_pos h4]; exact c4 (own_sq h3 h4 rfl)
  rw [if_neg h4]
  by_cases h5 : j < (245 : Int32)
  · rw [if_pos h5]; exact (c5.resolve_left h4).resolve_left (fun q => q h5)
  rw [if_neg h5]
  exact c6.resolve_left h5
theorem own_tb_SECOND_HIGH (j x : Int32) (hj : ¬ j < 0) (hj2 : j < (256 : Int32)) (c0 : (194 : Int32) ≤ j ∨ x = (0 : Int32)) (c1 : j < (194 : Int32) ∨ ¬ j < (237 : Int32) ∨ x = (191 : Int32)) (c2 : j = (237 : Int32) → x = (159 : Int32)) (c3 : j < (238 : Int32) ∨ ¬ j < (244 : Int32) ∨ x = (191 : Int32)) (c4 : j = (244 : Int32) → x = (143 : Int32)) (c5 : j < (245 : Int32) ∨ x = (0 : Int32)) : x = tb_SECOND_HIGH j := by
  unfold tb_SECOND_HIGH
  by_cases h0 : j < (194 : Int32)
  · rw [if_pos h0]; exact c0.resolve_left (own_nle h0)
  rw [if_neg h0]
  by_cases h1 : j < (237 : Int32)
  · rw [if_pos h1]; exact (c1.resolve_left h0).resolve_left (fun q => q h1)
  rw [if_neg h1]
  by_cases h2 : j < (238 : Int32)
  · rw [if_pos h2]; exact c2 (own_sq h1 h2 rfl)
  rw [if_neg h2]
  by_cases h3 : j < (244 : Int32)
  · rw [if_pos h3]; exact (c3.resolve_left h2).resolve_left (fun q => q h3)
  rw [if_neg h3]
  by_cases h4 : j < (245 : Int32)
  · rw [if_pos h4]; exact c4 (own_sq h3 h4 rfl)
  rw [if_neg h4]
  exact c5.resolve_left h4
def fr1a0 (pi2 : Int32) (yW : Int32) (yL : Int32) (yH : Int32) (y1 : Int32) (y2 : Int32) (y3 : Int32) : Int32 := (if (1 : Int32) < yW then (if (1 : Int32) < pi2 then (if (y1 &&& (255 : Int32)) < yL then (if (1 : Int32) = yW then yW else (-1 : Int32)) else (if yH < (y1 &&& (255 : Int32)) then (if (1 : Int32) = yW then yW else (-1 : Int32)) else (if (2 : Int32) < yW then (if (2 : Int32) < pi2 then (if (y2 &&& (255 : Int32)) < (128 : Int32) then (if (2 : Int32) = yW then yW else (-2 : Int32)) else (if (191 : Int32) < (y2 &&& (255 : Int32)) then (if (2 : Int32) = yW then yW else (-2 : Int32)) else (if (3 : Int32) < yW then (if (3 : Int32) < pi2 then (if (y3 &&& (255 : Int32)) < (128 : Int32) then (if (3 : Int32) = yW then yW else (-3 : Int32)) else (if (191 : Int32) < (y3 &&& (255 : Int32)) then (if (3 : Int32) = yW then yW else (-3 : Int32)) else (if (4 : Int32) = yW then yW else (-4 : Int32)))) else (if (3 : Int32) = yW then yW else (-3 : Int32))) else (if (3 : Int32) = yW then yW else (-3 : Int32))))) else (if (2 : Int32) = yW then yW else (-2 : Int32))) else (if (2 : Int32) = yW then yW else (-2 : Int32))))) else (if (1 : Int32) = yW then yW else (-1 : Int32))) else (if (1 : Int32) = yW then yW else (-1 : Int32)))
theorem d1_0 : decode prog_19_method_13_code 0 = .ok (.aload_n 0, 1) := by decide +kernel
theorem d1_1 : decode prog_19_method_13_code 1 = .ok (.iload_n 1, 1) := by decide +kernel
theorem d1_2 : decode prog_19_method_13_code 2 = .ok (.baload, 1) := by decide +kernel
theorem d1_3 : decode prog_19_method_13_code 3 = .ok (.sipush 255, 3) := by decide +kernel
theorem d1_6 : decode prog_19_method_13_code 6 = .ok (.iand, 1) := by decide +kernel
theorem d1_7 : decode prog_19_method_13_code 7 = .ok (.istore_n 3, 1) := by decide +kernel
theorem d1_8 : decode prog_19_method_13_code 8 = .ok (.getstatic 9, 3) := by decide +kernel
theorem d1_11 : decode prog_19_method_13_code 11 = .ok (.iload_n 3, 1) := by decide +kernel
theorem d1_12 : decode prog_19_method_13_code 12 = .ok (.baload, 1) := by decide +kernel
theorem d1_13 : decode prog_19_method_13_code 13 = .ok (.istore 4, 2) := by decide +kernel
theorem d1_15 : decode prog_19_method_13_code 15 = .ok (.getstatic 13, 3) := by decide +kernel
theorem d1_18 : decode prog_19_method_13_code 18 = .ok (.iload_n 3, 1) := by decide +kernel
theorem d1_19 : decode prog_19_method_13_code 19 = .ok (.iaload, 1) := by decide +kernel
theorem d1_20 : decode prog_19_method_13_code 20 = .ok (.istore 5, 2) := by decide +kernel
theorem d1_22 : decode prog_19_method_13_code 22 = .ok (.getstatic 17, 3) := by decide +kernel
theorem d1_25 : decode prog_19_method_13_code 25 = .ok (.iload_n 3, 1) := by decide +kernel
theorem d1_26 : decode prog_19_method_13_code 26 = .ok (.iaload, 1) := by decide +kernel
theorem d1_27 : decode prog_19_method_13_code 27 = .ok (.istore 6, 2) := by decide +kernel
theorem d1_29 : decode prog_19_method_13_code 29 = .ok (.iconst 1, 1) := by decide +kernel
theorem d1_30 : decode prog_19_method_13_code 30 = .ok (.istore 7, 2) := by decide +kernel
theorem d1_32 : decode prog_19_method_13_code 32 = .ok (.iload 7, 2) := by decide +kernel
theorem d1_34 : decode prog_19_method_13_code 34 = .ok (.iload 4, 2) := by decide +kernel
theorem d1_36 : decode prog_19_method_13_code 36 = .ok (.if_icmp .ge 56, 3) := by decide +kernel
theorem d1_39 : decode prog_19_method_13_code 39 = .ok (.iload_n 1, 1) := by decide +kernel
theorem d1_40 : decode prog_19_method_13_code 40 = .ok (.iload 7, 2) := by decide +kernel
theorem d1_42 : decode prog_19_method_13_code 42 = .ok (.iadd, 1) := by decide +kernel
theorem d1_43 : decode prog_19_method_13_code 43 = .ok (.iload_n 2, 1) := by decide +kernel
theorem d1_44 : decode prog_19_method_13_code 44 = .ok (.if_icmp .ge 48, 3) := by decide +kernel
theorem d1_47 : decode prog_19_method_13_code 47 = .ok (.aload_n 0, 1) := by decide +kernel
theorem d1_48 : decode prog_19_method_13_code 48 = .ok (.iload_n 1, 1) := by decide +kernel
theorem d1_49 : decode prog_19_method_13_code 49 = .ok (.iload 7, 2) := by decide +kernel
theorem d1_51 : decode prog_19_method_13_code 51 = .ok (.iadd, 1) := by decide +kernel
theorem d1_52 : decode prog_19_method_13_code 52 = .ok (.baload, 1) := by decide +kernel
theorem d1_53 : decode prog_19_method_13_code 53 = .ok (.sipush 255, 3) := by decide +kernel
theorem d1_56 : decode prog_19_method_13_code 56 = .ok (.iand, 1) := by decide +kernel
theorem d1_57 : decode prog_19_method_13_code 57 = .ok (.istore 8, 2) := by decide +kernel
theorem d1_59 : decode prog_19_method_13_code 59 = .ok (.iload 8, 2) := by decide +kernel
theorem d1_61 : decode prog_19_method_13_code 61 = .ok (.iload 5, 2) := by decide +kernel
theorem d1_63 : decode prog_19_method_13_code 63 = .ok (.if_icmp .lt 29, 3) := by decide +kernel
theorem d1_66 : decode prog_19_method_13_code 66 = .ok (.iload 8, 2) := by decide +kernel
theorem d1_68 : decode prog_19_method_13_code 68 = .ok (.iload 6, 2) := by decide +kernel
theorem d1_70 : decode prog_19_method_13_code 70 = .ok (.if_icmp .le 6, 3) := by decide +kernel
theorem d1_73 : decode prog_19_method_13_code 73 = .ok (.goto 19, 3) := by decide +kernel
theorem d1_76 : decode prog_19_method_13_code 76 = .ok (.iinc 7 1, 3) := by decide +kernel
theorem d1_79 : decode prog_19_method_13_code 79 = .ok (.sipush 128, 3) := by decide +kernel
theorem d1_82 : decode prog_19_method_13_code 82 = .ok (.istore 5, 2) := by decide +kernel
theorem d1_84 : decode prog_19_method_13_code 84 = .ok (.sipush 191, 3) := by decide +kernel
theorem d1_87 : decode prog_19_method_13_code 87 = .ok (.istore 6, 2) := by decide +kernel
theorem d1_89 : decode prog_19_method_13_code 89 = .ok (.goto (-57), 3) := by decide +kernel
theorem d1_92 : decode prog_19_method_13_code 92 = .ok (.iload 7, 2) := by decide +kernel
theorem d1_94 : decode prog_19_method_13_code 94 = .ok (.iload 4, 2) := by decide +kernel
theorem d1_96 : decode prog_19_method_13_code 96 = .ok (.if_icmp .ne 8, 3) := by decide +kernel
theorem d1_99 : decode prog_19_method_13_code 99 = .ok (.iload 4, 2) := by decide +kernel
theorem d1_101 : decode prog_19_method_13_code 101 = .ok (.goto 6, 3) := by decide +kernel
theorem d1_104 : decode prog_19_method_13_code 104 = .ok (.iload 7, 2) := by decide +kernel
theorem d1_106 : decode prog_19_method_13_code 106 = .ok (.ineg, 1) := by decide +kernel
theorem d1_107 : decode prog_19_method_13_code 107 = .ok (.ireturn, 1) := by decide +kernel
theorem pn_com_example_strict_codec_strictcodec_Utf8Grammar : plainName "com/example/strict_codec/strictcodec/Utf8Grammar" = true := by first | (simp [plainName, overriddenIn]; done) | decide +kernel
theorem ef_1a0 (m : MethodId) (x0 : Addr) (x2 : Int32) : entryFrame m #[(.ref x0), (.int (0 : Int32)), (.int x2)] 9 = mkF m 0 #[rv x0, iv (0 : Int32), iv x2, .unset, .unset, .unset, .unset, .unset, .unset] [] := by first | (simp [entryFrame, mkF, argsToLocals, Value.category]; done) | rfl
def Q1a0 (Z : State) (pr0 : Addr) (pi2 : Int32) (w_SEQUENCE_LENGTH : Addr) (w_SECOND_LOW : Addr) (w_SECOND_HIGH : Addr) (yW : Int32) (yL : Int32) (yH : Int32) (kk_pr0 : ClassId) (y0 : Int32) (y1 : Int32) (y2 : Int32) (y3 : Int32) (y4 : Int32) (y5 : Int32) (cc_w_SEQUENCE_LENGTH : Cell) (cc_w_SECOND_LOW : Cell) (cc_w_SECOND_HIGH : Cell) (h0 : Heap) (n0 : Nat) (v : Option Value) (h : Heap) (L : List Loc) : Prop := v = some (.int (fr1a0 pi2 yW yL yH y1 y2 y3)) ∧ Fr n0 L ∧ h = h0
set_option maxRecDepth 65536 in
set_option maxHeartbeats 40000000 in
theorem rm1a0 (l : Launch) (Z : State) (a0 : Array Value) (hw : ∀ d ∈ tables_1, d.before a0 Z = true) (ws : List Jvm.Cond) (pr0 : Addr) (pi2 : Int32) (w_SEQUENCE_LENGTH : Addr) (w_SECOND_LOW : Addr) (w_SECOND_HIGH : Addr) (yW : Int32) (yL : Int32) (yH : Int32) (kk_pr0 : ClassId) (y0 : Int32) (y1 : Int32) (y2 : Int32) (y3 : Int32) (y4 : Int32) (y5 : Int32) (cc_w_SEQUENCE_LENGTH : Cell) (cc_w_SECOND_LOW : Cell) (cc_w_SECOND_HIGH : Cell) (h0 : Heap) (n0 : Nat) (O0 : Old Z n0 h0) (S_SEQUENCE_LENGTH : Sta Z Z.heap "com/example/strict_codec/strictcodec/Utf8Grammar" "SEQUENCE_LENGTH" "[B" (.ref w_SEQUENCE_LENGTH)) (S_SECOND_LOW : Sta Z Z.heap "com/example/strict_codec/strictcodec/Utf8Grammar" "SECOND_LOW" "[I" (.ref w_SECOND_LOW)) (S_SECOND_HIGH : Sta Z Z.heap "com/example/strict_codec/strictcodec/Utf8Grammar" "SECOND_HIGH" "[I" (.ref w_SECOND_HIGH)) (IN_SEQUENCE_LENGTH : ¬ ((y0 &&& (255 : Int32)) < 0 ∨ cc_w_SEQUENCE_LENGTH.slots.size ≤ (y0 &&& (255 : Int32)).toNatClampNeg)) (AT_SEQUENCE_LENGTH : cc_w_SEQUENCE_LENGTH.slots[(y0 &&& (255 : Int32)).toNatClampNeg]? = some (.int yW)) (IN_SECOND_LOW : ¬ ((y0 &&& (255 : Int32)) < 0 ∨ cc_w_SECOND_LOW.slots.size ≤ (y0 &&& (255 : Int32)).toNatClampNeg)) (AT_SECOND_LOW : cc_w_SECOND_LOW.slots[(y0 &&& (255 : Int32)).toNatClampNeg]? = some (.int yL)) (IN_SECOND_HIGH : ¬ ((y0 &&& (255 : Int32)) < 0 ∨ cc_w_SECOND_HIGH.slots.size ≤ (y0 &&& (255 : Int32)).toNatClampNeg)) (AT_SECOND_HIGH : cc_w_SECOND_HIGH.slots[(y0 &&& (255 : Int32)).toNatClampNeg]? = some (.int yH)) (W4 : ¬ (4 : Int32) < yW) (V_pr0 : Arv Z h0 pr0 kk_pr0 .byte (6 : Int32) [(.int y0), (.int y1), (.int y2), (.int y3), (.int y4), (.int y5)] (.int (0 : Int32))) (AR_w_SEQUENCE_LENGTH : Arr Z Z.heap w_SEQUENCE_LENGTH cc_w_SEQUENCE_LENGTH .byte) (AR_w_SECOND_LOW : Arr Z Z.heap w_SECOND_LOW cc_w_SECOND_LOW .int) (AR_w_SECOND_HIGH : Arr Z Z.heap w_SECOND_HIGH cc_w_SECOND_HIGH .int) :
    MetFree l (⟨"com/example/strict_codec/strictcodec/Utf8Grammar", "span", "([BII)I"⟩ : MethodName) (head1 (Jvm.Cond.code (⟨"com/example/strict_codec/strictcodec/Utf8Grammar", "span", "([BII)I"⟩ : MethodName) prog_19_method_13_code 9 (some .int) :: ws) ({ frames := 0, cells := 0, slots := 0, locals := 0 } : Room)) (fun a U => a = #[(.ref pr0), (.int (0 : Int32)), (.int pi2)] ∧ Z.Warmed39 U.vm ∧ U.heap = h0) (fun _ _ _ _ _ => True) (fun _ U o U' => ∃ v L, o = .returned v ∧ Q1a0 Z pr0 pi2 w_SEQUENCE_LENGTH w_SECOND_LOW w_SECOND_HIGH yW yL yH kk_pr0 y0 y1 y2 y3 y4 y5 cc_w_SEQUENCE_LENGTH cc_w_SECOND_LOW cc_w_SECOND_HIGH h0 n0 v U'.heap L ∧ FrameEnd U o U' L ({ frames := 0, cells := 0, slots := 0, locals := 0 } : Room).cells ({ frames := 0, cells := 0, slots := 0, locals := 0 } : Room).slots) := by
  refine MetFree.of_bodySF (plainFor_of_name pn_com_example_strict_codec_strictcodec_Utf8Grammar) hisR ?_
  intro p e s m args below meth c s₁ Bd hml0 hP hK
  obtain ⟨rfl, hZ, hh⟩ := hP
  have hx := Bd.exec
  have hby := Bd.bytes
  have hml : c.maxLocals = 9 := hml0
  have hown : s.vm.findClass "com/example/strict_codec/strictcodec/Utf8Grammar" = some m.cls := findClass_of_methodNamed Bd.named
  have hnm := (name_of_methodNamed Bd.named Bd.method).1
  have X0 : Stand p l e ({ frames := 0, cells := 0, slots := 0, locals := 0 } : Room) s m #[(.ref pr0), (.int (0 : Int32)), (.int pi2)] below meth c s₁ [] 0 0 := Stand.of_body Bd
  have e0 : s₁.heap = h0 := by rw [← hh, Bd.state]; rfl
  have N0 := Fr.nil n0
  obtain ⟨Go, hGo⟩ : ∃ P : State → Prop, ∀ t, P t ↔ Steps p.tables e below (s₁.setTop (entryFrame m #[(.ref pr0), (.int (0 : Int32)), (.int pi2)] 9)) t := ⟨_, fun _ => Iff.rfl⟩
  have pre0 : ∀ t, Steps p.tables e below (s₁.setTop (mkF m 0 #[rv pr0, iv (0 : Int32), iv pi2, .unset, .unset, .unset, .unset, .unset, .unset] [])) t → Go t := fun t k => (hGo t).mpr (castTop (ef_1a0 m pr0 pi2) k)
  have pre1 : ∀ t, Steps p.tables e below (s₁.setTop (mkF m 2 #[rv pr0, iv (0 : Int32), iv pi2, .unset, .unset, .unset, .unset, .unset, .unset] [(.int (0 : Int32)), (.ref pr0)])) t → Go t := fun t kt => pre0 t (by
      refine y_aloadN X0.here hx (hb hby d1_0) rfl rfl (pc' := 1) rfl ?_
      refine y_iloadN X0.here hx (hb hby d1_1) rfl (pc' := 2) rfl ?_
      exact kt)
  obtain ⟨c2, Ar2, q2, S2, M2, H2, G2⟩ := id V_pr0
  have hin2 : ¬ ((0 : Int32) < 0 ∨ c2.slots.size ≤ ((0 : Int32)).toNatClampNeg) := inb_of S2 ⟨by decide, by decide⟩
  have hat2 : c2.slots[((0 : Int32)).toNatClampNeg]? = some (.int y0) := Has.at H2 hin2 rfl
  obtain ⟨x3, hx3⟩ : ∃ z : Int32, z = (y0 &&& (255 : Int32)) := ⟨_, rfl⟩
  have pre4 : ∀ t, Steps p.tables e below (s₁.setTop (mkF m 8 #[rv pr0, iv (0 : Int32), iv pi2, iv x3, .unset, .unset, .unset, .unset, .unset] [])) t → Go t := fun t kt => pre1 t (by
      subst hx3
      refine X0.baloadBytes hx (j := (0 : Int32)) (v := (.int y0)) (by rw [e0]; exact Ar2.1) (State.isArrayOf_alike hZ.alike Ar2.2.1) Ar2.2.2 hin2 hat2 (g := (mkF m 2 #[rv pr0, iv (0 : Int32), iv pi2, .unset, .unset, .unset, .unset, .unset, .unset] [(.int (0 : Int32)), (.ref pr0)])) rfl rfl (hb hby d1_2) _ ?_
      show Steps p.tables e below (s₁.setTop (mkF m 3 #[rv pr0, iv (0 : Int32), iv pi2, .unset, .unset, .unset, .unset, .unset, .unset] [(.int y0)])) _
      refine y_sipush X0.here hx (hb hby d1_3) (v := (255 : Int32)) rfl (pc' := 6) rfl ?_
      refine y_iand X0.here hx (hb hby d1_6) rfl (pc' := 7) rfl ?_
      refine y_istoreN X0.here hx (hb hby d1_7) (l' := #[rv pr0, iv (0 : Int32), iv pi2, iv (y0 &&& (255 : Int32)), .unset, .unset, .unset, .unset, .unset]) rfl (pc' := 8) rfl ?_
      exact kt)
  obtain ⟨T5, X5, e5, st5⟩ := getS2 X0 hx hZ hown (host := "") (Or.inl (hw _ (List.mem_of_getElem? (i := 6) rfl))) Via.refl e0 (S_SEQUENCE_LENGTH.ext O0.2) (g := (mkF m 8 #[rv pr0, iv (0 : Int32), iv pi2, iv x3, .unset, .unset, .unset, .unset, .unset] [])) rfl (hb hby d1_8)
  have pre6 : ∀ t, Steps p.tables e below (T5.setTop (mkF m 11 #[rv pr0, iv (0 : Int32), iv pi2, iv x3, .unset, .unset, .unset, .unset, .unset] [(.ref w_SEQUENCE_LENGTH)])) t → Go t := fun t kt => pre4 t (st5 t kt)
  have pre7 : ∀ t, Steps p.tables e below (T5.setTop (mkF m 12 #[rv pr0, iv (0 : Int32), iv pi2, iv x3, .unset, .unset, .unset, .unset, .unset] [(.int x3), (.ref w_SEQUENCE_LENGTH)])) t → Go t := fun t kt => pre6 t (by
      refine y_iloadN X5.here hx (hb hby d1_11) rfl (pc' := 12) rfl ?_
      exact kt)
  have A8 := AR_w_SEQUENCE_LENGTH.ext O0.2
  have pre9 : ∀ t, Steps p.tables e below (T5.setTop (mkF m 13 #[rv pr0, iv (0 : Int32), iv pi2, iv x3, .unset, .unset, .unset, .unset, .unset] [(.int yW)])) t → Go t := fun t kt => pre7 t (by
      refine X5.baloadBytes hx (j := x3) (v := (.int yW)) (by rw [e5]; exact A8.1) (State.isArrayOf_alike hZ.alike A8.2.1) A8.2.2 (by rw [hx3]; exact IN_SEQUENCE_LENGTH) (by rw [hx3]; exact AT_SEQUENCE_LENGTH) (g := (mkF m 12 #[rv pr0, iv (0 : Int32), iv pi2, iv x3, .unset, .unset, .unset, .unset, .unset] [(.int x3), (.ref w_SEQUENCE_LENGTH)])) rfl rfl (hb hby d1_12) _ ?_
      show Steps p.tables e below (T5.setTop (mkF m 13 #[rv pr0, iv (0 : Int32), iv pi2, iv x3, .unset, .unset, .unset, .unset, .unset] [(.int yW)])) _
      exact kt)
  have pre10 : ∀ t, Steps p.tables e below (T5.setTop (mkF m 15 #[rv pr0, iv (0 : Int32), iv pi2, iv x3, iv yW, .unset, .unset, .unset, .unset] [])) t → Go t := fun t kt => pre9 t (by
      refine y_istore X5.here hx (hb hby d1_13) (l' := #[rv pr0, iv (0 : Int32), iv pi2, iv x3, iv yW, .unset, .unset, .unset, .unset]) rfl (pc' := 15) rfl ?_
      exact kt)
  obtain ⟨T11, X11, e11, st11⟩ := getS2 X5 hx hZ hown (host := "") (Or.inl (hw _ (List.mem_of_getElem? (i := 8) rfl))) Via.refl e5 (S_SECOND_LOW.ext O0.2) (g := (mkF m 15 #[rv pr0, iv (0 : Int32), iv pi2, iv x3, iv yW, .unset, .unset, .unset, .unset] [])) rfl (hb hby d1_15)
  have pre12 : ∀ t, Steps p.tables e below (T11.setTop (mkF m 18 #[rv pr0, iv (0 : Int32), iv pi2, iv x3, iv yW, .unset, .unset, .unset, .unset] [(.ref w_SECOND_LOW)])) t → Go t := fun t kt => pre10 t (st11 t kt)
  have pre13 : ∀ t, Steps p.tables e below (T11.setTop (mkF m 19 #[rv pr0, iv (0 : Int32), iv pi2, iv x3, iv yW, .unset, .unset, .unset, .unset] [(.int x3), (.ref w_SECOND_LOW)])) t → Go t := fun t kt => pre12 t (by
      refine y_iloadN X11.here hx (hb hby d1_18) rfl (pc' := 19) rfl ?_
      exact kt)
  have A14 := AR_w_SECOND_LOW.ext O0.2
  have pre15 : ∀ t, Steps p.tables e below (T11.setTop (mkF m 20 #[rv pr0, iv (0 : Int32), iv pi2, iv x3, iv yW, .unset, .unset, .unset, .unset] [(.int yL)])) t → Go t := fun t kt => pre13 t (by
      refine X11.iaload hx (j := x3) (v := (.int yL)) (by rw [e11]; exact A14.1) (State.isArrayOf_alike hZ.alike A14.2.1) A14.2.2 (by rw [hx3]; exact IN_SECOND_LOW) (by rw [hx3]; exact AT_SECOND_LOW) (g := (mkF m 19 #[rv pr0, iv (0 : Int32), iv pi2, iv x3, iv yW, .unset, .unset, .unset, .unset] [(.int x3), (.ref w_SECOND_LOW)])) rfl rfl (hb hby d1_19) _ ?_
      show Steps p.tables e below (T11.setTop (mkF m 20 #[rv pr0, iv (0 : Int32), iv pi2, iv x3, iv yW, .unset, .unset, .unset, .unset] [(.int yL)])) _
      exact kt)
  have pre16 : ∀ t, Steps p.tables e below (T11.setTop (mkF m 22 #[rv pr0, iv (0 : Int32), iv pi2, iv x3, iv yW, iv yL, .unset, .unset, .unset] [])) t → Go t := fun t kt => pre15 t (by
      refine y_istore X11.here hx (hb hby d1_20) (l' := #[rv pr0, iv (0 : Int32), iv pi2, iv x3, iv yW, iv yL, .unset, .unset, .unset]) rfl (pc' := 22) rfl ?_
      exact kt)
  obtain ⟨T17, X17, e17, st17⟩ := getS2 X11 hx hZ hown (host := "") (Or.inl (hw _ (List.mem_of_getElem? (i := 10) rfl))) Via.refl e11 (S_SECOND_HIGH.ext O0.2) (g := (mkF m 22 #[rv pr0, iv (0 : Int32), iv pi2, iv x3, iv yW, iv yL, .unset, .unset, .unset] [])) rfl (hb hby d1_22)
  have pre18 : ∀ t, Steps p.tables e below (T17.setTop (mkF m 25 #[rv pr0, iv (0 : Int32), iv pi2, iv x3, iv yW, iv yL, .unset, .unset, .unset] [(.ref w_SECOND_HIGH)])) t → Go t := fun t kt => pre16 t (st17 t kt)
  have pre19 : ∀ t, Steps p.tables e below (T17.setTop (mkF m 26 #[rv pr0, iv (0 : Int32), iv pi2, iv x3, iv yW, iv yL, .unset, .unset, .unset] [(.int x3), (.ref w_SECOND_HIGH)])) t → Go t := fun t kt => pre18 t (by
      refine y_iloadN X17.here hx (hb hby d1_25) rfl (pc' := 26) rfl ?_
      exact kt)
  have A20 := AR_w_SECOND_HIGH.ext O0.2
  have pre21 : ∀ t, Steps p.tables e below (T17.setTop (mkF m 27 #[rv pr0, iv (0 : Int32), iv pi2, iv x3, iv yW, iv yL, .unset, .unset, .unset] [(.int yH)])) t → Go t := fun t kt => pre19 t (by
      refine X17.iaload hx (j := x3) (v := (.int yH)) (by rw [e17]; exact A20.1) (State.isArrayOf_alike hZ.alike A20.2.1) A20.2.2 (by rw [hx3]; exact IN_SECOND_HIGH) (by rw [hx3]; exact AT_SECOND_HIGH) (g := (mkF m 26 #[rv pr0, iv (0 : Int32), iv pi2, iv x3, iv yW, iv yL, .unset, .unset, .unset] [(.int x3), (.ref w_SECOND_HIGH)])) rfl rfl (hb hby d1_26) _ ?_
      show Steps p.tables e below (T17.setTop (mkF m 27 #[rv pr0, iv (0 : Int32), iv pi2, iv x3, iv yW, iv yL, .unset, .unset, .unset] [(.int yH)])) _
      exact kt)
  have pre22 : ∀ t, Steps p.tables e below (T17.setTop (mkF m 36 #[rv pr0, iv (0 : Int32), iv pi2, iv x3, iv yW, iv yL, iv yH, iv (1 : Int32), .unset] [(.int yW), (.int (1 : Int32))])) t → Go t := fun t kt => pre21 t (by
      refine y_istore X17.here hx (hb hby d1_27) (l' := #[rv pr0, iv (0 : Int32), iv pi2, iv x3, iv yW, iv yL, iv yH, .unset, .unset]) rfl (pc' := 29) rfl ?_
      refine y_iconst X17.here hx (hb hby d1_29) (v := (1 : Int32)) rfl (pc' := 30) rfl ?_
      refine y_istore X17.here hx (hb hby d1_30) (l' := #[rv pr0, iv (0 : Int32), iv pi2, iv x3, iv yW, iv yL, iv yH, iv (1 : Int32), .unset]) rfl (pc' := 32) rfl ?_
      refine y_iload X17.here hx (hb hby d1_32) rfl (pc' := 34) rfl ?_
      refine y_iload X17.here hx (hb hby d1_34) rfl (pc' := 36) rfl ?_
      exact kt)
  by_cases hc36_23 : (1 : Int32) < yW
  · have pre24 : ∀ t, Steps p.tables e below (T17.setTop (mkF m 44 #[rv pr0, iv (0 : Int32), iv pi2, iv x3, iv yW, iv yL, iv yH, iv (1 : Int32), .unset] [(.int pi2), (.int (1 : Int32))])) t → Go t := fun t kt => pre22 t (by
        refine y_icmpNo X17.here hx (hb hby d1_36) (tlt hc36_23).2.1 (pc' := 39) rfl ?_
        refine y_iloadN X17.here hx (hb hby d1_39) rfl (pc' := 40) rfl ?_
        refine y_iload X17.here hx (hb hby d1_40) rfl (pc' := 42) rfl ?_
        refine y_iadd X17.here hx (hb hby d1_42) (z := (1 : Int32)) rfl (pc' := 43) rfl ?_
        refine y_iloadN X17.here hx (hb hby d1_43) rfl (pc' := 44) rfl ?_
        exact kt)
    by_cases hc44_25 : (1 : Int32) < pi2
    · have pre26 : ∀ t, Steps p.tables e below (T17.setTop (mkF m 52 #[rv pr0, iv (0 : Int32), iv pi2, iv x3, iv yW, iv yL, iv yH, iv (1 : Int32), .unset] [(.int (1 : Int32)), (.ref pr0)])) t → Go t := fun t kt => pre24 t (by
          refine y_icmpNo X17.here hx (hb hby d1_44) (tlt hc44_25).2.1 (pc' := 47) rfl ?_
          refine y_aloadN X17.here hx (hb hby d1_47) rfl rfl (pc' := 48) rfl ?_
          refine y_iloadN X17.here hx (hb hby d1_48) rfl (pc' := 49) rfl ?_
          refine y_iload X17.here hx (hb hby d1_49) rfl (pc' := 51) rfl ?_
          refine y_iadd X17.here hx (hb hby d1_51) (z := (1 : Int32)) rfl (pc' := 52) rfl ?_
          exact kt)
      obtain ⟨c27, Ar27, q27, S27, M27, H27, G27⟩ := id V_pr0
      have hin27 : ¬ ((1 : Int32) < 0 ∨ c27.slots.size ≤ ((1 : Int32)).toNatClampNeg) := inb_of S27 ⟨by decide, by decide⟩
      have hat27 : c27.slots[((1 : Int32)).toNatClampNeg]? = some (.int y1) := Has.at H27 hin27 rfl
      obtain ⟨x28, hx28⟩ : ∃ z : Int32, z = (y1 &&& (255 : Int32)) := ⟨_, rfl⟩
      have pre29 : ∀ t, Steps p.tables e below (T17.setTop (mkF m 59 #[rv pr0, iv (0 : Int32), iv pi2, iv x3, iv yW, iv yL, iv yH, iv (1 : Int32), iv x28] [])) t → Go t := fun t kt => pre26 t (by
          subst hx28
          refine X17.baloadBytes hx (j := (1 : Int32)) (v := (.int y1)) (by rw [e17]; exact Ar27.1) (State.isArrayOf_alike hZ.alike Ar27.2.1) Ar27.2.2 hin27 hat27 (g := (mkF m 52 #[rv pr0, iv (0 : Int32), iv pi2, iv x3, iv yW, iv yL, iv yH, iv (1 : Int32), .unset] [(.int (1 : Int32)), (.ref pr0)])) rfl rfl (hb hby d1_52) _ ?_
          show Steps p.tables e below (T17.setTop (mkF m 53 #[rv pr0, iv (0 : Int32), iv pi2, iv x3, iv yW, iv yL, iv yH, iv (1 : Int32), .unset] [(.int y1)])) _
          refine y_sipush X17.here hx (hb hby d1_53) (v := (255 : Int32)) rfl (pc' := 56) rfl ?_
          refine y_iand X17.here hx (hb hby d1_56) rfl (pc' := 57) rfl ?_
          refine y_istore X17.here hx (hb hby d1_57) (l' := #[rv pr0, iv (0 : Int32), iv pi2, iv x3, iv yW, iv yL, iv yH, iv (1 : Int32), iv (y1 &&& (255 : Int32))]) rfl (pc' := 59) rfl ?_
          exact kt)
      have pre30 : ∀ t, Steps p.tables e below (T17.setTop (mkF m 63 #[rv pr0, iv (0 : Int32), iv pi2, iv x3, iv yW, iv yL, iv yH, iv (1 : Int32), iv x28] [(.int yL), (.int x28)])) t → Go t := fun t kt => pre29 t (by
          refine y_iload X17.here hx (hb hby d1_59) rfl (pc' := 61) rfl ?_
          refine y_iload X17.here hx (hb hby d1_61) rfl (pc' := 63) rfl ?_
          exact kt)
      by_cases hc63_31 : x28 < yL
      · have pre32 : ∀ t, Steps p.tables e below (T17.setTop (mkF m 96 #[rv pr0, iv (0 : Int32), iv pi2, iv x3, iv yW, iv yL, iv yH, iv (1 : Int32), iv x28] [(.int yW), (.int (1 : Int32))])) t → Go t := fun t kt => pre30 t (by
            refine y_icmpYes X17.here hx (hb hby d1_63) (tlt hc63_31).1 (pc' := 92) (by decide) rfl ?_
            refine y_iload X17.here hx (hb hby d1_92) rfl (pc' := 94) rfl ?_
            refine y_iload X17.here hx (hb hby d1_94) rfl (pc' := 96) rfl ?_
            exact kt)
        by_cases hc96_33 : (1 : Int32) = yW
        · have pre34 : ∀ t, Steps p.tables e below (T17.setTop (mkF m 107 #[rv pr0, iv (0 : Int32), iv pi2, iv x3, iv yW, iv yL, iv yH, iv (1 : Int32), iv x28] [(.int yW)])) t → Go t := fun t kt => pre32 t (by
              refine y_icmpNo X17.here hx (hb hby d1_96) (teq hc96_33).2 (pc' := 99) rfl ?_
              refine y_iload X17.here hx (hb hby d1_99) rfl (pc' := 101) rfl ?_
              refine y_goto X17.here hx (hb hby d1_101) (pc' := 107) (by decide) rfl ?_
              exact kt)
          obtain ⟨fs, hr, hrun, hended, hW, hsame⟩ := X17.leave (v := some (.int yW)) (fun h => by rw [Bd.returns] at h; cases h)
          refine ⟨_, _, (hGo _).mp (pre34 _ ?_), hrun, hended, _, _, rfl, ?_, ⟨_, rfl⟩, hW, hsame.mono (by decide) (by decide)⟩
          · exact retOut X17 hx Bd.returns rfl (Or.inl ⟨rfl, Or.inl rfl, _, rfl⟩) (hb hby d1_107) hr
          · show Q1a0 Z pr0 pi2 w_SEQUENCE_LENGTH w_SECOND_LOW w_SECOND_HIGH yW yL yH kk_pr0 y0 y1 y2 y3 y4 y5 cc_w_SEQUENCE_LENGTH cc_w_SECOND_LOW cc_w_SECOND_HIGH h0 n0 _ T17.heap _
            rw [e17]
            subst hx3 hx28
            exact ⟨(by first | (simp only [fr1a0, if_pos hc36_23, if_pos hc44_25, if_pos hc63_31, if_pos hc96_33]; done) | (simp only [fr1a0, if_pos hc36_23, if_pos hc44_25, if_pos hc63_31, if_pos hc96_33]; exact rfl) | exact rfl), N0, rfl⟩
        · have pre35 : ∀ t, Steps p.tables e below (T17.setTop (mkF m 107 #[rv pr0, iv (0 : Int32), iv pi2, iv x3, iv yW, iv yL, iv yH, iv (1 : Int32), iv x28] [(.int (-1 : Int32))])) t → Go t := fun t kt => pre32 t (by
              refine y_icmpYes X17.here hx (hb hby d1_96) (feq hc96_33).2 (pc' := 104) (by decide) rfl ?_
              refine y_iload X17.here hx (hb hby d1_104) rfl (pc' := 106) rfl ?_
              refine y_ineg X17.here hx (hb hby d1_106) (z := (-1 : Int32)) rfl (pc' := 107) rfl ?_
              exact kt)
          obtain ⟨fs, hr, hrun, hended, hW, hsame⟩ := X17.leave (v := some (.int (-1 : Int32))) (fun h => by rw [Bd.returns] at h; cases h)
          refine ⟨_, _, (hGo _).mp (pre35 _ ?_), hrun, hended, _, _, rfl, ?_, ⟨_, rfl⟩, hW, hsame.mono (by decide) (by decide)⟩
          · exact retOut X17 hx Bd.returns rfl (Or.inl ⟨rfl, Or.inl rfl, _, rfl⟩) (hb hby d1_107) hr
          · show Q1a0 Z pr0 pi2 w_SEQUENCE_LENGTH w_SECOND_LOW w_SECOND_HIGH yW yL yH kk_pr0 y0 y1 y2 y3 y4 y5 cc_w_SEQUENCE_LENGTH cc_w_SECOND_LOW cc_w_SECOND_HIGH h0 n0 _ T17.heap _
            rw [e17]
            subst hx3 hx28
            exact ⟨(by first | (simp only [fr1a0, if_pos hc36_23, if_pos hc44_25, if_pos hc63_31, if_neg hc96_33]; done) | (simp only [fr1a0, if_pos hc36_23, if_pos hc44_25, if_pos hc63_31, if_neg hc96_33]; exact rfl) | exact rfl), N0, rfl⟩
      · have pre36 : ∀ t, Steps p.tables e below (T17.setTop (mkF m 70 #[rv pr0, iv (0 : Int32), iv pi2, iv x3, iv yW, iv yL, iv yH, iv (1 : Int32), iv x28] [(.int yH), (.int x28)])) t → Go t := fun t kt => pre30 t (by
            refine y_icmpNo X17.here hx (hb hby d1_63) (flt hc63_31).1 (pc' := 66) rfl ?_
            refine y_iload X17.here hx (hb hby d1_66) rfl (pc' := 68) rfl ?_
            refine y_iload X17.here hx (hb hby d1_68) rfl (pc' := 70) rfl ?_
            exact kt)
        by_cases hc70_37 : yH < x28
        · have pre38 : ∀ t, Steps p.tables e below (T17.setTop (mkF m 96 #[rv pr0, iv (0 : Int32), iv pi2, iv x3, iv yW, iv yL, iv yH, iv (1 : Int32), iv x28] [(.int yW), (.int (1 : Int32))])) t → Go t := fun t kt => pre36 t (by
              refine y_icmpNo X17.here hx (hb hby d1_70) (tlt hc70_37).2.2.2 (pc' := 73) rfl ?_
              refine y_goto X17.here hx (hb hby d1_73) (pc' := 92) (by decide) rfl ?_
              refine y_iload X17.here hx (hb hby d1_92) rfl (pc' := 94) rfl ?_
              refine y_iload X17.here hx (hb hby d1_94) rfl (pc' := 96) rfl ?_
              exact kt)
          by_cases hc96_39 : (1 : Int32) = yW
          · have pre40 : ∀ t, Steps p.tables e below (T17.setTop (mkF m 107 #[rv pr0, iv (0 : Int32), iv pi2, iv x3, iv yW, iv yL, iv yH, iv (1 : Int32), iv x28] [(.int yW)])) t → Go t := fun t kt => pre38 t (by
                refine y_icmpNo X17.here hx (hb hby d1_96) (teq hc96_39).2 (pc' := 99) rfl ?_
                refine y_iload X17.here hx (hb hby d1_99) rfl (pc' := 101) rfl ?_
                refine y_goto X17.here hx (hb hby d1_101) (pc' := 107) (by decide) rfl ?_
                exact kt)
            obtain ⟨fs, hr, hrun, hended, hW, hsame⟩ := X17.leave (v := some (.int yW)) (fun h => by rw [Bd.returns] at h; cases h)
            refine ⟨_, _, (hGo _).mp (pre40 _ ?_), hrun, hended, _, _, rfl, ?_, ⟨_, rfl⟩, hW, hsame.mono (by decide) (by decide)⟩
            · exact retOut X17 hx Bd.returns rfl (Or.inl ⟨rfl, Or.inl rfl, _, rfl⟩) (hb hby d1_107) hr
            · show Q1a0 Z pr0 pi2 w_SEQUENCE_LENGTH w_SECOND_LOW w_SECOND_HIGH yW yL yH kk_pr0 y0 y1 y2 y3 y4 y5 cc_w_SEQUENCE_LENGTH cc_w_SECOND_LOW cc_w_SECOND_HIGH h0 n0 _ T17.heap _
              rw [e17]
              subst hx3 hx28
              exact ⟨(by first | (simp only [fr1a0, if_pos hc36_23, if_pos hc44_25, if_neg hc63_31, if_pos hc70_37, if_pos hc96_39]; done) | (simp only [fr1a0, if_pos hc36_23, if_pos hc44_25, if_neg hc63_31, if_pos hc70_37, if_pos hc96_39]; exact rfl) | exact rfl), N0, rfl⟩
          · have pre41 : ∀ t, Steps p.tables e below (T17.setTop (mkF m 107 #[rv pr0, iv (0 : Int32), iv pi2, iv x3, iv yW, iv yL, iv yH, iv (1 : Int32), iv x28] [(.int (-1 : Int32))])) t → Go t := fun t kt => pre38 t (by
                refine y_icmpYes X17.here hx (hb hby d1_96) (feq hc96_39).2 (pc' := 104) (by decide) rfl ?_
                refine y_iload X17.here hx (hb hby d1_104) rfl (pc' := 106) rfl ?_
                refine y_ineg X17.here hx (hb hby d1_106) (z := (-1 : Int32)) rfl (pc' := 107) rfl ?_
                exact kt)
            obtain ⟨fs, hr, hrun, hended, hW, hsame⟩ := X17.leave (v := some (.int (-1 : Int32))) (fun h => by rw [Bd.returns] at h; cases h)
            refine ⟨_, _, (hGo _).mp (pre41 _ ?_), hrun, hended, _, _, rfl, ?_, ⟨_, rfl⟩, hW, hsame.mono (by decide) (by decide)⟩
            · exact retOut X17 hx Bd.returns rfl (Or.inl ⟨rfl, Or.inl rfl, _, rfl⟩) (hb hby d1_107) hr
            · show Q1a0 Z pr0 pi2 w_SEQUENCE_LENGTH w_SECOND_LOW w_SECOND_HIGH yW yL yH kk_pr0 y0 y1 y2 y3 y4 y5 cc_w_SEQUENCE_LENGTH cc_w_SECOND_LOW cc_w_SECOND_HIGH h0 n0 _ T17.heap _
              rw [e17]
              subst hx3 hx28
              exact ⟨(by first | (simp only [fr1a0, if_pos hc36_23, if_pos hc44_25, if_neg hc63_31, if_pos hc70_37, if_neg hc96_39]; done) | (simp only [fr1a0, if_pos hc36_23, if_pos hc44_25, if_neg hc63_31, if_pos hc70_37, if_neg hc96_39]; exact rfl) | exact rfl), N0, rfl⟩
        · have pre42 : ∀ t, Steps p.tables e below (T17.setTop (mkF m 36 #[rv pr0, iv (0 : Int32), iv pi2, iv x3, iv yW, iv (128 : Int32), iv (191 : Int32), iv (2 : Int32), iv x28] [(.int yW), (.int (2 : Int32))])) t → Go t := fun t kt => pre36 t (by
              refine y_icmpYes X17.here hx (hb hby d1_70) (flt hc70_37).2.2.2 (pc' := 76) (by decide) rfl ?_
              refine y_iinc X17.here hx (hb hby d1_76) rfl (l' := #[rv pr0, iv (0 : Int32), iv pi2, iv x3, iv yW, iv yL, iv yH, iv (2 : Int32), iv x28]) rfl (pc' := 79) rfl ?_
              refine y_sipush X17.here hx (hb hby d1_79) (v := (128 : Int32)) rfl (pc' := 82) rfl ?_
              refine y_istore X17.here hx (hb hby d1_82) (l' := #[rv pr0, iv (0 : Int32), iv pi2, iv x3, iv yW, iv (128 : Int32), iv yH, iv (2 : Int32), iv x28]) rfl (pc' := 84) rfl ?_
              refine y_sipush X17.here hx (hb hby d1_84) (v := (191 : Int32)) rfl (pc' := 87) rfl ?_
              refine y_istore X17.here hx (hb hby d1_87) (l' := #[rv pr0, iv (0 : Int32), iv pi2, iv x3, iv yW, iv (128 : Int32), iv (191 : Int32), iv (2 : Int32), iv x28]) rfl (pc' := 89) rfl ?_
              refine y_goto X17.here hx (hb hby d1_89) (pc' := 32) (by decide) rfl ?_
              refine y_iload X17.here hx (hb hby d1_32) rfl (pc' := 34) rfl ?_
              refine y_iload X17.here hx (hb hby d1_34) rfl (pc' := 36) rfl ?_
              exact kt)
          by_cases hc36_43 : (2 : Int32) < yW
          · have pre44 : ∀ t, Steps p.tables e below (T17.setTop (mkF m 44 #[rv pr0, iv (0 : Int32), iv pi2, iv x3, iv yW, iv (128 : Int32), iv (191 : Int32), iv (2 : Int32), iv x28] [(.int pi2), (.int (2 : Int32))])) t → Go t := fun t kt => pre42 t (by
                refine y_icmpNo X17.here hx (hb hby d1_36) (tlt hc36_43).2.1 (pc' := 39) rfl ?_
                refine y_iloadN X17.here hx (hb hby d1_39) rfl (pc' := 40) rfl ?_
                refine y_iload X17.here hx (hb hby d1_40) rfl (pc' := 42) rfl ?_
                refine y_iadd X17.here hx (hb hby d1_42) (z := (2 : Int32)) rfl (pc' := 43) rfl ?_
                refine y_iloadN X17.here hx (hb hby d1_43) rfl (pc' := 44) rfl ?_
                exact kt)
            by_cases hc44_45 : (2 : Int32) < pi2
            · have pre46 : ∀ t, Steps p.tables e below (T17.setTop (mkF m 52 #[rv pr0, iv (0 : Int32), iv pi2, iv x3, iv yW, iv (128 : Int32), iv (191 : Int32), iv (2 : Int32), iv x28] [(.int (2 : Int32)), (.ref pr0)])) t → Go t := fun t kt => pre44 t (by
                  refine y_icmpNo X17.here hx (hb hby d1_44) (tlt hc44_45).2.1 (pc' := 47) rfl ?_
                  refine y_aloadN X17.here hx (hb hby d1_47) rfl rfl (pc' := 48) rfl ?_
                  refine y_iloadN X17.here hx (hb hby d1_48) rfl (pc' := 49) rfl ?_
                  refine y_iload X17.here hx (hb hby d1_49) rfl (pc' := 51) rfl ?_
                  refine y_iadd X17.here hx (hb hby d1_51) (z := (2 : Int32)) rfl (pc' := 52) rfl ?_
                  exact kt)
              obtain ⟨c47, Ar47, q47, S47, M47, H47, G47⟩ := id V_pr0
              have hin47 : ¬ ((2 : Int32) < 0 ∨ c47.slots.size ≤ ((2 : Int32)).toNatClampNeg) := inb_of S47 ⟨by decide, by decide⟩
              have hat47 : c47.slots[((2 : Int32)).toNatClampNeg]? = some (.int y2) := Has.at H47 hin47 rfl
              obtain ⟨x48, hx48⟩ : ∃ z : Int32, z = (y2 &&& (255 : Int32)) := ⟨_, rfl⟩
              have pre49 : ∀ t, Steps p.tables e below (T17.setTop (mkF m 59 #[rv pr0, iv (0 : Int32), iv pi2, iv x3, iv yW, iv (128 : Int32), iv (191 : Int32), iv (2 : Int32), iv x48] [])) t → Go t := fun t kt => pre46 t (by
                  subst hx48
                  refine X17.baloadBytes hx (j := (2 : Int32)) (v := (.int y2)) (by rw [e17]; exact Ar47.1) (State.isArrayOf_alike hZ.alike Ar47.2.1) Ar47.2.2 hin47 hat47 (g := (mkF m 52 #[rv pr0, iv (0 : Int32), iv pi2, iv x3, iv yW, iv (128 : Int32), iv (191 : Int32), iv (2 : Int32), iv x28] [(.int (2 : Int32)), (.ref pr0)])) rfl rfl (hb hby d1_52) _ ?_
                  show Steps p.tables e below (T17.setTop (mkF m 53 #[rv pr0, iv (0 : Int32), iv pi2, iv x3, iv yW, iv (128 : Int32), iv (191 : Int32), iv (2 : Int32), iv x28] [(.int y2)])) _
                  refine y_sipush X17.here hx (hb hby d1_53) (v := (255 : Int32)) rfl (pc' := 56) rfl ?_
                  refine y_iand X17.here hx (hb hby d1_56) rfl (pc' := 57) rfl ?_
                  refine y_istore X17.here hx (hb hby d1_57) (l' := #[rv pr0, iv (0 : Int32), iv pi2, iv x3, iv yW, iv (128 : Int32), iv (191 : Int32), iv (2 : Int32), iv (y2 &&& (255 : Int32))]) rfl (pc' := 59) rfl ?_
                  exact kt)
              have pre50 : ∀ t, Steps p.tables e below (T17.setTop (mkF m 63 #[rv pr0, iv (0 : Int32), iv pi2, iv x3, iv yW, iv (128 : Int32), iv (191 : Int32), iv (2 : Int32), iv x48] [(.int (128 : Int32)), (.int x48)])) t → Go t := fun t kt => pre49 t (by
                  refine y_iload X17.here hx (hb hby d1_59) rfl (pc' := 61) rfl ?_
                  refine y_iload X17.here hx (hb hby d1_61) rfl (pc' := 63) rfl ?_
                  exact kt)
              by_cases hc63_51 : x48 < (128 : Int32)
              · have pre52 : ∀ t, Steps p.tables e below (T17.setTop (mkF m 96 #[rv pr0, iv (0 : Int32), iv pi2, iv x3, iv yW, iv (128 : Int32), iv (191 : Int32), iv (2 : Int32), iv x48] [(.int yW), (.int (2 : Int32))])) t → Go t := fun t kt => pre50 t (by
                    refine y_icmpYes X17.here hx (hb hby d1_63) (tlt hc63_51).1 (pc' := 92) (by decide) rfl ?_
                    refine y_iload X17.here hx (hb hby d1_92) rfl (pc' := 94) rfl ?_
                    refine y_iload X17.here hx (hb hby d1_94) rfl (pc' := 96) rfl ?_
                    exact kt)
                by_cases hc96_53 : (2 : Int32) = yW
                · have pre54 : ∀ t, Steps p.tables e below (T17.setTop (mkF m 107 #[rv pr0, iv (0 : Int32), iv pi2, iv x3, iv yW, iv (128 : Int32), iv (191 : Int32), iv (2 : Int32), iv x48] [(.int yW)])) t → Go t := fun t kt => pre52 t (by
                      refine y_icmpNo X17.here hx (hb hby d1_96) (teq hc96_53).2 (pc' := 99) rfl ?_
                      refine y_iload X17.here hx (hb hby d1_99) rfl (pc' := 101) rfl ?_
                      refine y_goto X17.here hx (hb hby d1_101) (pc' := 107) (by decide) rfl ?_
                      exact kt)
                  obtain ⟨fs, hr, hrun, hended, hW, hsame⟩ := X17.leave (v := some (.int yW)) (fun h => by rw [Bd.returns] at h; cases h)
                  refine ⟨_, _, (hGo _).mp (pre54 _ ?_), hrun, hended, _, _, rfl, ?_, ⟨_, rfl⟩, hW, hsame.mono (by decide) (by decide)⟩
                  · exact retOut X17 hx Bd.returns rfl (Or.inl ⟨rfl, Or.inl rfl, _, rfl⟩) (hb hby d1_107) hr
                  · show Q1a0 Z pr0 pi2 w_SEQUENCE_LENGTH w_SECOND_LOW w_SECOND_HIGH yW yL yH kk_pr0 y0 y1 y2 y3 y4 y5 cc_w_SEQUENCE_LENGTH cc_w_SECOND_LOW cc_w_SECOND_HIGH h0 n0 _ T17.heap _
                    rw [e17]
                    subst hx3 hx28 hx48
                    exact ⟨(by first | (simp only [fr1a0, if_pos hc36_23, if_pos hc44_25, if_neg hc63_31, if_neg hc70_37, if_pos hc36_43, if_pos hc44_45, if_pos hc63_51, if_pos hc96_53]; done) | (simp only [fr1a0, if_pos hc36_23, if_pos hc44_25, if_neg hc63_31, if_neg hc70_37, if_pos hc36_43, if_pos hc44_45, if_pos hc63_51, if_pos hc96_53]; exact rfl) | exact rfl), N0, rfl⟩
                · have pre55 : ∀ t, Steps p.tables e below (T17.setTop (mkF m 107 #[rv pr0, iv (0 : Int32), iv pi2, iv x3, iv yW, iv (128 : Int32), iv (191 : Int32), iv (2 : Int32), iv x48] [(.int (-2 : Int32))])) t → Go t := fun t kt => pre52 t (by
                      refine y_icmpYes X17.here hx (hb hby d1_96) (feq hc96_53).2 (pc' := 104) (by decide) rfl ?_
                      refine y_iload X17.here hx (hb hby d1_104) rfl (pc' := 106) rfl ?_
                      refine y_ineg X17.here hx (hb hby d1_106) (z := (-2 : Int32)) rfl (pc' := 107) rfl ?_
                      exact kt)
                  obtain ⟨fs, hr, hrun, hended, hW, hsame⟩ := X17.leave (v := some (.int (-2 : Int32))) (fun h => by rw [Bd.returns] at h; cases h)
                  refine ⟨_, _, (hGo _).mp (pre55 _ ?_), hrun, hended, _, _, rfl, ?_, ⟨_, rfl⟩, hW, hsame.mono (by decide) (by decide)⟩
                  · exact retOut X17 hx Bd.returns rfl (Or.inl ⟨rfl, Or.inl rfl, _, rfl⟩) (hb hby d1_107) hr
                  · show Q1a0 Z pr0 pi2 w_SEQUENCE_LENGTH w_SECOND_LOW w_SECOND_HIGH yW yL yH kk_pr0 y0 y1 y2 y3 y4 y5 cc_w_SEQUENCE_LENGTH cc_w_SECOND_LOW cc_w_SECOND_HIGH h0 n0 _ T17.heap _
                    rw [e17]
                    subst hx3 hx28 hx48
                    exact ⟨(by first | (simp only [fr1a0, if_pos hc36_23, if_pos hc44_25, if_neg hc63_31, if_neg hc70_37, if_pos hc36_43, if_pos hc44_45, if_pos hc63_51, if_neg hc96_53]; done) | (simp only [fr1a0, if_pos hc36_23, if_pos hc44_25, if_neg hc63_31, if_neg hc70_37, if_pos hc36_43, if_pos hc44_45, if_pos hc63_51, if_neg hc96_53]; exact rfl) | exact rfl), N0, rfl⟩
              · have pre56 : ∀ t, Steps p.tables e below (T17.setTop (mkF m 70 #[rv pr0, iv (0 : Int32), iv pi2, iv x3, iv yW, iv (128 : Int32), iv (191 : Int32), iv (2 : Int32), iv x48] [(.int (191 : Int32)), (.int x48)])) t → Go t := fun t kt => pre50 t (by
                    refine y_icmpNo X17.here hx (hb hby d1_63) (flt hc63_51).1 (pc' := 66) rfl ?_
                    refine y_iload X17.here hx (hb hby d1_66) rfl (pc' := 68) rfl ?_
                    refine y_iload X17.here hx (hb hby d1_68) rfl (pc' := 70) rfl ?_
                    exact kt)
                by_cases hc70_57 : (191 : Int32) < x48
                · have pre58 : ∀ t, Steps p.tables e below (T17.setTop (mkF m 96 #[rv pr0, iv (0 : Int32), iv pi2, iv x3, iv yW, iv (128 : Int32), iv (191 : Int32), iv (2 : Int32), iv x48] [(.int yW), (.int (2 : Int32))])) t → Go t := fun t kt => pre56 t (by
                      refine y_icmpNo X17.here hx (hb hby d1_70) (tlt hc70_57).2.2.2 (pc' := 73) rfl ?_
                      refine y_goto X17.here hx (hb hby d1_73) (pc' := 92) (by decide) rfl ?_
                      refine y_iload X17.here hx (hb hby d1_92) rfl (pc' := 94) rfl ?_
                      refine y_iload X17.here hx (hb hby d1_94) rfl (pc' := 96) rfl ?_
                      exact kt)
                  by_cases hc96_59 : (2 : Int32) = yW
                  · have pre60 : ∀ t, Steps p.tables e below (T17.setTop (mkF m 107 #[rv pr0, iv (0 : Int32), iv pi2, iv x3, iv yW, iv (128 : Int32), iv (191 : Int32), iv (2 : Int32), iv x48] [(.int yW)])) t → Go t := fun t kt => pre58 t (by
                        refine y_icmpNo X17.here hx (hb hby d1_96) (teq hc96_59).2 (pc' := 99) rfl ?_
                        refine y_iload X17.here hx (hb hby d1_99) rfl (pc' := 101) rfl ?_
                        refine y_goto X17.here hx (hb hby d1_101) (pc' := 107) (by decide) rfl ?_
                        exact kt)
                    obtain ⟨fs, hr, hrun, hended, hW, hsame⟩ := X17.leave (v := some (.int yW)) (fun h => by rw [Bd.returns] at h; cases h)
                    refine ⟨_, _, (hGo _).mp (pre60 _ ?_), hrun, hended, _, _, rfl, ?_, ⟨_, rfl⟩, hW, hsame.mono (by decide) (by decide)⟩
                    · exact retOut X17 hx Bd.returns rfl (Or.inl ⟨rfl, Or.inl rfl, _, rfl⟩) (hb hby d1_107) hr
                    · show Q1a0 Z pr0 pi2 w_SEQUENCE_LENGTH w_SECOND_LOW w_SECOND_HIGH yW yL yH kk_pr0 y0 y1 y2 y3 y4 y5 cc_w_SEQUENCE_LENGTH cc_w_SECOND_LOW cc_w_SECOND_HIGH h0 n0 _ T17.heap _
                      rw [e17]
                      subst hx3 hx28 hx48
                      exact ⟨(by first | (simp only [fr1a0, if_pos hc36_23, if_pos hc44_25, if_neg hc63_31, if_neg hc70_37, if_pos hc36_43, if_pos hc44_45, if_neg hc63_51, if_pos hc70_57, if_pos hc96_59]; done) | (simp only [fr1a0, if_pos hc36_23, if_pos hc44_25, if_neg hc63_31, if_neg hc70_37, if_pos hc36_43, if_pos hc44_45, if_neg hc63_51, if_pos hc70_57, if_pos hc96_59]; exact rfl) | exact rfl), N0, rfl⟩
                  · have pre61 : ∀ t, Steps p.tables e below (T17.setTop (mkF m 107 #[rv pr0, iv (0 : Int32), iv pi2, iv x3, iv yW, iv (128 : Int32), iv (191 : Int32), iv (2 : Int32), iv x48] [(.int (-2 : Int32))])) t → Go t := fun t kt => pre58 t (by
                        refine y_icmpYes X17.here hx (hb hby d1_96) (feq hc96_59).2 (pc' := 104) (by decide) rfl ?_
                        refine y_iload X17.here hx (hb hby d1_104) rfl (pc' := 106) rfl ?_
                        refine y_ineg X17.here hx (hb hby d1_106) (z := (-2 : Int32)) rfl (pc' := 107) rfl ?_
                        exact kt)
                    obtain ⟨fs, hr, hrun, hended, hW, hsame⟩ := X17.leave (v := some (.int (-2 : Int32))) (fun h => by rw [Bd.returns] at h; cases h)
                    refine ⟨_, _, (hGo _).mp (pre61 _ ?_), hrun, hended, _, _, rfl, ?_, ⟨_, rfl⟩, hW, hsame.mono (by decide) (by decide)⟩
                    · exact retOut X17 hx Bd.returns rfl (Or.inl ⟨rfl, Or.inl rfl, _, rfl⟩) (hb hby d1_107) hr
                    · show Q1a0 Z pr0 pi2 w_SEQUENCE_LENGTH w_SECOND_LOW w_SECOND_HIGH yW yL yH kk_pr0 y0 y1 y2 y3 y4 y5 cc_w_SEQUENCE_LENGTH cc_w_SECOND_LOW cc_w_SECOND_HIGH h0 n0 _ T17.heap _
                      rw [e17]
                      subst hx3 hx28 hx48
                      exact ⟨(by first | (simp only [fr1a0, if_pos hc36_23, if_pos hc44_25, if_neg hc63_31, if_neg hc70_37, if_pos hc36_43, if_pos hc44_45, if_neg hc63_51, if_pos hc70_57, if_neg hc96_59]; done) | (simp only [fr1a0, if_pos hc36_23, if_pos hc44_25, if_neg hc63_31, if_neg hc70_37, if_pos hc36_43, if_pos hc44_45, if_neg hc63_51, if_pos hc70_57, if_neg hc96_59]; exact rfl) | exact rfl), N0, rfl⟩
                · have pre62 : ∀ t, Steps p.tables e below (T17.setTop (mkF m 36 #[rv pr0, iv (0 : Int32), iv pi2, iv x3, iv yW, iv (128 : Int32), iv (191 : Int32), iv (3 : Int32), iv x48] [(.int yW), (.int (3 : Int32))])) t → Go t := fun t kt => pre56 t (by
                      refine y_icmpYes X17.here hx (hb hby d1_70) (flt hc70_57).2.2.2 (pc' := 76) (by decide) rfl ?_
                      refine y_iinc X17.here hx (hb hby d1_76) rfl (l' := #[rv pr0, iv (0 : Int32), iv pi2, iv x3, iv yW, iv (128 : Int32), iv (191 : Int32), iv (3 : Int32), iv x48]) rfl (pc' := 79) rfl ?_
                      refine y_sipush X17.here hx (hb hby d1_79) (v := (128 : Int32)) rfl (pc' := 82) rfl ?_
                      refine y_istore X17.here hx (hb hby d1_82) (l' := #[rv pr0, iv (0 : Int32), iv pi2, iv x3, iv yW, iv (128 : Int32), iv (191 : Int32), iv (3 : Int32), iv x48]) rfl (pc' := 84) rfl ?_
                      refine y_sipush X17.here hx (hb hby d1_84) (v := (191 : Int32)) rfl (pc' := 87) rfl ?_
                      refine y_istore X17.here hx (hb hby d1_87) (l' := #[rv pr0, iv (0 : Int32), iv pi2, iv x3, iv yW, iv (128 : Int32), iv (191 : Int32), iv (3 : Int32), iv x48]) rfl (pc' := 89) rfl ?_
                      refine y_goto X17.here hx (hb hby d1_89) (pc' := 32) (by decide) rfl ?_
                      refine y_iload X17.here hx (hb hby d1_32) rfl (pc' := 34) rfl ?_
                      refine y_iload X17.here hx (hb hby d1_34) rfl (pc' := 36) rfl ?_
                      exact kt)
                  by_cases hc36_63 : (3 : Int32) < yW
                  · have pre64 : ∀ t, Steps p.tables e below (T17.setTop (mkF m 44 #[rv pr0, iv (0 : Int32), iv pi2, iv x3, iv yW, iv (128 : Int32), iv (191 : Int32), iv (3 : Int32), iv x48] [(.int pi2), (.int (3 : Int32))])) t → Go t := fun t kt => pre62 t (by
                        refine y_icmpNo X17.here hx (hb hby d1_36) (tlt hc36_63).2.1 (pc' := 39) rfl ?_
                        refine y_iloadN X17.here hx (hb hby d1_39) rfl (pc' := 40) rfl ?_
                        refine y_iload X17.here hx (hb hby d1_40) rfl (pc' := 42) rfl ?_
                        refine y_iadd X17.here hx (hb hby d1_42) (z := (3 : Int32)) rfl (pc' := 43) rfl ?_
                        refine y_iloadN X17.here hx (hb hby d1_43) rfl (pc' := 44) rfl ?_
                        exact kt)
                    by_cases hc44_65 : (3 : Int32) < pi2
                    · have pre66 : ∀ t, Steps p.tables e below (T17.setTop (mkF m 52 #[rv pr0, iv (0 : Int32), iv pi2, iv x3, iv yW, iv (128 : Int32), iv (191 : Int32), iv (3 : Int32), iv x48] [(.int (3 : Int32)), (.ref pr0)])) t → Go t := fun t kt => pre64 t (by
                          refine y_icmpNo X17.here hx (hb hby d1_44) (tlt hc44_65).2.1 (pc' := 47) rfl ?_
                          refine y_aloadN X17.here hx (hb hby d1_47) rfl rfl (pc' := 48) rfl ?_
                          refine y_iloadN X17.here hx (hb hby d1_48) rfl (pc' := 49) rfl ?_
                          refine y_iload X17.here hx (hb hby d1_49) rfl (pc' := 51) rfl ?_
                          refine y_iadd X17.here hx (hb hby d1_51) (z := (3 : Int32)) rfl (pc' := 52) rfl ?_
                          exact kt)
                      obtain ⟨c67, Ar67, q67, S67, M67, H67, G67⟩ := id V_pr0
                      have hin67 : ¬ ((3 : Int32) < 0 ∨ c67.slots.size ≤ ((3 : Int32)).toNatClampNeg) := inb_of S67 ⟨by decide, by decide⟩
                      have hat67 : c67.slots[((3 : Int32)).toNatClampNeg]? = some (.int y3) := Has.at H67 hin67 rfl
                      obtain ⟨x68, hx68⟩ : ∃ z : Int32, z = (y3 &&& (255 : Int32)) := ⟨_, rfl⟩
                      have pre69 : ∀ t, Steps p.tables e below (T17.setTop (mkF m 59 #[rv pr0, iv (0 : Int32), iv pi2, iv x3, iv yW, iv (128 : Int32), iv (191 : Int32), iv (3 : Int32), iv x68] [])) t → Go t := fun t kt => pre66 t (by
                          subst hx68
                          refine X17.baloadBytes hx (j := (3 : Int32)) (v := (.int y3)) (by rw [e17]; exact Ar67.1) (State.isArrayOf_alike hZ.alike Ar67.2.1) Ar67.2.2 hin67 hat67 (g := (mkF m 52 #[rv pr0, iv (0 : Int32), iv pi2, iv x3, iv yW, iv (128 : Int32), iv (191 : Int32), iv (3 : Int32), iv x48] [(.int (3 : Int32)), (.ref pr0)])) rfl rfl (hb hby d1_52) _ ?_
                          show Steps p.tables e below (T17.setTop (mkF m 53 #[rv pr0, iv (0 : Int32), iv pi2, iv x3, iv yW, iv (128 : Int32), iv (191 : Int32), iv (3 : Int32), iv x48] [(.int y3)])) _
                          refine y_sipush X17.here hx (hb hby d1_53) (v := (255 : Int32)) rfl (pc' := 56) rfl ?_
                          refine y_iand X17.here hx (hb hby d1_56) rfl (pc' := 57) rfl ?_
                          refine y_istore X17.here hx (hb hby d1_57) (l' := #[rv pr0, iv (0 : Int32), iv pi2, iv x3, iv yW, iv (128 : Int32), iv (191 : Int32), iv (3 : Int32), iv (y3 &&& (255 : Int32))]) rfl (pc' := 59) rfl ?_
                          exact kt)
                      have pre70 : ∀ t, Steps p.tables e below (T17.setTop (mkF m 63 #[rv pr0, iv (0 : Int32), iv pi2, iv x3, iv yW, iv (128 : Int32), iv (191 : Int32), iv (3 : Int32), iv x68] [(.int (128 : Int32)), (.int x68)])) t → Go t := fun t kt => pre69 t (by
                          refine y_iload X17.here hx (hb hby d1_59) rfl (pc' := 61) rfl ?_
                          refine y_iload X17.here hx (hb hby d1_61) rfl (pc' := 63) rfl ?_
                          exact kt)
                      by_cases hc63_71 : x68 < (128 : Int32)
                      · have pre72 : ∀ t, Steps p.tables e below (T17.setTop (mkF m 96 #[rv pr0, iv (0 : Int32), iv pi2, iv x3, iv yW, iv (128 : Int32), iv (191 : Int32), iv (3 : Int32), iv x68] [(.int yW), (.int (3 : Int32))])) t → Go t := fun t kt => pre70 t (by
                            refine y_icmpYes X17.here hx (hb hby d1_63) (tlt hc63_71).1 (pc' := 92) (by decide) rfl ?_
                            refine y_iload X17.here hx (hb hby d1_92) rfl (pc' := 94) rfl ?_
                            refine y_iload X17.here hx (hb hby d1_94) rfl (pc' := 96) rfl ?_
                            exact kt)
                        by_cases hc96_73 : (3 : Int32) = yW
                        · have pre74 : ∀ t, Steps p.tables e below (T17.setTop (mkF m 107 #[rv pr0, iv (0 : Int32), iv pi2, iv x3, iv yW, iv (128 : Int32), iv (191 : Int32), iv (3 : Int32), iv x68] [(.int yW)])) t → Go t := fun t kt => pre72 t (by
                              refine y_icmpNo X17.here hx (hb hby d1_96) (teq hc96_73).2 (pc' := 99) rfl ?_
                              refine y_iload X17.here hx (hb hby d1_99) rfl (pc' := 101) rfl ?_
                              refine y_goto X17.here hx (hb hby d1_101) (pc' := 107) (by decide) rfl ?_
                              exact kt)
                          obtain ⟨fs, hr, hrun, hended, hW, hsame⟩ := X17.leave (v := some (.int yW)) (fun h => by rw [Bd.returns] at h; cases h)
                          refine ⟨_, _, (hGo _).mp (pre74 _ ?_), hrun, hended, _, _, rfl, ?_, ⟨_, rfl⟩, hW, hsame.mono (by decide) (by decide)⟩
                          · exact retOut X17 hx Bd.returns rfl (Or.inl ⟨rfl, Or.inl rfl, _, rfl⟩) (hb hby d1_107) hr
                          · show Q1a0 Z pr0 pi2 w_SEQUENCE_LENGTH w_SECOND_LOW w_SECOND_HIGH yW yL yH kk_pr0 y0 y1 y2 y3 y4 y5 cc_w_SEQUENCE_LENGTH cc_w_SECOND_LOW cc_w_SECOND_HIGH h0 n0 _ T17.heap _
                            rw [e17]
                            subst hx3 hx28 hx48 hx68
                            exact ⟨(by first | (simp only [fr1a0, if_pos hc36_23, if_pos hc44_25, if_neg hc63_31, if_neg hc70_37, if_pos hc36_43, if_pos hc44_45, if_neg hc63_51, if_neg hc70_57, if_pos hc36_63, if_pos hc44_65, if_pos hc63_71, if_pos hc96_73]; done) | (simp only [fr1a0, if_pos hc36_23, if_pos hc44_25, if_neg hc63_31, if_neg hc70_37, if_pos hc36_43, if_pos hc44_45, if_neg hc63_51, if_neg hc70_57, if_pos hc36_63, if_pos hc44_65, if_pos hc63_71, if_pos hc96_73]; exact rfl) | exact rfl), N0, rfl⟩
                        · have pre75 : ∀ t, Steps p.tables e below (T17.setTop (mkF m 107 #[rv pr0, iv (0 : Int32), iv pi2, iv x3, iv yW, iv (128 : Int32), iv (191 : Int32), iv (3 : Int32), iv x68] [(.int (-3 : Int32))])) t → Go t := fun t kt => pre72 t (by
                              refine y_icmpYes X17.here hx (hb hby d1_96) (feq hc96_73).2 (pc' := 104) (by decide) rfl ?_
                              refine y_iload X17.here hx (hb hby d1_104) rfl (pc' := 106) rfl ?_
                              refine y_ineg X17.here hx (hb hby d1_106) (z := (-3 : Int32)) rfl (pc' := 107) rfl ?_
                              exact kt)
                          obtain ⟨fs, hr, hrun, hended, hW, hsame⟩ := X17.leave (v := some (.int (-3 : Int32))) (fun h => by rw [Bd.returns] at h; cases h)
                          refine ⟨_, _, (hGo _).mp (pre75 _ ?_), hrun, hended, _, _, rfl, ?_, ⟨_, rfl⟩, hW, hsame.mono (by decide) (by decide)⟩
                          · exact retOut X17 hx Bd.returns rfl (Or.inl ⟨rfl, Or.inl rfl, _, rfl⟩) (hb hby d1_107) hr
                          · show Q1a0 Z pr0 pi2 w_SEQUENCE_LENGTH w_SECOND_LOW w_SECOND_HIGH yW yL yH kk_pr0 y0 y1 y2 y3 y4 y5 cc_w_SEQUENCE_LENGTH cc_w_SECOND_LOW cc_w_SECOND_HIGH h0 n0 _ T17.heap _
                            rw [e17]
                            subst hx3 hx28 hx48 hx68
                            exact ⟨(by first | (simp only [fr1a0, if_pos hc36_23, if_pos hc44_25, if_neg hc63_31, if_neg hc70_37, if_pos hc36_43, if_pos hc44_45, if_neg hc63_51, if_neg hc70_57, if_pos hc36_63, if_pos hc44_65, if_pos hc63_71, if_neg hc96_73]; done) | (simp only [fr1a0, if_pos hc36_23, if_pos hc44_25, if_neg hc63_31, if_neg hc70_37, if_pos hc36_43, if_pos hc44_45, if_neg hc63_51, if_neg hc70_57, if_pos hc36_63, if_pos hc44_65, if_pos hc63_71, if_neg hc96_73]; exact rfl) | exact rfl), N0, rfl⟩
                      · have pre76 : ∀ t, Steps p.tables e below (T17.setTop (mkF m 70 #[rv pr0, iv (0 : Int32), iv pi2, iv x3, iv yW, iv (128 : Int32), iv (191 : Int32), iv (3 : Int32), iv x68] [(.int (191 : Int32)), (.int x68)])) t → Go t := fun t kt => pre70 t (by
                            refine y_icmpNo X17.here hx (hb hby d1_63) (flt hc63_71).1 (pc' := 66) rfl ?_
                            refine y_iload X17.here hx (hb hby d1_66) rfl (pc' := 68) rfl ?_
                            refine y_iload X17.here hx (hb hby d1_68) rfl (pc' := 70) rfl ?_
                            exact kt)
                        by_cases hc70_77 : (191 : Int32) < x68
                        · have pre78 : ∀ t, Steps p.tables e below (T17.setTop (mkF m 96 #[rv pr0, iv (0 : Int32), iv pi2, iv x3, iv yW, iv (128 : Int32), iv (191 : Int32), iv (3 : Int32), iv x68] [(.int yW), (.int (3 : Int32))])) t → Go t := fun t kt => pre76 t (by
                              refine y_icmpNo X17.here hx (hb hby d1_70) (tlt hc70_77).2.2.2 (pc' := 73) rfl ?_
                              refine y_goto X17.here hx (hb hby d1_73) (pc' := 92) (by decide) rfl ?_
                              refine y_iload X17.here hx (hb hby d1_92) rfl (pc' := 94) rfl ?_
                              refine y_iload X17.here hx (hb hby d1_94) rfl (pc' := 96) rfl ?_
                              exact kt)
                          by_cases hc96_79 : (3 : Int32) = yW
                          · have pre80 : ∀ t, Steps p.tables e below (T17.setTop (mkF m 107 #[rv pr0, iv (0 : Int32), iv pi2, iv x3, iv yW, iv (128 : Int32), iv (191 : Int32), iv (3 : Int32), iv x68] [(.int yW)])) t → Go t := fun t kt => pre78 t (by
                                refine y_icmpNo X17.here hx (hb hby d1_96) (teq hc96_79).2 (pc' := 99) rfl ?_
                                refine y_iload X17.here hx (hb hby d1_99) rfl (pc' := 101) rfl ?_
                                refine y_goto X17.here hx (hb hby d1_101) (pc' := 107) (by decide) rfl ?_
                                exact kt)
                            obtain ⟨fs, hr, hrun, hended, hW, hsame⟩ := X17.leave (v := some (.int yW)) (fun h => by rw [Bd.returns] at h; cases h)
                            refine ⟨_, _, (hGo _).mp (pre80 _ ?_), hrun, hended, _, _, rfl, ?_, ⟨_, rfl⟩, hW, hsame.mono (by decide) (by decide)⟩
                            · exact retOut X17 hx Bd.returns rfl (Or.inl ⟨rfl, Or.inl rfl, _, rfl⟩) (hb hby d1_107) hr
                            · show Q1a0 Z pr0 pi2 w_SEQUENCE_LENGTH w_SECOND_LOW w_SECOND_HIGH yW yL yH kk_pr0 y0 y1 y2 y3 y4 y5 cc_w_SEQUENCE_LENGTH cc_w_SECOND_LOW cc_w_SECOND_HIGH h0 n0 _ T17.heap _
                              rw [e17]
                              subst hx3 hx28 hx48 hx68
                              exact ⟨(by first | (simp only [fr1a0, if_pos hc36_23, if_pos hc44_25, if_neg hc63_31, if_neg hc70_37, if_pos hc36_43, if_pos hc44_45, if_neg hc63_51, if_neg hc70_57, if_pos hc36_63, if_pos hc44_65, if_neg hc63_71, if_pos hc70_77, if_pos hc96_79]; done) | (simp only [fr1a0, if_pos hc36_23, if_pos hc44_25, if_neg hc63_31, if_neg hc70_37, if_pos hc36_43, if_pos hc44_45, if_neg hc63_51, if_neg hc70_57, if_pos hc36_63, if_pos hc44_65, if_neg hc63_71, if_pos hc70_77, if_pos hc96_79]; exact rfl) | exact rfl), N0, rfl⟩
                          · have pre81 : ∀ t, Steps p.tables e below (T17.setTop (mkF m 107 #[rv pr0, iv (0 : Int32), iv pi2, iv x3, iv yW, iv (128 : Int32), iv (191 : Int32), iv (3 : Int32), iv x68] [(.int (-3 : Int32))])) t → Go t := fun t kt => pre78 t (by
                                refine y_icmpYes X17.here hx (hb hby d1_96) (feq hc96_79).2 (pc' := 104) (by decide) rfl ?_
                                refine y_iload X17.here hx (hb hby d1_104) rfl (pc' := 106) rfl ?_
                                refine y_ineg X17.here hx (hb hby d1_106) (z := (-3 : Int32)) rfl (pc' := 107) rfl ?_
                                exact kt)
                            obtain ⟨fs, hr, hrun, hended, hW, hsame⟩ := X17.leave (v := some (.int (-3 : Int32))) (fun h => by rw [Bd.returns] at h; cases h)
                            refine ⟨_, _, (hGo _).mp (pre81 _ ?_), hrun, hended, _, _, rfl, ?_, ⟨_, rfl⟩, hW, hsame.mono (by decide) (by decide)⟩
                            · exact retOut X17 hx Bd.returns rfl (Or.inl ⟨rfl, Or.inl rfl, _, rfl⟩) (hb hby d1_107) hr
                            · show Q1a0 Z pr0 pi2 w_SEQUENCE_LENGTH w_SECOND_LOW w_SECOND_HIGH yW yL yH kk_pr0 y0 y1 y2 y3 y4 y5 cc_w_SEQUENCE_LENGTH cc_w_SECOND_LOW cc_w_SECOND_HIGH h0 n0 _ T17.heap _
                              rw [e17]
                              subst hx3 hx28 hx48 hx68
                              exact ⟨(by first | (simp only [fr1a0, if_pos hc36_23, if_pos hc44_25, if_neg hc63_31, if_neg hc70_37, if_pos hc36_43, if_pos hc44_45, if_neg hc63_51, if_neg hc70_57, if_pos hc36_63, if_pos hc44_65, if_neg hc63_71, if_pos hc70_77, if_neg hc96_79]; done) | (simp only [fr1a0, if_pos hc36_23, if_pos hc44_25, if_neg hc63_31, if_neg hc70_37, if_pos hc36_43, if_pos hc44_45, if_neg hc63_51, if_neg hc70_57, if_pos hc36_63, if_pos hc44_65, if_neg hc63_71, if_pos hc70_77, if_neg hc96_79]; exact rfl) | exact rfl), N0, rfl⟩
                        · have pre82 : ∀ t, Steps p.tables e below (T17.setTop (mkF m 96 #[rv pr0, iv (0 : Int32), iv pi2, iv x3, iv yW, iv (128 : Int32), iv (191 : Int32), iv (4 : Int32), iv x68] [(.int yW), (.int (4 : Int32))])) t → Go t := fun t kt => pre76 t (by
                              refine y_icmpYes X17.here hx (hb hby d1_70) (flt hc70_77).2.2.2 (pc' := 76) (by decide) rfl ?_
                              refine y_iinc X17.here hx (hb hby d1_76) rfl (l' := #[rv pr0, iv (0 : Int32), iv pi2, iv x3, iv yW, iv (128 : Int32), iv (191 : Int32), iv (4 : Int32), iv x68]) rfl (pc' := 79) rfl ?_
                              refine y_sipush X17.here hx (hb hby d1_79) (v := (128 : Int32)) rfl (pc' := 82) rfl ?_
                              refine y_istore X17.here hx (hb hby d1_82) (l' := #[rv pr0, iv (0 : Int32), iv pi2, iv x3, iv yW, iv (128 : Int32), iv (191 : Int32), iv (4 : Int32), iv x68]) rfl (pc' := 84) rfl ?_
                              refine y_sipush X17.here hx (hb hby d1_84) (v := (191 : Int32)) rfl (pc' := 87) rfl ?_
                              refine y_istore X17.here hx (hb hby d1_87) (l' := #[rv pr0, iv (0 : Int32), iv pi2, iv x3, iv yW, iv (128 : Int32), iv (191 : Int32), iv (4 : Int32), iv x68]) rfl (pc' := 89) rfl ?_
                              refine y_goto X17.here hx (hb hby d1_89) (pc' := 32) (by decide) rfl ?_
                              refine y_iload X17.here hx (hb hby d1_32) rfl (pc' := 34) rfl ?_
                              refine y_iload X17.here hx (hb hby d1_34) rfl (pc' := 36) rfl ?_
                              refine y_icmpYes X17.here hx (hb hby d1_36) (flt W4).2.1 (pc' := 92) (by decide) rfl ?_
                              refine y_iload X17.here hx (hb hby d1_92) rfl (pc' := 94) rfl ?_
                              refine y_iload X17.here hx (hb hby d1_94) rfl (pc' := 96) rfl ?_
                              exact kt)
                          by_cases hc96_83 : (4 : Int32) = yW
                          · have pre84 : ∀ t, Steps p.tables e below (T17.setTop (mkF m 107 #[rv pr0, iv (0 : Int32), iv pi2, iv x3, iv yW, iv (128 : Int32), iv (191 : Int32), iv (4 : Int32), iv x68] [(.int yW)])) t → Go t := fun t kt => pre82 t (by
                                refine y_icmpNo X17.here hx (hb hby d1_96) (teq hc96_83).2 (pc' := 99) rfl ?_
                                refine y_iload X17.here hx (hb hby d1_99) rfl (pc' := 101) rfl ?_
                                refine y_goto X17.here hx (hb hby d1_101) (pc' := 107) (by decide) rfl ?_
                                exact kt)
                            obtain ⟨fs, hr, hrun, hended, hW, hsame⟩ := X17.leave (v := some (.int yW)) (fun h => by rw [Bd.returns] at h; cases h)
                            refine ⟨_, _, (hGo _).mp (pre84 _ ?_), hrun, hended, _, _, rfl, ?_, ⟨_, rfl⟩, hW, hsame.mono (by decide) (by decide)⟩
                            · exact retOut X17 hx Bd.returns rfl (Or.inl ⟨rfl, Or.inl rfl, _, rfl⟩) (hb hby d1_107) hr
                            · show Q1a0 Z pr0 pi2 w_SEQUENCE_LENGTH w_SECOND_LOW w_SECOND_HIGH yW yL yH kk_pr0 y0 y1 y2 y3 y4 y5 cc_w_SEQUENCE_LENGTH cc_w_SECOND_LOW cc_w_SECOND_HIGH h0 n0 _ T17.heap _
                              rw [e17]
                              subst hx3 hx28 hx48 hx68
                              exact ⟨(by first | (simp only [fr1a0, if_pos hc36_23, if_pos hc44_25, if_neg hc63_31, if_neg hc70_37, if_pos hc36_43, if_pos hc44_45, if_neg hc63_51, if_neg hc70_57, if_pos hc36_63, if_pos hc44_65, if_neg hc63_71, if_neg hc70_77, if_pos hc96_83]; done) | (simp only [fr1a0, if_pos hc36_23, if_pos hc44_25, if_neg hc63_31, if_neg hc70_37, if_pos hc36_43, if_pos hc44_45, if_neg hc63_51, if_neg hc70_57, if_pos hc36_63, if_pos hc44_65, if_neg hc63_71, if_neg hc70_77, if_pos hc96_83]; exact rfl) | exact rfl), N0, rfl⟩
                          · have pre85 : ∀ t, Steps p.tables e below (T17.setTop (mkF m 107 #[rv pr0, iv (0 : Int32), iv pi2, iv x3, iv yW, iv (128 : Int32), iv (191 : Int32), iv (4 : Int32), iv x68] [(.int (-4 : Int32))])) t → Go t := fun t kt => pre82 t (by
                                refine y_icmpYes X17.here hx (hb hby d1_96) (feq hc96_83).2 (pc' := 104) (by decide) rfl ?_
                                refine y_iload X17.here hx (hb hby d1_104) rfl (pc' := 106) rfl ?_
                                refine y_ineg X17.here hx (hb hby d1_106) (z := (-4 : Int32)) rfl (pc' := 107) rfl ?_
                                exact kt)
                            obtain ⟨fs, hr, hrun, hended, hW, hsame⟩ := X17.leave (v := some (.int (-4 : Int32))) (fun h => by rw [Bd.returns] at h; cases h)
                            refine ⟨_, _, (hGo _).mp (pre85 _ ?_), hrun, hended, _, _, rfl, ?_, ⟨_, rfl⟩, hW, hsame.mono (by decide) (by decide)⟩
                            · exact retOut X17 hx Bd.returns rfl (Or.inl ⟨rfl, Or.inl rfl, _, rfl⟩) (hb hby d1_107) hr
                            · show Q1a0 Z pr0 pi2 w_SEQUENCE_LENGTH w_SECOND_LOW w_SECOND_HIGH yW yL yH kk_pr0 y0 y1 y2 y3 y4 y5 cc_w_SEQUENCE_LENGTH cc_w_SECOND_LOW cc_w_SECOND_HIGH h0 n0 _ T17.heap _
                              rw [e17]
                              subst hx3 hx28 hx48 hx68
                              exact ⟨(by first | (simp only [fr1a0, if_pos hc36_23, if_pos hc44_25, if_neg hc63_31, if_neg hc70_37, if_pos hc36_43, if_pos hc44_45, if_neg hc63_51, if_neg hc70_57, if_pos hc36_63, if_pos hc44_65, if_neg hc63_71, if_neg hc70_77, if_neg hc96_83]; done) | (simp only [fr1a0, if_pos hc36_23, if_pos hc44_25, if_neg hc63_31, if_neg hc70_37, if_pos hc36_43, if_pos hc44_45, if_neg hc63_51, if_neg hc70_57, if_pos hc36_63, if_pos hc44_65, if_neg hc63_71, if_neg hc70_77, if_neg hc96_83]; exact rfl) | exact rfl), N0, rfl⟩
                    · have pre86 : ∀ t, Steps p.tables e below (T17.setTop (mkF m 96 #[rv pr0, iv (0 : Int32), iv pi2, iv x3, iv yW, iv (128 : Int32), iv (191 : Int32), iv (3 : Int32), iv x48] [(.int yW), (.int (3 : Int32))])) t → Go t := fun t kt => pre64 t (by
                          refine y_icmpYes X17.here hx (hb hby d1_44) (flt hc44_65).2.1 (pc' := 92) (by decide) rfl ?_
                          refine y_iload X17.here hx (hb hby d1_92) rfl (pc' := 94) rfl ?_
                          refine y_iload X17.here hx (hb hby d1_94) rfl (pc' := 96) rfl ?_
                          exact kt)
                      by_cases hc96_87 : (3 : Int32) = yW
                      · have pre88 : ∀ t, Steps p.tables e below (T17.setTop (mkF m 107 #[rv pr0, iv (0 : Int32), iv pi2, iv x3, iv yW, iv (128 : Int32), iv (191 : Int32), iv (3 : Int32), iv x48] [(.int yW)])) t → Go t := fun t kt => pre86 t (by
                            refine y_icmpNo X17.here hx (hb hby d1_96) (teq hc96_87).2 (pc' := 99) rfl ?_
                            refine y_iload X17.here hx (hb hby d1_99) rfl (pc' := 101) rfl ?_
                            refine y_goto X17.here hx (hb hby d1_101) (pc' := 107) (by decide) rfl ?_
                            exact kt)
                        obtain ⟨fs, hr, hrun, hended, hW, hsame⟩ := X17.leave (v := some (.int yW)) (fun h => by rw [Bd.returns] at h; cases h)
                        refine ⟨_, _, (hGo _).mp (pre88 _ ?_), hrun, hended, _, _, rfl, ?_, ⟨_, rfl⟩, hW, hsame.mono (by decide) (by decide)⟩
                        · exact retOut X17 hx Bd.returns rfl (Or.inl ⟨rfl, Or.inl rfl, _, rfl⟩) (hb hby d1_107) hr
                        · show Q1a0 Z pr0 pi2 w_SEQUENCE_LENGTH w_SECOND_LOW w_SECOND_HIGH yW yL yH kk_pr0 y0 y1 y2 y3 y4 y5 cc_w_SEQUENCE_LENGTH cc_w_SECOND_LOW cc_w_SECOND_HIGH h0 n0 _ T17.heap _
                          rw [e17]
                          subst hx3 hx28 hx48
                          exact ⟨(by first | (simp only [fr1a0, if_pos hc36_23, if_pos hc44_25, if_neg hc63_31, if_neg hc70_37, if_pos hc36_43, if_pos hc44_45, if_neg hc63_51, if_neg hc70_57, if_pos hc36_63, if_neg hc44_65, if_pos hc96_87]; done) | (simp only [fr1a0, if_pos hc36_23, if_pos hc44_25, if_neg hc63_31, if_neg hc70_37, if_pos hc36_43, if_pos hc44_45, if_neg hc63_51, if_neg hc70_57, if_pos hc36_63, if_neg hc44_65, if_pos hc96_87]; exact rfl) | exact rfl), N0, rfl⟩
                      · have pre89 : ∀ t, Steps p.tables e below (T17.setTop (mkF m 107 #[rv pr0, iv (0 : Int32), iv pi2, iv x3, iv yW, iv (128 : Int32), iv (191 : Int32), iv (3 : Int32), iv x48] [(.int (-3 : Int32))])) t → Go t := fun t kt => pre86 t (by
                            refine y_icmpYes X17.here hx (hb hby d1_96) (feq hc96_87).2 (pc' := 104) (by decide) rfl ?_
                            refine y_iload X17.here hx (hb hby d1_104) rfl (pc' := 106) rfl ?_
                            refine y_ineg X17.here hx (hb hby d1_106) (z := (-3 : Int32)) rfl (pc' := 107) rfl ?_
                            exact kt)
                        obtain ⟨fs, hr, hrun, hended, hW, hsame⟩ := X17.leave (v := some (.int (-3 : Int32))) (fun h => by rw [Bd.returns] at h; cases h)
                        refine ⟨_, _, (hGo _).mp (pre89 _ ?_), hrun, hended, _, _, rfl, ?_, ⟨_, rfl⟩, hW, hsame.mono (by decide) (by decide)⟩
                        · exact retOut X17 hx Bd.returns rfl (Or.inl ⟨rfl, Or.inl rfl, _, rfl⟩) (hb hby d1_107) hr
                        · show Q1a0 Z pr0 pi2 w_SEQUENCE_LENGTH w_SECOND_LOW w_SECOND_HIGH yW yL yH kk_pr0 y0 y1 y2 y3 y4 y5 cc_w_SEQUENCE_LENGTH cc_w_SECOND_LOW cc_w_SECOND_HIGH h0 n0 _ T17.heap _
                          rw [e17]
                          subst hx3 hx28 hx48
                          exact ⟨(by first | (simp only [fr1a0, if_pos hc36_23, if_pos hc44_25, if_neg hc63_31, if_neg hc70_37, if_pos hc36_43, if_pos hc44_45, if_neg hc63_51, if_neg hc70_57, if_pos hc36_63, if_neg hc44_65, if_neg hc96_87]; done) | (simp only [fr1a0, if_pos hc36_23, if_pos hc44_25, if_neg hc63_31, if_neg hc70_37, if_pos hc36_43, if_pos hc44_45, if_neg hc63_51, if_neg hc70_57, if_pos hc36_63, if_neg hc44_65, if_neg hc96_87]; exact rfl) | exact rfl), N0, rfl⟩
                  · have pre90 : ∀ t, Steps p.tables e below (T17.setTop (mkF m 96 #[rv pr0, iv (0 : Int32), iv pi2, iv x3, iv yW, iv (128 : Int32), iv (191 : Int32), iv (3 : Int32), iv x48] [(.int yW), (.int (3 : Int32))])) t → Go t := fun t kt => pre62 t (by
                        refine y_icmpYes X17.here hx (hb hby d1_36) (flt hc36_63).2.1 (pc' := 92) (by decide) rfl ?_
                        refine y_iload X17.here hx (hb hby d1_92) rfl (pc' := 94) rfl ?_
                        refine y_iload X17.here hx (hb hby d1_94) rfl (pc' := 96) rfl ?_
                        exact kt)
                    by_cases hc96_91 : (3 : Int32) = yW
                    · have pre92 : ∀ t, Steps p.tables e below (T17.setTop (mkF m 107 #[rv pr0, iv (0 : Int32), iv pi2, iv x3, iv yW, iv (128 : Int32), iv (191 : Int32), iv (3 : Int32), iv x48] [(.int yW)])) t → Go t := fun t kt => pre90 t (by
                          refine y_icmpNo X17.here hx (hb hby d1_96) (teq hc96_91).2 (pc' := 99) rfl ?_
                          refine y_iload X17.here hx (hb hby d1_99) rfl (pc' := 101) rfl ?_
                          refine y_goto X17.here hx (hb hby d1_101) (pc' := 107) (by decide) rfl ?_
                          exact kt)
                      obtain ⟨fs, hr, hrun, hended, hW, hsame⟩ := X17.leave (v := some (.int yW)) (fun h => by rw [Bd.returns] at h; cases h)
                      refine ⟨_, _, (hGo _).mp (pre92 _ ?_), hrun, hended, _, _, rfl, ?_, ⟨_, rfl⟩, hW, hsame.mono (by decide) (by decide)⟩
                      · exact retOut X17 hx Bd.returns rfl (Or.inl ⟨rfl, Or.inl rfl, _, rfl⟩) (hb hby d1_107) hr
                      · show Q1a0 Z pr0 pi2 w_SEQUENCE_LENGTH w_SECOND_LOW w_SECOND_HIGH yW yL yH kk_pr0 y0 y1 y2 y3 y4 y5 cc_w_SEQUENCE_LENGTH cc_w_SECOND_LOW cc_w_SECOND_HIGH h0 n0 _ T17.heap _
                        rw [e17]
                        subst hx3 hx28 hx48
                        exact ⟨(by first | (simp only [fr1a0, if_pos hc36_23, if_pos hc44_25, if_neg hc63_31, if_neg hc70_37, if_pos hc36_43, if_pos hc44_45, if_neg hc63_51, if_neg hc70_57, if_neg hc36_63, if_pos hc96_91]; done) | (simp only [fr1a0, if_pos hc36_23, if_pos hc44_25, if_neg hc63_31, if_neg hc70_37, if_pos hc36_43, if_pos hc44_45, if_neg hc63_51, if_neg hc70_57, if_neg hc36_63, if_pos hc96_91]; exact rfl) | exact rfl), N0, rfl⟩
                    · have pre93 : ∀ t, Steps p.tables e below (T17.setTop (mkF m 107 #[rv pr0, iv (0 : Int32), iv pi2, iv x3, iv yW, iv (128 : Int32), iv (191 : Int32), iv (3 : Int32), iv x48] [(.int (-3 : Int32))])) t → Go t := fun t kt => pre90 t (by
                          refine y_icmpYes X17.here hx (hb hby d1_96) (feq hc96_91).2 (pc' := 104) (by decide) rfl ?_
                          refine y_iload X17.here hx (hb hby d1_104) rfl (pc' := 106) rfl ?_
                          refine y_ineg X17.here hx (hb hby d1_106) (z := (-3 : Int32)) rfl (pc' := 107) rfl ?_
                          exact kt)
                      obtain ⟨fs, hr, hrun, hended, hW, hsame⟩ := X17.leave (v := some (.int (-3 : Int32))) (fun h => by rw [Bd.returns] at h; cases h)
                      refine ⟨_, _, (hGo _).mp (pre93 _ ?_), hrun, hended, _, _, rfl, ?_, ⟨_, rfl⟩, hW, hsame.mono (by decide) (by decide)⟩
                      · exact retOut X17 hx Bd.returns rfl (Or.inl ⟨rfl, Or.inl rfl, _, rfl⟩) (hb hby d1_107) hr
                      · show Q1a0 Z pr0 pi2 w_SEQUENCE_LENGTH w_SECOND_LOW w_SECOND_HIGH yW yL yH kk_pr0 y0 y1 y2 y3 y4 y5 cc_w_SEQUENCE_LENGTH cc_w_SECOND_LOW cc_w_SECOND_HIGH h0 n0 _ T17.heap _
                        rw [e17]
                        subst hx3 hx28 hx48
                        exact ⟨(by first | (simp only [fr1a0, if_pos hc36_23, if_pos hc44_25, if_neg hc63_31, if_neg hc70_37, if_pos hc36_43, if_pos hc44_45, if_neg hc63_51, if_neg hc70_57, if_neg hc36_63, if_neg hc96_91]; done) | (simp only [fr1a0, if_pos hc36_23, if_pos hc44_25, if_neg hc63_31, if_neg hc70_37, if_pos hc36_43, if_pos hc44_45, if_neg hc63_51, if_neg hc70_57, if_neg hc36_63, if_neg hc96_91]; exact rfl) | exact rfl), N0, rfl⟩
            · have pre94 : ∀ t, Steps p.tables e below (T17.setTop (mkF m 96 #[rv pr0, iv (0 : Int32), iv pi2, iv x3, iv yW, iv (128 : Int32), iv (191 : Int32), iv (2 : Int32), iv x28] [(.int yW), (.int (2 : Int32))])) t → Go t := fun t kt => pre44 t (by
                  refine y_icmpYes X17.here hx (hb hby d1_44) (flt hc44_45).2.1 (pc' := 92) (by decide) rfl ?_
                  refine y_iload X17.here hx (hb hby d1_92) rfl (pc' := 94) rfl ?_
                  refine y_iload X17.here hx (hb hby d1_94) rfl (pc' := 96) rfl ?_
                  exact kt)
              by_cases hc96_95 : (2 : Int32) = yW
              · have pre96 : ∀ t, Steps p.tables e below (T17.setTop (mkF m 107 #[rv pr0, iv (0 : Int32), iv pi2, iv x3, iv yW, iv (128 : Int32), iv (191 : Int32), iv (2 : Int32), iv x28] [(.int yW)])) t → Go t := fun t kt => pre94 t (by
                    refine y_icmpNo X17.here hx (hb hby d1_96) (teq hc96_95).2 (pc' := 99) rfl ?_
                    refine y_iload X17.here hx (hb hby d1_99) rfl (pc' := 101) rfl ?_
                    refine y_goto X17.here hx (hb hby d1_101) (pc' := 107) (by decide) rfl ?_
                    exact kt)
                obtain ⟨fs, hr, hrun, hended, hW, hsame⟩ := X17.leave (v := some (.int yW)) (fun h => by rw [Bd.returns] at h; cases h)
                refine ⟨_, _, (hGo _).mp (pre96 _ ?_), hrun, hended, _, _, rfl, ?_, ⟨_, rfl⟩, hW, hsame.mono (by decide) (by decide)⟩
                · exact retOut X17 hx Bd.returns rfl (Or.inl ⟨rfl, Or.inl rfl, _, rfl⟩) (hb hby d1_107) hr
                · show Q1a0 Z pr0 pi2 w_SEQUENCE_LENGTH w_SECOND_LOW w_SECOND_HIGH yW yL yH kk_pr0 y0 y1 y2 y3 y4 y5 cc_w_SEQUENCE_LENGTH cc_w_SECOND_LOW cc_w_SECOND_HIGH h0 n0 _ T17.heap _
                  rw [e17]
                  subst hx3 hx28
                  exact ⟨(by first | (simp only [fr1a0, if_pos hc36_23, if_pos hc44_25, if_neg hc63_31, if_neg hc70_37, if_pos hc36_43, if_neg hc44_45, if_pos hc96_95]; done) | (simp only [fr1a0, if_pos hc36_23, if_pos hc44_25, if_neg hc63_31, if_neg hc70_37, if_pos hc36_43, if_neg hc44_45, if_pos hc96_95]; exact rfl) | exact rfl), N0, rfl⟩
              · have pre97 : ∀ t, Steps p.tables e below (T17.setTop (mkF m 107 #[rv pr0, iv (0 : Int32), iv pi2, iv x3, iv yW, iv (128 : Int32), iv (191 : Int32), iv (2 : Int32), iv x28] [(.int (-2 : Int32))])) t → Go t := fun t kt => pre94 t (by
                    refine y_icmpYes X17.here hx (hb hby d1_96) (feq hc96_95).2 (pc' := 104) (by decide) rfl ?_
                    refine y_iload X17.here hx (hb hby d1_104) rfl (pc' := 106) rfl ?_
                    refine y_ineg X17.here hx (hb hby d1_106) (z := (-2 : Int32)) rfl (pc' := 107) rfl ?_
                    exact kt)
                obtain ⟨fs, hr, hrun, hended, hW, hsame⟩ := X17.leave (v := some (.int (-2 : Int32))) (fun h => by rw [Bd.returns] at h; cases h)
                refine ⟨_, _, (hGo _).mp (pre97 _ ?_), hrun, hended, _, _, rfl, ?_, ⟨_, rfl⟩, hW, hsame.mono (by decide) (by decide)⟩
                · exact retOut X17 hx Bd.returns rfl (Or.inl ⟨rfl, Or.inl rfl, _, rfl⟩) (hb hby d1_107) hr
                · show Q1a0 Z pr0 pi2 w_SEQUENCE_LENGTH w_SECOND_LOW w_SECOND_HIGH yW yL yH kk_pr0 y0 y1 y2 y3 y4 y5 cc_w_SEQUENCE_LENGTH cc_w_SECOND_LOW cc_w_SECOND_HIGH h0 n0 _ T17.heap _
                  rw [e17]
                  subst hx3 hx28
                  exact ⟨(by first | (simp only [fr1a0, if_pos hc36_23, if_pos hc44_25, if_neg hc63_31, if_neg hc70_37, if_pos hc36_43, if_neg hc44_45, if_neg hc96_95]; done) | (simp only [fr1a0, if_pos hc36_23, if_pos hc44_25, if_neg hc63_31, if_neg hc70_37, if_pos hc36_43, if_neg hc44_45, if_neg hc96_95]; exact rfl) | exact rfl), N0, rfl⟩
          · have pre98 : ∀ t, Steps p.tables e below (T17.setTop (mkF m 96 #[rv pr0, iv (0 : Int32), iv pi2, iv x3, iv yW, iv (128 : Int32), iv (191 : Int32), iv (2 : Int32), iv x28] [(.int yW), (.int (2 : Int32))])) t → Go t := fun t kt => pre42 t (by
                refine y_icmpYes X17.here hx (hb hby d1_36) (flt hc36_43).2.1 (pc' := 92) (by decide) rfl ?_
                refine y_iload X17.here hx (hb hby d1_92) rfl (pc' := 94) rfl ?_
                refine y_iload X17.here hx (hb hby d1_94) rfl (pc' := 96) rfl ?_
                exact kt)
            by_cases hc96_99 : (2 : Int32) = yW
            · have pre100 : ∀ t, Steps p.tables e below (T17.setTop (mkF m 107 #[rv pr0, iv (0 : Int32), iv pi2, iv x3, iv yW, iv (128 : Int32), iv (191 : Int32), iv (2 : Int32), iv x28] [(.int yW)])) t → Go t := fun t kt => pre98 t (by
                  refine y_icmpNo X17.here hx (hb hby d1_96) (teq hc96_99).2 (pc' := 99) rfl ?_
                  refine y_iload X17.here hx (hb hby d1_99) rfl (pc' := 101) rfl ?_
                  refine y_goto X17.here hx (hb hby d1_101) (pc' := 107) (by decide) rfl ?_
                  exact kt)
              obtain ⟨fs, hr, hrun, hended, hW, hsame⟩ := X17.leave (v := some (.int yW)) (fun h => by rw [Bd.returns] at h; cases h)
              refine ⟨_, _, (hGo _).mp (pre100 _ ?_), hrun, hended, _, _, rfl, ?_, ⟨_, rfl⟩, hW, hsame.mono (by decide) (by decide)⟩
              · exact retOut X17 hx Bd.returns rfl (Or.inl ⟨rfl, Or.inl rfl, _, rfl⟩) (hb hby d1_107) hr
              · show Q1a0 Z pr0 pi2 w_SEQUENCE_LENGTH w_SECOND_LOW w_SECOND_HIGH yW yL yH kk_pr0 y0 y1 y2 y3 y4 y5 cc_w_SEQUENCE_LENGTH cc_w_SECOND_LOW cc_w_SECOND_HIGH h0 n0 _ T17.heap _
                rw [e17]
                subst hx3 hx28
                exact ⟨(by first | (simp only [fr1a0, if_pos hc36_23, if_pos hc44_25, if_neg hc63_31, if_neg hc70_37, if_neg hc36_43, if_pos hc96_99]; done) | (simp only [fr1a0, if_pos hc36_23, if_pos hc44_25, if_neg hc63_31, if_neg hc70_37, if_neg hc36_43, if_pos hc96_99]; exact rfl) | exact rfl), N0, rfl⟩
            · have pre101 : ∀ t, Steps p.tables e below (T17.setTop (mkF m 107 #[rv pr0, iv (0 : Int32), iv pi2, iv x3, iv yW, iv (128 : Int32), iv (191 : Int32), iv (2 : Int32), iv x28] [(.int (-2 : Int32))])) t → Go t := fun t kt => pre98 t (by
                  refine y_icmpYes X17.here hx (hb hby d1_96) (feq hc96_99).2 (pc' := 104) (by decide) rfl ?_
                  refine y_iload X17.here hx (hb hby d1_104) rfl (pc' := 106) rfl ?_
                  refine y_ineg X17.here hx (hb hby d1_106) (z := (-2 : Int32)) rfl (pc' := 107) rfl ?_
                  exact kt)
              obtain ⟨fs, hr, hrun, hended, hW, hsame⟩ := X17.leave (v := some (.int (-2 : Int32))) (fun h => by rw [Bd.returns] at h; cases h)
              refine ⟨_, _, (hGo _).mp (pre101 _ ?_), hrun, hended, _, _, rfl, ?_, ⟨_, rfl⟩, hW, hsame.mono (by decide) (by decide)⟩
              · exact retOut X17 hx Bd.returns rfl (Or.inl ⟨rfl, Or.inl rfl, _, rfl⟩) (hb hby d1_107) hr
              · show Q1a0 Z pr0 pi2 w_SEQUENCE_LENGTH w_SECOND_LOW w_SECOND_HIGH yW yL yH kk_pr0 y0 y1 y2 y3 y4 y5 cc_w_SEQUENCE_LENGTH cc_w_SECOND_LOW cc_w_SECOND_HIGH h0 n0 _ T17.heap _
                rw [e17]
                subst hx3 hx28
                exact ⟨(by first | (simp only [fr1a0, if_pos hc36_23, if_pos hc44_25, if_neg hc63_31, if_neg hc70_37, if_neg hc36_43, if_neg hc96_99]; done) | (simp only [fr1a0, if_pos hc36_23, if_pos hc44_25, if_neg hc63_31, if_neg hc70_37, if_neg hc36_43, if_neg hc96_99]; exact rfl) | exact rfl), N0, rfl⟩
    · have pre102 : ∀ t, Steps p.tables e below (T17.setTop (mkF m 96 #[rv pr0, iv (0 : Int32), iv pi2, iv x3, iv yW, iv yL, iv yH, iv (1 : Int32), .unset] [(.int yW), (.int (1 : Int32))])) t → Go t := fun t kt => pre24 t (by
          refine y_icmpYes X17.here hx (hb hby d1_44) (flt hc44_25).2.1 (pc' := 92) (by decide) rfl ?_
          refine y_iload X17.here hx (hb hby d1_92) rfl (pc' := 94) rfl ?_
          refine y_iload X17.here hx (hb hby d1_94) rfl (pc' := 96) rfl ?_
          exact kt)
      by_cases hc96_103 : (1 : Int32) = yW
      · have pre104 : ∀ t, Steps p.tables e below (T17.setTop (mkF m 107 #[rv pr0, iv (0 : Int32), iv pi2, iv x3, iv yW, iv yL, iv yH, iv (1 : Int32), .unset] [(.int yW)])) t → Go t := fun t kt => pre102 t (by
            refine y_icmpNo X17.here hx (hb hby d1_96) (teq hc96_103).2 (pc' := 99) rfl ?_
            refine y_iload X17.here hx (hb hby d1_99) rfl (pc' := 101) rfl ?_
            refine y_goto X17.here hx (hb hby d1_101) (pc' := 107) (by decide) rfl ?_
            exact kt)
        obtain ⟨fs, hr, hrun, hended, hW, hsame⟩ := X17.leave (v := some (.int yW)) (fun h => by rw [Bd.returns] at h; cases h)
        refine ⟨_, _, (hGo _).mp (pre104 _ ?_), hrun, hended, _, _, rfl, ?_, ⟨_, rfl⟩, hW, hsame.mono (by decide) (by decide)⟩
        · exact retOut X17 hx Bd.returns rfl (Or.inl ⟨rfl, Or.inl rfl, _, rfl⟩) (hb hby d1_107) hr
        · show Q1a0 Z pr0 pi2 w_SEQUENCE_LENGTH w_SECOND_LOW w_SECOND_HIGH yW yL yH kk_pr0 y0 y1 y2 y3 y4 y5 cc_w_SEQUENCE_LENGTH cc_w_SECOND_LOW cc_w_SECOND_HIGH h0 n0 _ T17.heap _
          rw [e17]
          subst hx3
          exact ⟨(by first | (simp only [fr1a0, if_pos hc36_23, if_neg hc44_25, if_pos hc96_103]; done) | (simp only [fr1a0, if_pos hc36_23, if_neg hc44_25, if_pos hc96_103]; exact rfl) | exact rfl), N0, rfl⟩
      · have pre105 : ∀ t, Steps p.tables e below (T17.setTop (mkF m 107 #[rv pr0, iv (0 : Int32), iv pi2, iv x3, iv yW, iv yL, iv yH, iv (1 : Int32), .unset] [(.int (-1 : Int32))])) t → Go t := fun t kt => pre102 t (by
            refine y_icmpYes X17.here hx (hb hby d1_96) (feq hc96_103).2 (pc' := 104) (by decide) rfl ?_
            refine y_iload X17.here hx (hb hby d1_104) rfl (pc' := 106) rfl ?_
            refine y_ineg X17.here hx (hb hby d1_106) (z := (-1 : Int32)) rfl (pc' := 107) rfl ?_
            exact kt)
        obtain ⟨fs, hr, hrun, hended, hW, hsame⟩ := X17.leave (v := some (.int (-1 : Int32))) (fun h => by rw [Bd.returns] at h; cases h)
        refine ⟨_, _, (hGo _).mp (pre105 _ ?_), hrun, hended, _, _, rfl, ?_, ⟨_, rfl⟩, hW, hsame.mono (by decide) (by decide)⟩
        · exact retOut X17 hx Bd.returns rfl (Or.inl ⟨rfl, Or.inl rfl, _, rfl⟩) (hb hby d1_107) hr
        · show Q1a0 Z pr0 pi2 w_SEQUENCE_LENGTH w_SECOND_LOW w_SECOND_HIGH yW yL yH kk_pr0 y0 y1 y2 y3 y4 y5 cc_w_SEQUENCE_LENGTH cc_w_SECOND_LOW cc_w_SECOND_HIGH h0 n0 _ T17.heap _
          rw [e17]
          subst hx3
          exact ⟨(by first | (simp only [fr1a0, if_pos hc36_23, if_neg hc44_25, if_neg hc96_103]; done) | (simp only [fr1a0, if_pos hc36_23, if_neg hc44_25, if_neg hc96_103]; exact rfl) | exact rfl), N0, rfl⟩
  · have pre106 : ∀ t, Steps p.tables e below (T17.setTop (mkF m 96 #[rv pr0, iv (0 : Int32), iv pi2, iv x3, iv yW, iv yL, iv yH, iv (1 : Int32), .unset] [(.int yW), (.int (1 : Int32))])) t → Go t := fun t kt => pre22 t (by
        refine y_icmpYes X17.here hx (hb hby d1_36) (flt hc36_23).2.1 (pc' := 92) (by decide) rfl ?_
        refine y_iload X17.here hx (hb hby d1_92) rfl (pc' := 94) rfl ?_
        refine y_iload X17.here hx (hb hby d1_94) rfl (pc' := 96) rfl ?_
        exact kt)
    by_cases hc96_107 : (1 : Int32) = yW
    · have pre108 : ∀ t, Steps p.tables e below (T17.setTop (mkF m 107 #[rv pr0, iv (0 : Int32), iv pi2, iv x3, iv yW, iv yL, iv yH, iv (1 : Int32), .unset] [(.int yW)])) t → Go t := fun t kt => pre106 t (by
          refine y_icmpNo X17.here hx (hb hby d1_96) (teq hc96_107).2 (pc' := 99) rfl ?_
          refine y_iload X17.here hx (hb hby d1_99) rfl (pc' := 101) rfl ?_
          refine y_goto X17.here hx (hb hby d1_101) (pc' := 107) (by decide) rfl ?_
          exact kt)
      obtain ⟨fs, hr, hrun, hended, hW, hsame⟩ := X17.leave (v := some (.int yW)) (fun h => by rw [Bd.returns] at h; cases h)
      refine ⟨_, _, (hGo _).mp (pre108 _ ?_), hrun, hended, _, _, rfl, ?_, ⟨_, rfl⟩, hW, hsame.mono (by decide) (by decide)⟩
      · exact retOut X17 hx Bd.returns rfl (Or.inl ⟨rfl, Or.inl rfl, _, rfl⟩) (hb hby d1_107) hr
      · show Q1a0 Z pr0 pi2 w_SEQUENCE_LENGTH w_SECOND_LOW w_SECOND_HIGH yW yL yH kk_pr0 y0 y1 y2 y3 y4 y5 cc_w_SEQUENCE_LENGTH cc_w_SECOND_LOW cc_w_SECOND_HIGH h0 n0 _ T17.heap _
        rw [e17]
        subst hx3
        exact ⟨(by first | (simp only [fr1a0, if_neg hc36_23, if_pos hc96_107]; done) | (simp only [fr1a0, if_neg hc36_23, if_pos hc96_107]; exact rfl) | exact rfl), N0, rfl⟩
    · have pre109 : ∀ t, Steps p.tables e below (T17.setTop (mkF m 107 #[rv pr0, iv (0 : Int32), iv pi2, iv x3, iv yW, iv yL, iv yH, iv (1 : Int32), .unset] [(.int (-1 : Int32))])) t → Go t := fun t kt => pre106 t (by
          refine y_icmpYes X17.here hx (hb hby d1_96) (feq hc96_107).2 (pc' := 104) (by decide) rfl ?_
          refine y_iload X17.here hx (hb hby d1_104) rfl (pc' := 106) rfl ?_
          refine y_ineg X17.here hx (hb hby d1_106) (z := (-1 : Int32)) rfl (pc' := 107) rfl ?_
          exact kt)
      obtain ⟨fs, hr, hrun, hended, hW, hsame⟩ := X17.leave (v := some (.int (-1 : Int32))) (fun h => by rw [Bd.returns] at h; cases h)
      refine ⟨_, _, (hGo _).mp (pre109 _ ?_), hrun, hended, _, _, rfl, ?_, ⟨_, rfl⟩, hW, hsame.mono (by decide) (by decide)⟩
      · exact retOut X17 hx Bd.returns rfl (Or.inl ⟨rfl, Or.inl rfl, _, rfl⟩) (hb hby d1_107) hr
      · show Q1a0 Z pr0 pi2 w_SEQUENCE_LENGTH w_SECOND_LOW w_SECOND_HIGH yW yL yH kk_pr0 y0 y1 y2 y3 y4 y5 cc_w_SEQUENCE_LENGTH cc_w_SECOND_LOW cc_w_SECOND_HIGH h0 n0 _ T17.heap _
        rw [e17]
        subst hx3
        exact ⟨(by first | (simp only [fr1a0, if_neg hc36_23, if_neg hc96_107]; done) | (simp only [fr1a0, if_neg hc36_23, if_neg hc96_107]; exact rfl) | exact rfl), N0, rfl⟩
def fr1a1 (pi2 : Int32) (yW : Int32) (yL : Int32) (yH : Int32) (y2 : Int32) (y3 : Int32) (y4 : Int32) : Int32 := (if (1 : Int32) < yW then (if (2 : Int32) < pi2 then (if (y2 &&& (255 : Int32)) < yL then (if (1 : Int32) = yW then yW else (-1 : Int32)) else (if yH < (y2 &&& (255 : Int32)) then (if (1 : Int32) = yW then yW else (-1 : Int32)) else (if (2 : Int32) < yW then (if (3 : Int32) < pi2 then (if (y3 &&& (255 : Int32)) < (128 : Int32) then (if (2 : Int32) = yW then yW else (-2 : Int32)) else (if (191 : Int32) < (y3 &&& (255 : Int32)) then (if (2 : Int32) = yW then yW else (-2 : Int32)) else (if (3 : Int32) < yW then (if (4 : Int32) < pi2 then (if (y4 &&& (255 : Int32)) < (128 : Int32) then (if (3 : Int32) = yW then yW else (-3 : Int32)) else (if (191 : Int32) < (y4 &&& (255 : Int32)) then (if (3 : Int32) = yW then yW else (-3 : Int32)) else (if (4 : Int32) = yW then yW else (-4 : Int32)))) else (if (3 : Int32) = yW then yW else (-3 : Int32))) else (if (3 : Int32) = yW then yW else (-3 : Int32))))) else (if (2 : Int32) = yW then yW else (-2 : Int32))) else (if (2 : Int32) = yW then yW else (-2 : Int32))))) else (if (1 : Int32) = yW then yW else (-1 : Int32))) else (if (1 : Int32) = yW then yW else (-1 : Int32)))
theorem ef_1a1 (m : MethodId) (x0 : Addr) (x2 : Int32) : entryFrame m #[(.ref x0), (.int (1 : Int32)), (.int x2)] 9 = mkF m 0 #[rv x0, iv (1 : Int32), iv x2, .unset, .unset, .unset, .unset, .unset, .unset] [] := by first | (simp [entryFrame, mkF, argsToLocals, Value.category]; done) | rfl
def Q1a1 (Z : State) (pr0 : Addr) (pi2 : Int32) (w_SEQUENCE_LENGTH : Addr) (w_SECOND_LOW : Addr) (w_SECOND_HIGH : Addr) (yW : Int32) (yL : Int32) (yH : Int32) (kk_pr0 : ClassId) (y0 : Int32) (y1 : Int32) (y2 : Int32) (y3 : Int32) (y4 : Int32) (y5 : Int32) (cc_w_SEQUENCE_LENGTH : Cell) (cc_w_SECOND_LOW : Cell) (cc_w_SECOND_HIGH : Cell) (h0 : Heap) (n0 : Nat) (v : Option Value) (h : Heap) (L : List Loc) : Prop := v = some (.int (fr1a1 pi2 yW yL yH y2 y3 y4)) ∧ Fr n0 L ∧ h = h0
set_option maxRecDepth 65536 in
set_option maxHeartbeats 40000000 in
theorem rm1a1 (l : Launch) (Z : State) (a0 : Array Value) (hw : ∀ d ∈ tables_1, d.before a0 Z = true) (ws : List Jvm.Cond) (pr0 : Addr) (pi2 : Int32) (w_SEQUENCE_LENGTH : Addr) (w_SECOND_LOW : Addr) (w_SECOND_HIGH : Addr) (yW : Int32) (yL : Int32) (yH : Int32) (kk_pr0 : ClassId) (y0 : Int32) (y1 : Int32) (y2 : Int32) (y3 : Int32) (y4 : Int32) (y5 : Int32) (cc_w_SEQUENCE_LENGTH : Cell) (cc_w_SECOND_LOW : Cell) (cc_w_SECOND_HIGH : Cell) (h0 : Heap) (n0 : Nat) (O0 : Old Z n0 h0) (S_SEQUENCE_LENGTH : Sta Z Z.heap "com/example/strict_codec/strictcodec/Utf8Grammar" "SEQUENCE_LENGTH" "[B" (.ref w_SEQUENCE_LENGTH)) (S_SECOND_LOW : Sta Z Z.heap "com/example/strict_codec/strictcodec/Utf8Grammar" "SECOND_LOW" "[I" (.ref w_SECOND_LOW)) (S_SECOND_HIGH : Sta Z Z.heap "com/example/strict_codec/strictcodec/Utf8Grammar" "SECOND_HIGH" "[I" (.ref w_SECOND_HIGH)) (IN_SEQUENCE_LENGTH : ¬ ((y1 &&& (255 : Int32)) < 0 ∨ cc_w_SEQUENCE_LENGTH.slots.size ≤ (y1 &&& (255 : Int32)).toNatClampNeg)) (AT_SEQUENCE_LENGTH : cc_w_SEQUENCE_LENGTH.slots[(y1 &&& (255 : Int32)).toNatClampNeg]? = some (.int yW)) (IN_SECOND_LOW : ¬ ((y1 &&& (255 : Int32)) < 0 ∨ cc_w_SECOND_LOW.slots.size ≤ (y1 &&& (255 : Int32)).toNatClampNeg)) (AT_SECOND_LOW : cc_w_SECOND_LOW.slots[(y1 &&& (255 : Int32)).toNatClampNeg]? = some (.int yL)) (IN_SECOND_HIGH : ¬ ((y1 &&& (255 : Int32)) < 0 ∨ cc_w_SECOND_HIGH.slots.size ≤ (y1 &&& (255 : Int32)).toNatClampNeg)) (AT_SECOND_HIGH : cc_w_SECOND_HIGH.slots[(y1 &&& (255 : Int32)).toNatClampNeg]? = some (.int yH)) (W4 : ¬ (4 : Int32) < yW) (V_pr0 : Arv Z h0 pr0 kk_pr0 .byte (6 : Int32) [(.int y0), (.int y1), (.int y2), (.int y3), (.int y4), (.int y5)] (.int (0 : Int32))) (AR_w_SEQUENCE_LENGTH : Arr Z Z.heap w_SEQUENCE_LENGTH cc_w_SEQUENCE_LENGTH .byte) (AR_w_SECOND_LOW : Arr Z Z.heap w_SECOND_LOW cc_w_SECOND_LOW .int) (AR_w_SECOND_HIGH : Arr Z Z.heap w_SECOND_HIGH cc_w_SECOND_HIGH .int) :
    MetFree l (⟨"com/example/strict_codec/strictcodec/Utf8Grammar", "span", "([BII)I"⟩ : MethodName) (head1 (Jvm.Cond.code (⟨"com/example/strict_codec/strictcodec/Utf8Grammar", "span", "([BII)I"⟩ : MethodName) prog_19_method_13_code 9 (some .int) :: ws) ({ frames := 0, cells := 0, slots := 0, locals := 0 } : Room)) (fun a U => a = #[(.ref pr0), (.int (1 : Int32)), (.int pi2)] ∧ Z.Warmed39 U.vm ∧ U.heap = h0) (fun _ _ _ _ _ => True) (fun _ U o U' => ∃ v L, o = .returned v ∧ Q1a1 Z pr0 pi2 w_SEQUENCE_LENGTH w_SECOND_LOW w_SECOND_HIGH yW yL yH kk_pr0 y0 y1 y2 y3 y4 y5 cc_w_SEQUENCE_LENGTH cc_w_SECOND_LOW cc_w_SECOND_HIGH h0 n0 v U'.heap L ∧ FrameEnd U o U' L ({ frames := 0, cells := 0, slots := 0, locals := 0 } : Room).cells ({ frames := 0, cells := 0, slots := 0, locals := 0 } : Room).slots) := by
  refine MetFree.of_bodySF (plainFor_of_name pn_com_example_strict_codec_strictcodec_Utf8Grammar) hisR ?_
  intro p e s m args below meth c s₁ Bd hml0 hP hK
  obtain ⟨rfl, hZ, hh⟩ := hP
  have hx := Bd.exec
  have hby := Bd.bytes
  have hml : c.maxLocals = 9 := hml0
  have hown : s.vm.findClass "com/example/strict_codec/strictcodec/Utf8Grammar" = some m.cls := findClass_of_methodNamed Bd.named
  have hnm := (name_of_methodNamed Bd.named Bd.method).1
  have X0 : Stand p l e ({ frames := 0, cells := 0, slots := 0, locals := 0 } : Room) s m #[(.ref pr0), (.int (1 : Int32)), (.int pi2)] below meth c s₁ [] 0 0 := Stand.of_body Bd
  have e0 : s₁.heap = h0 := by rw [← hh, Bd.state]; rfl
  have N0 := Fr.nil n0
  obtain ⟨Go, hGo⟩ : ∃ P : State → Prop, ∀ t, P t ↔ Steps p.tables e below (s₁.setTop (entryFrame m #[(.ref pr0), (.int (1 : Int32)), (.int pi2)] 9)) t := ⟨_, fun _ => Iff.rfl⟩
  have pre0 : ∀ t, Steps p.tables e below (s₁.setTop (mkF m 0 #[rv pr0, iv (1 : Int32), iv pi2, .unset, .unset, .unset, .unset, .unset, .unset] [])) t → Go t := fun t k => (hGo t).mpr (castTop (ef_1a1 m pr0 pi2) k)
  have pre1 : ∀ t, Steps p.tables e below (s₁.setTop (mkF m 2 #[rv pr0, iv (1 : Int32), iv pi2, .unset, .unset, .unset, .unset, .unset, .unset] [(.int (1 : Int32)), (.ref pr0)])) t → Go t := fun t kt => pre0 t (by
      refine y_aloadN X0.here hx (hb hby d1_0) rfl rfl (pc' := 1) rfl ?_
      refine y_iloadN X0.here hx (hb hby d1_1) rfl (pc' := 2) rfl ?_
      exact kt)
  obtain ⟨c2, Ar2, q2, S2, M2, H2, G2⟩ := id V_pr0
  have hin2 : ¬ ((1 : Int32) < 0 ∨ c2.slots.size ≤ ((1 : Int32)).toNatClampNeg) := inb_of S2 ⟨by decide, by decide⟩
  have hat2 : c2.slots[((1 : Int32)).toNatClampNeg]? = some (.int y1) := Has.at H2 hin2 rfl
  obtain ⟨x3, hx3⟩ : ∃ z : Int32, z = (y1 &&& (255 : Int32)) := ⟨_, rfl⟩
  have pre4 : ∀ t, Steps p.tables e below (s₁.setTop (mkF m 8 #[rv pr0, iv (1 : Int32), iv pi2, iv x3, .unset, .unset, .unset, .unset, .unset] [])) t → Go t := fun t kt => pre1 t (by
      subst hx3
      refine X0.baloadBytes hx (j := (1 : Int32)) (v := (.int y1)) (by rw [e0]; exact Ar2.1) (State.isArrayOf_alike hZ.alike Ar2.2.1) Ar2.2.2 hin2 hat2 (g := (mkF m 2 #[rv pr0, iv (1 : Int32), iv pi2, .unset, .unset, .unset, .unset, .unset, .unset] [(.int (1 : Int32)), (.ref pr0)])) rfl rfl (hb hby d1_2) _ ?_
      show Steps p.tables e below (s₁.setTop (mkF m 3 #[rv pr0, iv (1 : Int32), iv pi2, .unset, .unset, .unset, .unset, .unset, .unset] [(.int y1)])) _
      refine y_sipush X0.here hx (hb hby d1_3) (v := (255 : Int32)) rfl (pc' := 6) rfl ?_
      refine y_iand X0.here hx (hb hby d1_6) rfl (pc' := 7) rfl ?_
      refine y_istoreN X0.here hx (hb hby d1_7) (l' := #[rv pr0, iv (1 : Int32), iv pi2, iv (y1 &&& (255 : Int32)), .unset, .unset, .unset, .unset, .unset]) rfl (pc' := 8) rfl ?_
      exact kt)
  obtain ⟨T5, X5, e5, st5⟩ := getS2 X0 hx hZ hown (host := "") (Or.inl (hw _ (List.mem_of_getElem? (i := 6) rfl))) Via.refl e0 (S_SEQUENCE_LENGTH.ext O0.2) (g := (mkF m 8 #[rv pr0, iv (1 : Int32), iv pi2, iv x3, .unset, .unset, .unset, .unset, .unset] [])) rfl (hb hby d1_8)
  have pre6 : ∀ t, Steps p.tables e below (T5.setTop (mkF m 11 #[rv pr0, iv (1 : Int32), iv pi2, iv x3, .unset, .unset, .unset, .unset, .unset] [(.ref w_SEQUENCE_LENGTH)])) t → Go t := fun t kt => pre4 t (st5 t kt)
  have pre7 : ∀ t, Steps p.tables e below (T5.setTop (mkF m 12 #[rv pr0, iv (1 : Int32), iv pi2, iv x3, .unset, .unset, .unset, .unset, .unset] [(.int x3), (.ref w_SEQUENCE_LENGTH)])) t → Go t := fun t kt => pre6 t (by
      refine y_iloadN X5.here hx (hb hby d1_11) rfl (pc' := 12) rfl ?_
      exact kt)
  have A8 := AR_w_SEQUENCE_LENGTH.ext O0.2
  have pre9 : ∀ t, Steps p.tables e below (T5.setTop (mkF m 13 #[rv pr0, iv (1 : Int32), iv pi2, iv x3, .unset, .unset, .unset, .unset, .unset] [(.int yW)])) t → Go t := fun t kt => pre7 t (by
      refine X5.baloadBytes hx (j := x3) (v := (.int yW)) (by rw [e5]; exact A8.1) (State.isArrayOf_alike hZ.alike A8.2.1) A8.2.2 (by rw [hx3]; exact IN_SEQUENCE_LENGTH) (by rw [hx3]; exact AT_SEQUENCE_LENGTH) (g := (mkF m 12 #[rv pr0, iv (1 : Int32), iv pi2, iv x3, .unset, .unset, .unset, .unset, .unset] [(.int x3), (.ref w_SEQUENCE_LENGTH)])) rfl rfl (hb hby d1_12) _ ?_
      show Steps p.tables e below (T5.setTop (mkF m 13 #[rv pr0, iv (1 : Int32), iv pi2, iv x3, .unset, .unset, .unset, .unset, .unset] [(.int yW)])) _
      exact kt)
  have pre10 : ∀ t, Steps p.tables e below (T5.setTop (mkF m 15 #[rv pr0, iv (1 : Int32), iv pi2, iv x3, iv yW, .unset, .unset, .unset, .unset] [])) t → Go t := fun t kt => pre9 t (by
      refine y_istore X5.here hx (hb hby d1_13) (l' := #[rv pr0, iv (1 : Int32), iv pi2, iv x3, iv yW, .unset, .unset, .unset, .unset]) rfl (pc' := 15) rfl ?_
      exact kt)
  obtain ⟨T11, X11, e11, st11⟩ := getS2 X5 hx hZ hown (host := "") (Or.inl (hw _ (List.mem_of_getElem? (i := 8) rfl))) Via.refl e5 (S_SECOND_LOW.ext O0.2) (g := (mkF m 15 #[rv pr0, iv (1 : Int32), iv pi2, iv x3, iv yW, .unset, .unset, .unset, .unset] [])) rfl (hb hby d1_15)
  have pre12 : ∀ t, Steps p.tables e below (T11.setTop (mkF m 18 #[rv pr0, iv (1 : Int32), iv pi2, iv x3, iv yW, .unset, .unset, .unset, .unset] [(.ref w_SECOND_LOW)])) t → Go t := fun t kt => pre10 t (st11 t kt)
  have pre13 : ∀ t, Steps p.tables e below (T11.setTop (mkF m 19 #[rv pr0, iv (1 : Int32), iv pi2, iv x3, iv yW, .unset, .unset, .unset, .unset] [(.int x3), (.ref w_SECOND_LOW)])) t → Go t := fun t kt => pre12 t (by
      refine y_iloadN X11.here hx (hb hby d1_18) rfl (pc' := 19) rfl ?_
      exact kt)
  have A14 := AR_w_SECOND_LOW.ext O0.2
  have pre15 : ∀ t, Steps p.tables e below (T11.setTop (mkF m 20 #[rv pr0, iv (1 : Int32), iv pi2, iv x3, iv yW, .unset, .unset, .unset, .unset] [(.int yL)])) t → Go t := fun t kt => pre13 t (by
      refine X11.iaload hx (j := x3) (v := (.int yL)) (by rw [e11]; exact A14.1) (State.isArrayOf_alike hZ.alike A14.2.1) A14.2.2 (by rw [hx3]; exact IN_SECOND_LOW) (by rw [hx3]; exact AT_SECOND_LOW) (g := (mkF m 19 #[rv pr0, iv (1 : Int32), iv pi2, iv x3, iv yW, .unset, .unset, .unset, .unset] [(.int x3), (.ref w_SECOND_LOW)])) rfl rfl (hb hby d1_19) _ ?_
      show Steps p.tables e below (T11.setTop (mkF m 20 #[rv pr0, iv (1 : Int32), iv pi2, iv x3, iv yW, .unset, .unset, .unset, .unset] [(.int yL)])) _
      exact kt)
  have pre16 : ∀ t, Steps p.tables e below (T11.setTop (mkF m 22 #[rv pr0, iv (1 : Int32), iv pi2, iv x3, iv yW, iv yL, .unset, .unset, .unset] [])) t → Go t := fun t kt => pre15 t (by
      refine y_istore X11.here hx (hb hby d1_20) (l' := #[rv pr0, iv (1 : Int32), iv pi2, iv x3, iv yW, iv yL, .unset, .unset, .unset]) rfl (pc' := 22) rfl ?_
      exact kt)
  obtain ⟨T17, X17, e17, st17⟩ := getS2 X11 hx hZ hown (host := "") (Or.inl (hw _ (List.mem_of_getElem? (i := 10) rfl))) Via.refl e11 (S_SECOND_HIGH.ext O0.2) (g := (mkF m 22 #[rv pr0, iv (1 : Int32), iv pi2, iv x3, iv yW, iv yL, .unset, .unset, .unset] [])) rfl (hb hby d1_22)
  have pre18 : ∀ t, Steps p.tables e below (T17.setTop (mkF m 25 #[rv pr0, iv (1 : Int32), iv pi2, iv x3, iv yW, iv yL, .unset, .unset, .unset] [(.ref w_SECOND_HIGH)])) t → Go t := fun t kt => pre16 t (st17 t kt)
  have pre19 : ∀ t, Steps p.tables e below (T17.setTop (mkF m 26 #[rv pr0, iv (1 : Int32), iv pi2, iv x3, iv yW, iv yL, .unset, .unset, .unset] [(.int x3), (.ref w_SECOND_HIGH)])) t → Go t := fun t kt => pre18 t (by
      refine y_iloadN X17.here hx (hb hby d1_25) rfl (pc' := 26) rfl ?_
      exact kt)
  have A20 := AR_w_SECOND_HIGH.ext O0.2
  have pre21 : ∀ t, Steps p.tables e below (T17.setTop (mkF m 27 #[rv pr0, iv (1 : Int32), iv pi2, iv x3, iv yW, iv yL, .unset, .unset, .unset] [(.int yH)])) t → Go t := fun t kt => pre19 t (by
      refine X17.iaload hx (j := x3) (v := (.int yH)) (by rw [e17]; exact A20.1) (State.isArrayOf_alike hZ.alike A20.2.1) A20.2.2 (by rw [hx3]; exact IN_SECOND_HIGH) (by rw [hx3]; exact AT_SECOND_HIGH) (g := (mkF m 26 #[rv pr0, iv (1 : Int32), iv pi2, iv x3, iv yW, iv yL, .unset, .unset, .unset] [(.int x3), (.ref w_SECOND_HIGH)])) rfl rfl (hb hby d1_26) _ ?_
      show Steps p.tables e below (T17.setTop (mkF m 27 #[rv pr0, iv (1 : Int32), iv pi2, iv x3, iv yW, iv yL, .unset, .unset, .unset] [(.int yH)])) _
      exact kt)
  have pre22 : ∀ t, Steps p.tables e below (T17.setTop (mkF m 36 #[rv pr0, iv (1 : Int32), iv pi2, iv x3, iv yW, iv yL, iv yH, iv (1 : Int32), .unset] [(.int yW), (.int (1 : Int32))])) t → Go t := fun t kt => pre21 t (by
      refine y_istore X17.here hx (hb hby d1_27) (l' := #[rv pr0, iv (1 : Int32), iv pi2, iv x3, iv yW, iv yL, iv yH, .unset, .unset]) rfl (pc' := 29) rfl ?_
      refine y_iconst X17.here hx (hb hby d1_29) (v := (1 : Int32)) rfl (pc' := 30) rfl ?_
      refine y_istore X17.here hx (hb hby d1_30) (l' := #[rv pr0, iv (1 : Int32), iv pi2, iv x3, iv yW, iv yL, iv yH, iv (1 : Int32), .unset]) rfl (pc' := 32) rfl ?_
      refine y_iload X17.here hx (hb hby d1_32) rfl (pc' := 34) rfl ?_
      refine y_iload X17.here hx (hb hby d1_34) rfl (pc' := 36) rfl ?_
      exact kt)
  by_cases hc36_23 : (1 : Int32) < yW
  · have pre24 : ∀ t, Steps p.tables e below (T17.setTop (mkF m 44 #[rv pr0, iv (1 : Int32), iv pi2, iv x3, iv yW, iv yL, iv yH, iv (1 : Int32), .unset] [(.int pi2), (.int (2 : Int32))])) t → Go t := fun t kt => pre22 t (by
        refine y_icmpNo X17.here hx (hb hby d1_36) (tlt hc36_23).2.1 (pc' := 39) rfl ?_
        refine y_iloadN X17.here hx (hb hby d1_39) rfl (pc' := 40) rfl ?_
        refine y_iload X17.here hx (hb hby d1_40) rfl (pc' := 42) rfl ?_
        refine y_iadd X17.here hx (hb hby d1_42) (z := (2 : Int32)) rfl (pc' := 43) rfl ?_
        refine y_iloadN X17.here hx (hb hby d1_43) rfl (pc' := 44) rfl ?_
        exact kt)
    by_cases hc44_25 : (2 : Int32) < pi2
    · have pre26 : ∀ t, Steps p.tables e below (T17.setTop (mkF m 52 #[rv pr0, iv (1 : Int32), iv pi2, iv x3, iv yW, iv yL, iv yH, iv (1 : Int32), .unset] [(.int (2 : Int32)), (.ref pr0)])) t → Go t := fun t kt => pre24 t (by
          refine y_icmpNo X17.here hx (hb hby d1_44) (tlt hc44_25).2.1 (pc' := 47) rfl ?_
          refine y_aloadN X17.here hx (hb hby d1_47) rfl rfl (pc' := 48) rfl ?_
          refine y_iloadN X17.here hx (hb hby d1_48) rfl (pc' := 49) rfl ?_
          refine y_iload X17.here hx (hb hby d1_49) rfl (pc' := 51) rfl ?_
          refine y_iadd X17.here hx (hb hby d1_51) (z := (2 : Int32)) rfl (pc' := 52) rfl ?_
          exact kt)
      obtain ⟨c27, Ar27, q27, S27, M27, H27, G27⟩ := id V_pr0
      have hin27 : ¬ ((2 : Int32) < 0 ∨ c27.slots.size ≤ ((2 : Int32)).toNatClampNeg) := inb_of S27 ⟨by decide, by decide⟩
      have hat27 : c27.slots[((2 : Int32)).toNatClampNeg]? = some (.int y2) := Has.at H27 hin27 rfl
      obtain ⟨x28, hx28⟩ : ∃ z : Int32, z = (y2 &&& (255 : Int32)) := ⟨_, rfl⟩
      have pre29 : ∀ t, Steps p.tables e below (T17.setTop (mkF m 59 #[rv pr0, iv (1 : Int32), iv pi2, iv x3, iv yW, iv yL, iv yH, iv (1 : Int32), iv x28] [])) t → Go t := fun t kt => pre26 t (by
          subst hx28
          refine X17.baloadBytes hx (j := (2 : Int32)) (v := (.int y2)) (by rw [e17]; exact Ar27.1) (State.isArrayOf_alike hZ.alike Ar27.2.1) Ar27.2.2 hin27 hat27 (g := (mkF m 52 #[rv pr0, iv (1 : Int32), iv pi2, iv x3, iv yW, iv yL, iv yH, iv (1 : Int32), .unset] [(.int (2 : Int32)), (.ref pr0)])) rfl rfl (hb hby d1_52) _ ?_
          show Steps p.tables e below (T17.setTop (mkF m 53 #[rv pr0, iv (1 : Int32), iv pi2, iv x3, iv yW, iv yL, iv yH, iv (1 : Int32), .unset] [(.int y2)])) _
          refine y_sipush X17.here hx (hb hby d1_53) (v := (255 : Int32)) rfl (pc' := 56) rfl ?_
          refine y_iand X17.here hx (hb hby d1_56) rfl (pc' := 57) rfl ?_
          refine y_istore X17.here hx (hb hby d1_57) (l' := #[rv pr0, iv (1 : Int32), iv pi2, iv x3, iv yW, iv yL, iv yH, iv (1 : Int32), iv (y2 &&& (255 : Int32))]) rfl (pc' := 59) rfl ?_
          exact kt)
      have pre30 : ∀ t, Steps p.tables e below (T17.setTop (mkF m 63 #[rv pr0, iv (1 : Int32), iv pi2, iv x3, iv yW, iv yL, iv yH, iv (1 : Int32), iv x28] [(.int yL), (.int x28)])) t → Go t := fun t kt => pre29 t (by
          refine y_iload X17.here hx (hb hby d1_59) rfl (pc' := 61) rfl ?_
          refine y_iload X17.here hx (hb hby d1_61) rfl (pc' := 63) rfl ?_
          exact kt)
      by_cases hc63_31 : x28 < yL
      · have pre32 : ∀ t, Steps p.tables e below (T17.setTop (mkF m 96 #[rv pr0, iv (1 : Int32), iv pi2, iv x3, iv yW, iv yL, iv yH, iv (1 : Int32), iv x28] [(.int yW), (.int (1 : Int32))])) t → Go t := fun t kt => pre30 t (by
            refine y_icmpYes X17.here hx (hb hby d1_63) (tlt hc63_31).1 (pc' := 92) (by decide) rfl ?_
            refine y_iload X17.here hx (hb hby d1_92) rfl (pc' := 94) rfl ?_
            refine y_iload X17.here hx (hb hby d1_94) rfl (pc' := 96) rfl ?_
            exact kt)
        by_cases hc96_33 : (1 : Int32) = yW
        · have pre34 : ∀ t, Steps p.tables e below (T17.setTop (mkF m 107 #[rv pr0, iv (1 : Int32), iv pi2, iv x3, iv yW, iv yL, iv yH, iv (1 : Int32), iv x28] [(.int yW)])) t → Go t := fun t kt => pre32 t (by
              refine y_icmpNo X17.here hx (hb hby d1_96) (teq hc96_33).2 (pc' := 99) rfl ?_
              refine y_iload X17.here hx (hb hby d1_99) rfl (pc' := 101) rfl ?_
              refine y_goto X17.here hx (hb hby d1_101) (pc' := 107) (by decide) rfl ?_
              exact kt)
          obtain ⟨fs, hr, hrun, hended, hW, hsame⟩ := X17.leave (v := some (.int yW)) (fun h => by rw [Bd.returns] at h; cases h)
          refine ⟨_, _, (hGo _).mp (pre34 _ ?_), hrun, hended, _, _, rfl, ?_, ⟨_, rfl⟩, hW, hsame.mono (by decide) (by decide)⟩
          · exact retOut X17 hx Bd.returns rfl (Or.inl ⟨rfl, Or.inl rfl, _, rfl⟩) (hb hby d1_107) hr
          · show Q1a1 Z pr0 pi2 w_SEQUENCE_LENGTH w_SECOND_LOW w_SECOND_HIGH yW yL yH kk_pr0 y0 y1 y2 y3 y4 y5 cc_w_SEQUENCE_LENGTH cc_w_SECOND_LOW cc_w_SECOND_HIGH h0 n0 _ T17.heap _
            rw [e17]
            subst hx3 hx28
            exact ⟨(by first | (simp only [fr1a1, if_pos hc36_23, if_pos hc44_25, if_pos hc63_31, if_pos hc96_33]; done) | (simp only [fr1a1, if_pos hc36_23, if_pos hc44_25, if_pos hc63_31, if_pos hc96_33]; exact rfl) | exact rfl), N0, rfl⟩
        · have pre35 : ∀ t, Steps p.tables e below (T17.setTop (mkF m 107 #[rv pr0, iv (1 : Int32), iv pi2, iv x3, iv yW, iv yL, iv yH, iv (1 : Int32), iv x28] [(.int (-1 : Int32))])) t → Go t := fun t kt => pre32 t (by
              refine y_icmpYes X17.here hx (hb hby d1_96) (feq hc96_33).2 (pc' := 104) (by decide) rfl ?_
              refine y_iload X17.here hx (hb hby d1_104) rfl (pc' := 106) rfl ?_
              refine y_ineg X17.here hx (hb hby d1_106) (z := (-1 : Int32)) rfl (pc' := 107) rfl ?_
              exact kt)
          obtain ⟨fs, hr, hrun, hended, hW, hsame⟩ := X17.leave (v := some (.int (-1 : Int32))) (fun h => by rw [Bd.returns] at h; cases h)
          refine ⟨_, _, (hGo _).mp (pre35 _ ?_), hrun, hended, _, _, rfl, ?_, ⟨_, rfl⟩, hW, hsame.mono (by decide) (by decide)⟩
          · exact retOut X17 hx Bd.returns rfl (Or.inl ⟨rfl, Or.inl rfl, _, rfl⟩) (hb hby d1_107) hr
          · show Q1a1 Z pr0 pi2 w_SEQUENCE_LENGTH w_SECOND_LOW w_SECOND_HIGH yW yL yH kk_pr0 y0 y1 y2 y3 y4 y5 cc_w_SEQUENCE_LENGTH cc_w_SECOND_LOW cc_w_SECOND_HIGH h0 n0 _ T17.heap _
            rw [e17]
            subst hx3 hx28
            exact ⟨(by first | (simp only [fr1a1, if_pos hc36_23, if_pos hc44_25, if_pos hc63_31, if_neg hc96_33]; done) | (simp only [fr1a1, if_pos hc36_23, if_pos hc44_25, if_pos hc63_31, if_neg hc96_33]; exact rfl) | exact rfl), N0, rfl⟩
      · have pre36 : ∀ t, Steps p.tables e below (T17.setTop (mkF m 70 #[rv pr0, iv (1 : Int32), iv pi2, iv x3, iv yW, iv yL, iv yH, iv (1 : Int32), iv x28] [(.int yH), (.int x28)])) t → Go t := fun t kt => pre30 t (by
            refine y_icmpNo X17.here hx (hb hby d1_63) (flt hc63_31).1 (pc' := 66) rfl ?_
            refine y_iload X17.here hx (hb hby d1_66) rfl (pc' := 68) rfl ?_
            refine y_iload X17.here hx (hb hby d1_68) rfl (pc' := 70) rfl ?_
            exact kt)
        by_cases hc70_37 : yH < x28
        · have pre38 : ∀ t, Steps p.tables e below (T17.setTop (mkF m 96 #[rv pr0, iv (1 : Int32), iv pi2, iv x3, iv yW, iv yL, iv yH, iv (1 : Int32), iv x28] [(.int yW), (.int (1 : Int32))])) t → Go t := fun t kt => pre36 t (by
              refine y_icmpNo X17.here hx (hb hby d1_70) (tlt hc70_37).2.2.2 (pc' := 73) rfl ?_
              refine y_goto X17.here hx (hb hby d1_73) (pc' := 92) (by decide) rfl ?_
              refine y_iload X17.here hx (hb hby d1_92) rfl (pc' := 94) rfl ?_
              refine y_iload X17.here hx (hb hby d1_94) rfl (pc' := 96) rfl ?_
              exact kt)
          by_cases hc96_39 : (1 : Int32) = yW
          · have pre40 : ∀ t, Steps p.tables e below (T17.setTop (mkF m 107 #[rv pr0, iv (1 : Int32), iv pi2, iv x3, iv yW, iv yL, iv yH, iv (1 : Int32), iv x28] [(.int yW)])) t → Go t := fun t kt => pre38 t (by
                refine y_icmpNo X17.here hx (hb hby d1_96) (teq hc96_39).2 (pc' := 99) rfl ?_
                refine y_iload X17.here hx (hb hby d1_99) rfl (pc' := 101) rfl ?_
                refine y_goto X17.here hx (hb hby d1_101) (pc' := 107) (by decide) rfl ?_
                exact kt)
            obtain ⟨fs, hr, hrun, hended, hW, hsame⟩ := X17.leave (v := some (.int yW)) (fun h => by rw [Bd.returns] at h; cases h)
            refine ⟨_, _, (hGo _).mp (pre40 _ ?_), hrun, hended, _, _, rfl, ?_, ⟨_, rfl⟩, hW, hsame.mono (by decide) (by decide)⟩
            · exact retOut X17 hx Bd.returns rfl (Or.inl ⟨rfl, Or.inl rfl, _, rfl⟩) (hb hby d1_107) hr
            · show Q1a1 Z pr0 pi2 w_SEQUENCE_LENGTH w_SECOND_LOW w_SECOND_HIGH yW yL yH kk_pr0 y0 y1 y2 y3 y4 y5 cc_w_SEQUENCE_LENGTH cc_w_SECOND_LOW cc_w_SECOND_HIGH h0 n0 _ T17.heap _
              rw [e17]
              subst hx3 hx28
              exact ⟨(by first | (simp only [fr1a1, if_pos hc36_23, if_pos hc44_25, if_neg hc63_31, if_pos hc70_37, if_pos hc96_39]; done) | (simp only [fr1a1, if_pos hc36_23, if_pos hc44_25, if_neg hc63_31, if_pos hc70_37, if_pos hc96_39]; exact rfl) | exact rfl), N0, rfl⟩
          · have pre41 : ∀ t, Steps p.tables e below (T17.setTop (mkF m 107 #[rv pr0, iv (1 : Int32), iv pi2, iv x3, iv yW, iv yL, iv yH, iv (1 : Int32), iv x28] [(.int (-1 : Int32))])) t → Go t := fun t kt => pre38 t (by
                refine y_icmpYes X17.here hx (hb hby d1_96) (feq hc96_39).2 (pc' := 104) (by decide) rfl ?_
                refine y_iload X17.here hx (hb hby d1_104) rfl (pc' := 106) rfl ?_
                refine y_ineg X17.here hx (hb hby d1_106) (z := (-1 : Int32)) rfl (pc' := 107) rfl ?_
                exact kt)
            obtain ⟨fs, hr, hrun, hended, hW, hsame⟩ := X17.leave (v := some (.int (-1 : Int32))) (fun h => by rw [Bd.returns] at h; cases h)
            refine ⟨_, _, (hGo _).mp (pre41 _ ?_), hrun, hended, _, _, rfl, ?_, ⟨_, rfl⟩, hW, hsame.mono (by decide) (by decide)⟩
            · exact retOut X17 hx Bd.returns rfl (Or.inl ⟨rfl, Or.inl rfl, _, rfl⟩) (hb hby d1_107) hr
            · show Q1a1 Z pr0 pi2 w_SEQUENCE_LENGTH w_SECOND_LOW w_SECOND_HIGH yW yL yH kk_pr0 y0 y1 y2 y3 y4 y5 cc_w_SEQUENCE_LENGTH cc_w_SECOND_LOW cc_w_SECOND_HIGH h0 n0 _ T17.heap _
              rw [e17]
              subst hx3 hx28
              exact ⟨(by first | (simp only [fr1a1, if_pos hc36_23, if_pos hc44_25, if_neg hc63_31, if_pos hc70_37, if_neg hc96_39]; done) | (simp only [fr1a1, if_pos hc36_23, if_pos hc44_25, if_neg hc63_31, if_pos hc70_37, if_neg hc96_39]; exact rfl) | exact rfl), N0, rfl⟩
        · have pre42 : ∀ t, Steps p.tables e below (T17.setTop (mkF m 36 #[rv pr0, iv (1 : Int32), iv pi2, iv x3, iv yW, iv (128 : Int32), iv (191 : Int32), iv (2 : Int32), iv x28] [(.int yW), (.int (2 : Int32))])) t → Go t := fun t kt => pre36 t (by
              refine y_icmpYes X17.here hx (hb hby d1_70) (flt hc70_37).2.2.2 (pc' := 76) (by decide) rfl ?_
              refine y_iinc X17.here hx (hb hby d1_76) rfl (l' := #[rv pr0, iv (1 : Int32), iv pi2, iv x3, iv yW, iv yL, iv yH, iv (2 : Int32), iv x28]) rfl (pc' := 79) rfl ?_
              refine y_sipush X17.here hx (hb hby d1_79) (v := (128 : Int32)) rfl (pc' := 82) rfl ?_
              refine y_istore X17.here hx (hb hby d1_82) (l' := #[rv pr0, iv (1 : Int32), iv pi2, iv x3, iv yW, iv (128 : Int32), iv yH, iv (2 : Int32), iv x28]) rfl (pc' := 84) rfl ?_
              refine y_sipush X17.here hx (hb hby d1_84) (v := (191 : Int32)) rfl (pc' := 87) rfl ?_
              refine y_istore X17.here hx (hb hby d1_87) (l' := #[rv pr0, iv (1 : Int32), iv pi2, iv x3, iv yW, iv (128 : Int32), iv (191 : Int32), iv (2 : Int32), iv x28]) rfl (pc' := 89) rfl ?_
              refine y_goto X17.here hx (hb hby d1_89) (pc' := 32) (by decide) rfl ?_
              refine y_iload X17.here hx (hb hby d1_32) rfl (pc' := 34) rfl ?_
              refine y_iload X17.here hx (hb hby d1_34) rfl (pc' := 36) rfl ?_
              exact kt)
          by_cases hc36_43 : (2 : Int32) < yW
          · have pre44 : ∀ t, Steps p.tables e below (T17.setTop (mkF m 44 #[rv pr0, iv (1 : Int32), iv pi2, iv x3, iv yW, iv (128 : Int32), iv (191 : Int32), iv (2 : Int32), iv x28] [(.int pi2), (.int (3 : Int32))])) t → Go t := fun t kt => pre42 t (by
                refine y_icmpNo X17.here hx (hb hby d1_36) (tlt hc36_43).2.1 (pc' := 39) rfl ?_
                refine y_iloadN X17.here hx (hb hby d1_39) rfl (pc' := 40) rfl ?_
                refine y_iload X17.here hx (hb hby d1_40) rfl (pc' := 42) rfl ?_
                refine y_iadd X17.here hx (hb hby d1_42) (z := (3 : Int32)) rfl (pc' := 43) rfl ?_
                refine y_iloadN X17.here hx (hb hby d1_43) rfl (pc' := 44) rfl ?_
                exact kt)
            by_cases hc44_45 : (3 : Int32) < pi2
            · have pre46 : ∀ t, Steps p.tables e below (T17.setTop (mkF m 52 #[rv pr0, iv (1 : Int32), iv pi2, iv x3, iv yW, iv (128 : Int32), iv (191 : Int32), iv (2 : Int32), iv x28] [(.int (3 : Int32)), (.ref pr0)])) t → Go t := fun t kt => pre44 t (by
                  refine y_icmpNo X17.here hx (hb hby d1_44) (tlt hc44_45).2.1 (pc' := 47) rfl ?_
                  refine y_aloadN X17.here hx (hb hby d1_47) rfl rfl (pc' := 48) rfl ?_
                  refine y_iloadN X17.here hx (hb hby d1_48) rfl (pc' := 49) rfl ?_
                  refine y_iload X17.here hx (hb hby d1_49) rfl (pc' := 51) rfl ?_
                  refine y_iadd X17.here hx (hb hby d1_51) (z := (3 : Int32)) rfl (pc' := 52) rfl ?_
                  exact kt)
              obtain ⟨c47, Ar47, q47, S47, M47, H47, G47⟩ := id V_pr0
              have hin47 : ¬ ((3 : Int32) < 0 ∨ c47.slots.size ≤ ((3 : Int32)).toNatClampNeg) := inb_of S47 ⟨by decide, by decide⟩
              have hat47 : c47.slots[((3 : Int32)).toNatClampNeg]? = some (.int y3) := Has.at H47 hin47 rfl
              obtain ⟨x48, hx48⟩ : ∃ z : Int32, z = (y3 &&& (255 : Int32)) := ⟨_, rfl⟩
              have pre49 : ∀ t, Steps p.tables e below (T17.setTop (mkF m 59 #[rv pr0, iv (1 : Int32), iv pi2, iv x3, iv yW, iv (128 : Int32), iv (191 : Int32), iv (2 : Int32), iv x48] [])) t → Go t := fun t kt => pre46 t (by
                  subst hx48
                  refine X17.baloadBytes hx (j := (3 : Int32)) (v := (.int y3)) (by rw [e17]; exact Ar47.1) (State.isArrayOf_alike hZ.alike Ar47.2.1) Ar47.2.2 hin47 hat47 (g := (mkF m 52 #[rv pr0, iv (1 : Int32), iv pi2, iv x3, iv yW, iv (128 : Int32), iv (191 : Int32), iv (2 : Int32), iv x28] [(.int (3 : Int32)), (.ref pr0)])) rfl rfl (hb hby d1_52) _ ?_
                  show Steps p.tables e below (T17.setTop (mkF m 53 #[rv pr0, iv (1 : Int32), iv pi2, iv x3, iv yW, iv (128 : Int32), iv (191 : Int32), iv (2 : Int32), iv x28] [(.int y3)])) _
                  refine y_sipush X17.here hx (hb hby d1_53) (v := (255 : Int32)) rfl (pc' := 56) rfl ?_
                  refine y_iand X17.here hx (hb hby d1_56) rfl (pc' := 57) rfl ?_
                  refine y_istore X17.here hx (hb hby d1_57) (l' := #[rv pr0, iv (1 : Int32), iv pi2, iv x3, iv yW, iv (128 : Int32), iv (191 : Int32), iv (2 : Int32), iv (y3 &&& (255 : Int32))]) rfl (pc' := 59) rfl ?_
                  exact kt)
              have pre50 : ∀ t, Steps p.tables e below (T17.setTop (mkF m 63 #[rv pr0, iv (1 : Int32), iv pi2, iv x3, iv yW, iv (128 : Int32), iv (191 : Int32), iv (2 : Int32), iv x48] [(.int (128 : Int32)), (.int x48)])) t → Go t := fun t kt => pre49 t (by
                  refine y_iload X17.here hx (hb hby d1_59) rfl (pc' := 61) rfl ?_
                  refine y_iload X17.here hx (hb hby d1_61) rfl (pc' := 63) rfl ?_
                  exact kt)
              by_cases hc63_51 : x48 < (128 : Int32)
              · have pre52 : ∀ t, Steps p.tables e below (T17.setTop (mkF m 96 #[rv pr0, iv (1 : Int32), iv pi2, iv x3, iv yW, iv (128 : Int32), iv (191 : Int32), iv (2 : Int32), iv x48] [(.int yW), (.int (2 : Int32))])) t → Go t := fun t kt => pre50 t (by
                    refine y_icmpYes X17.here hx (hb hby d1_63) (tlt hc63_51).1 (pc' := 92) (by decide) rfl ?_
                    refine y_iload X17.here hx (hb hby d1_92) rfl (pc' := 94) rfl ?_
                    refine y_iload X17.here hx (hb hby d1_94) rfl (pc' := 96) rfl ?_
                    exact kt)
                by_cases hc96_53 : (2 : Int32) = yW
                · have pre54 : ∀ t, Steps p.tables e below (T17.setTop (mkF m 107 #[rv pr0, iv (1 : Int32), iv pi2, iv x3, iv yW, iv (128 : Int32), iv (191 : Int32), iv (2 : Int32), iv x48] [(.int yW)])) t → Go t := fun t kt => pre52 t (by
                      refine y_icmpNo X17.here hx (hb hby d1_96) (teq hc96_53).2 (pc' := 99) rfl ?_
                      refine y_iload X17.here hx (hb hby d1_99) rfl (pc' := 101) rfl ?_
                      refine y_goto X17.here hx (hb hby d1_101) (pc' := 107) (by decide) rfl ?_
                      exact kt)
                  obtain ⟨fs, hr, hrun, hended, hW, hsame⟩ := X17.leave (v := some (.int yW)) (fun h => by rw [Bd.returns] at h; cases h)
                  refine ⟨_, _, (hGo _).mp (pre54 _ ?_), hrun, hended, _, _, rfl, ?_, ⟨_, rfl⟩, hW, hsame.mono (by decide) (by decide)⟩
                  · exact retOut X17 hx Bd.returns rfl (Or.inl ⟨rfl, Or.inl rfl, _, rfl⟩) (hb hby d1_107) hr
                  · show Q1a1 Z pr0 pi2 w_SEQUENCE_LENGTH w_SECOND_LOW w_SECOND_HIGH yW yL yH kk_pr0 y0 y1 y2 y3 y4 y5 cc_w_SEQUENCE_LENGTH cc_w_SECOND_LOW cc_w_SECOND_HIGH h0 n0 _ T17.heap _
                    rw [e17]
                    subst hx3 hx28 hx48
                    exact ⟨(by first | (simp only [fr1a1, if_pos hc36_23, if_pos hc44_25, if_neg hc63_31, if_neg hc70_37, if_pos hc36_43, if_pos hc44_45, if_pos hc63_51, if_pos hc96_53]; done) | (simp only [fr1a1, if_pos hc36_23, if_pos hc44_25, if_neg hc63_31, if_neg hc70_37, if_pos hc36_43, if_pos hc44_45, if_pos hc63_51, if_pos hc96_53]; exact rfl) | exact rfl), N0, rfl⟩
                · have pre55 : ∀ t, Steps p.tables e below (T17.setTop (mkF m 107 #[rv pr0, iv (1 : Int32), iv pi2, iv x3, iv yW, iv (128 : Int32), iv (191 : Int32), iv (2 : Int32), iv x48] [(.int (-2 : Int32))])) t → Go t := fun t kt => pre52 t (by
                      refine y_icmpYes X17.here hx (hb hby d1_96) (feq hc96_53).2 (pc' := 104) (by decide) rfl ?_
                      refine y_iload X17.here hx (hb hby d1_104) rfl (pc' := 106) rfl ?_
                      refine y_ineg X17.here hx (hb hby d1_106) (z := (-2 : Int32)) rfl (pc' := 107) rfl ?_
                      exact kt)
                  obtain ⟨fs, hr, hrun, hended, hW, hsame⟩ := X17.leave (v := some (.int (-2 : Int32))) (fun h => by rw [Bd.returns] at h; cases h)
                  refine ⟨_, _, (hGo _).mp (pre55 _ ?_), hrun, hended, _, _, rfl, ?_, ⟨_, rfl⟩, hW, hsame.mono (by decide) (by decide)⟩
                  · exact retOut X17 hx Bd.returns rfl (Or.inl ⟨rfl, Or.inl rfl, _, rfl⟩) (hb hby d1_107) hr
                  · show Q1a1 Z pr0 pi2 w_SEQUENCE_LENGTH w_SECOND_LOW w_SECOND_HIGH yW yL yH kk_pr0 y0 y1 y2 y3 y4 y5 cc_w_SEQUENCE_LENGTH cc_w_SECOND_LOW cc_w_SECOND_HIGH h0 n0 _ T17.heap _
                    rw [e17]
                    subst hx3 hx28 hx48
                    exact ⟨(by first | (simp only [fr1a1, if_pos hc36_23, if_pos hc44_25, if_neg hc63_31, if_neg hc70_37, if_pos hc36_43, if_pos hc44_45, if_pos hc63_51, if_neg hc96_53]; done) | (simp only [fr1a1, if_pos hc36_23, if_pos hc44_25, if_neg hc63_31, if_neg hc70_37, if_pos hc36_43, if_pos hc44_45, if_pos hc63_51, if_neg hc96_53]; exact rfl) | exact rfl), N0, rfl⟩
              · have pre56 : ∀ t, Steps p.tables e below (T17.setTop (mkF m 70 #[rv pr0, iv (1 : Int32), iv pi2, iv x3, iv yW, iv (128 : Int32), iv (191 : Int32), iv (2 : Int32), iv x48] [(.int (191 : Int32)), (.int x48)])) t → Go t := fun t kt => pre50 t (by
                    refine y_icmpNo X17.here hx (hb hby d1_63) (flt hc63_51).1 (pc' := 66) rfl ?_
                    refine y_iload X17.here hx (hb hby d1_66) rfl (pc' := 68) rfl ?_
                    refine y_iload X17.here hx (hb hby d1_68) rfl (pc' := 70) rfl ?_
                    exact kt)
                by_cases hc70_57 : (191 : Int32) < x48
                · have pre58 : ∀ t, Steps p.tables e below (T17.setTop (mkF m 96 #[rv pr0, iv (1 : Int32), iv pi2, iv x3, iv yW, iv (128 : Int32), iv (191 : Int32), iv (2 : Int32), iv x48] [(.int yW), (.int (2 : Int32))])) t → Go t := fun t kt => pre56 t (by
                      refine y_icmpNo X17.here hx (hb hby d1_70) (tlt hc70_57).2.2.2 (pc' := 73) rfl ?_
                      refine y_goto X17.here hx (hb hby d1_73) (pc' := 92) (by decide) rfl ?_
                      refine y_iload X17.here hx (hb hby d1_92) rfl (pc' := 94) rfl ?_
                      refine y_iload X17.here hx (hb hby d1_94) rfl (pc' := 96) rfl ?_
                      exact kt)
                  by_cases hc96_59 : (2 : Int32) = yW
                  · have pre60 : ∀ t, Steps p.tables e below (T17.setTop (mkF m 107 #[rv pr0, iv (1 : Int32), iv pi2, iv x3, iv yW, iv (128 : Int32), iv (191 : Int32), iv (2 : Int32), iv x48] [(.int yW)])) t → Go t := fun t kt => pre58 t (by
                        refine y_icmpNo X17.here hx (hb hby d1_96) (teq hc96_59).2 (pc' := 99) rfl ?_
                        refine y_iload X17.here hx (hb hby d1_99) rfl (pc' := 101) rfl ?_
                        refine y_goto X17.here hx (hb hby d1_101) (pc' := 107) (by decide) rfl ?_
                        exact kt)
                    obtain ⟨fs, hr, hrun, hended, hW, hsame⟩ := X17.leave (v := some (.int yW)) (fun h => by rw [Bd.returns] at h; cases h)
                    refine ⟨_, _, (hGo _).mp (pre60 _ ?_), hrun, hended, _, _, rfl, ?_, ⟨_, rfl⟩, hW, hsame.mono (by decide) (by decide)⟩
                    · exact retOut X17 hx Bd.returns rfl (Or.inl ⟨rfl, Or.inl rfl, _, rfl⟩) (hb hby d1_107) hr
                    · show Q1a1 Z pr0 pi2 w_SEQUENCE_LENGTH w_SECOND_LOW w_SECOND_HIGH yW yL yH kk_pr0 y0 y1 y2 y3 y4 y5 cc_w_SEQUENCE_LENGTH cc_w_SECOND_LOW cc_w_SECOND_HIGH h0 n0 _ T17.heap _
                      rw [e17]
                      subst hx3 hx28 hx48
                      exact ⟨(by first | (simp only [fr1a1, if_pos hc36_23, if_pos hc44_25, if_neg hc63_31, if_neg hc70_37, if_pos hc36_43, if_pos hc44_45, if_neg hc63_51, if_pos hc70_57, if_pos hc96_59]; done) | (simp only [fr1a1, if_pos hc36_23, if_pos hc44_25, if_neg hc63_31, if_neg hc70_37, if_pos hc36_43, if_pos hc44_45, if_neg hc63_51, if_pos hc70_57, if_pos hc96_59]; exact rfl) | exact rfl), N0, rfl⟩
                  · have pre61 : ∀ t, Steps p.tables e below (T17.setTop (mkF m 107 #[rv pr0, iv (1 : Int32), iv pi2, iv x3, iv yW, iv (128 : Int32), iv (191 : Int32), iv (2 : Int32), iv x48] [(.int (-2 : Int32))])) t → Go t := fun t kt => pre58 t (by
                        refine y_icmpYes X17.here hx (hb hby d1_96) (feq hc96_59).2 (pc' := 104) (by decide) rfl ?_
                        refine y_iload X17.here hx (hb hby d1_104) rfl (pc' := 106) rfl ?_
                        refine y_ineg X17.here hx (hb hby d1_106) (z := (-2 : Int32)) rfl (pc' := 107) rfl ?_
                        exact kt)
                    obtain ⟨fs, hr, hrun, hended, hW, hsame⟩ := X17.leave (v := some (.int (-2 : Int32))) (fun h => by rw [Bd.returns] at h; cases h)
                    refine ⟨_, _, (hGo _).mp (pre61 _ ?_), hrun, hended, _, _, rfl, ?_, ⟨_, rfl⟩, hW, hsame.mono (by decide) (by decide)⟩
                    · exact retOut X17 hx Bd.returns rfl (Or.inl ⟨rfl, Or.inl rfl, _, rfl⟩) (hb hby d1_107) hr
                    · show Q1a1 Z pr0 pi2 w_SEQUENCE_LENGTH w_SECOND_LOW w_SECOND_HIGH yW yL yH kk_pr0 y0 y1 y2 y3 y4 y5 cc_w_SEQUENCE_LENGTH cc_w_SECOND_LOW cc_w_SECOND_HIGH h0 n0 _ T17.heap _
                      rw [e17]
                      subst hx3 hx28 hx48
                      exact ⟨(by first | (simp only [fr1a1, if_pos hc36_23, if_pos hc44_25, if_neg hc63_31, if_neg hc70_37, if_pos hc36_43, if_pos hc44_45, if_neg hc63_51, if_pos hc70_57, if_neg hc96_59]; done) | (simp only [fr1a1, if_pos hc36_23, if_pos hc44_25, if_neg hc63_31, if_neg hc70_37, if_pos hc36_43, if_pos hc44_45, if_neg hc63_51, if_pos hc70_57, if_neg hc96_59]; exact rfl) | exact rfl), N0, rfl⟩
                · have pre62 : ∀ t, Steps p.tables e below (T17.setTop (mkF m 36 #[rv pr0, iv (1 : Int32), iv pi2, iv x3, iv yW, iv (128 : Int32), iv (191 : Int32), iv (3 : Int32), iv x48] [(.int yW), (.int (3 : Int32))])) t → Go t := fun t kt => pre56 t (by
                      refine y_icmpYes X17.here hx (hb hby d1_70) (flt hc70_57).2.2.2 (pc' := 76) (by decide) rfl ?_
                      refine y_iinc X17.here hx (hb hby d1_76) rfl (l' := #[rv pr0, iv (1 : Int32), iv pi2, iv x3, iv yW, iv (128 : Int32), iv (191 : Int32), iv (3 : Int32), iv x48]) rfl (pc' := 79) rfl ?_
                      refine y_sipush X17.here hx (hb hby d1_79) (v := (128 : Int32)) rfl (pc' := 82) rfl ?_
                      refine y_istore X17.here hx (hb hby d1_82) (l' := #[rv pr0, iv (1 : Int32), iv pi2, iv x3, iv yW, iv (128 : Int32), iv (191 : Int32), iv (3 : Int32), iv x48]) rfl (pc' := 84) rfl ?_
                      refine y_sipush X17.here hx (hb hby d1_84) (v := (191 : Int32)) rfl (pc' := 87) rfl ?_
                      refine y_istore X17.here hx (hb hby d1_87) (l' := #[rv pr0, iv (1 : Int32), iv pi2, iv x3, iv yW, iv (128 : Int32), iv (191 : Int32), iv (3 : Int32), iv x48]) rfl (pc' := 89) rfl ?_
                      refine y_goto X17.here hx (hb hby d1_89) (pc' := 32) (by decide) rfl ?_
                      refine y_iload X17.here hx (hb hby d1_32) rfl (pc' := 34) rfl ?_
                      refine y_iload X17.here hx (hb hby d1_34) rfl (pc' := 36) rfl ?_
                      exact kt)
                  by_cases hc36_63 : (3 : Int32) < yW
                  · have pre64 : ∀ t, Steps p.tables e below (T17.setTop (mkF m 44 #[rv pr0, iv (1 : Int32), iv pi2, iv x3, iv yW, iv (128 : Int32), iv (191 : Int32), iv (3 : Int32), iv x48] [(.int pi2), (.int (4 : Int32))])) t → Go t := fun t kt => pre62 t (by
                        refine y_icmpNo X17.here hx (hb hby d1_36) (tlt hc36_63).2.1 (pc' := 39) rfl ?_
                        refine y_iloadN X17.here hx (hb hby d1_39) rfl (pc' := 40) rfl ?_
                        refine y_iload X17.here hx (hb hby d1_40) rfl (pc' := 42) rfl ?_
                        refine y_iadd X17.here hx (hb hby d1_42) (z := (4 : Int32)) rfl (pc' := 43) rfl ?_
                        refine y_iloadN X17.here hx (hb hby d1_43) rfl (pc' := 44) rfl ?_
                        exact kt)
                    by_cases hc44_65 : (4 : Int32) < pi2
                    · have pre66 : ∀ t, Steps p.tables e below (T17.setTop (mkF m 52 #[rv pr0, iv (1 : Int32), iv pi2, iv x3, iv yW, iv (128 : Int32), iv (191 : Int32), iv (3 : Int32), iv x48] [(.int (4 : Int32)), (.ref pr0)])) t → Go t := fun t kt => pre64 t (by
                          refine y_icmpNo X17.here hx (hb hby d1_44) (tlt hc44_65).2.1 (pc' := 47) rfl ?_
                          refine y_aloadN X17.here hx (hb hby d1_47) rfl rfl (pc' := 48) rfl ?_
                          refine y_iloadN X17.here hx (hb hby d1_48) rfl (pc' := 49) rfl ?_
                          refine y_iload X17.here hx (hb hby d1_49) rfl (pc' := 51) rfl ?_
                          refine y_iadd X17.here hx (hb hby d1_51) (z := (4 : Int32)) rfl (pc' := 52) rfl ?_
                          exact kt)
                      obtain ⟨c67, Ar67, q67, S67, M67, H67, G67⟩ := id V_pr0
                      have hin67 : ¬ ((4 : Int32) < 0 ∨ c67.slots.size ≤ ((4 : Int32)).toNatClampNeg) := inb_of S67 ⟨by decide, by decide⟩
                      have hat67 : c67.slots[((4 : Int32)).toNatClampNeg]? = some (.int y4) := Has.at H67 hin67 rfl
                      obtain ⟨x68, hx68⟩ : ∃ z : Int32, z = (y4 &&& (255 : Int32)) := ⟨_, rfl⟩
                      have pre69 : ∀ t, Steps p.tables e below (T17.setTop (mkF m 59 #[rv pr0, iv (1 : Int32), iv pi2, iv x3, iv yW, iv (128 : Int32), iv (191 : Int32), iv (3 : Int32), iv x68] [])) t → Go t := fun t kt => pre66 t (by
                          subst hx68
                          refine X17.baloadBytes hx (j := (4 : Int32)) (v := (.int y4)) (by rw [e17]; exact Ar67.1) (State.isArrayOf_alike hZ.alike Ar67.2.1) Ar67.2.2 hin67 hat67 (g := (mkF m 52 #[rv pr0, iv (1 : Int32), iv pi2, iv x3, iv yW, iv (128 : Int32), iv (191 : Int32), iv (3 : Int32), iv x48] [(.int (4 : Int32)), (.ref pr0)])) rfl rfl (hb hby d1_52) _ ?_
                          show Steps p.tables e below (T17.setTop (mkF m 53 #[rv pr0, iv (1 : Int32), iv pi2, iv x3, iv yW, iv (128 : Int32), iv (191 : Int32), iv (3 : Int32), iv x48] [(.int y4)])) _
                          refine y_sipush X17.here hx (hb hby d1_53) (v := (255 : Int32)) rfl (pc' := 56) rfl ?_
                          refine y_iand X17.here hx (hb hby d1_56) rfl (pc' := 57) rfl ?_
                          refine y_istore X17.here hx (hb hby d1_57) (l' := #[rv pr0, iv (1 : Int32), iv pi2, iv x3, iv yW, iv (128 : Int32), iv (191 : Int32), iv (3 : Int32), iv (y4 &&& (255 : Int32))]) rfl (pc' := 59) rfl ?_
                          exact kt)
                      have pre70 : ∀ t, Steps p.tables e below (T17.setTop (mkF m 63 #[rv pr0, iv (1 : Int32), iv pi2, iv x3, iv yW, iv (128 : Int32), iv (191 : Int32), iv (3 : Int32), iv x68] [(.int (128 : Int32)), (.int x68)])) t → Go t := fun t kt => pre69 t (by
                          refine y_iload X17.here hx (hb hby d1_59) rfl (pc' := 61) rfl ?_
                          refine y_iload X17.here hx (hb hby d1_61) rfl (pc' := 63) rfl ?_
                          exact kt)
                      by_cases hc63_71 : x68 < (128 : Int32)
                      · have pre72 : ∀ t, Steps p.tables e below (T17.setTop (mkF m 96 #[rv pr0, iv (1 : Int32), iv pi2, iv x3, iv yW, iv (128 : Int32), iv (191 : Int32), iv (3 : Int32), iv x68] [(.int yW), (.int (3 : Int32))])) t → Go t := fun t kt => pre70 t (by
                            refine y_icmpYes X17.here hx (hb hby d1_63) (tlt hc63_71).1 (pc' := 92) (by decide) rfl ?_
                            refine y_iload X17.here hx (hb hby d1_92) rfl (pc' := 94) rfl ?_
                            refine y_iload X17.here hx (hb hby d1_94) rfl (pc' := 96) rfl ?_
                            exact kt)
                        by_cases hc96_73 : (3 : Int32) = yW
                        · have pre74 : ∀ t, Steps p.tables e below (T17.setTop (mkF m 107 #[rv pr0, iv (1 : Int32), iv pi2, iv x3, iv yW, iv (128 : Int32), iv (191 : Int32), iv (3 : Int32), iv x68] [(.int yW)])) t → Go t := fun t kt => pre72 t (by
                              refine y_icmpNo X17.here hx (hb hby d1_96) (teq hc96_73).2 (pc' := 99) rfl ?_
                              refine y_iload X17.here hx (hb hby d1_99) rfl (pc' := 101) rfl ?_
                              refine y_goto X17.here hx (hb hby d1_101) (pc' := 107) (by decide) rfl ?_
                              exact kt)
                          obtain ⟨fs, hr, hrun, hended, hW, hsame⟩ := X17.leave (v := some (.int yW)) (fun h => by rw [Bd.returns] at h; cases h)
                          refine ⟨_, _, (hGo _).mp (pre74 _ ?_), hrun, hended, _, _, rfl, ?_, ⟨_, rfl⟩, hW, hsame.mono (by decide) (by decide)⟩
                          · exact retOut X17 hx Bd.returns rfl (Or.inl ⟨rfl, Or.inl rfl, _, rfl⟩) (hb hby d1_107) hr
                          · show Q1a1 Z pr0 pi2 w_SEQUENCE_LENGTH w_SECOND_LOW w_SECOND_HIGH yW yL yH kk_pr0 y0 y1 y2 y3 y4 y5 cc_w_SEQUENCE_LENGTH cc_w_SECOND_LOW cc_w_SECOND_HIGH h0 n0 _ T17.heap _
                            rw [e17]
                            subst hx3 hx28 hx48 hx68
                            exact ⟨(by first | (simp only [fr1a1, if_pos hc36_23, if_pos hc44_25, if_neg hc63_31, if_neg hc70_37, if_pos hc36_43, if_pos hc44_45, if_neg hc63_51, if_neg hc70_57, if_pos hc36_63, if_pos hc44_65, if_pos hc63_71, if_pos hc96_73]; done) | (simp only [fr1a1, if_pos hc36_23, if_pos hc44_25, if_neg hc63_31, if_neg hc70_37, if_pos hc36_43, if_pos hc44_45, if_neg hc63_51, if_neg hc70_57, if_pos hc36_63, if_pos hc44_65, if_pos hc63_71, if_pos hc96_73]; exact rfl) | exact rfl), N0, rfl⟩
                        · have pre75 : ∀ t, Steps p.tables e below (T17.setTop (mkF m 107 #[rv pr0, iv (1 : Int32), iv pi2, iv x3, iv yW, iv (128 : Int32), iv (191 : Int32), iv (3 : Int32), iv x68] [(.int (-3 : Int32))])) t → Go t := fun t kt => pre72 t (by
                              refine y_icmpYes X17.here hx (hb hby d1_96) (feq hc96_73).2 (pc' := 104) (by decide) rfl ?_
                              refine y_iload X17.here hx (hb hby d1_104) rfl (pc' := 106) rfl ?_
                              refine y_ineg X17.here hx (hb hby d1_106) (z := (-3 : Int32)) rfl (pc' := 107) rfl ?_
                              exact kt)
                          obtain ⟨fs, hr, hrun, hended, hW, hsame⟩ := X17.leave (v := some (.int (-3 : Int32))) (fun h => by rw [Bd.returns] at h; cases h)
                          refine ⟨_, _, (hGo _).mp (pre75 _ ?_), hrun, hended, _, _, rfl, ?_, ⟨_, rfl⟩, hW, hsame.mono (by decide) (by decide)⟩
                          · exact retOut X17 hx Bd.returns rfl (Or.inl ⟨rfl, Or.inl rfl, _, rfl⟩) (hb hby d1_107) hr
                          · show Q1a1 Z pr0 pi2 w_SEQUENCE_LENGTH w_SECOND_LOW w_SECOND_HIGH yW yL yH kk_pr0 y0 y1 y2 y3 y4 y5 cc_w_SEQUENCE_LENGTH cc_w_SECOND_LOW cc_w_SECOND_HIGH h0 n0 _ T17.heap _
                            rw [e17]
                            subst hx3 hx28 hx48 hx68
                            exact ⟨(by first | (simp only [fr1a1, if_pos hc36_23, if_pos hc44_25, if_neg hc63_31, if_neg hc70_37, if_pos hc36_43, if_pos hc44_45, if_neg hc63_51, if_neg hc70_57, if_pos hc36_63, if_pos hc44_65, if_pos hc63_71, if_neg hc96_73]; done) | (simp only [fr1a1, if_pos hc36_23, if_pos hc44_25, if_neg hc63_31, if_neg hc70_37, if_pos hc36_43, if_pos hc44_45, if_neg hc63_51, if_neg hc70_57, if_pos hc36_63, if_pos hc44_65, if_pos hc63_71, if_neg hc96_73]; exact rfl) | exact rfl), N0, rfl⟩
                      · have pre76 : ∀ t, Steps p.tables e below (T17.setTop (mkF m 70 #[rv pr0, iv (1 : Int32), iv pi2, iv x3, iv yW, iv (128 : Int32), iv (191 : Int32), iv (3 : Int32), iv x68] [(.int (191 : Int32)), (.int x68)])) t → Go t := fun t kt => pre70 t (by
                            refine y_icmpNo X17.here hx (hb hby d1_63) (flt hc63_71).1 (pc' := 66) rfl ?_
                            refine y_iload X17.here hx (hb hby d1_66) rfl (pc' := 68) rfl ?_
                            refine y_iload X17.here hx (hb hby d1_68) rfl (pc' := 70) rfl ?_
                            exact kt)
                        by_cases hc70_77 : (191 : Int32) < x68
                        · have pre78 : ∀ t, Steps p.tables e below (T17.setTop (mkF m 96 #[rv pr0, iv (1 : Int32), iv pi2, iv x3, iv yW, iv (128 : Int32), iv (191 : Int32), iv (3 : Int32), iv x68] [(.int yW), (.int (3 : Int32))])) t → Go t := fun t kt => pre76 t (by
                              refine y_icmpNo X17.here hx (hb hby d1_70) (tlt hc70_77).2.2.2 (pc' := 73) rfl ?_
                              refine y_goto X17.here hx (hb hby d1_73) (pc' := 92) (by decide) rfl ?_
                              refine y_iload X17.here hx (hb hby d1_92) rfl (pc' := 94) rfl ?_
                              refine y_iload X17.here hx (hb hby d1_94) rfl (pc' := 96) rfl ?_
                              exact kt)
                          by_cases hc96_79 : (3 : Int32) = yW
                          · have pre80 : ∀ t, Steps p.tables e below (T17.setTop (mkF m 107 #[rv pr0, iv (1 : Int32), iv pi2, iv x3, iv yW, iv (128 : Int32), iv (191 : Int32), iv (3 : Int32), iv x68] [(.int yW)])) t → Go t := fun t kt => pre78 t (by
                                refine y_icmpNo X17.here hx (hb hby d1_96) (teq hc96_79).2 (pc' := 99) rfl ?_
                                refine y_iload X17.here hx (hb hby d1_99) rfl (pc' := 101) rfl ?_
                                refine y_goto X17.here hx (hb hby d1_101) (pc' := 107) (by decide) rfl ?_
                                exact kt)
                            obtain ⟨fs, hr, hrun, hended, hW, hsame⟩ := X17.leave (v := some (.int yW)) (fun h => by rw [Bd.returns] at h; cases h)
                            refine ⟨_, _, (hGo _).mp (pre80 _ ?_), hrun, hended, _, _, rfl, ?_, ⟨_, rfl⟩, hW, hsame.mono (by decide) (by decide)⟩
                            · exact retOut X17 hx Bd.returns rfl (Or.inl ⟨rfl, Or.inl rfl, _, rfl⟩) (hb hby d1_107) hr
                            · show Q1a1 Z pr0 pi2 w_SEQUENCE_LENGTH w_SECOND_LOW w_SECOND_HIGH yW yL yH kk_pr0 y0 y1 y2 y3 y4 y5 cc_w_SEQUENCE_LENGTH cc_w_SECOND_LOW cc_w_SECOND_HIGH h0 n0 _ T17.heap _
                              rw [e17]
                              subst hx3 hx28 hx48 hx68
                              exact ⟨(by first | (simp only [fr1a1, if_pos hc36_23, if_pos hc44_25, if_neg hc63_31, if_neg hc70_37, if_pos hc36_43, if_pos hc44_45, if_neg hc63_51, if_neg hc70_57, if_pos hc36_63, if_pos hc44_65, if_neg hc63_71, if_pos hc70_77, if_pos hc96_79]; done) | (simp only [fr1a1, if_pos hc36_23, if_pos hc44_25, if_neg hc63_31, if_neg hc70_37, if_pos hc36_43, if_pos hc44_45, if_neg hc63_51, if_neg hc70_57, if_pos hc36_63, if_pos hc44_65, if_neg hc63_71, if_pos hc70_77, if_pos hc96_79]; exact rfl) | exact rfl), N0, rfl⟩
                          · have pre81 : ∀ t, Steps p.tables e below (T17.setTop (mkF m 107 #[rv pr0, iv (1 : Int32), iv pi2, iv x3, iv yW, iv (128 : Int32), iv (191 : Int32), iv (3 : Int32), iv x68] [(.int (-3 : Int32))])) t → Go t := fun t kt => pre78 t (by
                                refine y_icmpYes X17.here hx (hb hby d1_96) (feq hc96_79).2 (pc' := 104) (by decide) rfl ?_
                                refine y_iload X17.here hx (hb hby d1_104) rfl (pc' := 106) rfl ?_
                                refine y_ineg X17.here hx (hb hby d1_106) (z := (-3 : Int32)) rfl (pc' := 107) rfl ?_
                                exact kt)
                            obtain ⟨fs, hr, hrun, hended, hW, hsame⟩ := X17.leave (v := some (.int (-3 : Int32))) (fun h => by rw [Bd.returns] at h; cases h)
                            refine ⟨_, _, (hGo _).mp (pre81 _ ?_), hrun, hended, _, _, rfl, ?_, ⟨_, rfl⟩, hW, hsame.mono (by decide) (by decide)⟩
                            · exact retOut X17 hx Bd.returns rfl (Or.inl ⟨rfl, Or.inl rfl, _, rfl⟩) (hb hby d1_107) hr
                            · show Q1a1 Z pr0 pi2 w_SEQUENCE_LENGTH w_SECOND_LOW w_SECOND_HIGH yW yL yH kk_pr0 y0 y1 y2 y3 y4 y5 cc_w_SEQUENCE_LENGTH cc_w_SECOND_LOW cc_w_SECOND_HIGH h0 n0 _ T17.heap _
                              rw [e17]
                              subst hx3 hx28 hx48 hx68
                              exact ⟨(by first | (simp only [fr1a1, if_pos hc36_23, if_pos hc44_25, if_neg hc63_31, if_neg hc70_37, if_pos hc36_43, if_pos hc44_45, if_neg hc63_51, if_neg hc70_57, if_pos hc36_63, if_pos hc44_65, if_neg hc63_71, if_pos hc70_77, if_neg hc96_79]; done) | (simp only [fr1a1, if_pos hc36_23, if_pos hc44_25, if_neg hc63_31, if_neg hc70_37, if_pos hc36_43, if_pos hc44_45, if_neg hc63_51, if_neg hc70_57, if_pos hc36_63, if_pos hc44_65, if_neg hc63_71, if_pos hc70_77, if_neg hc96_79]; exact rfl) | exact rfl), N0, rfl⟩
                        · have pre82 : ∀ t, Steps p.tables e below (T17.setTop (mkF m 96 #[rv pr0, iv (1 : Int32), iv pi2, iv x3, iv yW, iv (128 : Int32), iv (191 : Int32), iv (4 : Int32), iv x68] [(.int yW), (.int (4 : Int32))])) t → Go t := fun t kt => pre76 t (by
                              refine y_icmpYes X17.here hx (hb hby d1_70) (flt hc70_77).2.2.2 (pc' := 76) (by decide) rfl ?_
                              refine y_iinc X17.here hx (hb hby d1_76) rfl (l' := #[rv pr0, iv (1 : Int32), iv pi2, iv x3, iv yW, iv (128 : Int32), iv (191 : Int32), iv (4 : Int32), iv x68]) rfl (pc' := 79) rfl ?_
                              refine y_sipush X17.here hx (hb hby d1_79) (v := (128 : Int32)) rfl (pc' := 82) rfl ?_
                              refine y_istore X17.here hx (hb hby d1_82) (l' := #[rv pr0, iv (1 : Int32), iv pi2, iv x3, iv yW, iv (128 : Int32), iv (191 : Int32), iv (4 : Int32), iv x68]) rfl (pc' := 84) rfl ?_
                              refine y_sipush X17.here hx (hb hby d1_84) (v := (191 : Int32)) rfl (pc' := 87) rfl ?_
                              refine y_istore X17.here hx (hb hby d1_87) (l' := #[rv pr0, iv (1 : Int32), iv pi2, iv x3, iv yW, iv (128 : Int32), iv (191 : Int32), iv (4 : Int32), iv x68]) rfl (pc' := 89) rfl ?_
                              refine y_goto X17.here hx (hb hby d1_89) (pc' := 32) (by decide) rfl ?_
                              refine y_iload X17.here hx (hb hby d1_32) rfl (pc' := 34) rfl ?_
                              refine y_iload X17.here hx (hb hby d1_34) rfl (pc' := 36) rfl ?_
                              refine y_icmpYes X17.here hx (hb hby d1_36) (flt W4).2.1 (pc' := 92) (by decide) rfl ?_
                              refine y_iload X17.here hx (hb hby d1_92) rfl (pc' := 94) rfl ?_
                              refine y_iload X17.here hx (hb hby d1_94) rfl (pc' := 96) rfl ?_
                              exact kt)
                          by_cases hc96_83 : (4 : Int32) = yW
                          · have pre84 : ∀ t, Steps p.tables e below (T17.setTop (mkF m 107 #[rv pr0, iv (1 : Int32), iv pi2, iv x3, iv yW, iv (128 : Int32), iv (191 : Int32), iv (4 : Int32), iv x68] [(.int yW)])) t → Go t := fun t kt => pre82 t (by
                                refine y_icmpNo X17.here hx (hb hby d1_96) (teq hc96_83).2 (pc' := 99) rfl ?_
                                refine y_iload X17.here hx (hb hby d1_99) rfl (pc' := 101) rfl ?_
                                refine y_goto X17.here hx (hb hby d1_101) (pc' := 107) (by decide) rfl ?_
                                exact kt)
                            obtain ⟨fs, hr, hrun, hended, hW, hsame⟩ := X17.leave (v := some (.int yW)) (fun h => by rw [Bd.returns] at h; cases h)
                            refine ⟨_, _, (hGo _).mp (pre84 _ ?_), hrun, hended, _, _, rfl, ?_, ⟨_, rfl⟩, hW, hsame.mono (by decide) (by decide)⟩
                            · exact retOut X17 hx Bd.returns rfl (Or.inl ⟨rfl, Or.inl rfl, _, rfl⟩) (hb hby d1_107) hr
                            · show Q1a1 Z pr0 pi2 w_SEQUENCE_LENGTH w_SECOND_LOW w_SECOND_HIGH yW yL yH kk_pr0 y0 y1 y2 y3 y4 y5 cc_w_SEQUENCE_LENGTH cc_w_SECOND_LOW cc_w_SECOND_HIGH h0 n0 _ T17.heap _
                              rw [e17]
                              subst hx3 hx28 hx48 hx68
                              exact ⟨(by first | (simp only [fr1a1, if_pos hc36_23, if_pos hc44_25, if_neg hc63_31, if_neg hc70_37, if_pos hc36_43, if_pos hc44_45, if_neg hc63_51, if_neg hc70_57, if_pos hc36_63, if_pos hc44_65, if_neg hc63_71, if_neg hc70_77, if_pos hc96_83]; done) | (simp only [fr1a1, if_pos hc36_23, if_pos hc44_25, if_neg hc63_31, if_neg hc70_37, if_pos hc36_43, if_pos hc44_45, if_neg hc63_51, if_neg hc70_57, if_pos hc36_63, if_pos hc44_65, if_neg hc63_71, if_neg hc70_77, if_pos hc96_83]; exact rfl) | exact rfl), N0, rfl⟩
                          · have pre85 : ∀ t, Steps p.tables e below (T17.setTop (mkF m 107 #[rv pr0, iv (1 : Int32), iv pi2, iv x3, iv yW, iv (128 : Int32), iv (191 : Int32), iv (4 : Int32), iv x68] [(.int (-4 : Int32))])) t → Go t := fun t kt => pre82 t (by
                                refine y_icmpYes X17.here hx (hb hby d1_96) (feq hc96_83).2 (pc' := 104) (by decide) rfl ?_
                                refine y_iload X17.here hx (hb hby d1_104) rfl (pc' := 106) rfl ?_
                                refine y_ineg X17.here hx (hb hby d1_106) (z := (-4 : Int32)) rfl (pc' := 107) rfl ?_
                                exact kt)
                            obtain ⟨fs, hr, hrun, hended, hW, hsame⟩ := X17.leave (v := some (.int (-4 : Int32))) (fun h => by rw [Bd.returns] at h; cases h)
                            refine ⟨_, _, (hGo _).mp (pre85 _ ?_), hrun, hended, _, _, rfl, ?_, ⟨_, rfl⟩, hW, hsame.mono (by decide) (by decide)⟩
                            · exact retOut X17 hx Bd.returns rfl (Or.inl ⟨rfl, Or.inl rfl, _, rfl⟩) (hb hby d1_107) hr
                            · show Q1a1 Z pr0 pi2 w_SEQUENCE_LENGTH w_SECOND_LOW w_SECOND_HIGH yW yL yH kk_pr0 y0 y1 y2 y3 y4 y5 cc_w_SEQUENCE_LENGTH cc_w_SECOND_LOW cc_w_SECOND_HIGH h0 n0 _ T17.heap _
                              rw [e17]
                              subst hx3 hx28 hx48 hx68
                              exact ⟨(by first | (simp only [fr1a1, if_pos hc36_23, if_pos hc44_25, if_neg hc63_31, if_neg hc70_37, if_pos hc36_43, if_pos hc44_45, if_neg hc63_51, if_neg hc70_57, if_pos hc36_63, if_pos hc44_65, if_neg hc63_71, if_neg hc70_77, if_neg hc96_83]; done) | (simp only [fr1a1, if_pos hc36_23, if_pos hc44_25, if_neg hc63_31, if_neg hc70_37, if_pos hc36_43, if_pos hc44_45, if_neg hc63_51, if_neg hc70_57, if_pos hc36_63, if_pos hc44_65, if_neg hc63_71, if_neg hc70_77, if_neg hc96_83]; exact rfl) | exact rfl), N0, rfl⟩
                    · have pre86 : ∀ t, Steps p.tables e below (T17.setTop (mkF m 96 #[rv pr0, iv (1 : Int32), iv pi2, iv x3, iv yW, iv (128 : Int32), iv (191 : Int32), iv (3 : Int32), iv x48] [(.int yW), (.int (3 : Int32))])) t → Go t := fun t kt => pre64 t (by
                          refine y_icmpYes X17.here hx (hb hby d1_44) (flt hc44_65).2.1 (pc' := 92) (by decide) rfl ?_
                          refine y_iload X17.here hx (hb hby d1_92) rfl (pc' := 94) rfl ?_
                          refine y_iload X17.here hx (hb hby d1_94) rfl (pc' := 96) rfl ?_
                          exact kt)
                      by_cases hc96_87 : (3 : Int32) = yW
                      · have pre88 : ∀ t, Steps p.tables e below (T17.setTop (mkF m 107 #[rv pr0, iv (1 : Int32), iv pi2, iv x3, iv yW, iv (128 : Int32), iv (191 : Int32), iv (3 : Int32), iv x48] [(.int yW)])) t → Go t := fun t kt => pre86 t (by
                            refine y_icmpNo X17.here hx (hb hby d1_96) (teq hc96_87).2 (pc' := 99) rfl ?_
                            refine y_iload X17.here hx (hb hby d1_99) rfl (pc' := 101) rfl ?_
                            refine y_goto X17.here hx (hb hby d1_101) (pc' := 107) (by decide) rfl ?_
                            exact kt)
                        obtain ⟨fs, hr, hrun, hended, hW, hsame⟩ := X17.leave (v := some (.int yW)) (fun h => by rw [Bd.returns] at h; cases h)
                        refine ⟨_, _, (hGo _).mp (pre88 _ ?_), hrun, hended, _, _, rfl, ?_, ⟨_, rfl⟩, hW, hsame.mono (by decide) (by decide)⟩
                        · exact retOut X17 hx Bd.returns rfl (Or.inl ⟨rfl, Or.inl rfl, _, rfl⟩) (hb hby d1_107) hr
                        · show Q1a1 Z pr0 pi2 w_SEQUENCE_LENGTH w_SECOND_LOW w_SECOND_HIGH yW yL yH kk_pr0 y0 y1 y2 y3 y4 y5 cc_w_SEQUENCE_LENGTH cc_w_SECOND_LOW cc_w_SECOND_HIGH h0 n0 _ T17.heap _
                          rw [e17]
                          subst hx3 hx28 hx48
                          exact ⟨(by first | (simp only [fr1a1, if_pos hc36_23, if_pos hc44_25, if_neg hc63_31, if_neg hc70_37, if_pos hc36_43, if_pos hc44_45, if_neg hc63_51, if_neg hc70_57, if_pos hc36_63, if_neg hc44_65, if_pos hc96_87]; done) | (simp only [fr1a1, if_pos hc36_23, if_pos hc44_25, if_neg hc63_31, if_neg hc70_37, if_pos hc36_43, if_pos hc44_45, if_neg hc63_51, if_neg hc70_57, if_pos hc36_63, if_neg hc44_65, if_pos hc96_87]; exact rfl) | exact rfl), N0, rfl⟩
                      · have pre89 : ∀ t, Steps p.tables e below (T17.setTop (mkF m 107 #[rv pr0, iv (1 : Int32), iv pi2, iv x3, iv yW, iv (128 : Int32), iv (191 : Int32), iv (3 : Int32), iv x48] [(.int (-3 : Int32))])) t → Go t := fun t kt => pre86 t (by
                            refine y_icmpYes X17.here hx (hb hby d1_96) (feq hc96_87).2 (pc' := 104) (by decide) rfl ?_
                            refine y_iload X17.here hx (hb hby d1_104) rfl (pc' := 106) rfl ?_
                            refine y_ineg X17.here hx (hb hby d1_106) (z := (-3 : Int32)) rfl (pc' := 107) rfl ?_
                            exact kt)
                        obtain ⟨fs, hr, hrun, hended, hW, hsame⟩ := X17.leave (v := some (.int (-3 : Int32))) (fun h => by rw [Bd.returns] at h; cases h)
                        refine ⟨_, _, (hGo _).mp (pre89 _ ?_), hrun, hended, _, _, rfl, ?_, ⟨_, rfl⟩, hW, hsame.mono (by decide) (by decide)⟩
                        · exact retOut X17 hx Bd.returns rfl (Or.inl ⟨rfl, Or.inl rfl, _, rfl⟩) (hb hby d1_107) hr
                        · show Q1a1 Z pr0 pi2 w_SEQUENCE_LENGTH w_SECOND_LOW w_SECOND_HIGH yW yL yH kk_pr0 y0 y1 y2 y3 y4 y5 cc_w_SEQUENCE_LENGTH cc_w_SECOND_LOW cc_w_SECOND_HIGH h0 n0 _ T17.heap _
                          rw [e17]
                          subst hx3 hx28 hx48
                          exact ⟨(by first | (simp only [fr1a1, if_pos hc36_23, if_pos hc44_25, if_neg hc63_31, if_neg hc70_37, if_pos hc36_43, if_pos hc44_45, if_neg hc63_51, if_neg hc70_57, if_pos hc36_63, if_neg hc44_65, if_neg hc96_87]; done) | (simp only [fr1a1, if_pos hc36_23, if_pos hc44_25, if_neg hc63_31, if_neg hc70_37, if_pos hc36_43, if_pos hc44_45, if_neg hc63_51, if_neg hc70_57, if_pos hc36_63, if_neg hc44_65, if_neg hc96_87]; exact rfl) | exact rfl), N0, rfl⟩
                  · have pre90 : ∀ t, Steps p.tables e below (T17.setTop (mkF m 96 #[rv pr0, iv (1 : Int32), iv pi2, iv x3, iv yW, iv (128 : Int32), iv (191 : Int32), iv (3 : Int32), iv x48] [(.int yW), (.int (3 : Int32))])) t → Go t := fun t kt => pre62 t (by
                        refine y_icmpYes X17.here hx (hb hby d1_36) (flt hc36_63).2.1 (pc' := 92) (by decide) rfl ?_
                        refine y_iload X17.here hx (hb hby d1_92) rfl (pc' := 94) rfl ?_
                        refine y_iload X17.here hx (hb hby d1_94) rfl (pc' := 96) rfl ?_
                        exact kt)
                    by_cases hc96_91 : (3 : Int32) = yW
                    · have pre92 : ∀ t, Steps p.tables e below (T17.setTop (mkF m 107 #[rv pr0, iv (1 : Int32), iv pi2, iv x3, iv yW, iv (128 : Int32), iv (191 : Int32), iv (3 : Int32), iv x48] [(.int yW)])) t → Go t := fun t kt => pre90 t (by
                          refine y_icmpNo X17.here hx (hb hby d1_96) (teq hc96_91).2 (pc' := 99) rfl ?_
                          refine y_iload X17.here hx (hb hby d1_99) rfl (pc' := 101) rfl ?_
                          refine y_goto X17.here hx (hb hby d1_101) (pc' := 107) (by decide) rfl ?_
                          exact kt)
                      obtain ⟨fs, hr, hrun, hended, hW, hsame⟩ := X17.leave (v := some (.int yW)) (fun h => by rw [Bd.returns] at h; cases h)
                      refine ⟨_, _, (hGo _).mp (pre92 _ ?_), hrun, hended, _, _, rfl, ?_, ⟨_, rfl⟩, hW, hsame.mono (by decide) (by decide)⟩
                      · exact retOut X17 hx Bd.returns rfl (Or.inl ⟨rfl, Or.inl rfl, _, rfl⟩) (hb hby d1_107) hr
                      · show Q1a1 Z pr0 pi2 w_SEQUENCE_LENGTH w_SECOND_LOW w_SECOND_HIGH yW yL yH kk_pr0 y0 y1 y2 y3 y4 y5 cc_w_SEQUENCE_LENGTH cc_w_SECOND_LOW cc_w_SECOND_HIGH h0 n0 _ T17.heap _
                        rw [e17]
                        subst hx3 hx28 hx48
                        exact ⟨(by first | (simp only [fr1a1, if_pos hc36_23, if_pos hc44_25, if_neg hc63_31, if_neg hc70_37, if_pos hc36_43, if_pos hc44_45, if_neg hc63_51, if_neg hc70_57, if_neg hc36_63, if_pos hc96_91]; done) | (simp only [fr1a1, if_pos hc36_23, if_pos hc44_25, if_neg hc63_31, if_neg hc70_37, if_pos hc36_43, if_pos hc44_45, if_neg hc63_51, if_neg hc70_57, if_neg hc36_63, if_pos hc96_91]; exact rfl) | exact rfl), N0, rfl⟩
                    · have pre93 : ∀ t, Steps p.tables e below (T17.setTop (mkF m 107 #[rv pr0, iv (1 : Int32), iv pi2, iv x3, iv yW, iv (128 : Int32), iv (191 : Int32), iv (3 : Int32), iv x48] [(.int (-3 : Int32))])) t → Go t := fun t kt => pre90 t (by
                          refine y_icmpYes X17.here hx (hb hby d1_96) (feq hc96_91).2 (pc' := 104) (by decide) rfl ?_
                          refine y_iload X17.here hx (hb hby d1_104) rfl (pc' := 106) rfl ?_
                          refine y_ineg X17.here hx (hb hby d1_106) (z := (-3 : Int32)) rfl (pc' := 107) rfl ?_
                          exact kt)
                      obtain ⟨fs, hr, hrun, hended, hW, hsame⟩ := X17.leave (v := some (.int (-3 : Int32))) (fun h => by rw [Bd.returns] at h; cases h)
                      refine ⟨_, _, (hGo _).mp (pre93 _ ?_), hrun, hended, _, _, rfl, ?_, ⟨_, rfl⟩, hW, hsame.mono (by decide) (by decide)⟩
                      · exact retOut X17 hx Bd.returns rfl (Or.inl ⟨rfl, Or.inl rfl, _, rfl⟩) (hb hby d1_107) hr
                      · show Q1a1 Z pr0 pi2 w_SEQUENCE_LENGTH w_SECOND_LOW w_SECOND_HIGH yW yL yH kk_pr0 y0 y1 y2 y3 y4 y5 cc_w_SEQUENCE_LENGTH cc_w_SECOND_LOW cc_w_SECOND_HIGH h0 n0 _ T17.heap _
                        rw [e17]
                        subst hx3 hx28 hx48
                        exact ⟨(by first | (simp only [fr1a1, if_pos hc36_23, if_pos hc44_25, if_neg hc63_31, if_neg hc70_37, if_pos hc36_43, if_pos hc44_45, if_neg hc63_51, if_neg hc70_57, if_neg hc36_63, if_neg hc96_91]; done) | (simp only [fr1a1, if_pos hc36_23, if_pos hc44_25, if_neg hc63_31, if_neg hc70_37, if_pos hc36_43, if_pos hc44_45, if_neg hc63_51, if_neg hc70_57, if_neg hc36_63, if_neg hc96_91]; exact rfl) | exact rfl), N0, rfl⟩
            · have pre94 : ∀ t, Steps p.tables e below (T17.setTop (mkF m 96 #[rv pr0, iv (1 : Int32), iv pi2, iv x3, iv yW, iv (128 : Int32), iv (191 : Int32), iv (2 : Int32), iv x28] [(.int yW), (.int (2 : Int32))])) t → Go t := fun t kt => pre44 t (by
                  refine y_icmpYes X17.here hx (hb hby d1_44) (flt hc44_45).2.1 (pc' := 92) (by decide) rfl ?_
                  refine y_iload X17.here hx (hb hby d1_92) rfl (pc' := 94) rfl ?_
                  refine y_iload X17.here hx (hb hby d1_94) rfl (pc' := 96) rfl ?_
                  exact kt)
              by_cases hc96_95 : (2 : Int32) = yW
              · have pre96 : ∀ t, Steps p.tables e below (T17.setTop (mkF m 107 #[rv pr0, iv (1 : Int32), iv pi2, iv x3, iv yW, iv (128 : Int32), iv (191 : Int32), iv (2 : Int32), iv x28] [(.int yW)])) t → Go t := fun t kt => pre94 t (by
                    refine y_icmpNo X17.here hx (hb hby d1_96) (teq hc96_95).2 (pc' := 99) rfl ?_
                    refine y_iload X17.here hx (hb hby d1_99) rfl (pc' := 101) rfl ?_
                    refine y_goto X17.here hx (hb hby d1_101) (pc' := 107) (by decide) rfl ?_
                    exact kt)
                obtain ⟨fs, hr, hrun, hended, hW, hsame⟩ := X17.leave (v := some (.int yW)) (fun h => by rw [Bd.returns] at h; cases h)
                refine ⟨_, _, (hGo _).mp (pre96 _ ?_), hrun, hended, _, _, rfl, ?_, ⟨_, rfl⟩, hW, hsame.mono (by decide) (by decide)⟩
                · exact retOut X17 hx Bd.returns rfl (Or.inl ⟨rfl, Or.inl rfl, _, rfl⟩) (hb hby d1_107) hr
                · show Q1a1 Z pr0 pi2 w_SEQUENCE_LENGTH w_SECOND_LOW w_SECOND_HIGH yW yL yH kk_pr0 y0 y1 y2 y3 y4 y5 cc_w_SEQUENCE_LENGTH cc_w_SECOND_LOW cc_w_SECOND_HIGH h0 n0 _ T17.heap _
                  rw [e17]
                  subst hx3 hx28
                  exact ⟨(by first | (simp only [fr1a1, if_pos hc36_23, if_pos hc44_25, if_neg hc63_31, if_neg hc70_37, if_pos hc36_43, if_neg hc44_45, if_pos hc96_95]; done) | (simp only [fr1a1, if_pos hc36_23, if_pos hc44_25, if_neg hc63_31, if_neg hc70_37, if_pos hc36_43, if_neg hc44_45, if_pos hc96_95]; exact rfl) | exact rfl), N0, rfl⟩
              · have pre97 : ∀ t, Steps p.tables e below (T17.setTop (mkF m 107 #[rv pr0, iv (1 : Int32), iv pi2, iv x3, iv yW, iv (128 : Int32), iv (191 : Int32), iv (2 : Int32), iv x28] [(.int (-2 : Int32))])) t → Go t := fun t kt => pre94 t (by
                    refine y_icmpYes X17.here hx (hb hby d1_96) (feq hc96_95).2 (pc' := 104) (by decide) rfl ?_
                    refine y_iload X17.here hx (hb hby d1_104) rfl (pc' := 106) rfl ?_
                    refine y_ineg X17.here hx (hb hby d1_106) (z := (-2 : Int32)) rfl (pc' := 107) rfl ?_
                    exact kt)
                obtain ⟨fs, hr, hrun, hended, hW, hsame⟩ := X17.leave (v := some (.int (-2 : Int32))) (fun h => by rw [Bd.returns] at h; cases h)
                refine ⟨_, _, (hGo _).mp (pre97 _ ?_), hrun, hended, _, _, rfl, ?_, ⟨_, rfl⟩, hW, hsame.mono (by decide) (by decide)⟩
                · exact retOut X17 hx Bd.returns rfl (Or.inl ⟨rfl, Or.inl rfl, _, rfl⟩) (hb hby d1_107) hr
                · show Q1a1 Z pr0 pi2 w_SEQUENCE_LENGTH w_SECOND_LOW w_SECOND_HIGH yW yL yH kk_pr0 y0 y1 y2 y3 y4 y5 cc_w_SEQUENCE_LENGTH cc_w_SECOND_LOW cc_w_SECOND_HIGH h0 n0 _ T17.heap _
                  rw [e17]
                  subst hx3 hx28
                  exact ⟨(by first | (simp only [fr1a1, if_pos hc36_23, if_pos hc44_25, if_neg hc63_31, if_neg hc70_37, if_pos hc36_43, if_neg hc44_45, if_neg hc96_95]; done) | (simp only [fr1a1, if_pos hc36_23, if_pos hc44_25, if_neg hc63_31, if_neg hc70_37, if_pos hc36_43, if_neg hc44_45, if_neg hc96_95]; exact rfl) | exact rfl), N0, rfl⟩
          · have pre98 : ∀ t, Steps p.tables e below (T17.setTop (mkF m 96 #[rv pr0, iv (1 : Int32), iv pi2, iv x3, iv yW, iv (128 : Int32), iv (191 : Int32), iv (2 : Int32), iv x28] [(.int yW), (.int (2 : Int32))])) t → Go t := fun t kt => pre42 t (by
                refine y_icmpYes X17.here hx (hb hby d1_36) (flt hc36_43).2.1 (pc' := 92) (by decide) rfl ?_
                refine y_iload X17.here hx (hb hby d1_92) rfl (pc' := 94) rfl ?_
                refine y_iload X17.here hx (hb hby d1_94) rfl (pc' := 96) rfl ?_
                exact kt)
            by_cases hc96_99 : (2 : Int32) = yW
            · have pre100 : ∀ t, Steps p.tables e below (T17.setTop (mkF m 107 #[rv pr0, iv (1 : Int32), iv pi2, iv x3, iv yW, iv (128 : Int32), iv (191 : Int32), iv (2 : Int32), iv x28] [(.int yW)])) t → Go t := fun t kt => pre98 t (by
                  refine y_icmpNo X17.here hx (hb hby d1_96) (teq hc96_99).2 (pc' := 99) rfl ?_
                  refine y_iload X17.here hx (hb hby d1_99) rfl (pc' := 101) rfl ?_
                  refine y_goto X17.here hx (hb hby d1_101) (pc' := 107) (by decide) rfl ?_
                  exact kt)
              obtain ⟨fs, hr, hrun, hended, hW, hsame⟩ := X17.leave (v := some (.int yW)) (fun h => by rw [Bd.returns] at h; cases h)
              refine ⟨_, _, (hGo _).mp (pre100 _ ?_), hrun, hended, _, _, rfl, ?_, ⟨_, rfl⟩, hW, hsame.mono (by decide) (by decide)⟩
              · exact retOut X17 hx Bd.returns rfl (Or.inl ⟨rfl, Or.inl rfl, _, rfl⟩) (hb hby d1_107) hr
              · show Q1a1 Z pr0 pi2 w_SEQUENCE_LENGTH w_SECOND_LOW w_SECOND_HIGH yW yL yH kk_pr0 y0 y1 y2 y3 y4 y5 cc_w_SEQUENCE_LENGTH cc_w_SECOND_LOW cc_w_SECOND_HIGH h0 n0 _ T17.heap _
                rw [e17]
                subst hx3 hx28
                exact ⟨(by first | (simp only [fr1a1, if_pos hc36_23, if_pos hc44_25, if_neg hc63_31, if_neg hc70_37, if_neg hc36_43, if_pos hc96_99]; done) | (simp only [fr1a1, if_pos hc36_23, if_pos hc44_25, if_neg hc63_31, if_neg hc70_37, if_neg hc36_43, if_pos hc96_99]; exact rfl) | exact rfl), N0, rfl⟩
            · have pre101 : ∀ t, Steps p.tables e below (T17.setTop (mkF m 107 #[rv pr0, iv (1 : Int32), iv pi2, iv x3, iv yW, iv (128 : Int32), iv (191 : Int32), iv (2 : Int32), iv x28] [(.int (-2 : Int32))])) t → Go t := fun t kt => pre98 t (by
                  refine y_icmpYes X17.here hx (hb hby d1_96) (feq hc96_99).2 (pc' := 104) (by decide) rfl ?_
                  refine y_iload X17.here hx (hb hby d1_104) rfl (pc' := 106) rfl ?_
                  refine y_ineg X17.here hx (hb hby d1_106) (z := (-2 : Int32)) rfl (pc' := 107) rfl ?_
                  exact kt)
              obtain ⟨fs, hr, hrun, hended, hW, hsame⟩ := X17.leave (v := some (.int (-2 : Int32))) (fun h => by rw [Bd.returns] at h; cases h)
              refine ⟨_, _, (hGo _).mp (pre101 _ ?_), hrun, hended, _, _, rfl, ?_, ⟨_, rfl⟩, hW, hsame.mono (by decide) (by decide)⟩
              · exact retOut X17 hx Bd.returns rfl (Or.inl ⟨rfl, Or.inl rfl, _, rfl⟩) (hb hby d1_107) hr
              · show Q1a1 Z pr0 pi2 w_SEQUENCE_LENGTH w_SECOND_LOW w_SECOND_HIGH yW yL yH kk_pr0 y0 y1 y2 y3 y4 y5 cc_w_SEQUENCE_LENGTH cc_w_SECOND_LOW cc_w_SECOND_HIGH h0 n0 _ T17.heap _
                rw [e17]
                subst hx3 hx28
                exact ⟨(by first | (simp only [fr1a1, if_pos hc36_23, if_pos hc44_25, if_neg hc63_31, if_neg hc70_37, if_neg hc36_43, if_neg hc96_99]; done) | (simp only [fr1a1, if_pos hc36_23, if_pos hc44_25, if_neg hc63_31, if_neg hc70_37, if_neg hc36_43, if_neg hc96_99]; exact rfl) | exact rfl), N0, rfl⟩
    · have pre102 : ∀ t, Steps p.tables e below (T17.setTop (mkF m 96 #[rv pr0, iv (1 : Int32), iv pi2, iv x3, iv yW, iv yL, iv yH, iv (1 : Int32), .unset] [(.int yW), (.int (1 : Int32))])) t → Go t := fun t kt => pre24 t (by
          refine y_icmpYes X17.here hx (hb hby d1_44) (flt hc44_25).2.1 (pc' := 92) (by decide) rfl ?_
          refine y_iload X17.here hx (hb hby d1_92) rfl (pc' := 94) rfl ?_
          refine y_iload X17.here hx (hb hby d1_94) rfl (pc' := 96) rfl ?_
          exact kt)
      by_cases hc96_103 : (1 : Int32) = yW
      · have pre104 : ∀ t, Steps p.tables e below (T17.setTop (mkF m 107 #[rv pr0, iv (1 : Int32), iv pi2, iv x3, iv yW, iv yL, iv yH, iv (1 : Int32), .unset] [(.int yW)])) t → Go t := fun t kt => pre102 t (by
            refine y_icmpNo X17.here hx (hb hby d1_96) (teq hc96_103).2 (pc' := 99) rfl ?_
            refine y_iload X17.here hx (hb hby d1_99) rfl (pc' := 101) rfl ?_
            refine y_goto X17.here hx (hb hby d1_101) (pc' := 107) (by decide) rfl ?_
            exact kt)
        obtain ⟨fs, hr, hrun, hended, hW, hsame⟩ := X17.leave (v := some (.int yW)) (fun h => by rw [Bd.returns] at h; cases h)
        refine ⟨_, _, (hGo _).mp (pre104 _ ?_), hrun, hended, _, _, rfl, ?_, ⟨_, rfl⟩, hW, hsame.mono (by decide) (by decide)⟩
        · exact retOut X17 hx Bd.returns rfl (Or.inl ⟨rfl, Or.inl rfl, _, rfl⟩) (hb hby d1_107) hr
        · show Q1a1 Z pr0 pi2 w_SEQUENCE_LENGTH w_SECOND_LOW w_SECOND_HIGH yW yL yH kk_pr0 y0 y1 y2 y3 y4 y5 cc_w_SEQUENCE_LENGTH cc_w_SECOND_LOW cc_w_SECOND_HIGH h0 n0 _ T17.heap _
          rw [e17]
          subst hx3
          exact ⟨(by first | (simp only [fr1a1, if_pos hc36_23, if_neg hc44_25, if_pos hc96_103]; done) | (simp only [fr1a1, if_pos hc36_23, if_neg hc44_25, if_pos hc96_103]; exact rfl) | exact rfl), N0, rfl⟩
      · have pre105 : ∀ t, Steps p.tables e below (T17.setTop (mkF m 107 #[rv pr0, iv (1 : Int32), iv pi2, iv x3, iv yW, iv yL, iv yH, iv (1 : Int32), .unset] [(.int (-1 : Int32))])) t → Go t := fun t kt => pre102 t (by
            refine y_icmpYes X17.here hx (hb hby d1_96) (feq hc96_103).2 (pc' := 104) (by decide) rfl ?_
            refine y_iload X17.here hx (hb hby d1_104) rfl (pc' := 106) rfl ?_
            refine y_ineg X17.here hx (hb hby d1_106) (z := (-1 : Int32)) rfl (pc' := 107) rfl ?_
            exact kt)
        obtain ⟨fs, hr, hrun, hended, hW, hsame⟩ := X17.leave (v := some (.int (-1 : Int32))) (fun h => by rw [Bd.returns] at h; cases h)
        refine ⟨_, _, (hGo _).mp (pre105 _ ?_), hrun, hended, _, _, rfl, ?_, ⟨_, rfl⟩, hW, hsame.mono (by decide) (by decide)⟩
        · exact retOut X17 hx Bd.returns rfl (Or.inl ⟨rfl, Or.inl rfl, _, rfl⟩) (hb hby d1_107) hr
        · show Q1a1 Z pr0 pi2 w_SEQUENCE_LENGTH w_SECOND_LOW w_SECOND_HIGH yW yL yH kk_pr0 y0 y1 y2 y3 y4 y5 cc_w_SEQUENCE_LENGTH cc_w_SECOND_LOW cc_w_SECOND_HIGH h0 n0 _ T17.heap _
          rw [e17]
          subst hx3
          exact ⟨(by first | (simp only [fr1a1, if_pos hc36_23, if_neg hc44_25, if_neg hc96_103]; done) | (simp only [fr1a1, if_pos hc36_23, if_neg hc44_25, if_neg hc96_103]; exact rfl) | exact rfl), N0, rfl⟩
  · have pre106 : ∀ t, Steps p.tables e below (T17.setTop (mkF m 96 #[rv pr0, iv (1 : Int32), iv pi2, iv x3, iv yW, iv yL, iv yH, iv (1 : Int32), .unset] [(.int yW), (.int (1 : Int32))])) t → Go t := fun t kt => pre22 t (by
        refine y_icmpYes X17.here hx (hb hby d1_36) (flt hc36_23).2.1 (pc' := 92) (by decide) rfl ?_
        refine y_iload X17.here hx (hb hby d1_92) rfl (pc' := 94) rfl ?_
        refine y_iload X17.here hx (hb hby d1_94) rfl (pc' := 96) rfl ?_
        exact kt)
    by_cases hc96_107 : (1 : Int32) = yW
    · have pre108 : ∀ t, Steps p.tables e below (T17.setTop (mkF m 107 #[rv pr0, iv (1 : Int32), iv pi2, iv x3, iv yW, iv yL, iv yH, iv (1 : Int32), .unset] [(.int yW)])) t → Go t := fun t kt => pre106 t (by
          refine y_icmpNo X17.here hx (hb hby d1_96) (teq hc96_107).2 (pc' := 99) rfl ?_
          refine y_iload X17.here hx (hb hby d1_99) rfl (pc' := 101) rfl ?_
          refine y_goto X17.here hx (hb hby d1_101) (pc' := 107) (by decide) rfl ?_
          exact kt)
      obtain ⟨fs, hr, hrun, hended, hW, hsame⟩ := X17.leave (v := some (.int yW)) (fun h => by rw [Bd.returns] at h; cases h)
      refine ⟨_, _, (hGo _).mp (pre108 _ ?_), hrun, hended, _, _, rfl, ?_, ⟨_, rfl⟩, hW, hsame.mono (by decide) (by decide)⟩
      · exact retOut X17 hx Bd.returns rfl (Or.inl ⟨rfl, Or.inl rfl, _, rfl⟩) (hb hby d1_107) hr
      · show Q1a1 Z pr0 pi2 w_SEQUENCE_LENGTH w_SECOND_LOW w_SECOND_HIGH yW yL yH kk_pr0 y0 y1 y2 y3 y4 y5 cc_w_SEQUENCE_LENGTH cc_w_SECOND_LOW cc_w_SECOND_HIGH h0 n0 _ T17.heap _
        rw [e17]
        subst hx3
        exact ⟨(by first | (simp only [fr1a1, if_neg hc36_23, if_pos hc96_107]; done) | (simp only [fr1a1, if_neg hc36_23, if_pos hc96_107]; exact rfl) | exact rfl), N0, rfl⟩
    · have pre109 : ∀ t, Steps p.tables e below (T17.setTop (mkF m 107 #[rv pr0, iv (1 : Int32), iv pi2, iv x3, iv yW, iv yL, iv yH, iv (1 : Int32), .unset] [(.int (-1 : Int32))])) t → Go t := fun t kt => pre106 t (by
          refine y_icmpYes X17.here hx (hb hby d1_96) (feq hc96_107).2 (pc' := 104) (by decide) rfl ?_
          refine y_iload X17.here hx (hb hby d1_104) rfl (pc' := 106) rfl ?_
          refine y_ineg X17.here hx (hb hby d1_106) (z := (-1 : Int32)) rfl (pc' := 107) rfl ?_
          exact kt)
      obtain ⟨fs, hr, hrun, hended, hW, hsame⟩ := X17.leave (v := some (.int (-1 : Int32))) (fun h => by rw [Bd.returns] at h; cases h)
      refine ⟨_, _, (hGo _).mp (pre109 _ ?_), hrun, hended, _, _, rfl, ?_, ⟨_, rfl⟩, hW, hsame.mono (by decide) (by decide)⟩
      · exact retOut X17 hx Bd.returns rfl (Or.inl ⟨rfl, Or.inl rfl, _, rfl⟩) (hb hby d1_107) hr
      · show Q1a1 Z pr0 pi2 w_SEQUENCE_LENGTH w_SECOND_LOW w_SECOND_HIGH yW yL yH kk_pr0 y0 y1 y2 y3 y4 y5 cc_w_SEQUENCE_LENGTH cc_w_SECOND_LOW cc_w_SECOND_HIGH h0 n0 _ T17.heap _
        rw [e17]
        subst hx3
        exact ⟨(by first | (simp only [fr1a1, if_neg hc36_23, if_neg hc96_107]; done) | (simp only [fr1a1, if_neg hc36_23, if_neg hc96_107]; exact rfl) | exact rfl), N0, rfl⟩
theorem d3_0 : decode method_3_code 0 = .ok (.iload_n 0, 1) := by decide +kernel
theorem d3_1 : decode method_3_code 1 = .ok (.sipush 128, 3) := by decide +kernel
theorem d3_4 : decode method_3_code 4 = .ok (.if_icmp .lt 14, 3) := by decide +kernel
theorem d3_7 : decode method_3_code 7 = .ok (.iload_n 0, 1) := by decide +kernel
theorem d3_8 : decode method_3_code 8 = .ok (.sipush 191, 3) := by decide +kernel
theorem d3_11 : decode method_3_code 11 = .ok (.if_icmp .gt 7, 3) := by decide +kernel
theorem d3_14 : decode method_3_code 14 = .ok (.iconst 1, 1) := by decide +kernel
theorem d3_15 : decode method_3_code 15 = .ok (.goto 4, 3) := by decide +kernel
theorem d3_18 : decode method_3_code 18 = .ok (.iconst 0, 1) := by decide +kernel
theorem d3_19 : decode method_3_code 19 = .ok (.ireturn, 1) := by decide +kernel
theorem pn_com_example_strict_codec_strictcodec_Utf8GrammarSpanPinLaw : plainName "com/example/strict_codec/strictcodec/Utf8GrammarSpanPinLaw" = true := by first | (simp [plainName, overriddenIn]; done) | decide +kernel
theorem ef_3 (m : MethodId) (x0 : Int32) : entryFrame m #[(.int x0)] 1 = mkF m 0 #[iv x0] [] := by first | (simp [entryFrame, mkF, argsToLocals, Value.category]; done) | rfl
def Q3 (Z : State) (pi0 : Int32) (h0 : Heap) (n0 : Nat) (v : Option Value) (h : Heap) (L : List Loc) : Prop := v = some (.int (if pi0 < (128 : Int32) then (0 : Int32) else (if (191 : Int32) < pi0 then (0 : Int32) else (1 : Int32)))) ∧ Fr n0 L ∧ h = h0
set_option maxRecDepth 65536 in
set_option maxHeartbeats 40000000 in
theorem rm3 (l : Launch) (Z : State) (a0 : Array Value) (hw : ∀ d ∈ tables_1, d.before a0 Z = true) (ws : List Jvm.Cond) (pi0 : Int32) (h0 : Heap) (n0 : Nat) (O0 : Old Z n0 h0) :
    MetFree l (⟨"com/example/strict_codec/strictcodec/Utf8GrammarSpanPinLaw", "cont", "(I)Z"⟩ : MethodName) (head1 (Jvm.Cond.code (⟨"com/example/strict_codec/strictcodec/Utf8GrammarSpanPinLaw", "cont", "(I)Z"⟩ : MethodName) method_3_code 1 (some .boolean) :: ws) ({ frames := 0, cells := 0, slots := 0, locals := 0 } : Room)) (fun a U => a = #[(.int pi0)] ∧ Z.Warmed39 U.vm ∧ U.heap = h0) (fun _ _ _ _ _ => True) (fun _ U o U' => ∃ v L, o = .returned v ∧ Q3 Z pi0 h0 n0 v U'.heap L ∧ FrameEnd U o U' L ({ frames := 0, cells := 0, slots := 0, locals := 0 } : Room).cells ({ frames := 0, cells := 0, slots := 0, locals := 0 } : Room).slots) := by
  refine MetFree.of_bodySF (plainFor_of_name pn_com_example_strict_codec_strictcodec_Utf8GrammarSpanPinLaw) hisR ?_
  intro p e s m args below meth c s₁ Bd hml0 hP hK
  obtain ⟨rfl, hZ, hh⟩ := hP
  have hx := Bd.exec
  have hby := Bd.bytes
  have hml : c.maxLocals = 1 := hml0
  have hown : s.vm.findClass "com/example/strict_codec/strictcodec/Utf8GrammarSpanPinLaw" = some m.cls := findClass_of_methodNamed Bd.named
  have hnm := (name_of_methodNamed Bd.named Bd.method).1
  have X0 : Stand p l e ({ frames := 0, cells := 0, slots := 0, locals := 0 } : Room) s m #[(.int pi0)] below meth c s₁ [] 0 0 := Stand.of_body Bd
  have e0 : s₁.heap = h0 := by rw [← hh, Bd.state]; rfl
  have N0 := Fr.nil n0
  obtain ⟨Go, hGo⟩ : ∃ P : State → Prop, ∀ t, P t ↔ Steps p.tables e below (s₁.setTop (entryFrame m #[(.int pi0)] 1)) t := ⟨_, fun _ => Iff.rfl⟩
  have pre0 : ∀ t, Steps p.tables e below (s₁.setTop (mkF m 0 #[iv pi0] [])) t → Go t := fun t k => (hGo t).mpr (castTop (ef_3 m pi0) k)
  have pre1 : ∀ t, Steps p.tables e below (s₁.setTop (mkF m 4 #[iv pi0] [(.int (128 : Int32)), (.int pi0)])) t → Go t := fun t kt => pre0 t (by
      refine y_iloadN X0.here hx (hb hby d3_0) rfl (pc' := 1) rfl ?_
      refine y_sipush X0.here hx (hb hby d3_1) (v := (128 : Int32)) rfl (pc' := 4) rfl ?_
      exact kt)
  by_cases hc4_2 : pi0 < (128 : Int32)
  · have pre3 : ∀ t, Steps p.tables e below (s₁.setTop (mkF m 19 #[iv pi0] [(.int (0 : Int32))])) t → Go t := fun t kt => pre1 t (by
        refine y_icmpYes X0.here hx (hb hby d3_4) (tlt hc4_2).1 (pc' := 18) (by decide) rfl ?_
        refine y_iconst X0.here hx (hb hby d3_18) (v := (0 : Int32)) rfl (pc' := 19) rfl ?_
        exact kt)
    obtain ⟨fs, hr, hrun, hended, hW, hsame⟩ := X0.leave (v := some (.int (0 : Int32))) (fun h => by rw [Bd.returns] at h; cases h)
    refine ⟨_, _, (hGo _).mp (pre3 _ ?_), hrun, hended, _, _, rfl, ?_, ⟨_, rfl⟩, hW, hsame.mono (by decide) (by decide)⟩
    · exact retN X0 hx (t := .boolean) Bd.returns (by simp) (hb hby d3_19) hr
    · show Q3 Z pi0 h0 n0 _ s₁.heap _
      rw [e0]
      exact ⟨(by first | (simp only [if_pos hc4_2]; done) | (simp only [if_pos hc4_2]; exact rfl) | exact rfl), N0, rfl⟩
  · have pre4 : ∀ t, Steps p.tables e below (s₁.setTop (mkF m 11 #[iv pi0] [(.int (191 : Int32)), (.int pi0)])) t → Go t := fun t kt => pre1 t (by
        refine y_icmpNo X0.here hx (hb hby d3_4) (flt hc4_2).1 (pc' := 7) rfl ?_
        refine y_iloadN X0.here hx (hb hby d3_7) rfl (pc' := 8) rfl ?_
        refine y_sipush X0.here hx (hb hby d3_8) (v := (191 : Int32)) rfl (pc' := 11) rfl ?_
        exact kt)
    by_cases hc11_5 : (191 : Int32) < pi0
    · have pre6 : ∀ t, Steps p.tables e below (s₁.setTop (mkF m 19 #[iv pi0] [(.int (0 : Int32))])) t → Go t := fun t kt => pre4 t (by
          refine y_icmpYes X0.here hx (hb hby d3_11) (tlt hc11_5).2.2.1 (pc' := 18) (by decide) rfl ?_
          refine y_iconst X0.here hx (hb hby d3_18) (v := (0 : Int32)) rfl (pc' := 19) rfl ?_
          exact kt)
      obtain ⟨fs, hr, hrun, hended, hW, hsame⟩ := X0.leave (v := some (.int (0 : Int32))) (fun h => by rw [Bd.returns] at h; cases h)
      refine ⟨_, _, (hGo _).mp (pre6 _ ?_), hrun, hended, _, _, rfl, ?_, ⟨_, rfl⟩, hW, hsame.mono (by decide) (by decide)⟩
      · exact retN X0 hx (t := .boolean) Bd.returns (by simp) (hb hby d3_19) hr
      · show Q3 Z pi0 h0 n0 _ s₁.heap _
        rw [e0]
        exact ⟨(by first | (simp only [if_neg hc4_2, if_pos hc11_5]; done) | (simp only [if_neg hc4_2, if_pos hc11_5]; exact rfl) | exact rfl), N0, rfl⟩
    · have pre7 : ∀ t, Steps p.tables e below (s₁.setTop (mkF m 19 #[iv pi0] [(.int (1 : Int32))])) t → Go t := fun t kt => pre4 t (by
          refine y_icmpNo X0.here hx (hb hby d3_11) (flt hc11_5).2.2.1 (pc' := 14) rfl ?_
          refine y_iconst X0.here hx (hb hby d3_14) (v := (1 : Int32)) rfl (pc' := 15) rfl ?_
          refine y_goto X0.here hx (hb hby d3_15) (pc' := 19) (by decide) rfl ?_
          exact kt)
      obtain ⟨fs, hr, hrun, hended, hW, hsame⟩ := X0.leave (v := some (.int (1 : Int32))) (fun h => by rw [Bd.returns] at h; cases h)
      refine ⟨_, _, (hGo _).mp (pre7 _ ?_), hrun, hended, _, _, rfl, ?_, ⟨_, rfl⟩, hW, hsame.mono (by decide) (by decide)⟩
      · exact retN X0 hx (t := .boolean) Bd.returns (by simp) (hb hby d3_19) hr
      · show Q3 Z pi0 h0 n0 _ s₁.heap _
        rw [e0]
        exact ⟨(by first | (simp only [if_neg hc4_2, if_neg hc11_5]; done) | (simp only [if_neg hc4_2, if_neg hc11_5]; exact rfl) | exact rfl), N0, rfl⟩
def fr2 (pi0 : Int32) (pi1 : Int32) (pi2 : Int32) (pi3 : Int32) (pi4 : Int32) : Int32 := (if (if (127 : Int32) < pi0 then (if (193 : Int32) < pi0 then (if (223 : Int32) < pi0 then (if pi0 = (224 : Int32) then (3 : Int32) else (if (236 : Int32) < pi0 then (if pi0 = (237 : Int32) then (3 : Int32) else (if (239 : Int32) < pi0 then (if pi0 = (240 : Int32) then (4 : Int32) else (if (243 : Int32) < pi0 then (if pi0 = (244 : Int32) then (4 : Int32) else (0 : Int32)) else (4 : Int32))) else (3 : Int32))) else (3 : Int32))) else (2 : Int32)) else (0 : Int32)) else (1 : Int32)) < (2 : Int32) then (if (1 : Int32) = (if (127 : Int32) < pi0 then (if (193 : Int32) < pi0 then (if (223 : Int32) < pi0 then (if pi0 = (224 : Int32) then (3 : Int32) else (if (236 : Int32) < pi0 then (if pi0 = (237 : Int32) then (3 : Int32) else (if (239 : Int32) < pi0 then (if pi0 = (240 : Int32) then (4 : Int32) else (if (243 : Int32) < pi0 then (if pi0 = (244 : Int32) then (4 : Int32) else (0 : Int32)) else (4 : Int32))) else (3 : Int32))) else (3 : Int32))) else (2 : Int32)) else (0 : Int32)) else (1 : Int32)) then (if (127 : Int32) < pi0 then (if (193 : Int32) < pi0 then (if (223 : Int32) < pi0 then (if pi0 = (224 : Int32) then (3 : Int32) else (if (236 : Int32) < pi0 then (if pi0 = (237 : Int32) then (3 : Int32) else (if (239 : Int32) < pi0 then (if pi0 = (240 : Int32) then (4 : Int32) else (if (243 : Int32) < pi0 then (if pi0 = (244 : Int32) then (4 : Int32) else (0 : Int32)) else (4 : Int32))) else (3 : Int32))) else (3 : Int32))) else (2 : Int32)) else (0 : Int32)) else (1 : Int32)) else (-1 : Int32)) else (if pi4 < (2 : Int32) then (if (1 : Int32) = (if (127 : Int32) < pi0 then (if (193 : Int32) < pi0 then (if (223 : Int32) < pi0 then (if pi0 = (224 : Int32) then (3 : Int32) else (if (236 : Int32) < pi0 then (if pi0 = (237 : Int32) then (3 : Int32) else (if (239 : Int32) < pi0 then (if pi0 = (240 : Int32) then (4 : Int32) else (if (243 : Int32) < pi0 then (if pi0 = (244 : Int32) then (4 : Int32) else (0 : Int32)) else (4 : Int32))) else (3 : Int32))) else (3 : Int32))) else (2 : Int32)) else (0 : Int32)) else (1 : Int32)) then (if (127 : Int32) < pi0 then (if (193 : Int32) < pi0 then (if (223 : Int32) < pi0 then (if pi0 = (224 : Int32) then (3 : Int32) else (if (236 : Int32) < pi0 then (if pi0 = (237 : Int32) then (3 : Int32) else (if (239 : Int32) < pi0 then (if pi0 = (240 : Int32) then (4 : Int32) else (if (243 : Int32) < pi0 then (if pi0 = (244 : Int32) then (4 : Int32) else (0 : Int32)) else (4 : Int32))) else (3 : Int32))) else (3 : Int32))) else (2 : Int32)) else (0 : Int32)) else (1 : Int32)) else (-1 : Int32)) else (if pi1 < (if (127 : Int32) < pi0 then (if (193 : Int32) < pi0 then (if (223 : Int32) < pi0 then (if pi0 = (224 : Int32) then (160 : Int32) else (if (236 : Int32) < pi0 then (if pi0 = (237 : Int32) then (128 : Int32) else (if (239 : Int32) < pi0 then (if pi0 = (240 : Int32) then (144 : Int32) else (128 : Int32)) else (128 : Int32))) else (128 : Int32))) else (128 : Int32)) else (128 : Int32)) else (128 : Int32)) then (if (1 : Int32) = (if (127 : Int32) < pi0 then (if (193 : Int32) < pi0 then (if (223 : Int32) < pi0 then (if pi0 = (224 : Int32) then (3 : Int32) else (if (236 : Int32) < pi0 then (if pi0 = (237 : Int32) then (3 : Int32) else (if (239 : Int32) < pi0 then (if pi0 = (240 : Int32) then (4 : Int32) else (if (243 : Int32) < pi0 then (if pi0 = (244 : Int32) then (4 : Int32) else (0 : Int32)) else (4 : Int32))) else (3 : Int32))) else (3 : Int32))) else (2 : Int32)) else (0 : Int32)) else (1 : Int32)) then (if (127 : Int32) < pi0 then (if (193 : Int32) < pi0 then (if (223 : Int32) < pi0 then (if pi0 = (224 : Int32) then (3 : Int32) else (if (236 : Int32) < pi0 then (if pi0 = (237 : Int32) then (3 : Int32) else (if (239 : Int32) < pi0 then (if pi0 = (240 : Int32) then (4 : Int32) else (if (243 : Int32) < pi0 then (if pi0 = (244 : Int32) then (4 : Int32) else (0 : Int32)) else (4 : Int32))) else (3 : Int32))) else (3 : Int32))) else (2 : Int32)) else (0 : Int32)) else (1 : Int32)) else (-1 : Int32)) else (if (if (127 : Int32) < pi0 then (if (193 : Int32) < pi0 then (if (223 : Int32) < pi0 then (if pi0 = (224 : Int32) then (191 : Int32) else (if (236 : Int32) < pi0 then (if pi0 = (237 : Int32) then (159 : Int32) else (if (239 : Int32) < pi0 then (if pi0 = (240 : Int32) then (191 : Int32) else (if (243 : Int32) < pi0 then (if pi0 = (244 : Int32) then (143 : Int32) else (191 : Int32)) else (191 : Int32))) else (191 : Int32))) else (191 : Int32))) else (191 : Int32)) else (191 : Int32)) else (191 : Int32)) < pi1 then (if (1 : Int32) = (if (127 : Int32) < pi0 then (if (193 : Int32) < pi0 then (if (223 : Int32) < pi0 then (if pi0 = (224 : Int32) then (3 : Int32) else (if (236 : Int32) < pi0 then (if pi0 = (237 : Int32) then (3 : Int32) else (if (239 : Int32) < pi0 then (if pi0 = (240 : Int32) then (4 : Int32) else (if (243 : Int32) < pi0 then (if pi0 = (244 : Int32) then (4 : Int32) else (0 : Int32)) else (4 : Int32))) else (3 : Int32))) else (3 : Int32))) else (2 : Int32)) else (0 : Int32)) else (1 : Int32)) then (if (127 : Int32) < pi0 then (if (193 : Int32) < pi0 then (if (223 : Int32) < pi0 then (if pi0 = (224 : Int32) then (3 : Int32) else (if (236 : Int32) < pi0 then (if pi0 = (237 : Int32) then (3 : Int32) else (if (239 : Int32) < pi0 then (if pi0 = (240 : Int32) then (4 : Int32) else (if (243 : Int32) < pi0 then (if pi0 = (244 : Int32) then (4 : Int32) else (0 : Int32)) else (4 : Int32))) else (3 : Int32))) else (3 : Int32))) else (2 : Int32)) else (0 : Int32)) else (1 : Int32)) else (-1 : Int32)) else (if (if (127 : Int32) < pi0 then (if (193 : Int32) < pi0 then (if (223 : Int32) < pi0 then (if pi0 = (224 : Int32) then (3 : Int32) else (if (236 : Int32) < pi0 then (if pi0 = (237 : Int32) then (3 : Int32) else (if (239 : Int32) < pi0 then (if pi0 = (240 : Int32) then (4 : Int32) else (if (243 : Int32) < pi0 then (if pi0 = (244 : Int32) then (4 : Int32) else (0 : Int32)) else (4 : Int32))) else (3 : Int32))) else (3 : Int32))) else (2 : Int32)) else (0 : Int32)) else (1 : Int32)) < (3 : Int32) then (if (2 : Int32) = (if (127 : Int32) < pi0 then (if (193 : Int32) < pi0 then (if (223 : Int32) < pi0 then (if pi0 = (224 : Int32) then (3 : Int32) else (if (236 : Int32) < pi0 then (if pi0 = (237 : Int32) then (3 : Int32) else (if (239 : Int32) < pi0 then (if pi0 = (240 : Int32) then (4 : Int32) else (if (243 : Int32) < pi0 then (if pi0 = (244 : Int32) then (4 : Int32) else (0 : Int32)) else (4 : Int32))) else (3 : Int32))) else (3 : Int32))) else (2 : Int32)) else (0 : Int32)) else (1 : Int32)) then (if (127 : Int32) < pi0 then (if (193 : Int32) < pi0 then (if (223 : Int32) < pi0 then (if pi0 = (224 : Int32) then (3 : Int32) else (if (236 : Int32) < pi0 then (if pi0 = (237 : Int32) then (3 : Int32) else (if (239 : Int32) < pi0 then (if pi0 = (240 : Int32) then (4 : Int32) else (if (243 : Int32) < pi0 then (if pi0 = (244 : Int32) then (4 : Int32) else (0 : Int32)) else (4 : Int32))) else (3 : Int32))) else (3 : Int32))) else (2 : Int32)) else (0 : Int32)) else (1 : Int32)) else (-2 : Int32)) else (if pi4 < (3 : Int32) then (if (2 : Int32) = (if (127 : Int32) < pi0 then (if (193 : Int32) < pi0 then (if (223 : Int32) < pi0 then (if pi0 = (224 : Int32) then (3 : Int32) else (if (236 : Int32) < pi0 then (if pi0 = (237 : Int32) then (3 : Int32) else (if (239 : Int32) < pi0 then (if pi0 = (240 : Int32) then (4 : Int32) else (if (243 : Int32) < pi0 then (if pi0 = (244 : Int32) then (4 : Int32) else (0 : Int32)) else (4 : Int32))) else (3 : Int32))) else (3 : Int32))) else (2 : Int32)) else (0 : Int32)) else (1 : Int32)) then (if (127 : Int32) < pi0 then (if (193 : Int32) < pi0 then (if (223 : Int32) < pi0 then (if pi0 = (224 : Int32) then (3 : Int32) else (if (236 : Int32) < pi0 then (if pi0 = (237 : Int32) then (3 : Int32) else (if (239 : Int32) < pi0 then (if pi0 = (240 : Int32) then (4 : Int32) else (if (243 : Int32) < pi0 then (if pi0 = (244 : Int32) then (4 : Int32) else (0 : Int32)) else (4 : Int32))) else (3 : Int32))) else (3 : Int32))) else (2 : Int32)) else (0 : Int32)) else (1 : Int32)) else (-2 : Int32)) else (if (if pi2 < (128 : Int32) then (0 : Int32) else (if (191 : Int32) < pi2 then (0 : Int32) else (1 : Int32))) = (0 : Int32) then (if (2 : Int32) = (if (127 : Int32) < pi0 then (if (193 : Int32) < pi0 then (if (223 : Int32) < pi0 then (if pi0 = (224 : Int32) then (3 : Int32) else (if (236 : Int32) < pi0 then (if pi0 = (237 : Int32) then (3 : Int32) else (if (239 : Int32) < pi0 then (if pi0 = (240 : Int32) then (4 : Int32) else (if (243 : Int32) < pi0 then (if pi0 = (244 : Int32) then (4 : Int32) else (0 : Int32)) else (4 : Int32))) else (3 : Int32))) else (3 : Int32))) else (2 : Int32)) else (0 : Int32)) else (1 : Int32)) then (if (127 : Int32) < pi0 then (if (193 : Int32) < pi0 then (if (223 : Int32) < pi0 then (if pi0 = (224 : Int32) then (3 : Int32) else (if (236 : Int32) < pi0 then (if pi0 = (237 : Int32) then (3 : Int32) else (if (239 : Int32) < pi0 then (if pi0 = (240 : Int32) then (4 : Int32) else (if (243 : Int32) < pi0 then (if pi0 = (244 : Int32) then (4 : Int32) else (0 : Int32)) else (4 : Int32))) else (3 : Int32))) else (3 : Int32))) else (2 : Int32)) else (0 : Int32)) else (1 : Int32)) else (-2 : Int32)) else (if (if (127 : Int32) < pi0 then (if (193 : Int32) < pi0 then (if (223 : Int32) < pi0 then (if pi0 = (224 : Int32) then (3 : Int32) else (if (236 : Int32) < pi0 then (if pi0 = (237 : Int32) then (3 : Int32) else (if (239 : Int32) < pi0 then (if pi0 = (240 : Int32) then (4 : Int32) else (if (243 : Int32) < pi0 then (if pi0 = (244 : Int32) then (4 : Int32) else (0 : Int32)) else (4 : Int32))) else (3 : Int32))) else (3 : Int32))) else (2 : Int32)) else (0 : Int32)) else (1 : Int32)) < (4 : Int32) then (if (3 : Int32) = (if (127 : Int32) < pi0 then (if (193 : Int32) < pi0 then (if (223 : Int32) < pi0 then (if pi0 = (224 : Int32) then (3 : Int32) else (if (236 : Int32) < pi0 then (if pi0 = (237 : Int32) then (3 : Int32) else (if (239 : Int32) < pi0 then (if pi0 = (240 : Int32) then (4 : Int32) else (if (243 : Int32) < pi0 then (if pi0 = (244 : Int32) then (4 : Int32) else (0 : Int32)) else (4 : Int32))) else (3 : Int32))) else (3 : Int32))) else (2 : Int32)) else (0 : Int32)) else (1 : Int32)) then (if (127 : Int32) < pi0 then (if (193 : Int32) < pi0 then (if (223 : Int32) < pi0 then (if pi0 = (224 : Int32) then (3 : Int32) else (if (236 : Int32) < pi0 then (if pi0 = (237 : Int32) then (3 : Int32) else (if (239 : Int32) < pi0 then (if pi0 = (240 : Int32) then (4 : Int32) else (if (243 : Int32) < pi0 then (if pi0 = (244 : Int32) then (4 : Int32) else (0 : Int32)) else (4 : Int32))) else (3 : Int32))) else (3 : Int32))) else (2 : Int32)) else (0 : Int32)) else (1 : Int32)) else (-3 : Int32)) else (if pi4 < (4 : Int32) then (if (3 : Int32) = (if (127 : Int32) < pi0 then (if (193 : Int32) < pi0 then (if (223 : Int32) < pi0 then (if pi0 = (224 : Int32) then (3 : Int32) else (if (236 : Int32) < pi0 then (if pi0 = (237 : Int32) then (3 : Int32) else (if (239 : Int32) < pi0 then (if pi0 = (240 : Int32) then (4 : Int32) else (if (243 : Int32) < pi0 then (if pi0 = (244 : Int32) then (4 : Int32) else (0 : Int32)) else (4 : Int32))) else (3 : Int32))) else (3 : Int32))) else (2 : Int32)) else (0 : Int32)) else (1 : Int32)) then (if (127 : Int32) < pi0 then (if (193 : Int32) < pi0 then (if (223 : Int32) < pi0 then (if pi0 = (224 : Int32) then (3 : Int32) else (if (236 : Int32) < pi0 then (if pi0 = (237 : Int32) then (3 : Int32) else (if (239 : Int32) < pi0 then (if pi0 = (240 : Int32) then (4 : Int32) else (if (243 : Int32) < pi0 then (if pi0 = (244 : Int32) then (4 : Int32) else (0 : Int32)) else (4 : Int32))) else (3 : Int32))) else (3 : Int32))) else (2 : Int32)) else (0 : Int32)) else (1 : Int32)) else (-3 : Int32)) else (if (if pi3 < (128 : Int32) then (0 : Int32) else (if (191 : Int32) < pi3 then (0 : Int32) else (1 : Int32))) = (0 : Int32) then (if (3 : Int32) = (if (127 : Int32) < pi0 then (if (193 : Int32) < pi0 then (if (223 : Int32) < pi0 then (if pi0 = (224 : Int32) then (3 : Int32) else (if (236 : Int32) < pi0 then (if pi0 = (237 : Int32) then (3 : Int32) else (if (239 : Int32) < pi0 then (if pi0 = (240 : Int32) then (4 : Int32) else (if (243 : Int32) < pi0 then (if pi0 = (244 : Int32) then (4 : Int32) else (0 : Int32)) else (4 : Int32))) else (3 : Int32))) else (3 : Int32))) else (2 : Int32)) else (0 : Int32)) else (1 : Int32)) then (if (127 : Int32) < pi0 then (if (193 : Int32) < pi0 then (if (223 : Int32) < pi0 then (if pi0 = (224 : Int32) then (3 : Int32) else (if (236 : Int32) < pi0 then (if pi0 = (237 : Int32) then (3 : Int32) else (if (239 : Int32) < pi0 then (if pi0 = (240 : Int32) then (4 : Int32) else (if (243 : Int32) < pi0 then (if pi0 = (244 : Int32) then (4 : Int32) else (0 : Int32)) else (4 : Int32))) else (3 : Int32))) else (3 : Int32))) else (2 : Int32)) else (0 : Int32)) else (1 : Int32)) else (-3 : Int32)) else (if (4 : Int32) = (if (127 : Int32) < pi0 then (if (193 : Int32) < pi0 then (if (223 : Int32) < pi0 then (if pi0 = (224 : Int32) then (3 : Int32) else (if (236 : Int32) < pi0 then (if pi0 = (237 : Int32) then (3 : Int32) else (if (239 : Int32) < pi0 then (if pi0 = (240 : Int32) then (4 : Int32) else (if (243 : Int32) < pi0 then (if pi0 = (244 : Int32) then (4 : Int32) else (0 : Int32)) else (4 : Int32))) else (3 : Int32))) else (3 : Int32))) else (2 : Int32)) else (0 : Int32)) else (1 : Int32)) then (if (127 : Int32) < pi0 then (if (193 : Int32) < pi0 then (if (223 : Int32) < pi0 then (if pi0 = (224 : Int32) then (3 : Int32) else (if (236 : Int32) < pi0 then (if pi0 = (237 : Int32) then (3 : Int32) else (if (239 : Int32) < pi0 then (if pi0 = (240 : Int32) then (4 : Int32) else (if (243 : Int32) < pi0 then (if pi0 = (244 : Int32) then (4 : Int32) else (0 : Int32)) else (4 : Int32))) else (3 : Int32))) else (3 : Int32))) else (2 : Int32)) else (0 : Int32)) else (1 : Int32)) else (-4 : Int32))))))))))))
theorem d2_0 : decode method_4_code 0 = .ok (.sipush 128, 3) := by decide +kernel
theorem d2_3 : decode method_4_code 3 = .ok (.istore 6, 2) := by decide +kernel
theorem d2_5 : decode method_4_code 5 = .ok (.sipush 191, 3) := by decide +kernel
theorem d2_8 : decode method_4_code 8 = .ok (.istore 7, 2) := by decide +kernel
theorem d2_10 : decode method_4_code 10 = .ok (.iload_n 0, 1) := by decide +kernel
theorem d2_11 : decode method_4_code 11 = .ok (.bipush 127, 2) := by decide +kernel
theorem d2_13 : decode method_4_code 13 = .ok (.if_icmp .gt 9, 3) := by decide +kernel
theorem d2_16 : decode method_4_code 16 = .ok (.iconst 1, 1) := by decide +kernel
theorem d2_17 : decode method_4_code 17 = .ok (.istore 5, 2) := by decide +kernel
theorem d2_19 : decode method_4_code 19 = .ok (.goto 143, 3) := by decide +kernel
theorem d2_22 : decode method_4_code 22 = .ok (.iload_n 0, 1) := by decide +kernel
theorem d2_23 : decode method_4_code 23 = .ok (.sipush 193, 3) := by decide +kernel
theorem d2_26 : decode method_4_code 26 = .ok (.if_icmp .gt 9, 3) := by decide +kernel
theorem d2_29 : decode method_4_code 29 = .ok (.iconst 0, 1) := by decide +kernel
theorem d2_30 : decode method_4_code 30 = .ok (.istore 5, 2) := by decide +kernel
theorem d2_32 : decode method_4_code 32 = .ok (.goto 130, 3) := by decide +kernel
theorem d2_35 : decode method_4_code 35 = .ok (.iload_n 0, 1) := by decide +kernel
theorem d2_36 : decode method_4_code 36 = .ok (.sipush 223, 3) := by decide +kernel
theorem d2_39 : decode method_4_code 39 = .ok (.if_icmp .gt 9, 3) := by decide +kernel
theorem d2_42 : decode method_4_code 42 = .ok (.iconst 2, 1) := by decide +kernel
theorem d2_43 : decode method_4_code 43 = .ok (.istore 5, 2) := by decide +kernel
theorem d2_45 : decode method_4_code 45 = .ok (.goto 117, 3) := by decide +kernel
theorem d2_48 : decode method_4_code 48 = .ok (.iload_n 0, 1) := by decide +kernel
theorem d2_49 : decode method_4_code 49 = .ok (.sipush 224, 3) := by decide +kernel
theorem d2_52 : decode method_4_code 52 = .ok (.if_icmp .ne 14, 3) := by decide +kernel
theorem d2_55 : decode method_4_code 55 = .ok (.iconst 3, 1) := by decide +kernel
theorem d2_56 : decode method_4_code 56 = .ok (.istore 5, 2) := by decide +kernel
theorem d2_58 : decode method_4_code 58 = .ok (.sipush 160, 3) := by decide +kernel
theorem d2_61 : decode method_4_code 61 = .ok (.istore 6, 2) := by decide +kernel
theorem d2_63 : decode method_4_code 63 = .ok (.goto 99, 3) := by decide +kernel
theorem d2_66 : decode method_4_code 66 = .ok (.iload_n 0, 1) := by decide +kernel
theorem d2_67 : decode method_4_code 67 = .ok (.sipush 236, 3) := by decide +kernel
theorem d2_70 : decode method_4_code 70 = .ok (.if_icmp .gt 9, 3) := by decide +kernel
theorem d2_73 : decode method_4_code 73 = .ok (.iconst 3, 1) := by decide +kernel
theorem d2_74 : decode method_4_code 74 = .ok (.istore 5, 2) := by decide +kernel
theorem d2_76 : decode method_4_code 76 = .ok (.goto 86, 3) := by decide +kernel
theorem d2_79 : decode method_4_code 79 = .ok (.iload_n 0, 1) := by decide +kernel
theorem d2_80 : decode method_4_code 80 = .ok (.sipush 237, 3) := by decide +kernel
theorem d2_83 : decode method_4_code 83 = .ok (.if_icmp .ne 14, 3) := by decide +kernel
theorem d2_86 : decode method_4_code 86 = .ok (.iconst 3, 1) := by decide +kernel
theorem d2_87 : decode method_4_code 87 = .ok (.istore 5, 2) := by decide +kernel
theorem d2_89 : decode method_4_code 89 = .ok (.sipush 159, 3) := by decide +kernel
theorem d2_92 : decode method_4_code 92 = .ok (.istore 7, 2) := by decide +kernel
theorem d2_94 : decode method_4_code 94 = .ok (.goto 68, 3) := by decide +kernel
theorem d2_97 : decode method_4_code 97 = .ok (.iload_n 0, 1) := by decide +kernel
theorem d2_98 : decode method_4_code 98 = .ok (.sipush 239, 3) := by decide +kernel
theorem d2_101 : decode method_4_code 101 = .ok (.if_icmp .gt 9, 3) := by decide +kernel
theorem d2_104 : decode method_4_code 104 = .ok (.iconst 3, 1) := by decide +kernel
theorem d2_105 : decode method_4_code 105 = .ok (.istore 5, 2) := by decide +kernel
theorem d2_107 : decode method_4_code 107 = .ok (.goto 55, 3) := by decide +kernel
theorem d2_110 : decode method_4_code 110 = .ok (.iload_n 0, 1) := by decide +kernel
theorem d2_111 : decode method_4_code 111 = .ok (.sipush 240, 3) := by decide +kernel
theorem d2_114 : decode method_4_code 114 = .ok (.if_icmp .ne 14, 3) := by decide +kernel
theorem d2_117 : decode method_4_code 117 = .ok (.iconst 4, 1) := by decide +kernel
theorem d2_118 : decode method_4_code 118 = .ok (.istore 5, 2) := by decide +kernel
theorem d2_120 : decode method_4_code 120 = .ok (.sipush 144, 3) := by decide +kernel
theorem d2_123 : decode method_4_code 123 = .ok (.istore 6, 2) := by decide +kernel
theorem d2_125 : decode method_4_code 125 = .ok (.goto 37, 3) := by decide +kernel
theorem d2_128 : decode method_4_code 128 = .ok (.iload_n 0, 1) := by decide +kernel
theorem d2_129 : decode method_4_code 129 = .ok (.sipush 243, 3) := by decide +kernel
theorem d2_132 : decode method_4_code 132 = .ok (.if_icmp .gt 9, 3) := by decide +kernel
theorem d2_135 : decode method_4_code 135 = .ok (.iconst 4, 1) := by decide +kernel
theorem d2_136 : decode method_4_code 136 = .ok (.istore 5, 2) := by decide +kernel
theorem d2_138 : decode method_4_code 138 = .ok (.goto 24, 3) := by decide +kernel
theorem d2_141 : decode method_4_code 141 = .ok (.iload_n 0, 1) := by decide +kernel
theorem d2_142 : decode method_4_code 142 = .ok (.sipush 244, 3) := by decide +kernel
theorem d2_145 : decode method_4_code 145 = .ok (.if_icmp .ne 14, 3) := by decide +kernel
theorem d2_148 : decode method_4_code 148 = .ok (.iconst 4, 1) := by decide +kernel
theorem d2_149 : decode method_4_code 149 = .ok (.istore 5, 2) := by decide +kernel
theorem d2_151 : decode method_4_code 151 = .ok (.sipush 143, 3) := by decide +kernel
theorem d2_154 : decode method_4_code 154 = .ok (.istore 7, 2) := by decide +kernel
theorem d2_156 : decode method_4_code 156 = .ok (.goto 6, 3) := by decide +kernel
theorem d2_159 : decode method_4_code 159 = .ok (.iconst 0, 1) := by decide +kernel
theorem d2_160 : decode method_4_code 160 = .ok (.istore 5, 2) := by decide +kernel
theorem d2_162 : decode method_4_code 162 = .ok (.iconst 1, 1) := by decide +kernel
theorem d2_163 : decode method_4_code 163 = .ok (.istore 8, 2) := by decide +kernel
theorem d2_165 : decode method_4_code 165 = .ok (.iload 5, 2) := by decide +kernel
theorem d2_167 : decode method_4_code 167 = .ok (.iconst 2, 1) := by decide +kernel
theorem d2_168 : decode method_4_code 168 = .ok (.if_icmp .lt 68, 3) := by decide +kernel
theorem d2_171 : decode method_4_code 171 = .ok (.iload 4, 2) := by decide +kernel
theorem d2_173 : decode method_4_code 173 = .ok (.iconst 2, 1) := by decide +kernel
theorem d2_174 : decode method_4_code 174 = .ok (.if_icmp .lt 62, 3) := by decide +kernel
theorem d2_177 : decode method_4_code 177 = .ok (.iload_n 1, 1) := by decide +kernel
theorem d2_178 : decode method_4_code 178 = .ok (.iload 6, 2) := by decide +kernel
theorem d2_180 : decode method_4_code 180 = .ok (.if_icmp .lt 56, 3) := by decide +kernel
theorem d2_183 : decode method_4_code 183 = .ok (.iload_n 1, 1) := by decide +kernel
theorem d2_184 : decode method_4_code 184 = .ok (.iload 7, 2) := by decide +kernel
theorem d2_186 : decode method_4_code 186 = .ok (.if_icmp .gt 50, 3) := by decide +kernel
theorem d2_189 : decode method_4_code 189 = .ok (.iconst 2, 1) := by decide +kernel
theorem d2_190 : decode method_4_code 190 = .ok (.istore 8, 2) := by decide +kernel
theorem d2_192 : decode method_4_code 192 = .ok (.iload 5, 2) := by decide +kernel
theorem d2_194 : decode method_4_code 194 = .ok (.iconst 3, 1) := by decide +kernel
theorem d2_195 : decode method_4_code 195 = .ok (.if_icmp .lt 41, 3) := by decide +kernel
theorem d2_198 : decode method_4_code 198 = .ok (.iload 4, 2) := by decide +kernel
theorem d2_200 : decode method_4_code 200 = .ok (.iconst 3, 1) := by decide +kernel
theorem d2_201 : decode method_4_code 201 = .ok (.if_icmp .lt 35, 3) := by decide +kernel
theorem d2_204 : decode method_4_code 204 = .ok (.iload_n 2, 1) := by decide +kernel
theorem d2_205 : decode method_4_code 205 = .ok (.invokestatic 20, 3) := by decide +kernel
theorem d2_208 : decode method_4_code 208 = .ok (.ifCond .eq 28, 3) := by decide +kernel
theorem d2_211 : decode method_4_code 211 = .ok (.iconst 3, 1) := by decide +kernel
theorem d2_212 : decode method_4_code 212 = .ok (.istore 8, 2) := by decide +kernel
theorem d2_214 : decode method_4_code 214 = .ok (.iload 5, 2) := by decide +kernel
theorem d2_216 : decode method_4_code 216 = .ok (.iconst 4, 1) := by decide +kernel
theorem d2_217 : decode method_4_code 217 = .ok (.if_icmp .lt 19, 3) := by decide +kernel
theorem d2_220 : decode method_4_code 220 = .ok (.iload 4, 2) := by decide +kernel
theorem d2_222 : decode method_4_code 222 = .ok (.iconst 4, 1) := by decide +kernel
theorem d2_223 : decode method_4_code 223 = .ok (.if_icmp .lt 13, 3) := by decide +kernel
theorem d2_226 : decode method_4_code 226 = .ok (.iload_n 3, 1) := by decide +kernel
theorem d2_227 : decode method_4_code 227 = .ok (.invokestatic 20, 3) := by decide +kernel
theorem d2_230 : decode method_4_code 230 = .ok (.ifCond .eq 6, 3) := by decide +kernel
theorem d2_233 : decode method_4_code 233 = .ok (.iconst 4, 1) := by decide +kernel
theorem d2_234 : decode method_4_code 234 = .ok (.istore 8, 2) := by decide +kernel
theorem d2_236 : decode method_4_code 236 = .ok (.iload 8, 2) := by decide +kernel
theorem d2_238 : decode method_4_code 238 = .ok (.iload 5, 2) := by decide +kernel
theorem d2_240 : decode method_4_code 240 = .ok (.if_icmp .ne 8, 3) := by decide +kernel
theorem d2_243 : decode method_4_code 243 = .ok (.iload 5, 2) := by decide +kernel
theorem d2_245 : decode method_4_code 245 = .ok (.goto 6, 3) := by decide +kernel
theorem d2_248 : decode method_4_code 248 = .ok (.iload 8, 2) := by decide +kernel
theorem d2_250 : decode method_4_code 250 = .ok (.ineg, 1) := by decide +kernel
theorem d2_251 : decode method_4_code 251 = .ok (.ireturn, 1) := by decide +kernel
theorem pd__I_Z : parseMethodDescriptor "(I)Z" = some ⟨[.int], some .boolean⟩ := by decide +kernel
theorem ef_2 (m : MethodId) (x0 : Int32) (x1 : Int32) (x2 : Int32) (x3 : Int32) (x4 : Int32) : entryFrame m #[(.int x0), (.int x1), (.int x2), (.int x3), (.int x4)] 9 = mkF m 0 #[iv x0, iv x1, iv x2, iv x3, iv x4, .unset, .unset, .unset, .unset] [] := by first | (simp [entryFrame, mkF, argsToLocals, Value.category]; done) | rfl
def Q2 (Z : State) (pi0 : Int32) (pi1 : Int32) (pi2 : Int32) (pi3 : Int32) (pi4 : Int32) (h0 : Heap) (n0 : Nat) (v : Option Value) (h : Heap) (L : List Loc) : Prop := v = some (.int (fr2 pi0 pi1 pi2 pi3 pi4)) ∧ Fr n0 L ∧ h = h0
set_option maxRecDepth 65536 in
set_option maxHeartbeats 40000000 in
theorem rm2 (l : Launch) (Z : State) (a0 : Array Value) (hw : ∀ d ∈ tables_1, d.before a0 Z = true) (ws : List Jvm.Cond) (pi0 : Int32) (pi1 : Int32) (pi2 : Int32) (pi3 : Int32) (pi4 : Int32) (h0 : Heap) (n0 : Nat) (O0 : Old Z n0 h0) :
    MetFree l (⟨"com/example/strict_codec/strictcodec/Utf8GrammarSpanPinLaw", "expected", "(IIIII)I"⟩ : MethodName) (head1 (Jvm.Cond.code (⟨"com/example/strict_codec/strictcodec/Utf8GrammarSpanPinLaw", "expected", "(IIIII)I"⟩ : MethodName) method_4_code 9 (some .int) :: ws) ({ frames := 1, cells := 0, slots := 0, locals := 12 } : Room)) (fun a U => a = #[(.int pi0), (.int pi1), (.int pi2), (.int pi3), (.int pi4)] ∧ Z.Warmed39 U.vm ∧ U.heap = h0) (fun _ _ _ _ _ => True) (fun _ U o U' => ∃ v L, o = .returned v ∧ Q2 Z pi0 pi1 pi2 pi3 pi4 h0 n0 v U'.heap L ∧ FrameEnd U o U' L ({ frames := 1, cells := 0, slots := 0, locals := 12 } : Room).cells ({ frames := 1, cells := 0, slots := 0, locals := 12 } : Room).slots) := by
  refine MetFree.of_bodySF (plainFor_of_name pn_com_example_strict_codec_strictcodec_Utf8GrammarSpanPinLaw) hisR ?_
  intro p e s m args below meth c s₁ Bd hml0 hP hK
  obtain ⟨rfl, hZ, hh⟩ := hP
  have hx := Bd.exec
  have hby := Bd.bytes
  have hml : c.maxLocals = 9 := hml0
  have hown : s.vm.findClass "com/example/strict_codec/strictcodec/Utf8GrammarSpanPinLaw" = some m.cls := findClass_of_methodNamed Bd.named
  have hnm := (name_of_methodNamed Bd.named Bd.method).1
  have X0 : Stand p l e ({ frames := 1, cells := 0, slots := 0, locals := 12 } : Room) s m #[(.int pi0), (.int pi1), (.int pi2), (.int pi3), (.int pi4)] below meth c s₁ [] 0 0 := Stand.of_body Bd
  have e0 : s₁.heap = h0 := by rw [← hh, Bd.state]; rfl
  have N0 := Fr.nil n0
  obtain ⟨Go, hGo⟩ : ∃ P : State → Prop, ∀ t, P t ↔ Steps p.tables e below (s₁.setTop (entryFrame m #[(.int pi0), (.int pi1), (.int pi2), (.int pi3), (.int pi4)] 9)) t := ⟨_, fun _ => Iff.rfl⟩
  have pre0 : ∀ t, Steps p.tables e below (s₁.setTop (mkF m 0 #[iv pi0, iv pi1, iv pi2, iv pi3, iv pi4, .unset, .unset, .unset, .unset] [])) t → Go t := fun t k => (hGo t).mpr (castTop (ef_2 m pi0 pi1 pi2 pi3 pi4) k)
  have pre1 : ∀ t, Steps p.tables e below (s₁.setTop (mkF m 13 #[iv pi0, iv pi1, iv pi2, iv pi3, iv pi4, .unset, iv (128 : Int32), iv (191 : Int32), .unset] [(.int (127 : Int32)), (.int pi0)])) t → Go t := fun t kt => pre0 t (by
      refine y_sipush X0.here hx (hb hby d2_0) (v := (128 : Int32)) rfl (pc' := 3) rfl ?_
      refine y_istore X0.here hx (hb hby d2_3) (l' := #[iv pi0, iv pi1, iv pi2, iv pi3, iv pi4, .unset, iv (128 : Int32), .unset, .unset]) rfl (pc' := 5) rfl ?_
      refine y_sipush X0.here hx (hb hby d2_5) (v := (191 : Int32)) rfl (pc' := 8) rfl ?_
      refine y_istore X0.here hx (hb hby d2_8) (l' := #[iv pi0, iv pi1, iv pi2, iv pi3, iv pi4, .unset, iv (128 : Int32), iv (191 : Int32), .unset]) rfl (pc' := 10) rfl ?_
      refine y_iloadN X0.here hx (hb hby d2_10) rfl (pc' := 11) rfl ?_
      refine y_bipush X0.here hx (hb hby d2_11) (v := (127 : Int32)) rfl (pc' := 13) rfl ?_
      exact kt)
  obtain ⟨x2, hx2⟩ : ∃ z : Int32, z = (if (127 : Int32) < pi0 then (if (193 : Int32) < pi0 then (if (223 : Int32) < pi0 then (if pi0 = (224 : Int32) then (3 : Int32) else (if (236 : Int32) < pi0 then (if pi0 = (237 : Int32) then (3 : Int32) else (if (239 : Int32) < pi0 then (if pi0 = (240 : Int32) then (4 : Int32) else (if (243 : Int32) < pi0 then (if pi0 = (244 : Int32) then (4 : Int32) else (0 : Int32)) else (4 : Int32))) else (3 : Int32))) else (3 : Int32))) else (2 : Int32)) else (0 : Int32)) else (1 : Int32)) := ⟨_, rfl⟩
  obtain ⟨x3, hx3⟩ : ∃ z : Int32, z = (if (127 : Int32) < pi0 then (if (193 : Int32) < pi0 then (if (223 : Int32) < pi0 then (if pi0 = (224 : Int32) then (160 : Int32) else (if (236 : Int32) < pi0 then (if pi0 = (237 : Int32) then (128 : Int32) else (if (239 : Int32) < pi0 then (if pi0 = (240 : Int32) then (144 : Int32) else (128 : Int32)) else (128 : Int32))) else (128 : Int32))) else (128 : Int32)) else (128 : Int32)) else (128 : Int32)) := ⟨_, rfl⟩
  obtain ⟨x4, hx4⟩ : ∃ z : Int32, z = (if (127 : Int32) < pi0 then (if (193 : Int32) < pi0 then (if (223 : Int32) < pi0 then (if pi0 = (224 : Int32) then (191 : Int32) else (if (236 : Int32) < pi0 then (if pi0 = (237 : Int32) then (159 : Int32) else (if (239 : Int32) < pi0 then (if pi0 = (240 : Int32) then (191 : Int32) else (if (243 : Int32) < pi0 then (if pi0 = (244 : Int32) then (143 : Int32) else (191 : Int32)) else (191 : Int32))) else (191 : Int32))) else (191 : Int32))) else (191 : Int32)) else (191 : Int32)) else (191 : Int32)) := ⟨_, rfl⟩
  obtain ⟨T5, ⟨X5, q5⟩, st5⟩ : ∃ T', Nx X0 T' ∧ ∀ t, Steps p.tables e below (T'.setTop (mkF m 162 #[iv pi0, iv pi1, iv pi2, iv pi3, iv pi4, iv x2, iv x3, iv x4, .unset] [])) t → Steps p.tables e below (s₁.setTop (mkF m 13 #[iv pi0, iv pi1, iv pi2, iv pi3, iv pi4, .unset, iv (128 : Int32), iv (191 : Int32), .unset] [(.int (127 : Int32)), (.int pi0)])) t := by
    have pre5_ : ∀ t, Steps p.tables e below (s₁.setTop (mkF m 13 #[iv pi0, iv pi1, iv pi2, iv pi3, iv pi4, .unset, iv (128 : Int32), iv (191 : Int32), .unset] [(.int (127 : Int32)), (.int pi0)])) t → Steps p.tables e below (s₁.setTop (mkF m 13 #[iv pi0, iv pi1, iv pi2, iv pi3, iv pi4, .unset, iv (128 : Int32), iv (191 : Int32), .unset] [(.int (127 : Int32)), (.int pi0)])) t := fun t kt => kt
    subst hx2 hx3 hx4
    by_cases hm13_6 : (127 : Int32) < pi0
    · have pre7 : ∀ t, Steps p.tables e below (s₁.setTop (mkF m 26 #[iv pi0, iv pi1, iv pi2, iv pi3, iv pi4, .unset, iv (128 : Int32), iv (191 : Int32), .unset] [(.int (193 : Int32)), (.int pi0)])) t → Steps p.tables e below (s₁.setTop (mkF m 13 #[iv pi0, iv pi1, iv pi2, iv pi3, iv pi4, .unset, iv (128 : Int32), iv (191 : Int32), .unset] [(.int (127 : Int32)), (.int pi0)])) t := fun t kt => pre5_ t (by
          refine y_icmpYes X0.here hx (hb hby d2_13) (tlt hm13_6).2.2.1 (pc' := 22) (by decide) rfl ?_
          refine y_iloadN X0.here hx (hb hby d2_22) rfl (pc' := 23) rfl ?_
          refine y_sipush X0.here hx (hb hby d2_23) (v := (193 : Int32)) rfl (pc' := 26) rfl ?_
          exact kt)
      by_cases hm26_8 : (193 : Int32) < pi0
      · have pre9 : ∀ t, Steps p.tables e below (s₁.setTop (mkF m 39 #[iv pi0, iv pi1, iv pi2, iv pi3, iv pi4, .unset, iv (128 : Int32), iv (191 : Int32), .unset] [(.int (223 : Int32)), (.int pi0)])) t → Steps p.tables e below (s₁.setTop (mkF m 13 #[iv pi0, iv pi1, iv pi2, iv pi3, iv pi4, .unset, iv (128 : Int32), iv (191 : Int32), .unset] [(.int (127 : Int32)), (.int pi0)])) t := fun t kt => pre7 t (by
            refine y_icmpYes X0.here hx (hb hby d2_26) (tlt hm26_8).2.2.1 (pc' := 35) (by decide) rfl ?_
            refine y_iloadN X0.here hx (hb hby d2_35) rfl (pc' := 36) rfl ?_
            refine y_sipush X0.here hx (hb hby d2_36) (v := (223 : Int32)) rfl (pc' := 39) rfl ?_
            exact kt)
        by_cases hm39_10 : (223 : Int32) < pi0
        · have pre11 : ∀ t, Steps p.tables e below (s₁.setTop (mkF m 52 #[iv pi0, iv pi1, iv pi2, iv pi3, iv pi4, .unset, iv (128 : Int32), iv (191 : Int32), .unset] [(.int (224 : Int32)), (.int pi0)])) t → Steps p.tables e below (s₁.setTop (mkF m 13 #[iv pi0, iv pi1, iv pi2, iv pi3, iv pi4, .unset, iv (128 : Int32), iv (191 : Int32), .unset] [(.int (127 : Int32)), (.int pi0)])) t := fun t kt => pre9 t (by
              refine y_icmpYes X0.here hx (hb hby d2_39) (tlt hm39_10).2.2.1 (pc' := 48) (by decide) rfl ?_
              refine y_iloadN X0.here hx (hb hby d2_48) rfl (pc' := 49) rfl ?_
              refine y_sipush X0.here hx (hb hby d2_49) (v := (224 : Int32)) rfl (pc' := 52) rfl ?_
              exact kt)
          by_cases hm52_12 : pi0 = (224 : Int32)
          · have pre13 : ∀ t, Steps p.tables e below (s₁.setTop (mkF m 162 #[iv pi0, iv pi1, iv pi2, iv pi3, iv pi4, iv (3 : Int32), iv (160 : Int32), iv (191 : Int32), .unset] [])) t → Steps p.tables e below (s₁.setTop (mkF m 13 #[iv pi0, iv pi1, iv pi2, iv pi3, iv pi4, .unset, iv (128 : Int32), iv (191 : Int32), .unset] [(.int (127 : Int32)), (.int pi0)])) t := fun t kt => pre11 t (by
                refine y_icmpNo X0.here hx (hb hby d2_52) (teq hm52_12).2 (pc' := 55) rfl ?_
                refine y_iconst X0.here hx (hb hby d2_55) (v := (3 : Int32)) rfl (pc' := 56) rfl ?_
                refine y_istore X0.here hx (hb hby d2_56) (l' := #[iv pi0, iv pi1, iv pi2, iv pi3, iv pi4, iv (3 : Int32), iv (128 : Int32), iv (191 : Int32), .unset]) rfl (pc' := 58) rfl ?_
                refine y_sipush X0.here hx (hb hby d2_58) (v := (160 : Int32)) rfl (pc' := 61) rfl ?_
                refine y_istore X0.here hx (hb hby d2_61) (l' := #[iv pi0, iv pi1, iv pi2, iv pi3, iv pi4, iv (3 : Int32), iv (160 : Int32), iv (191 : Int32), .unset]) rfl (pc' := 63) rfl ?_
                refine y_goto X0.here hx (hb hby d2_63) (pc' := 162) (by decide) rfl ?_
                exact kt)
            refine ⟨s₁, ⟨X0, e0.trans e0.symm⟩, fun t kt => pre13 t ?_⟩
            (try simp only [if_pos hm13_6, if_pos hm26_8, if_pos hm39_10, if_pos hm52_12] at kt)
            exact kt
          · have pre14 : ∀ t, Steps p.tables e below (s₁.setTop (mkF m 70 #[iv pi0, iv pi1, iv pi2, iv pi3, iv pi4, .unset, iv (128 : Int32), iv (191 : Int32), .unset] [(.int (236 : Int32)), (.int pi0)])) t → Steps p.tables e below (s₁.setTop (mkF m 13 #[iv pi0, iv pi1, iv pi2, iv pi3, iv pi4, .unset, iv (128 : Int32), iv (191 : Int32), .unset] [(.int (127 : Int32)), (.int pi0)])) t := fun t kt => pre11 t (by
                refine y_icmpYes X0.here hx (hb hby d2_52) (feq hm52_12).2 (pc' := 66) (by decide) rfl ?_
                refine y_iloadN X0.here hx (hb hby d2_66) rfl (pc' := 67) rfl ?_
                refine y_sipush X0.here hx (hb hby d2_67) (v := (236 : Int32)) rfl (pc' := 70) rfl ?_
                exact kt)
            by_cases hm70_15 : (236 : Int32) < pi0
            · have pre16 : ∀ t, Steps p.tables e below (s₁.setTop (mkF m 83 #[iv pi0, iv pi1, iv pi2, iv pi3, iv pi4, .unset, iv (128 : Int32), iv (191 : Int32), .unset] [(.int (237 : Int32)), (.int pi0)])) t → Steps p.tables e below (s₁.setTop (mkF m 13 #[iv pi0, iv pi1, iv pi2, iv pi3, iv pi4, .unset, iv (128 : Int32), iv (191 : Int32), .unset] [(.int (127 : Int32)), (.int pi0)])) t := fun t kt => pre14 t (by
                  refine y_icmpYes X0.here hx (hb hby d2_70) (tlt hm70_15).2.2.1 (pc' := 79) (by decide) rfl ?_
                  refine y_iloadN X0.here hx (hb hby d2_79) rfl (pc' := 80) rfl ?_
                  refine y_sipush X0.here hx (hb hby d2_80) (v := (237 : Int32)) rfl (pc' := 83) rfl ?_
                  exact kt)
              by_cases hm83_17 : pi0 = (237 : Int32)
              · have pre18 : ∀ t, Steps p.tables e below (s₁.setTop (mkF m 162 #[iv pi0, iv pi1, iv pi2, iv pi3, iv pi4, iv (3 : Int32), iv (128 : Int32), iv (159 : Int32), .unset] [])) t → Steps p.tables e below (s₁.setTop (mkF m 13 #[iv pi0, iv pi1, iv pi2, iv pi3, iv pi4, .unset, iv (128 : Int32), iv (191 : Int32), .unset] [(.int (127 : Int32)), (.int pi0)])) t := fun t kt => pre16 t (by
                    refine y_icmpNo X0.here hx (hb hby d2_83) (teq hm83_17).2 (pc' := 86) rfl ?_
                    refine y_iconst X0.here hx (hb hby d2_86) (v := (3 : Int32)) rfl (pc' := 87) rfl ?_
                    refine y_istore X0.here hx (hb hby d2_87) (l' := #[iv pi0, iv pi1, iv pi2, iv pi3, iv pi4, iv (3 : Int32), iv (128 : Int32), iv (191 : Int32), .unset]) rfl (pc' := 89) rfl ?_
                    refine y_sipush X0.here hx (hb hby d2_89) (v := (159 : Int32)) rfl (pc' := 92) rfl ?_
                    refine y_istore X0.here hx (hb hby d2_92) (l' := #[iv pi0, iv pi1, iv pi2, iv pi3, iv pi4, iv (3 : Int32), iv (128 : Int32), iv (159 : Int32), .unset]) rfl (pc' := 94) rfl ?_
                    refine y_goto X0.here hx (hb hby d2_94) (pc' := 162) (by decide) rfl ?_
                    exact kt)
                refine ⟨s₁, ⟨X0, e0.trans e0.symm⟩, fun t kt => pre18 t ?_⟩
                (try simp only [if_pos hm13_6, if_pos hm26_8, if_pos hm39_10, if_neg hm52_12, if_pos hm70_15, if_pos hm83_17] at kt)
                exact kt
              · have pre19 : ∀ t, Steps p.tables e below (s₁.setTop (mkF m 101 #[iv pi0, iv pi1, iv pi2, iv pi3, iv pi4, .unset, iv (128 : Int32), iv (191 : Int32), .unset] [(.int (239 : Int32)), (.int pi0)])) t → Steps p.tables e below (s₁.setTop (mkF m 13 #[iv pi0, iv pi1, iv pi2, iv pi3, iv pi4, .unset, iv (128 : Int32), iv (191 : Int32), .unset] [(.int (127 : Int32)), (.int pi0)])) t := fun t kt => pre16 t (by
                    refine y_icmpYes X0.here hx (hb hby d2_83) (feq hm83_17).2 (pc' := 97) (by decide) rfl ?_
                    refine y_iloadN X0.here hx (hb hby d2_97) rfl (pc' := 98) rfl ?_
                    refine y_sipush X0.here hx (hb hby d2_98) (v := (239 : Int32)) rfl (pc' := 101) rfl ?_
                    exact kt)
                by_cases hm101_20 : (239 : Int32) < pi0
                · have pre21 : ∀ t, Steps p.tables e below (s₁.setTop (mkF m 114 #[iv pi0, iv pi1, iv pi2, iv pi3, iv pi4, .unset, iv (128 : Int32), iv (191 : Int32), .unset] [(.int (240 : Int32)), (.int pi0)])) t → Steps p.tables e below (s₁.setTop (mkF m 13 #[iv pi0, iv pi1, iv pi2, iv pi3, iv pi4, .unset, iv (128 : Int32), iv (191 : Int32), .unset] [(.int (127 : Int32)), (.int pi0)])) t := fun t kt => pre19 t (by
                      refine y_icmpYes X0.here hx (hb hby d2_101) (tlt hm101_20).2.2.1 (pc' := 110) (by decide) rfl ?_
                      refine y_iloadN X0.here hx (hb hby d2_110) rfl (pc' := 111) rfl ?_
                      refine y_sipush X0.here hx (hb hby d2_111) (v := (240 : Int32)) rfl (pc' := 114) rfl ?_
                      exact kt)
                  by_cases hm114_22 : pi0 = (240 : Int32)
                  · have pre23 : ∀ t, Steps p.tables e below (s₁.setTop (mkF m 162 #[iv pi0, iv pi1, iv pi2, iv pi3, iv pi4, iv (4 : Int32), iv (144 : Int32), iv (191 : Int32), .unset] [])) t → Steps p.tables e below (s₁.setTop (mkF m 13 #[iv pi0, iv pi1, iv pi2, iv pi3, iv pi4, .unset, iv (128 : Int32), iv (191 : Int32), .unset] [(.int (127 : Int32)), (.int pi0)])) t := fun t kt => pre21 t (by
                        refine y_icmpNo X0.here hx (hb hby d2_114) (teq hm114_22).2 (pc' := 117) rfl ?_
                        refine y_iconst X0.here hx (hb hby d2_117) (v := (4 : Int32)) rfl (pc' := 118) rfl ?_
                        refine y_istore X0.here hx (hb hby d2_118) (l' := #[iv pi0, iv pi1, iv pi2, iv pi3, iv pi4, iv (4 : Int32), iv (128 : Int32), iv (191 : Int32), .unset]) rfl (pc' := 120) rfl ?_
                        refine y_sipush X0.here hx (hb hby d2_120) (v := (144 : Int32)) rfl (pc' := 123) rfl ?_
                        refine y_istore X0.here hx (hb hby d2_123) (l' := #[iv pi0, iv pi1, iv pi2, iv pi3, iv pi4, iv (4 : Int32), iv (144 : Int32), iv (191 : Int32), .unset]) rfl (pc' := 125) rfl ?_
                        refine y_goto X0.here hx (hb hby d2_125) (pc' := 162) (by decide) rfl ?_
                        exact kt)
                    refine ⟨s₁, ⟨X0, e0.trans e0.symm⟩, fun t kt => pre23 t ?_⟩
                    (try simp only [if_pos hm13_6, if_pos hm26_8, if_pos hm39_10, if_neg hm52_12, if_pos hm70_15, if_neg hm83_17, if_pos hm101_20, if_pos hm114_22] at kt)
                    exact kt
                  · have pre24 : ∀ t, Steps p.tables e below (s₁.setTop (mkF m 132 #[iv pi0, iv pi1, iv pi2, iv pi3, iv pi4, .unset, iv (128 : Int32), iv (191 : Int32), .unset] [(.int (243 : Int32)), (.int pi0)])) t → Steps p.tables e below (s₁.setTop (mkF m 13 #[iv pi0, iv pi1, iv pi2, iv pi3, iv pi4, .unset, iv (128 : Int32), iv (191 : Int32), .unset] [(.int (127 : Int32)), (.int pi0)])) t := fun t kt => pre21 t (by
                        refine y_icmpYes X0.here hx (hb hby d2_114) (feq hm114_22).2 (pc' := 128) (by decide) rfl ?_
                        refine y_iloadN X0.here hx (hb hby d2_128) rfl (pc' := 129) rfl ?_
                        refine y_sipush X0.here hx (hb hby d2_129) (v := (243 : Int32)) rfl (pc' := 132) rfl ?_
                        exact kt)
                    by_cases hm132_25 : (243 : Int32) < pi0
                    · have pre26 : ∀ t, Steps p.tables e below (s₁.setTop (mkF m 145 #[iv pi0, iv pi1, iv pi2, iv pi3, iv pi4, .unset, iv (128 : Int32), iv (191 : Int32), .unset] [(.int (244 : Int32)), (.int pi0)])) t → Steps p.tables e below (s₁.setTop (mkF m 13 #[iv pi0, iv pi1, iv pi2, iv pi3, iv pi4, .unset, iv (128 : Int32), iv (191 : Int32), .unset] [(.int (127 : Int32)), (.int pi0)])) t := fun t kt => pre24 t (by
                          refine y_icmpYes X0.here hx (hb hby d2_132) (tlt hm132_25).2.2.1 (pc' := 141) (by decide) rfl ?_
                          refine y_iloadN X0.here hx (hb hby d2_141) rfl (pc' := 142) rfl ?_
                          refine y_sipush X0.here hx (hb hby d2_142) (v := (244 : Int32)) rfl (pc' := 145) rfl ?_
                          exact kt)
                      by_cases hm145_27 : pi0 = (244 : Int32)
                      · have pre28 : ∀ t, Steps p.tables e below (s₁.setTop (mkF m 162 #[iv pi0, iv pi1, iv pi2, iv pi3, iv pi4, iv (4 : Int32), iv (128 : Int32), iv (143 : Int32), .unset] [])) t → Steps p.tables e below (s₁.setTop (mkF m 13 #[iv pi0, iv pi1, iv pi2, iv pi3, iv pi4, .unset, iv (128 : Int32), iv (191 : Int32), .unset] [(.int (127 : Int32)), (.int pi0)])) t := fun t kt => pre26 t (by
                            refine y_icmpNo X0.here hx (hb hby d2_145) (teq hm145_27).2 (pc' := 148) rfl ?_
                            refine y_iconst X0.here hx (hb hby d2_148) (v := (4 : Int32)) rfl (pc' := 149) rfl ?_
                            refine y_istore X0.here hx (hb hby d2_149) (l' := #[iv pi0, iv pi1, iv pi2, iv pi3, iv pi4, iv (4 : Int32), iv (128 : Int32), iv (191 : Int32), .unset]) rfl (pc' := 151) rfl ?_
                            refine y_sipush X0.here hx (hb hby d2_151) (v := (143 : Int32)) rfl (pc' := 154) rfl ?_
                            refine y_istore X0.here hx (hb hby d2_154) (l' := #[iv pi0, iv pi1, iv pi2, iv pi3, iv pi4, iv (4 : Int32), iv (128 : Int32), iv (143 : Int32), .unset]) rfl (pc' := 156) rfl ?_
                            refine y_goto X0.here hx (hb hby d2_156) (pc' := 162) (by decide) rfl ?_
                            exact kt)
                        refine ⟨s₁, ⟨X0, e0.trans e0.symm⟩, fun t kt => pre28 t ?_⟩
                        (try simp only [if_pos hm13_6, if_pos hm26_8, if_pos hm39_10, if_neg hm52_12, if_pos hm70_15, if_neg hm83_17, if_pos hm101_20, if_neg hm114_22, if_pos hm132_25, if_pos hm145_27] at kt)
                        exact kt
                      · have pre29 : ∀ t, Steps p.tables e below (s₁.setTop (mkF m 162 #[iv pi0, iv pi1, iv pi2, iv pi3, iv pi4, iv (0 : Int32), iv (128 : Int32), iv (191 : Int32), .unset] [])) t → Steps p.tables e below (s₁.setTop (mkF m 13 #[iv pi0, iv pi1, iv pi2, iv pi3, iv pi4, .unset, iv (128 : Int32), iv (191 : Int32), .unset] [(.int (127 : Int32)), (.int pi0)])) t := fun t kt => pre26 t (by
                            refine y_icmpYes X0.here hx (hb hby d2_145) (feq hm145_27).2 (pc' := 159) (by decide) rfl ?_
                            refine y_iconst X0.here hx (hb hby d2_159) (v := (0 : Int32)) rfl (pc' := 160) rfl ?_
                            refine y_istore X0.here hx (hb hby d2_160) (l' := #[iv pi0, iv pi1, iv pi2, iv pi3, iv pi4, iv (0 : Int32), iv (128 : Int32), iv (191 : Int32), .unset]) rfl (pc' := 162) rfl ?_
                            exact kt)
                        refine ⟨s₁, ⟨X0, e0.trans e0.symm⟩, fun t kt => pre29 t ?_⟩
                        (try simp only [if_pos hm13_6, if_pos hm26_8, if_pos hm39_10, if_neg hm52_12, if_pos hm70_15, if_neg hm83_17, if_pos hm101_20, if_neg hm114_22, if_pos hm132_25, if_neg hm145_27] at kt)
                        exact kt
                    · have pre30 : ∀ t, Steps p.tables e below (s₁.setTop (mkF m 162 #[iv pi0, iv pi1, iv pi2, iv pi3, iv pi4, iv (4 : Int32), iv (128 : Int32), iv (191 : Int32), .unset] [])) t → Steps p.tables e below (s₁.setTop (mkF m 13 #[iv pi0, iv pi1, iv pi2, iv pi3, iv pi4, .unset, iv (128 : Int32), iv (191 : Int32), .unset] [(.int (127 : Int32)), (.int pi0)])) t := fun t kt => pre24 t (by
                          refine y_icmpNo X0.here hx (hb hby d2_132) (flt hm132_25).2.2.1 (pc' := 135) rfl ?_
                          refine y_iconst X0.here hx (hb hby d2_135) (v := (4 : Int32)) rfl (pc' := 136) rfl ?_
                          refine y_istore X0.here hx (hb hby d2_136) (l' := #[iv pi0, iv pi1, iv pi2, iv pi3, iv pi4, iv (4 : Int32), iv (128 : Int32), iv (191 : Int32), .unset]) rfl (pc' := 138) rfl ?_
                          refine y_goto X0.here hx (hb hby d2_138) (pc' := 162) (by decide) rfl ?_
                          exact kt)
                      refine ⟨s₁, ⟨X0, e0.trans e0.symm⟩, fun t kt => pre30 t ?_⟩
                      (try simp only [if_pos hm13_6, if_pos hm26_8, if_pos hm39_10, if_neg hm52_12, if_pos hm70_15, if_neg hm83_17, if_pos hm101_20, if_neg hm114_22, if_neg hm132_25] at kt)
                      exact kt
                · have pre31 : ∀ t, Steps p.tables e below (s₁.setTop (mkF m 162 #[iv pi0, iv pi1, iv pi2, iv pi3, iv pi4, iv (3 : Int32), iv (128 : Int32), iv (191 : Int32), .unset] [])) t → Steps p.tables e below (s₁.setTop (mkF m 13 #[iv pi0, iv pi1, iv pi2, iv pi3, iv pi4, .unset, iv (128 : Int32), iv (191 : Int32), .unset] [(.int (127 : Int32)), (.int pi0)])) t := fun t kt => pre19 t (by
                      refine y_icmpNo X0.here hx (hb hby d2_101) (flt hm101_20).2.2.1 (pc' := 104) rfl ?_
                      refine y_iconst X0.here hx (hb hby d2_104) (v := (3 : Int32)) rfl (pc' := 105) rfl ?_
                      refine y_istore X0.here hx (hb hby d2_105) (l' := #[iv pi0, iv pi1, iv pi2, iv pi3, iv pi4, iv (3 : Int32), iv (128 : Int32), iv (191 : Int32), .unset]) rfl (pc' := 107) rfl ?_
                      refine y_goto X0.here hx (hb hby d2_107) (pc' := 162) (by decide) rfl ?_
                      exact kt)
                  refine ⟨s₁, ⟨X0, e0.trans e0.symm⟩, fun t kt => pre31 t ?_⟩
                  (try simp only [if_pos hm13_6, if_pos hm26_8, if_pos hm39_10, if_neg hm52_12, if_pos hm70_15, if_neg hm83_17, if_neg hm101_20] at kt)
                  exact kt
            · have pre32 : ∀ t, Steps p.tables e below (s₁.setTop (mkF m 162 #[iv pi0, iv pi1, iv pi2, iv pi3, iv pi4, iv (3 : Int32), iv (128 : Int32), iv (191 : Int32), .unset] [])) t → Steps p.tables e below (s₁.setTop (mkF m 13 #[iv pi0, iv pi1, iv pi2, iv pi3, iv pi4, .unset, iv (128 : Int32), iv (191 : Int32), .unset] [(.int (127 : Int32)), (.int pi0)])) t := fun t kt => pre14 t (by
                  refine y_icmpNo X0.here hx (hb hby d2_70) (flt hm70_15).2.2.1 (pc' := 73) rfl ?_
                  refine y_iconst X0.here hx (hb hby d2_73) (v := (3 : Int32)) rfl (pc' := 74) rfl ?_
                  refine y_istore X0.here hx (hb hby d2_74) (l' := #[iv pi0, iv pi1, iv pi2, iv pi3, iv pi4, iv (3 : Int32), iv (128 : Int32), iv (191 : Int32), .unset]) rfl (pc' := 76) rfl ?_
                  refine y_goto X0.here hx (hb hby d2_76) (pc' := 162) (by decide) rfl ?_
                  exact kt)
              refine ⟨s₁, ⟨X0, e0.trans e0.symm⟩, fun t kt => pre32 t ?_⟩
              (try simp only [if_pos hm13_6, if_pos hm26_8, if_pos hm39_10, if_neg hm52_12, if_neg hm70_15] at kt)
              exact kt
        · have pre33 : ∀ t, Steps p.tables e below (s₁.setTop (mkF m 162 #[iv pi0, iv pi1, iv pi2, iv pi3, iv pi4, iv (2 : Int32), iv (128 : Int32), iv (191 : Int32), .unset] [])) t → Steps p.tables e below (s₁.setTop (mkF m 13 #[iv pi0, iv pi1, iv pi2, iv pi3, iv pi4, .unset, iv (128 : Int32), iv (191 : Int32), .unset] [(.int (127 : Int32)), (.int pi0)])) t := fun t kt => pre9 t (by
              refine y_icmpNo X0.here hx (hb hby d2_39) (flt hm39_10).2.2.1 (pc' := 42) rfl ?_
              refine y_iconst X0.here hx (hb hby d2_42) (v := (2 : Int32)) rfl (pc' := 43) rfl ?_
              refine y_istore X0.here hx (hb hby d2_43) (l' := #[iv pi0, iv pi1, iv pi2, iv pi3, iv pi4, iv (2 : Int32), iv (128 : Int32), iv (191 : Int32), .unset]) rfl (pc' := 45) rfl ?_
              refine y_goto X0.here hx (hb hby d2_45) (pc' := 162) (by decide) rfl ?_
              exact kt)
          refine ⟨s₁, ⟨X0, e0.trans e0.symm⟩, fun t kt => pre33 t ?_⟩
          (try simp only [if_pos hm13_6, if_pos hm26_8, if_neg hm39_10] at kt)
          exact kt
      · have pre34 : ∀ t, Steps p.tables e below (s₁.setTop (mkF m 162 #[iv pi0, iv pi1, iv pi2, iv pi3, iv pi4, iv (0 : Int32), iv (128 : Int32), iv (191 : Int32), .unset] [])) t → Steps p.tables e below (s₁.setTop (mkF m 13 #[iv pi0, iv pi1, iv pi2, iv pi3, iv pi4, .unset, iv (128 : Int32), iv (191 : Int32), .unset] [(.int (127 : Int32)), (.int pi0)])) t := fun t kt => pre7 t (by
            refine y_icmpNo X0.here hx (hb hby d2_26) (flt hm26_8).2.2.1 (pc' := 29) rfl ?_
            refine y_iconst X0.here hx (hb hby d2_29) (v := (0 : Int32)) rfl (pc' := 30) rfl ?_
            refine y_istore X0.here hx (hb hby d2_30) (l' := #[iv pi0, iv pi1, iv pi2, iv pi3, iv pi4, iv (0 : Int32), iv (128 : Int32), iv (191 : Int32), .unset]) rfl (pc' := 32) rfl ?_
            refine y_goto X0.here hx (hb hby d2_32) (pc' := 162) (by decide) rfl ?_
            exact kt)
        refine ⟨s₁, ⟨X0, e0.trans e0.symm⟩, fun t kt => pre34 t ?_⟩
        (try simp only [if_pos hm13_6, if_neg hm26_8] at kt)
        exact kt
    · have pre35 : ∀ t, Steps p.tables e below (s₁.setTop (mkF m 162 #[iv pi0, iv pi1, iv pi2, iv pi3, iv pi4, iv (1 : Int32), iv (128 : Int32), iv (191 : Int32), .unset] [])) t → Steps p.tables e below (s₁.setTop (mkF m 13 #[iv pi0, iv pi1, iv pi2, iv pi3, iv pi4, .unset, iv (128 : Int32), iv (191 : Int32), .unset] [(.int (127 : Int32)), (.int pi0)])) t := fun t kt => pre5_ t (by
          refine y_icmpNo X0.here hx (hb hby d2_13) (flt hm13_6).2.2.1 (pc' := 16) rfl ?_
          refine y_iconst X0.here hx (hb hby d2_16) (v := (1 : Int32)) rfl (pc' := 17) rfl ?_
          refine y_istore X0.here hx (hb hby d2_17) (l' := #[iv pi0, iv pi1, iv pi2, iv pi3, iv pi4, iv (1 : Int32), iv (128 : Int32), iv (191 : Int32), .unset]) rfl (pc' := 19) rfl ?_
          refine y_goto X0.here hx (hb hby d2_19) (pc' := 162) (by decide) rfl ?_
          exact kt)
      refine ⟨s₁, ⟨X0, e0.trans e0.symm⟩, fun t kt => pre35 t ?_⟩
      (try simp only [if_neg hm13_6] at kt)
      exact kt
  have e5 : T5.heap = h0 := q5.trans e0
  have pre36 : ∀ t, Steps p.tables e below (T5.setTop (mkF m 162 #[iv pi0, iv pi1, iv pi2, iv pi3, iv pi4, iv x2, iv x3, iv x4, .unset] [])) t → Go t := fun t kt => pre1 t (st5 t kt)
  have pre37 : ∀ t, Steps p.tables e below (T5.setTop (mkF m 168 #[iv pi0, iv pi1, iv pi2, iv pi3, iv pi4, iv x2, iv x3, iv x4, iv (1 : Int32)] [(.int (2 : Int32)), (.int x2)])) t → Go t := fun t kt => pre36 t (by
      refine y_iconst X5.here hx (hb hby d2_162) (v := (1 : Int32)) rfl (pc' := 163) rfl ?_
      refine y_istore X5.here hx (hb hby d2_163) (l' := #[iv pi0, iv pi1, iv pi2, iv pi3, iv pi4, iv x2, iv x3, iv x4, iv (1 : Int32)]) rfl (pc' := 165) rfl ?_
      refine y_iload X5.here hx (hb hby d2_165) rfl (pc' := 167) rfl ?_
      refine y_iconst X5.here hx (hb hby d2_167) (v := (2 : Int32)) rfl (pc' := 168) rfl ?_
      exact kt)
  by_cases hc168_38 : x2 < (2 : Int32)
  · have pre39 : ∀ t, Steps p.tables e below (T5.setTop (mkF m 240 #[iv pi0, iv pi1, iv pi2, iv pi3, iv pi4, iv x2, iv x3, iv x4, iv (1 : Int32)] [(.int x2), (.int (1 : Int32))])) t → Go t := fun t kt => pre37 t (by
        refine y_icmpYes X5.here hx (hb hby d2_168) (tlt hc168_38).1 (pc' := 236) (by decide) rfl ?_
        refine y_iload X5.here hx (hb hby d2_236) rfl (pc' := 238) rfl ?_
        refine y_iload X5.here hx (hb hby d2_238) rfl (pc' := 240) rfl ?_
        exact kt)
    by_cases hc240_40 : (1 : Int32) = x2
    · have pre41 : ∀ t, Steps p.tables e below (T5.setTop (mkF m 251 #[iv pi0, iv pi1, iv pi2, iv pi3, iv pi4, iv x2, iv x3, iv x4, iv (1 : Int32)] [(.int x2)])) t → Go t := fun t kt => pre39 t (by
          refine y_icmpNo X5.here hx (hb hby d2_240) (teq hc240_40).2 (pc' := 243) rfl ?_
          refine y_iload X5.here hx (hb hby d2_243) rfl (pc' := 245) rfl ?_
          refine y_goto X5.here hx (hb hby d2_245) (pc' := 251) (by decide) rfl ?_
          exact kt)
      obtain ⟨fs, hr, hrun, hended, hW, hsame⟩ := X5.leave (v := some (.int x2)) (fun h => by rw [Bd.returns] at h; cases h)
      refine ⟨_, _, (hGo _).mp (pre41 _ ?_), hrun, hended, _, _, rfl, ?_, ⟨_, rfl⟩, hW, hsame.mono (by decide) (by decide)⟩
      · exact retOut X5 hx Bd.returns rfl (Or.inl ⟨rfl, Or.inl rfl, _, rfl⟩) (hb hby d2_251) hr
      · show Q2 Z pi0 pi1 pi2 pi3 pi4 h0 n0 _ T5.heap _
        rw [e5]
        subst hx2 hx3 hx4
        exact ⟨(by first | (simp only [fr2, if_pos hc168_38, if_pos hc240_40]; done) | (simp only [fr2, if_pos hc168_38, if_pos hc240_40]; exact rfl) | exact rfl), N0, rfl⟩
    · have pre42 : ∀ t, Steps p.tables e below (T5.setTop (mkF m 251 #[iv pi0, iv pi1, iv pi2, iv pi3, iv pi4, iv x2, iv x3, iv x4, iv (1 : Int32)] [(.int (-1 : Int32))])) t → Go t := fun t kt => pre39 t (by
          refine y_icmpYes X5.here hx (hb hby d2_240) (feq hc240_40).2 (pc' := 248) (by decide) rfl ?_
          refine y_iload X5.here hx (hb hby d2_248) rfl (pc' := 250) rfl ?_
          refine y_ineg X5.here hx (hb hby d2_250) (z := (-1 : Int32)) rfl (pc' := 251) rfl ?_
          exact kt)
      obtain ⟨fs, hr, hrun, hended, hW, hsame⟩ := X5.leave (v := some (.int (-1 : Int32))) (fun h => by rw [Bd.returns] at h; cases h)
      refine ⟨_, _, (hGo _).mp (pre42 _ ?_), hrun, hended, _, _, rfl, ?_, ⟨_, rfl⟩, hW, hsame.mono (by decide) (by decide)⟩
      · exact retOut X5 hx Bd.returns rfl (Or.inl ⟨rfl, Or.inl rfl, _, rfl⟩) (hb hby d2_251) hr
      · show Q2 Z pi0 pi1 pi2 pi3 pi4 h0 n0 _ T5.heap _
        rw [e5]
        subst hx2 hx3 hx4
        exact ⟨(by first | (simp only [fr2, if_pos hc168_38, if_neg hc240_40]; done) | (simp only [fr2, if_pos hc168_38, if_neg hc240_40]; exact rfl) | exact rfl), N0, rfl⟩
  · have pre43 : ∀ t, Steps p.tables e below (T5.setTop (mkF m 174 #[iv pi0, iv pi1, iv pi2, iv pi3, iv pi4, iv x2, iv x3, iv x4, iv (1 : Int32)] [(.int (2 : Int32)), (.int pi4)])) t → Go t := fun t kt => pre37 t (by
        refine y_icmpNo X5.here hx (hb hby d2_168) (flt hc168_38).1 (pc' := 171) rfl ?_
        refine y_iload X5.here hx (hb hby d2_171) rfl (pc' := 173) rfl ?_
        refine y_iconst X5.here hx (hb hby d2_173) (v := (2 : Int32)) rfl (pc' := 174) rfl ?_
        exact kt)
    by_cases hc174_44 : pi4 < (2 : Int32)
    · have pre45 : ∀ t, Steps p.tables e below (T5.setTop (mkF m 240 #[iv pi0, iv pi1, iv pi2, iv pi3, iv pi4, iv x2, iv x3, iv x4, iv (1 : Int32)] [(.int x2), (.int (1 : Int32))])) t → Go t := fun t kt => pre43 t (by
          refine y_icmpYes X5.here hx (hb hby d2_174) (tlt hc174_44).1 (pc' := 236) (by decide) rfl ?_
          refine y_iload X5.here hx (hb hby d2_236) rfl (pc' := 238) rfl ?_
          refine y_iload X5.here hx (hb hby d2_238) rfl (pc' := 240) rfl ?_
          exact kt)
      by_cases hc240_46 : (1 : Int32) = x2
      · have pre47 : ∀ t, Steps p.tables e below (T5.setTop (mkF m 251 #[iv pi0, iv pi1, iv pi2, iv pi3, iv pi4, iv x2, iv x3, iv x4, iv (1 : Int32)] [(.int x2)])) t → Go t := fun t kt => pre45 t (by
            refine y_icmpNo X5.here hx (hb hby d2_240) (teq hc240_46).2 (pc' := 243) rfl ?_
            refine y_iload X5.here hx (hb hby d2_243) rfl (pc' := 245) rfl ?_
            refine y_goto X5.here hx (hb hby d2_245) (pc' := 251) (by decide) rfl ?_
            exact kt)
        obtain ⟨fs, hr, hrun, hended, hW, hsame⟩ := X5.leave (v := some (.int x2)) (fun h => by rw [Bd.returns] at h; cases h)
        refine ⟨_, _, (hGo _).mp (pre47 _ ?_), hrun, hended, _, _, rfl, ?_, ⟨_, rfl⟩, hW, hsame.mono (by decide) (by decide)⟩
        · exact retOut X5 hx Bd.returns rfl (Or.inl ⟨rfl, Or.inl rfl, _, rfl⟩) (hb hby d2_251) hr
        · show Q2 Z pi0 pi1 pi2 pi3 pi4 h0 n0 _ T5.heap _
          rw [e5]
          subst hx2 hx3 hx4
          exact ⟨(by first | (simp only [fr2, if_neg hc168_38, if_pos hc174_44, if_pos hc240_46]; done) | (simp only [fr2, if_neg hc168_38, if_pos hc174_44, if_pos hc240_46]; exact rfl) | exact rfl), N0, rfl⟩
      · have pre48 : ∀ t, Steps p.tables e below (T5.setTop (mkF m 251 #[iv pi0, iv pi1, iv pi2, iv pi3, iv pi4, iv x2, iv x3, iv x4, iv (1 : Int32)] [(.int (-1 : Int32))])) t → Go t := fun t kt => pre45 t (by
            refine y_icmpYes X5.here hx (hb hby d2_240) (feq hc240_46).2 (pc' := 248) (by decide) rfl ?_
            refine y_iload X5.here hx (hb hby d2_248) rfl (pc' := 250) rfl ?_
            refine y_ineg X5.here hx (hb hby d2_250) (z := (-1 : Int32)) rfl (pc' := 251) rfl ?_
            exact kt)
        obtain ⟨fs, hr, hrun, hended, hW, hsame⟩ := X5.leave (v := some (.int (-1 : Int32))) (fun h => by rw [Bd.returns] at h; cases h)
        refine ⟨_, _, (hGo _).mp (pre48 _ ?_), hrun, hended, _, _, rfl, ?_, ⟨_, rfl⟩, hW, hsame.mono (by decide) (by decide)⟩
        · exact retOut X5 hx Bd.returns rfl (Or.inl ⟨rfl, Or.inl rfl, _, rfl⟩) (hb hby d2_251) hr
        · show Q2 Z pi0 pi1 pi2 pi3 pi4 h0 n0 _ T5.heap _
          rw [e5]
          subst hx2 hx3 hx4
          exact ⟨(by first | (simp only [fr2, if_neg hc168_38, if_pos hc174_44, if_neg hc240_46]; done) | (simp only [fr2, if_neg hc168_38, if_pos hc174_44, if_neg hc240_46]; exact rfl) | exact rfl), N0, rfl⟩
    · have pre49 : ∀ t, Steps p.tables e below (T5.setTop (mkF m 180 #[iv pi0, iv pi1, iv pi2, iv pi3, iv pi4, iv x2, iv x3, iv x4, iv (1 : Int32)] [(.int x3), (.int pi1)])) t → Go t := fun t kt => pre43 t (by
          refine y_icmpNo X5.here hx (hb hby d2_174) (flt hc174_44).1 (pc' := 177) rfl ?_
          refine y_iloadN X5.here hx (hb hby d2_177) rfl (pc' := 178) rfl ?_
          refine y_iload X5.here hx (hb hby d2_178) rfl (pc' := 180) rfl ?_
          exact kt)
      by_cases hc180_50 : pi1 < x3
      · have pre51 : ∀ t, Steps p.tables e below (T5.setTop (mkF m 240 #[iv pi0, iv pi1, iv pi2, iv pi3, iv pi4, iv x2, iv x3, iv x4, iv (1 : Int32)] [(.int x2), (.int (1 : Int32))])) t → Go t := fun t kt => pre49 t (by
            refine y_icmpYes X5.here hx (hb hby d2_180) (tlt hc180_50).1 (pc' := 236) (by decide) rfl ?_
            refine y_iload X5.here hx (hb hby d2_236) rfl (pc' := 238) rfl ?_
            refine y_iload X5.here hx (hb hby d2_238) rfl (pc' := 240) rfl ?_
            exact kt)
        by_cases hc240_52 : (1 : Int32) = x2
        · have pre53 : ∀ t, Steps p.tables e below (T5.setTop (mkF m 251 #[iv pi0, iv pi1, iv pi2, iv pi3, iv pi4, iv x2, iv x3, iv x4, iv (1 : Int32)] [(.int x2)])) t → Go t := fun t kt => pre51 t (by
              refine y_icmpNo X5.here hx (hb hby d2_240) (teq hc240_52).2 (pc' := 243) rfl ?_
              refine y_iload X5.here hx (hb hby d2_243) rfl (pc' := 245) rfl ?_
              refine y_goto X5.here hx (hb hby d2_245) (pc' := 251) (by decide) rfl ?_
              exact kt)
          obtain ⟨fs, hr, hrun, hended, hW, hsame⟩ := X5.leave (v := some (.int x2)) (fun h => by rw [Bd.returns] at h; cases h)
          refine ⟨_, _, (hGo _).mp (pre53 _ ?_), hrun, hended, _, _, rfl, ?_, ⟨_, rfl⟩, hW, hsame.mono (by decide) (by decide)⟩
          · exact retOut X5 hx Bd.returns rfl (Or.inl ⟨rfl, Or.inl rfl, _, rfl⟩) (hb hby d2_251) hr
          · show Q2 Z pi0 pi1 pi2 pi3 pi4 h0 n0 _ T5.heap _
            rw [e5]
            subst hx2 hx3 hx4
            exact ⟨(by first | (simp only [fr2, if_neg hc168_38, if_neg hc174_44, if_pos hc180_50, if_pos hc240_52]; done) | (simp only [fr2, if_neg hc168_38, if_neg hc174_44, if_pos hc180_50, if_pos hc240_52]; exact rfl) | exact rfl), N0, rfl⟩
        · have pre54 : ∀ t, Steps p.tables e below (T5.setTop (mkF m 251 #[iv pi0, iv pi1, iv pi2, iv pi3, iv pi4, iv x2, iv x3, iv x4, iv (1 : Int32)] [(.int (-1 : Int32))])) t → Go t := fun t kt => pre51 t (by
              refine y_icmpYes X5.here hx (hb hby d2_240) (feq hc240_52).2 (pc' := 248) (by decide) rfl ?_
              refine y_iload X5.here hx (hb hby d2_248) rfl (pc' := 250) rfl ?_
              refine y_ineg X5.here hx (hb hby d2_250) (z := (-1 : Int32)) rfl (pc' := 251) rfl ?_
              exact kt)
          obtain ⟨fs, hr, hrun, hended, hW, hsame⟩ := X5.leave (v := some (.int (-1 : Int32))) (fun h => by rw [Bd.returns] at h; cases h)
          refine ⟨_, _, (hGo _).mp (pre54 _ ?_), hrun, hended, _, _, rfl, ?_, ⟨_, rfl⟩, hW, hsame.mono (by decide) (by decide)⟩
          · exact retOut X5 hx Bd.returns rfl (Or.inl ⟨rfl, Or.inl rfl, _, rfl⟩) (hb hby d2_251) hr
          · show Q2 Z pi0 pi1 pi2 pi3 pi4 h0 n0 _ T5.heap _
            rw [e5]
            subst hx2 hx3 hx4
            exact ⟨(by first | (simp only [fr2, if_neg hc168_38, if_neg hc174_44, if_pos hc180_50, if_neg hc240_52]; done) | (simp only [fr2, if_neg hc168_38, if_neg hc174_44, if_pos hc180_50, if_neg hc240_52]; exact rfl) | exact rfl), N0, rfl⟩
      · have pre55 : ∀ t, Steps p.tables e below (T5.setTop (mkF m 186 #[iv pi0, iv pi1, iv pi2, iv pi3, iv pi4, iv x2, iv x3, iv x4, iv (1 : Int32)] [(.int x4), (.int pi1)])) t → Go t := fun t kt => pre49 t (by
            refine y_icmpNo X5.here hx (hb hby d2_180) (flt hc180_50).1 (pc' := 183) rfl ?_
            refine y_iloadN X5.here hx (hb hby d2_183) rfl (pc' := 184) rfl ?_
            refine y_iload X5.here hx (hb hby d2_184) rfl (pc' := 186) rfl ?_
            exact kt)
        by_cases hc186_56 : x4 < pi1
        · have pre57 : ∀ t, Steps p.tables e below (T5.setTop (mkF m 240 #[iv pi0, iv pi1, iv pi2, iv pi3, iv pi4, iv x2, iv x3, iv x4, iv (1 : Int32)] [(.int x2), (.int (1 : Int32))])) t → Go t := fun t kt => pre55 t (by
              refine y_icmpYes X5.here hx (hb hby d2_186) (tlt hc186_56).2.2.1 (pc' := 236) (by decide) rfl ?_
              refine y_iload X5.here hx (hb hby d2_236) rfl (pc' := 238) rfl ?_
              refine y_iload X5.here hx (hb hby d2_238) rfl (pc' := 240) rfl ?_
              exact kt)
          by_cases hc240_58 : (1 : Int32) = x2
          · have pre59 : ∀ t, Steps p.tables e below (T5.setTop (mkF m 251 #[iv pi0, iv pi1, iv pi2, iv pi3, iv pi4, iv x2, iv x3, iv x4, iv (1 : Int32)] [(.int x2)])) t → Go t := fun t kt => pre57 t (by
                refine y_icmpNo X5.here hx (hb hby d2_240) (teq hc240_58).2 (pc' := 243) rfl ?_
                refine y_iload X5.here hx (hb hby d2_243) rfl (pc' := 245) rfl ?_
                refine y_goto X5.here hx (hb hby d2_245) (pc' := 251) (by decide) rfl ?_
                exact kt)
            obtain ⟨fs, hr, hrun, hended, hW, hsame⟩ := X5.leave (v := some (.int x2)) (fun h => by rw [Bd.returns] at h; cases h)
            refine ⟨_, _, (hGo _).mp (pre59 _ ?_), hrun, hended, _, _, rfl, ?_, ⟨_, rfl⟩, hW, hsame.mono (by decide) (by decide)⟩
            · exact retOut X5 hx Bd.returns rfl (Or.inl ⟨rfl, Or.inl rfl, _, rfl⟩) (hb hby d2_251) hr
            · show Q2 Z pi0 pi1 pi2 pi3 pi4 h0 n0 _ T5.heap _
              rw [e5]
              subst hx2 hx3 hx4
              exact ⟨(by first | (simp only [fr2, if_neg hc168_38, if_neg hc174_44, if_neg hc180_50, if_pos hc186_56, if_pos hc240_58]; done) | (simp only [fr2, if_neg hc168_38, if_neg hc174_44, if_neg hc180_50, if_pos hc186_56, if_pos hc240_58]; exact rfl) | exact rfl), N0, rfl⟩
          · have pre60 : ∀ t, Steps p.tables e below (T5.setTop (mkF m 251 #[iv pi0, iv pi1, iv pi2, iv pi3, iv pi4, iv x2, iv x3, iv x4, iv (1 : Int32)] [(.int (-1 : Int32))])) t → Go t := fun t kt => pre57 t (by
                refine y_icmpYes X5.here hx (hb hby d2_240) (feq hc240_58).2 (pc' := 248) (by decide) rfl ?_
                refine y_iload X5.here hx (hb hby d2_248) rfl (pc' := 250) rfl ?_
                refine y_ineg X5.here hx (hb hby d2_250) (z := (-1 : Int32)) rfl (pc' := 251) rfl ?_
                exact kt)
            obtain ⟨fs, hr, hrun, hended, hW, hsame⟩ := X5.leave (v := some (.int (-1 : Int32))) (fun h => by rw [Bd.returns] at h; cases h)
            refine ⟨_, _, (hGo _).mp (pre60 _ ?_), hrun, hended, _, _, rfl, ?_, ⟨_, rfl⟩, hW, hsame.mono (by decide) (by decide)⟩
            · exact retOut X5 hx Bd.returns rfl (Or.inl ⟨rfl, Or.inl rfl, _, rfl⟩) (hb hby d2_251) hr
            · show Q2 Z pi0 pi1 pi2 pi3 pi4 h0 n0 _ T5.heap _
              rw [e5]
              subst hx2 hx3 hx4
              exact ⟨(by first | (simp only [fr2, if_neg hc168_38, if_neg hc174_44, if_neg hc180_50, if_pos hc186_56, if_neg hc240_58]; done) | (simp only [fr2, if_neg hc168_38, if_neg hc174_44, if_neg hc180_50, if_pos hc186_56, if_neg hc240_58]; exact rfl) | exact rfl), N0, rfl⟩
        · have pre61 : ∀ t, Steps p.tables e below (T5.setTop (mkF m 195 #[iv pi0, iv pi1, iv pi2, iv pi3, iv pi4, iv x2, iv x3, iv x4, iv (2 : Int32)] [(.int (3 : Int32)), (.int x2)])) t → Go t := fun t kt => pre55 t (by
              refine y_icmpNo X5.here hx (hb hby d2_186) (flt hc186_56).2.2.1 (pc' := 189) rfl ?_
              refine y_iconst X5.here hx (hb hby d2_189) (v := (2 : Int32)) rfl (pc' := 190) rfl ?_
              refine y_istore X5.here hx (hb hby d2_190) (l' := #[iv pi0, iv pi1, iv pi2, iv pi3, iv pi4, iv x2, iv x3, iv x4, iv (2 : Int32)]) rfl (pc' := 192) rfl ?_
              refine y_iload X5.here hx (hb hby d2_192) rfl (pc' := 194) rfl ?_
              refine y_iconst X5.here hx (hb hby d2_194) (v := (3 : Int32)) rfl (pc' := 195) rfl ?_
              exact kt)
          by_cases hc195_62 : x2 < (3 : Int32)
          · have pre63 : ∀ t, Steps p.tables e below (T5.setTop (mkF m 240 #[iv pi0, iv pi1, iv pi2, iv pi3, iv pi4, iv x2, iv x3, iv x4, iv (2 : Int32)] [(.int x2), (.int (2 : Int32))])) t → Go t := fun t kt => pre61 t (by
                refine y_icmpYes X5.here hx (hb hby d2_195) (tlt hc195_62).1 (pc' := 236) (by decide) rfl ?_
                refine y_iload X5.here hx (hb hby d2_236) rfl (pc' := 238) rfl ?_
                refine y_iload X5.here hx (hb hby d2_238) rfl (pc' := 240) rfl ?_
                exact kt)
            by_cases hc240_64 : (2 : Int32) = x2
            · have pre65 : ∀ t, Steps p.tables e below (T5.setTop (mkF m 251 #[iv pi0, iv pi1, iv pi2, iv pi3, iv pi4, iv x2, iv x3, iv x4, iv (2 : Int32)] [(.int x2)])) t → Go t := fun t kt => pre63 t (by
                  refine y_icmpNo X5.here hx (hb hby d2_240) (teq hc240_64).2 (pc' := 243) rfl ?_
                  refine y_iload X5.here hx (hb hby d2_243) rfl (pc' := 245) rfl ?_
                  refine y_goto X5.here hx (hb hby d2_245) (pc' := 251) (by decide) rfl ?_
                  exact kt)
              obtain ⟨fs, hr, hrun, hended, hW, hsame⟩ := X5.leave (v := some (.int x2)) (fun h => by rw [Bd.returns] at h; cases h)
              refine ⟨_, _, (hGo _).mp (pre65 _ ?_), hrun, hended, _, _, rfl, ?_, ⟨_, rfl⟩, hW, hsame.mono (by decide) (by decide)⟩
              · exact retOut X5 hx Bd.returns rfl (Or.inl ⟨rfl, Or.inl rfl, _, rfl⟩) (hb hby d2_251) hr
              · show Q2 Z pi0 pi1 pi2 pi3 pi4 h0 n0 _ T5.heap _
                rw [e5]
                subst hx2 hx3 hx4
                exact ⟨(by first | (simp only [fr2, if_neg hc168_38, if_neg hc174_44, if_neg hc180_50, if_neg hc186_56, if_pos hc195_62, if_pos hc240_64]; done) | (simp only [fr2, if_neg hc168_38, if_neg hc174_44, if_neg hc180_50, if_neg hc186_56, if_pos hc195_62, if_pos hc240_64]; exact rfl) | exact rfl), N0, rfl⟩
            · have pre66 : ∀ t, Steps p.tables e below (T5.setTop (mkF m 251 #[iv pi0, iv pi1, iv pi2, iv pi3, iv pi4, iv x2, iv x3, iv x4, iv (2 : Int32)] [(.int (-2 : Int32))])) t → Go t := fun t kt => pre63 t (by
                  refine y_icmpYes X5.here hx (hb hby d2_240) (feq hc240_64).2 (pc' := 248) (by decide) rfl ?_
                  refine y_iload X5.here hx (hb hby d2_248) rfl (pc' := 250) rfl ?_
                  refine y_ineg X5.here hx (hb hby d2_250) (z := (-2 : Int32)) rfl (pc' := 251) rfl ?_
                  exact kt)
              obtain ⟨fs, hr, hrun, hended, hW, hsame⟩ := X5.leave (v := some (.int (-2 : Int32))) (fun h => by rw [Bd.returns] at h; cases h)
              refine ⟨_, _, (hGo _).mp (pre66 _ ?_), hrun, hended, _, _, rfl, ?_, ⟨_, rfl⟩, hW, hsame.mono (by decide) (by decide)⟩
              · exact retOut X5 hx Bd.returns rfl (Or.inl ⟨rfl, Or.inl rfl, _, rfl⟩) (hb hby d2_251) hr
              · show Q2 Z pi0 pi1 pi2 pi3 pi4 h0 n0 _ T5.heap _
                rw [e5]
                subst hx2 hx3 hx4
                exact ⟨(by first | (simp only [fr2, if_neg hc168_38, if_neg hc174_44, if_neg hc180_50, if_neg hc186_56, if_pos hc195_62, if_neg hc240_64]; done) | (simp only [fr2, if_neg hc168_38, if_neg hc174_44, if_neg hc180_50, if_neg hc186_56, if_pos hc195_62, if_neg hc240_64]; exact rfl) | exact rfl), N0, rfl⟩
          · have pre67 : ∀ t, Steps p.tables e below (T5.setTop (mkF m 201 #[iv pi0, iv pi1, iv pi2, iv pi3, iv pi4, iv x2, iv x3, iv x4, iv (2 : Int32)] [(.int (3 : Int32)), (.int pi4)])) t → Go t := fun t kt => pre61 t (by
                refine y_icmpNo X5.here hx (hb hby d2_195) (flt hc195_62).1 (pc' := 198) rfl ?_
                refine y_iload X5.here hx (hb hby d2_198) rfl (pc' := 200) rfl ?_
                refine y_iconst X5.here hx (hb hby d2_200) (v := (3 : Int32)) rfl (pc' := 201) rfl ?_
                exact kt)
            by_cases hc201_68 : pi4 < (3 : Int32)
            · have pre69 : ∀ t, Steps p.tables e below (T5.setTop (mkF m 240 #[iv pi0, iv pi1, iv pi2, iv pi3, iv pi4, iv x2, iv x3, iv x4, iv (2 : Int32)] [(.int x2), (.int (2 : Int32))])) t → Go t := fun t kt => pre67 t (by
                  refine y_icmpYes X5.here hx (hb hby d2_201) (tlt hc201_68).1 (pc' := 236) (by decide) rfl ?_
                  refine y_iload X5.here hx (hb hby d2_236) rfl (pc' := 238) rfl ?_
                  refine y_iload X5.here hx (hb hby d2_238) rfl (pc' := 240) rfl ?_
                  exact kt)
              by_cases hc240_70 : (2 : Int32) = x2
              · have pre71 : ∀ t, Steps p.tables e below (T5.setTop (mkF m 251 #[iv pi0, iv pi1, iv pi2, iv pi3, iv pi4, iv x2, iv x3, iv x4, iv (2 : Int32)] [(.int x2)])) t → Go t := fun t kt => pre69 t (by
                    refine y_icmpNo X5.here hx (hb hby d2_240) (teq hc240_70).2 (pc' := 243) rfl ?_
                    refine y_iload X5.here hx (hb hby d2_243) rfl (pc' := 245) rfl ?_
                    refine y_goto X5.here hx (hb hby d2_245) (pc' := 251) (by decide) rfl ?_
                    exact kt)
                obtain ⟨fs, hr, hrun, hended, hW, hsame⟩ := X5.leave (v := some (.int x2)) (fun h => by rw [Bd.returns] at h; cases h)
                refine ⟨_, _, (hGo _).mp (pre71 _ ?_), hrun, hended, _, _, rfl, ?_, ⟨_, rfl⟩, hW, hsame.mono (by decide) (by decide)⟩
                · exact retOut X5 hx Bd.returns rfl (Or.inl ⟨rfl, Or.inl rfl, _, rfl⟩) (hb hby d2_251) hr
                · show Q2 Z pi0 pi1 pi2 pi3 pi4 h0 n0 _ T5.heap _
                  rw [e5]
                  subst hx2 hx3 hx4
                  exact ⟨(by first | (simp only [fr2, if_neg hc168_38, if_neg hc174_44, if_neg hc180_50, if_neg hc186_56, if_neg hc195_62, if_pos hc201_68, if_pos hc240_70]; done) | (simp only [fr2, if_neg hc168_38, if_neg hc174_44, if_neg hc180_50, if_neg hc186_56, if_neg hc195_62, if_pos hc201_68, if_pos hc240_70]; exact rfl) | exact rfl), N0, rfl⟩
              · have pre72 : ∀ t, Steps p.tables e below (T5.setTop (mkF m 251 #[iv pi0, iv pi1, iv pi2, iv pi3, iv pi4, iv x2, iv x3, iv x4, iv (2 : Int32)] [(.int (-2 : Int32))])) t → Go t := fun t kt => pre69 t (by
                    refine y_icmpYes X5.here hx (hb hby d2_240) (feq hc240_70).2 (pc' := 248) (by decide) rfl ?_
                    refine y_iload X5.here hx (hb hby d2_248) rfl (pc' := 250) rfl ?_
                    refine y_ineg X5.here hx (hb hby d2_250) (z := (-2 : Int32)) rfl (pc' := 251) rfl ?_
                    exact kt)
                obtain ⟨fs, hr, hrun, hended, hW, hsame⟩ := X5.leave (v := some (.int (-2 : Int32))) (fun h => by rw [Bd.returns] at h; cases h)
                refine ⟨_, _, (hGo _).mp (pre72 _ ?_), hrun, hended, _, _, rfl, ?_, ⟨_, rfl⟩, hW, hsame.mono (by decide) (by decide)⟩
                · exact retOut X5 hx Bd.returns rfl (Or.inl ⟨rfl, Or.inl rfl, _, rfl⟩) (hb hby d2_251) hr
                · show Q2 Z pi0 pi1 pi2 pi3 pi4 h0 n0 _ T5.heap _
                  rw [e5]
                  subst hx2 hx3 hx4
                  exact ⟨(by first | (simp only [fr2, if_neg hc168_38, if_neg hc174_44, if_neg hc180_50, if_neg hc186_56, if_neg hc195_62, if_pos hc201_68, if_neg hc240_70]; done) | (simp only [fr2, if_neg hc168_38, if_neg hc174_44, if_neg hc180_50, if_neg hc186_56, if_neg hc195_62, if_pos hc201_68, if_neg hc240_70]; exact rfl) | exact rfl), N0, rfl⟩
            · have pre73 : ∀ t, Steps p.tables e below (T5.setTop (mkF m 205 #[iv pi0, iv pi1, iv pi2, iv pi3, iv pi4, iv x2, iv x3, iv x4, iv (2 : Int32)] [(.int pi2)])) t → Go t := fun t kt => pre67 t (by
                  refine y_icmpNo X5.here hx (hb hby d2_201) (flt hc201_68).1 (pc' := 204) rfl ?_
                  refine y_iloadN X5.here hx (hb hby d2_204) rfl (pc' := 205) rfl ?_
                  exact kt)
              obtain ⟨v74, _, ⟨T74, L74, k74, n74⟩, -, X74, ⟨Lc74, hQ74, l74, y74, z74⟩, st74⟩ := Jvm.LawKit.callS X5 hx (y := (⟨"com/example/strict_codec/strictcodec/Utf8GrammarSpanPinLaw", "cont", "(I)Z"⟩ : MethodName)) hown (mvT hZ (hw _ (List.mem_of_getElem? (i := 16) rfl))) (mvT hZ (hw _ (List.mem_of_getElem? (i := 17) rfl))) (mvT hZ (hw _ (List.mem_of_getElem? (i := 14) rfl))) (mvT hZ (hw _ (List.mem_of_getElem? (i := 18) rfl))) (by decide) (backOf (W := 0) (rm3 l Z a0 hw [] pi2 h0 n0 O0 ) hZ (hw _ (List.mem_of_getElem? (i := 18) rfl)) (hw _ (List.mem_of_getElem? (i := 14) rfl)) (by decide) (by decide)) (g := (mkF m 205 #[iv pi0, iv pi1, iv pi2, iv pi3, iv pi4, iv x2, iv x3, iv x4, iv (2 : Int32)] [(.int pi2)])) rfl (by rw [hml]; rfl) (argsL := [(.int pi2)]) (rest := []) (lenOf pd__I_Z rfl) rfl (by show 2 * 0 + _ ≤ _; exact Nat.le_of_eq rfl) (hb hby d2_205) (fun _ _ => ⟨rfl, e5, (by decide : 0 + 0 ≤ _), (by decide : 0 + 0 ≤ _)⟩)
              dsimp only [Pt.U, Pt.locs, Pt.cells, Pt.slots] at X74 l74 y74 z74 st74 hQ74
              subst l74 y74 z74
              obtain ⟨hv74, N74q, e74q⟩ := hQ74
              have N75 := Fr.app N0 N74q
              have hw74 := hv74
              obtain ⟨x76, hx76⟩ : ∃ z : Int32, z = (if pi2 < (128 : Int32) then (0 : Int32) else (if (191 : Int32) < pi2 then (0 : Int32) else (1 : Int32))) := ⟨_, rfl⟩
              rw [← hx76] at hw74
              subst hw74
              have pre77 : ∀ t, Steps p.tables e below (T74.setTop (mkF m 208 #[iv pi0, iv pi1, iv pi2, iv pi3, iv pi4, iv x2, iv x3, iv x4, iv (2 : Int32)] [(.int x76)])) t → Go t := fun t kt => pre73 t (st74 t kt)
              by_cases hc208_78 : x76 = (0 : Int32)
              · have pre79 : ∀ t, Steps p.tables e below (T74.setTop (mkF m 240 #[iv pi0, iv pi1, iv pi2, iv pi3, iv pi4, iv x2, iv x3, iv x4, iv (2 : Int32)] [(.int x2), (.int (2 : Int32))])) t → Go t := fun t kt => pre77 t (by
                    refine y_ifYes X74.here hx (hb hby d2_208) ((if0 _ _).trans (teq hc208_78).1) (pc' := 236) (by decide) rfl ?_
                    refine y_iload X74.here hx (hb hby d2_236) rfl (pc' := 238) rfl ?_
                    refine y_iload X74.here hx (hb hby d2_238) rfl (pc' := 240) rfl ?_
                    exact kt)
                by_cases hc240_80 : (2 : Int32) = x2
                · have pre81 : ∀ t, Steps p.tables e below (T74.setTop (mkF m 251 #[iv pi0, iv pi1, iv pi2, iv pi3, iv pi4, iv x2, iv x3, iv x4, iv (2 : Int32)] [(.int x2)])) t → Go t := fun t kt => pre79 t (by
                      refine y_icmpNo X74.here hx (hb hby d2_240) (teq hc240_80).2 (pc' := 243) rfl ?_
                      refine y_iload X74.here hx (hb hby d2_243) rfl (pc' := 245) rfl ?_
                      refine y_goto X74.here hx (hb hby d2_245) (pc' := 251) (by decide) rfl ?_
                      exact kt)
                  obtain ⟨fs, hr, hrun, hended, hW, hsame⟩ := X74.leave (v := some (.int x2)) (fun h => by rw [Bd.returns] at h; cases h)
                  refine ⟨_, _, (hGo _).mp (pre81 _ ?_), hrun, hended, _, _, rfl, ?_, ⟨_, rfl⟩, hW, hsame.mono (by decide) (by decide)⟩
                  · exact retOut X74 hx Bd.returns rfl (Or.inl ⟨rfl, Or.inl rfl, _, rfl⟩) (hb hby d2_251) hr
                  · show Q2 Z pi0 pi1 pi2 pi3 pi4 h0 n0 _ T74.heap _
                    rw [e74q]
                    subst hx2 hx3 hx4 hx76
                    exact ⟨(by first | (simp only [fr2, if_neg hc168_38, if_neg hc174_44, if_neg hc180_50, if_neg hc186_56, if_neg hc195_62, if_neg hc201_68, if_pos hc208_78, if_pos hc240_80]; done) | (simp only [fr2, if_neg hc168_38, if_neg hc174_44, if_neg hc180_50, if_neg hc186_56, if_neg hc195_62, if_neg hc201_68, if_pos hc208_78, if_pos hc240_80]; exact rfl) | exact rfl), N75, rfl⟩
                · have pre82 : ∀ t, Steps p.tables e below (T74.setTop (mkF m 251 #[iv pi0, iv pi1, iv pi2, iv pi3, iv pi4, iv x2, iv x3, iv x4, iv (2 : Int32)] [(.int (-2 : Int32))])) t → Go t := fun t kt => pre79 t (by
                      refine y_icmpYes X74.here hx (hb hby d2_240) (feq hc240_80).2 (pc' := 248) (by decide) rfl ?_
                      refine y_iload X74.here hx (hb hby d2_248) rfl (pc' := 250) rfl ?_
                      refine y_ineg X74.here hx (hb hby d2_250) (z := (-2 : Int32)) rfl (pc' := 251) rfl ?_
                      exact kt)
                  obtain ⟨fs, hr, hrun, hended, hW, hsame⟩ := X74.leave (v := some (.int (-2 : Int32))) (fun h => by rw [Bd.returns] at h; cases h)
                  refine ⟨_, _, (hGo _).mp (pre82 _ ?_), hrun, hended, _, _, rfl, ?_, ⟨_, rfl⟩, hW, hsame.mono (by decide) (by decide)⟩
                  · exact retOut X74 hx Bd.returns rfl (Or.inl ⟨rfl, Or.inl rfl, _, rfl⟩) (hb hby d2_251) hr
                  · show Q2 Z pi0 pi1 pi2 pi3 pi4 h0 n0 _ T74.heap _
                    rw [e74q]
                    subst hx2 hx3 hx4 hx76
                    exact ⟨(by first | (simp only [fr2, if_neg hc168_38, if_neg hc174_44, if_neg hc180_50, if_neg hc186_56, if_neg hc195_62, if_neg hc201_68, if_pos hc208_78, if_neg hc240_80]; done) | (simp only [fr2, if_neg hc168_38, if_neg hc174_44, if_neg hc180_50, if_neg hc186_56, if_neg hc195_62, if_neg hc201_68, if_pos hc208_78, if_neg hc240_80]; exact rfl) | exact rfl), N75, rfl⟩
              · have pre83 : ∀ t, Steps p.tables e below (T74.setTop (mkF m 217 #[iv pi0, iv pi1, iv pi2, iv pi3, iv pi4, iv x2, iv x3, iv x4, iv (3 : Int32)] [(.int (4 : Int32)), (.int x2)])) t → Go t := fun t kt => pre77 t (by
                    refine y_ifNo X74.here hx (hb hby d2_208) ((if0 _ _).trans (feq hc208_78).1) (pc' := 211) rfl ?_
                    refine y_iconst X74.here hx (hb hby d2_211) (v := (3 : Int32)) rfl (pc' := 212) rfl ?_
                    refine y_istore X74.here hx (hb hby d2_212) (l' := #[iv pi0, iv pi1, iv pi2, iv pi3, iv pi4, iv x2, iv x3, iv x4, iv (3 : Int32)]) rfl (pc' := 214) rfl ?_
                    refine y_iload X74.here hx (hb hby d2_214) rfl (pc' := 216) rfl ?_
                    refine y_iconst X74.here hx (hb hby d2_216) (v := (4 : Int32)) rfl (pc' := 217) rfl ?_
                    exact kt)
                by_cases hc217_84 : x2 < (4 : Int32)
                · have pre85 : ∀ t, Steps p.tables e below (T74.setTop (mkF m 240 #[iv pi0, iv pi1, iv pi2, iv pi3, iv pi4, iv x2, iv x3, iv x4, iv (3 : Int32)] [(.int x2), (.int (3 : Int32))])) t → Go t := fun t kt => pre83 t (by
                      refine y_icmpYes X74.here hx (hb hby d2_217) (tlt hc217_84).1 (pc' := 236) (by decide) rfl ?_
                      refine y_iload X74.here hx (hb hby d2_236) rfl (pc' := 238) rfl ?_
                      refine y_iload X74.here hx (hb hby d2_238) rfl (pc' := 240) rfl ?_
                      exact kt)
                  by_cases hc240_86 : (3 : Int32) = x2
                  · have pre87 : ∀ t, Steps p.tables e below (T74.setTop (mkF m 251 #[iv pi0, iv pi1, iv pi2, iv pi3, iv pi4, iv x2, iv x3, iv x4, iv (3 : Int32)] [(.int x2)])) t → Go t := fun t kt => pre85 t (by
                        refine y_icmpNo X74.here hx (hb hby d2_240) (teq hc240_86).2 (pc' := 243) rfl ?_
                        refine y_iload X74.here hx (hb hby d2_243) rfl (pc' := 245) rfl ?_
                        refine y_goto X74.here hx (hb hby d2_245) (pc' := 251) (by decide) rfl ?_
                        exact kt)
                    obtain ⟨fs, hr, hrun, hended, hW, hsame⟩ := X74.leave (v := some (.int x2)) (fun h => by rw [Bd.returns] at h; cases h)
                    refine ⟨_, _, (hGo _).mp (pre87 _ ?_), hrun, hended, _, _, rfl, ?_, ⟨_, rfl⟩, hW, hsame.mono (by decide) (by decide)⟩
                    · exact retOut X74 hx Bd.returns rfl (Or.inl ⟨rfl, Or.inl rfl, _, rfl⟩) (hb hby d2_251) hr
                    · show Q2 Z pi0 pi1 pi2 pi3 pi4 h0 n0 _ T74.heap _
                      rw [e74q]
                      subst hx2 hx3 hx4 hx76
                      exact ⟨(by first | (simp only [fr2, if_neg hc168_38, if_neg hc174_44, if_neg hc180_50, if_neg hc186_56, if_neg hc195_62, if_neg hc201_68, if_neg hc208_78, if_pos hc217_84, if_pos hc240_86]; done) | (simp only [fr2, if_neg hc168_38, if_neg hc174_44, if_neg hc180_50, if_neg hc186_56, if_neg hc195_62, if_neg hc201_68, if_neg hc208_78, if_pos hc217_84, if_pos hc240_86]; exact rfl) | exact rfl), N75, rfl⟩
                  · have pre88 : ∀ t, Steps p.tables e below (T74.setTop (mkF m 251 #[iv pi0, iv pi1, iv pi2, iv pi3, iv pi4, iv x2, iv x3, iv x4, iv (3 : Int32)] [(.int (-3 : Int32))])) t → Go t := fun t kt => pre85 t (by
                        refine y_icmpYes X74.here hx (hb hby d2_240) (feq hc240_86).2 (pc' := 248) (by decide) rfl ?_
                        refine y_iload X74.here hx (hb hby d2_248) rfl (pc' := 250) rfl ?_
                        refine y_ineg X74.here hx (hb hby d2_250) (z := (-3 : Int32)) rfl (pc' := 251) rfl ?_
                        exact kt)
                    obtain ⟨fs, hr, hrun, hended, hW, hsame⟩ := X74.leave (v := some (.int (-3 : Int32))) (fun h => by rw [Bd.returns] at h; cases h)
                    refine ⟨_, _, (hGo _).mp (pre88 _ ?_), hrun, hended, _, _, rfl, ?_, ⟨_, rfl⟩, hW, hsame.mono (by decide) (by decide)⟩
                    · exact retOut X74 hx Bd.returns rfl (Or.inl ⟨rfl, Or.inl rfl, _, rfl⟩) (hb hby d2_251) hr
                    · show Q2 Z pi0 pi1 pi2 pi3 pi4 h0 n0 _ T74.heap _
                      rw [e74q]
                      subst hx2 hx3 hx4 hx76
                      exact ⟨(by first | (simp only [fr2, if_neg hc168_38, if_neg hc174_44, if_neg hc180_50, if_neg hc186_56, if_neg hc195_62, if_neg hc201_68, if_neg hc208_78, if_pos hc217_84, if_neg hc240_86]; done) | (simp only [fr2, if_neg hc168_38, if_neg hc174_44, if_neg hc180_50, if_neg hc186_56, if_neg hc195_62, if_neg hc201_68, if_neg hc208_78, if_pos hc217_84, if_neg hc240_86]; exact rfl) | exact rfl), N75, rfl⟩
                · have pre89 : ∀ t, Steps p.tables e below (T74.setTop (mkF m 223 #[iv pi0, iv pi1, iv pi2, iv pi3, iv pi4, iv x2, iv x3, iv x4, iv (3 : Int32)] [(.int (4 : Int32)), (.int pi4)])) t → Go t := fun t kt => pre83 t (by
                      refine y_icmpNo X74.here hx (hb hby d2_217) (flt hc217_84).1 (pc' := 220) rfl ?_
                      refine y_iload X74.here hx (hb hby d2_220) rfl (pc' := 222) rfl ?_
                      refine y_iconst X74.here hx (hb hby d2_222) (v := (4 : Int32)) rfl (pc' := 223) rfl ?_
                      exact kt)
                  by_cases hc223_90 : pi4 < (4 : Int32)
                  · have pre91 : ∀ t, Steps p.tables e below (T74.setTop (mkF m 240 #[iv pi0, iv pi1, iv pi2, iv pi3, iv pi4, iv x2, iv x3, iv x4, iv (3 : Int32)] [(.int x2), (.int (3 : Int32))])) t → Go t := fun t kt => pre89 t (by
                        refine y_icmpYes X74.here hx (hb hby d2_223) (tlt hc223_90).1 (pc' := 236) (by decide) rfl ?_
                        refine y_iload X74.here hx (hb hby d2_236) rfl (pc' := 238) rfl ?_
                        refine y_iload X74.here hx (hb hby d2_238) rfl (pc' := 240) rfl ?_
                        exact kt)
                    by_cases hc240_92 : (3 : Int32) = x2
                    · have pre93 : ∀ t, Steps p.tables e below (T74.setTop (mkF m 251 #[iv pi0, iv pi1, iv pi2, iv pi3, iv pi4, iv x2, iv x3, iv x4, iv (3 : Int32)] [(.int x2)])) t → Go t := fun t kt => pre91 t (by
                          refine y_icmpNo X74.here hx (hb hby d2_240) (teq hc240_92).2 (pc' := 243) rfl ?_
                          refine y_iload X74.here hx (hb hby d2_243) rfl (pc' := 245) rfl ?_
                          refine y_goto X74.here hx (hb hby d2_245) (pc' := 251) (by decide) rfl ?_
                          exact kt)
                      obtain ⟨fs, hr, hrun, hended, hW, hsame⟩ := X74.leave (v := some (.int x2)) (fun h => by rw [Bd.returns] at h; cases h)
                      refine ⟨_, _, (hGo _).mp (pre93 _ ?_), hrun, hended, _, _, rfl, ?_, ⟨_, rfl⟩, hW, hsame.mono (by decide) (by decide)⟩
                      · exact retOut X74 hx Bd.returns rfl (Or.inl ⟨rfl, Or.inl rfl, _, rfl⟩) (hb hby d2_251) hr
                      · show Q2 Z pi0 pi1 pi2 pi3 pi4 h0 n0 _ T74.heap _
                        rw [e74q]
                        subst hx2 hx3 hx4 hx76
                        exact ⟨(by first | (simp only [fr2, if_neg hc168_38, if_neg hc174_44, if_neg hc180_50, if_neg hc186_56, if_neg hc195_62, if_neg hc201_68, if_neg hc208_78, if_neg hc217_84, if_pos hc223_90, if_pos hc240_92]; done) | (simp only [fr2, if_neg hc168_38, if_neg hc174_44, if_neg hc180_50, if_neg hc186_56, if_neg hc195_62, if_neg hc201_68, if_neg hc208_78, if_neg hc217_84, if_pos hc223_90, if_pos hc240_92]; exact rfl) | exact rfl), N75, rfl⟩
                    · have pre94 : ∀ t, Steps p.tables e below (T74.setTop (mkF m 251 #[iv pi0, iv pi1, iv pi2, iv pi3, iv pi4, iv x2, iv x3, iv x4, iv (3 : Int32)] [(.int (-3 : Int32))])) t → Go t := fun t kt => pre91 t (by
                          refine y_icmpYes X74.here hx (hb hby d2_240) (feq hc240_92).2 (pc' := 248) (by decide) rfl ?_
                          refine y_iload X74.here hx (hb hby d2_248) rfl (pc' := 250) rfl ?_
                          refine y_ineg X74.here hx (hb hby d2_250) (z := (-3 : Int32)) rfl (pc' := 251) rfl ?_
                          exact kt)
                      obtain ⟨fs, hr, hrun, hended, hW, hsame⟩ := X74.leave (v := some (.int (-3 : Int32))) (fun h => by rw [Bd.returns] at h; cases h)
                      refine ⟨_, _, (hGo _).mp (pre94 _ ?_), hrun, hended, _, _, rfl, ?_, ⟨_, rfl⟩, hW, hsame.mono (by decide) (by decide)⟩
                      · exact retOut X74 hx Bd.returns rfl (Or.inl ⟨rfl, Or.inl rfl, _, rfl⟩) (hb hby d2_251) hr
                      · show Q2 Z pi0 pi1 pi2 pi3 pi4 h0 n0 _ T74.heap _
                        rw [e74q]
                        subst hx2 hx3 hx4 hx76
                        exact ⟨(by first | (simp only [fr2, if_neg hc168_38, if_neg hc174_44, if_neg hc180_50, if_neg hc186_56, if_neg hc195_62, if_neg hc201_68, if_neg hc208_78, if_neg hc217_84, if_pos hc223_90, if_neg hc240_92]; done) | (simp only [fr2, if_neg hc168_38, if_neg hc174_44, if_neg hc180_50, if_neg hc186_56, if_neg hc195_62, if_neg hc201_68, if_neg hc208_78, if_neg hc217_84, if_pos hc223_90, if_neg hc240_92]; exact rfl) | exact rfl), N75, rfl⟩
                  · have pre95 : ∀ t, Steps p.tables e below (T74.setTop (mkF m 227 #[iv pi0, iv pi1, iv pi2, iv pi3, iv pi4, iv x2, iv x3, iv x4, iv (3 : Int32)] [(.int pi3)])) t → Go t := fun t kt => pre89 t (by
                        refine y_icmpNo X74.here hx (hb hby d2_223) (flt hc223_90).1 (pc' := 226) rfl ?_
                        refine y_iloadN X74.here hx (hb hby d2_226) rfl (pc' := 227) rfl ?_
                        exact kt)
                    obtain ⟨v96, _, ⟨T96, L96, k96, n96⟩, -, X96, ⟨Lc96, hQ96, l96, y96, z96⟩, st96⟩ := Jvm.LawKit.callS X74 hx (y := (⟨"com/example/strict_codec/strictcodec/Utf8GrammarSpanPinLaw", "cont", "(I)Z"⟩ : MethodName)) hown (mvT hZ (hw _ (List.mem_of_getElem? (i := 16) rfl))) (mvT hZ (hw _ (List.mem_of_getElem? (i := 17) rfl))) (mvT hZ (hw _ (List.mem_of_getElem? (i := 14) rfl))) (mvT hZ (hw _ (List.mem_of_getElem? (i := 18) rfl))) (by decide) (backOf (W := 0) (rm3 l Z a0 hw [] pi3 h0 n0 O0 ) hZ (hw _ (List.mem_of_getElem? (i := 18) rfl)) (hw _ (List.mem_of_getElem? (i := 14) rfl)) (by decide) (by decide)) (g := (mkF m 227 #[iv pi0, iv pi1, iv pi2, iv pi3, iv pi4, iv x2, iv x3, iv x4, iv (3 : Int32)] [(.int pi3)])) rfl (by rw [hml]; rfl) (argsL := [(.int pi3)]) (rest := []) (lenOf pd__I_Z rfl) rfl (by show 2 * 0 + _ ≤ _; exact Nat.le_of_eq rfl) (hb hby d2_227) (fun _ _ => ⟨rfl, e74q, (by decide : 0 + 0 ≤ _), (by decide : 0 + 0 ≤ _)⟩)
                    dsimp only [Pt.U, Pt.locs, Pt.cells, Pt.slots] at X96 l96 y96 z96 st96 hQ96
                    subst l96 y96 z96
                    obtain ⟨hv96, N96q, e96q⟩ := hQ96
                    have N97 := Fr.app N75 N96q
                    have hw96 := hv96
                    obtain ⟨x98, hx98⟩ : ∃ z : Int32, z = (if pi3 < (128 : Int32) then (0 : Int32) else (if (191 : Int32) < pi3 then (0 : Int32) else (1 : Int32))) := ⟨_, rfl⟩
                    rw [← hx98] at hw96
                    subst hw96
                    have pre99 : ∀ t, Steps p.tables e below (T96.setTop (mkF m 230 #[iv pi0, iv pi1, iv pi2, iv pi3, iv pi4, iv x2, iv x3, iv x4, iv (3 : Int32)] [(.int x98)])) t → Go t := fun t kt => pre95 t (st96 t kt)
                    by_cases hc230_100 : x98 = (0 : Int32)
                    · have pre101 : ∀ t, Steps p.tables e below (T96.setTop (mkF m 240 #[iv pi0, iv pi1, iv pi2, iv pi3, iv pi4, iv x2, iv x3, iv x4, iv (3 : Int32)] [(.int x2), (.int (3 : Int32))])) t → Go t := fun t kt => pre99 t (by
                          refine y_ifYes X96.here hx (hb hby d2_230) ((if0 _ _).trans (teq hc230_100).1) (pc' := 236) (by decide) rfl ?_
                          refine y_iload X96.here hx (hb hby d2_236) rfl (pc' := 238) rfl ?_
                          refine y_iload X96.here hx (hb hby d2_238) rfl (pc' := 240) rfl ?_
                          exact kt)
                      by_cases hc240_102 : (3 : Int32) = x2
                      · have pre103 : ∀ t, Steps p.tables e below (T96.setTop (mkF m 251 #[iv pi0, iv pi1, iv pi2, iv pi3, iv pi4, iv x2, iv x3, iv x4, iv (3 : Int32)] [(.int x2)])) t → Go t := fun t kt => pre101 t (by
                            refine y_icmpNo X96.here hx (hb hby d2_240) (teq hc240_102).2 (pc' := 243) rfl ?_
                            refine y_iload X96.here hx (hb hby d2_243) rfl (pc' := 245) rfl ?_
                            refine y_goto X96.here hx (hb hby d2_245) (pc' := 251) (by decide) rfl ?_
                            exact kt)
                        obtain ⟨fs, hr, hrun, hended, hW, hsame⟩ := X96.leave (v := some (.int x2)) (fun h => by rw [Bd.returns] at h; cases h)
                        refine ⟨_, _, (hGo _).mp (pre103 _ ?_), hrun, hended, _, _, rfl, ?_, ⟨_, rfl⟩, hW, hsame.mono (by decide) (by decide)⟩
                        · exact retOut X96 hx Bd.returns rfl (Or.inl ⟨rfl, Or.inl rfl, _, rfl⟩) (hb hby d2_251) hr
                        · show Q2 Z pi0 pi1 pi2 pi3 pi4 h0 n0 _ T96.heap _
                          rw [e96q]
                          subst hx2 hx3 hx4 hx76 hx98
                          exact ⟨(by first | (simp only [fr2, if_neg hc168_38, if_neg hc174_44, if_neg hc180_50, if_neg hc186_56, if_neg hc195_62, if_neg hc201_68, if_neg hc208_78, if_neg hc217_84, if_neg hc223_90, if_pos hc230_100, if_pos hc240_102]; done) | (simp only [fr2, if_neg hc168_38, if_neg hc174_44, if_neg hc180_50, if_neg hc186_56, if_neg hc195_62, if_neg hc201_68, if_neg hc208_78, if_neg hc217_84, if_neg hc223_90, if_pos hc230_100, if_pos hc240_102]; exact rfl) | exact rfl), N97, rfl⟩
                      · have pre104 : ∀ t, Steps p.tables e below (T96.setTop (mkF m 251 #[iv pi0, iv pi1, iv pi2, iv pi3, iv pi4, iv x2, iv x3, iv x4, iv (3 : Int32)] [(.int (-3 : Int32))])) t → Go t := fun t kt => pre101 t (by
                            refine y_icmpYes X96.here hx (hb hby d2_240) (feq hc240_102).2 (pc' := 248) (by decide) rfl ?_
                            refine y_iload X96.here hx (hb hby d2_248) rfl (pc' := 250) rfl ?_
                            refine y_ineg X96.here hx (hb hby d2_250) (z := (-3 : Int32)) rfl (pc' := 251) rfl ?_
                            exact kt)
                        obtain ⟨fs, hr, hrun, hended, hW, hsame⟩ := X96.leave (v := some (.int (-3 : Int32))) (fun h => by rw [Bd.returns] at h; cases h)
                        refine ⟨_, _, (hGo _).mp (pre104 _ ?_), hrun, hended, _, _, rfl, ?_, ⟨_, rfl⟩, hW, hsame.mono (by decide) (by decide)⟩
                        · exact retOut X96 hx Bd.returns rfl (Or.inl ⟨rfl, Or.inl rfl, _, rfl⟩) (hb hby d2_251) hr
                        · show Q2 Z pi0 pi1 pi2 pi3 pi4 h0 n0 _ T96.heap _
                          rw [e96q]
                          subst hx2 hx3 hx4 hx76 hx98
                          exact ⟨(by first | (simp only [fr2, if_neg hc168_38, if_neg hc174_44, if_neg hc180_50, if_neg hc186_56, if_neg hc195_62, if_neg hc201_68, if_neg hc208_78, if_neg hc217_84, if_neg hc223_90, if_pos hc230_100, if_neg hc240_102]; done) | (simp only [fr2, if_neg hc168_38, if_neg hc174_44, if_neg hc180_50, if_neg hc186_56, if_neg hc195_62, if_neg hc201_68, if_neg hc208_78, if_neg hc217_84, if_neg hc223_90, if_pos hc230_100, if_neg hc240_102]; exact rfl) | exact rfl), N97, rfl⟩
                    · have pre105 : ∀ t, Steps p.tables e below (T96.setTop (mkF m 240 #[iv pi0, iv pi1, iv pi2, iv pi3, iv pi4, iv x2, iv x3, iv x4, iv (4 : Int32)] [(.int x2), (.int (4 : Int32))])) t → Go t := fun t kt => pre99 t (by
                          refine y_ifNo X96.here hx (hb hby d2_230) ((if0 _ _).trans (feq hc230_100).1) (pc' := 233) rfl ?_
                          refine y_iconst X96.here hx (hb hby d2_233) (v := (4 : Int32)) rfl (pc' := 234) rfl ?_
                          refine y_istore X96.here hx (hb hby d2_234) (l' := #[iv pi0, iv pi1, iv pi2, iv pi3, iv pi4, iv x2, iv x3, iv x4, iv (4 : Int32)]) rfl (pc' := 236) rfl ?_
                          refine y_iload X96.here hx (hb hby d2_236) rfl (pc' := 238) rfl ?_
                          refine y_iload X96.here hx (hb hby d2_238) rfl (pc' := 240) rfl ?_
                          exact kt)
                      by_cases hc240_106 : (4 : Int32) = x2
                      · have pre107 : ∀ t, Steps p.tables e below (T96.setTop (mkF m 251 #[iv pi0, iv pi1, iv pi2, iv pi3, iv pi4, iv x2, iv x3, iv x4, iv (4 : Int32)] [(.int x2)])) t → Go t := fun t kt => pre105 t (by
                            refine y_icmpNo X96.here hx (hb hby d2_240) (teq hc240_106).2 (pc' := 243) rfl ?_
                            refine y_iload X96.here hx (hb hby d2_243) rfl (pc' := 245) rfl ?_
                            refine y_goto X96.here hx (hb hby d2_245) (pc' := 251) (by decide) rfl ?_
                            exact kt)
                        obtain ⟨fs, hr, hrun, hended, hW, hsame⟩ := X96.leave (v := some (.int x2)) (fun h => by rw [Bd.returns] at h; cases h)
                        refine ⟨_, _, (hGo _).mp (pre107 _ ?_), hrun, hended, _, _, rfl, ?_, ⟨_, rfl⟩, hW, hsame.mono (by decide) (by decide)⟩
                        · exact retOut X96 hx Bd.returns rfl (Or.inl ⟨rfl, Or.inl rfl, _, rfl⟩) (hb hby d2_251) hr
                        · show Q2 Z pi0 pi1 pi2 pi3 pi4 h0 n0 _ T96.heap _
                          rw [e96q]
                          subst hx2 hx3 hx4 hx76 hx98
                          exact ⟨(by first | (simp only [fr2, if_neg hc168_38, if_neg hc174_44, if_neg hc180_50, if_neg hc186_56, if_neg hc195_62, if_neg hc201_68, if_neg hc208_78, if_neg hc217_84, if_neg hc223_90, if_neg hc230_100, if_pos hc240_106]; done) | (simp only [fr2, if_neg hc168_38, if_neg hc174_44, if_neg hc180_50, if_neg hc186_56, if_neg hc195_62, if_neg hc201_68, if_neg hc208_78, if_neg hc217_84, if_neg hc223_90, if_neg hc230_100, if_pos hc240_106]; exact rfl) | exact rfl), N97, rfl⟩
                      · have pre108 : ∀ t, Steps p.tables e below (T96.setTop (mkF m 251 #[iv pi0, iv pi1, iv pi2, iv pi3, iv pi4, iv x2, iv x3, iv x4, iv (4 : Int32)] [(.int (-4 : Int32))])) t → Go t := fun t kt => pre105 t (by
                            refine y_icmpYes X96.here hx (hb hby d2_240) (feq hc240_106).2 (pc' := 248) (by decide) rfl ?_
                            refine y_iload X96.here hx (hb hby d2_248) rfl (pc' := 250) rfl ?_
                            refine y_ineg X96.here hx (hb hby d2_250) (z := (-4 : Int32)) rfl (pc' := 251) rfl ?_
                            exact kt)
                        obtain ⟨fs, hr, hrun, hended, hW, hsame⟩ := X96.leave (v := some (.int (-4 : Int32))) (fun h => by rw [Bd.returns] at h; cases h)
                        refine ⟨_, _, (hGo _).mp (pre108 _ ?_), hrun, hended, _, _, rfl, ?_, ⟨_, rfl⟩, hW, hsame.mono (by decide) (by decide)⟩
                        · exact retOut X96 hx Bd.returns rfl (Or.inl ⟨rfl, Or.inl rfl, _, rfl⟩) (hb hby d2_251) hr
                        · show Q2 Z pi0 pi1 pi2 pi3 pi4 h0 n0 _ T96.heap _
                          rw [e96q]
                          subst hx2 hx3 hx4 hx76 hx98
                          exact ⟨(by first | (simp only [fr2, if_neg hc168_38, if_neg hc174_44, if_neg hc180_50, if_neg hc186_56, if_neg hc195_62, if_neg hc201_68, if_neg hc208_78, if_neg hc217_84, if_neg hc223_90, if_neg hc230_100, if_neg hc240_106]; done) | (simp only [fr2, if_neg hc168_38, if_neg hc174_44, if_neg hc180_50, if_neg hc186_56, if_neg hc195_62, if_neg hc201_68, if_neg hc208_78, if_neg hc217_84, if_neg hc223_90, if_neg hc230_100, if_neg hc240_106]; exact rfl) | exact rfl), N97, rfl⟩
theorem own_lt (x c : Int32) (C : Int) (hc : c.toInt = C) (h : x.toInt < C) : (x < c) = True := eq_true (by rw [Int32.lt_iff_toInt_lt, hc]; exact h)
theorem own_nlt (x c : Int32) (C : Int) (hc : c.toInt = C) (h : C ≤ x.toInt) : (x < c) = False := eq_false (by rw [Int32.lt_iff_toInt_lt, hc]; omega)
theorem own_gt (x c : Int32) (C : Int) (hc : c.toInt = C) (h : C < x.toInt) : (c < x) = True := eq_true (by rw [Int32.lt_iff_toInt_lt, hc]; exact h)
theorem own_ngt (x c : Int32) (C : Int) (hc : c.toInt = C) (h : x.toInt ≤ C) : (c < x) = False := eq_false (by rw [Int32.lt_iff_toInt_lt, hc]; omega)
theorem own_eq (x c : Int32) (C : Int) (hc : c.toInt = C) (h : x.toInt = C) : (x = c) = True := eq_true (own_of (h.trans hc.symm))
theorem own_neq (x c : Int32) (C : Int) (hc : c.toInt = C) (h : x.toInt ≠ C) : (x = c) = False := eq_false (fun q => h (by rw [q]; exact hc))
theorem own_b255 (o : Int32) : ((nar .byte (o.toInt8.toInt32)) &&& (255 : Int32)) = (o &&& (255 : Int32)) := by
  have q1 := c_i2b o
  have q2 := c_i2b (o.toInt8.toInt32)
  have q3 : ((nar .byte (o.toInt8.toInt32)) &&& (255 : Int32)).toInt = (o.toInt8.toInt32.toInt8.toInt32).toInt % 256 := c_mask (o.toInt8.toInt32.toInt8.toInt32) 255 8 (by decide) (by decide)
  have q4 : (o &&& (255 : Int32)).toInt = o.toInt % 256 := c_mask o 255 8 (by decide) (by decide)
  exact own_of (by omega)
theorem own_l (k : Int32) : 0 ≤ (k &&& (255 : Int32)).toInt ∧ (k &&& (255 : Int32)).toInt < 256 := by
  have q : (k &&& (255 : Int32)).toInt = k.toInt % 256 := c_mask k 255 8 (by decide) (by decide)
  omega
theorem own_g0_0 (l s t u e v y1 y2 y3 : Int32) (k1 : (1 : Int32) < e ↔ ¬ v < (2 : Int32)) (k2 : (2 : Int32) < e ↔ ¬ v < (3 : Int32)) (k3 : (3 : Int32) < e ↔ ¬ v < (4 : Int32)) (h1 : y1 &&& (255 : Int32) = s) (h2 : y2 &&& (255 : Int32) = t) (h3 : y3 &&& (255 : Int32) = u) (hl : 0 ≤ l.toInt ∧ l.toInt ≤ 127) : fr1a0 e (tb_SEQUENCE_LENGTH l) (tb_SECOND_LOW l) (tb_SECOND_HIGH l) y1 y2 y3 = fr2 l s t u v := by
  have l128 := own_lt l 128 128 rfl (by omega)
  have l194 := own_lt l 194 194 rfl (by omega)
  have l224 := own_lt l 224 224 rfl (by omega)
  have l225 := own_lt l 225 225 rfl (by omega)
  have l237 := own_lt l 237 237 rfl (by omega)
  have l238 := own_lt l 238 238 rfl (by omega)
  have l240 := own_lt l 240 240 rfl (by omega)
  have l241 := own_lt l 241 241 rfl (by omega)
  have l244 := own_lt l 244 244 rfl (by omega)
  have l245 := own_lt l 245 245 rfl (by omega)
  have g127 := own_ngt l 127 127 rfl (by omega)
  have g193 := own_ngt l 193 193 rfl (by omega)
  have g223 := own_ngt l 223 223 rfl (by omega)
  have g236 := own_ngt l 236 236 rfl (by omega)
  have g239 := own_ngt l 239 239 rfl (by omega)
  have g243 := own_ngt l 243 243 rfl (by omega)
  have e224 := own_neq l 224 224 rfl (by omega)
  have e237 := own_neq l 237 237 rfl (by omega)
  have e240 := own_neq l 240 240 rfl (by omega)
  have e244 := own_neq l 244 244 rfl (by omega)
  simp only [fr1a0, fr2, tb_SEQUENCE_LENGTH, tb_SECOND_LOW, tb_SECOND_HIGH, ↓reduceIte, h1, h2, h3, l128, l194, l224, l225, l237, l238, l240, l241, l244, l245, g127, g193, g223, g236, g239, g243, e224, e237, e240, e244]
  clear l128 l194 l224 l225 l237 l238 l240 l241 l244 l245 g127 g193 g223 g236 g239 g243 e224 e237 e240 e244
  simp
theorem own_g0_1 (l s t u e v y1 y2 y3 : Int32) (k1 : (1 : Int32) < e ↔ ¬ v < (2 : Int32)) (k2 : (2 : Int32) < e ↔ ¬ v < (3 : Int32)) (k3 : (3 : Int32) < e ↔ ¬ v < (4 : Int32)) (h1 : y1 &&& (255 : Int32) = s) (h2 : y2 &&& (255 : Int32) = t) (h3 : y3 &&& (255 : Int32) = u) (hl : 128 ≤ l.toInt ∧ l.toInt ≤ 193) : fr1a0 e (tb_SEQUENCE_LENGTH l) (tb_SECOND_LOW l) (tb_SECOND_HIGH l) y1 y2 y3 = fr2 l s t u v := by
  have l128 := own_nlt l 128 128 rfl (by omega)
  have l194 := own_lt l 194 194 rfl (by omega)
  have l224 := own_lt l 224 224 rfl (by omega)
  have l225 := own_lt l 225 225 rfl (by omega)
  have l237 := own_lt l 237 237 rfl (by omega)
  have l238 := own_lt l 238 238 rfl (by omega)
  have l240 := own_lt l 240 240 rfl (by omega)
  have l241 := own_lt l 241 241 rfl (by omega)
  have l244 := own_lt l 244 244 rfl (by omega)
  have l245 := own_lt l 245 245 rfl (by omega)
  have g127 := own_gt l 127 127 rfl (by omega)
  have g193 := own_ngt l 193 193 rfl (by omega)
  have g223 := own_ngt l 223 223 rfl (by omega)
  have g236 := own_ngt l 236 236 rfl (by omega)
  have g239 := own_ngt l 239 239 rfl (by omega)
  have g243 := own_ngt l 243 243 rfl (by omega)
  have e224 := own_neq l 224 224 rfl (by omega)
  have e237 := own_neq l 237 237 rfl (by omega)
  have e240 := own_neq l 240 240 rfl (by omega)
  have e244 := own_neq l 244 244 rfl (by omega)
  simp only [fr1a0, fr2, tb_SEQUENCE_LENGTH, tb_SECOND_LOW, tb_SECOND_HIGH, ↓reduceIte, h1, h2, h3, l128, l194, l224, l225, l237, l238, l240, l241, l244, l245, g127, g193, g223, g236, g239, g243, e224, e237, e240, e244]
  clear l128 l194 l224 l225 l237 l238 l240 l241 l244 l245 g127 g193 g223 g236 g239 g243 e224 e237 e240 e244
  simp
theorem own_g0_2 (l s t u e v y1 y2 y3 : Int32) (k1 : (1 : Int32) < e ↔ ¬ v < (2 : Int32)) (k2 : (2 : Int32) < e ↔ ¬ v < (3 : Int32)) (k3 : (3 : Int32) < e ↔ ¬ v < (4 : Int32)) (h1 : y1 &&& (255 : Int32) = s) (h2 : y2 &&& (255 : Int32) = t) (h3 : y3 &&& (255 : Int32) = u) (hl : 194 ≤ l.toInt ∧ l.toInt ≤ 223) : fr1a0 e (tb_SEQUENCE_LENGTH l) (tb_SECOND_LOW l) (tb_SECOND_HIGH l) y1 y2 y3 = fr2 l s t u v := by
  have l128 := own_nlt l 128 128 rfl (by omega)
  have l194 := own_nlt l 194 194 rfl (by omega)
  have l224 := own_lt l 224 224 rfl (by omega)
  have l225 := own_lt l 225 225 rfl (by omega)
  have l237 := own_lt l 237 237 rfl (by omega)
  have l238 := own_lt l 238 238 rfl (by omega)
  have l240 := own_lt l 240 240 rfl (by omega)
  have l241 := own_lt l 241 241 rfl (by omega)
  have l244 := own_lt l 244 244 rfl (by omega)
  have l245 := own_lt l 245 245 rfl (by omega)
  have g127 := own_gt l 127 127 rfl (by omega)
  have g193 := own_gt l 193 193 rfl (by omega)
  have g223 := own_ngt l 223 223 rfl (by omega)
  have g236 := own_ngt l 236 236 rfl (by omega)
  have g239 := own_ngt l 239 239 rfl (by omega)
  have g243 := own_ngt l 243 243 rfl (by omega)
  have e224 := own_neq l 224 224 rfl (by omega)
  have e237 := own_neq l 237 237 rfl (by omega)
  have e240 := own_neq l 240 240 rfl (by omega)
  have e244 := own_neq l 244 244 rfl (by omega)
  simp only [fr1a0, fr2, tb_SEQUENCE_LENGTH, tb_SECOND_LOW, tb_SECOND_HIGH, ↓reduceIte, h1, h2, h3, l128, l194, l224, l225, l237, l238, l240, l241, l244, l245, g127, g193, g223, g236, g239, g243, e224, e237, e240, e244]
  clear l128 l194 l224 l225 l237 l238 l240 l241 l244 l245 g127 g193 g223 g236 g239 g243 e224 e237 e240 e244
  by_cases a2 : v < (2 : Int32)
  · have b : ((1 : Int32) < e) = False := eq_false fun h => k1.mp h a2
    simp [a2, b]
  have b2 : ((1 : Int32) < e) = True := eq_true (k1.mpr a2)
  by_cases c2 : s < (128 : Int32)
  · simp [a2, b2, c2]
  by_cases d2 : (191 : Int32) < s
  · simp [a2, b2, c2, d2]
  simp [a2, b2, c2, d2]
theorem own_g0_3 (l s t u e v y1 y2 y3 : Int32) (k1 : (1 : Int32) < e ↔ ¬ v < (2 : Int32)) (k2 : (2 : Int32) < e ↔ ¬ v < (3 : Int32)) (k3 : (3 : Int32) < e ↔ ¬ v < (4 : Int32)) (h1 : y1 &&& (255 : Int32) = s) (h2 : y2 &&& (255 : Int32) = t) (h3 : y3 &&& (255 : Int32) = u) (hl : 224 ≤ l.toInt ∧ l.toInt ≤ 224) : fr1a0 e (tb_SEQUENCE_LENGTH l) (tb_SECOND_LOW l) (tb_SECOND_HIGH l) y1 y2 y3 = fr2 l s t u v := by
  have l128 := own_nlt l 128 128 rfl (by omega)
  have l194 := own_nlt l 194 194 rfl (by omega)
  have l224 := own_nlt l 224 224 rfl (by omega)
  have l225 := own_lt l 225 225 rfl (by omega)
  have l237 := own_lt l 237 237 rfl (by omega)
  have l238 := own_lt l 238 238 rfl (by omega)
  have l240 := own_lt l 240 240 rfl (by omega)
  have l241 := own_lt l 241 241 rfl (by omega)
  have l244 := own_lt l 244 244 rfl (by omega)
  have l245 := own_lt l 245 245 rfl (by omega)
  have g127 := own_gt l 127 127 rfl (by omega)
  have g193 := own_gt l 193 193 rfl (by omega)
  have g223 := own_gt l 223 223 rfl (by omega)
  have g236 := own_ngt l 236 236 rfl (by omega)
  have g239 := own_ngt l 239 239 rfl (by omega)
  have g243 := own_ngt l 243 243 rfl (by omega)
  have e224 := own_eq l 224 224 rfl (by omega)
  have e237 := own_neq l 237 237 rfl (by omega)
  have e240 := own_neq l 240 240 rfl (by omega)
  have e244 := own_neq l 244 244 rfl (by omega)
  simp only [fr1a0, fr2, tb_SEQUENCE_LENGTH, tb_SECOND_LOW, tb_SECOND_HIGH, ↓reduceIte, h1, h2, h3, l128, l194, l224, l225, l237, l238, l240, l241, l244, l245, g127, g193, g223, g236, g239, g243, e224, e237, e240, e244]
  clear l128 l194 l224 l225 l237 l238 l240 l241 l244 l245 g127 g193 g223 g236 g239 g243 e224 e237 e240 e244
  by_cases a2 : v < (2 : Int32)
  · have b : ((1 : Int32) < e) = False := eq_false fun h => k1.mp h a2
    simp [a2, b]
  have b2 : ((1 : Int32) < e) = True := eq_true (k1.mpr a2)
  by_cases c2 : s < (160 : Int32)
  · simp [a2, b2, c2]
  by_cases d2 : (191 : Int32) < s
  · simp [a2, b2, c2, d2]
  by_cases a3 : v < (3 : Int32)
  · have b : ((2 : Int32) < e) = False := eq_false fun h => k2.mp h a3
    simp [a2, b2, c2, d2, a3, b]
  have b3 : ((2 : Int32) < e) = True := eq_true (k2.mpr a3)
  by_cases c3 : t < (128 : Int32)
  · simp [a2, b2, c2, d2, a3, b3, c3]
  by_cases d3 : (191 : Int32) < t
  · simp [a2, b2, c2, d2, a3, b3, c3, d3]
  simp [a2, b2, c2, d2, a3, b3, c3, d3]
theorem own_g0_4 (l s t u e v y1 y2 y3 : Int32) (k1 : (1 : Int32) < e ↔ ¬ v < (2 : Int32)) (k2 : (2 : Int32) < e ↔ ¬ v < (3 : Int32)) (k3 : (3 : Int32) < e ↔ ¬ v < (4 : Int32)) (h1 : y1 &&& (255 : Int32) = s) (h2 : y2 &&& (255 : Int32) = t) (h3 : y3 &&& (255 : Int32) = u) (hl : 225 ≤ l.toInt ∧ l.toInt ≤ 236) : fr1a0 e (tb_SEQUENCE_LENGTH l) (tb_SECOND_LOW l) (tb_SECOND_HIGH l) y1 y2 y3 = fr2 l s t u v := by
  have l128 := own_nlt l 128 128 rfl (by omega)
  have l194 := own_nlt l 194 194 rfl (by omega)
  have l224 := own_nlt l 224 224 rfl (by omega)
  have l225 := own_nlt l 225 225 rfl (by omega)
  have l237 := own_lt l 237 237 rfl (by omega)
  have l238 := own_lt l 238 238 rfl (by omega)
  have l240 := own_lt l 240 240 rfl (by omega)
  have l241 := own_lt l 241 241 rfl (by omega)
  have l244 := own_lt l 244 244 rfl (by omega)
  have l245 := own_lt l 245 245 rfl (by omega)
  have g127 := own_gt l 127 127 rfl (by omega)
  have g193 := own_gt l 193 193 rfl (by omega)
  have g223 := own_gt l 223 223 rfl (by omega)
  have g236 := own_ngt l 236 236 rfl (by omega)
  have g239 := own_ngt l 239 239 rfl (by omega)
  have g243 := own_ngt l 243 243 rfl (by omega)
  have e224 := own_neq l 224 224 rfl (by omega)
  have e237 := own_neq l 237 237 rfl (by omega)
  have e240 := own_neq l 240 240 rfl (by omega)
  have e244 := own_neq l 244 244 rfl (by omega)
  simp only [fr1a0, fr2, tb_SEQUENCE_LENGTH, tb_SECOND_LOW, tb_SECOND_HIGH, ↓reduceIte, h1, h2, h3, l128, l194, l224, l225, l237, l238, l240, l241, l244, l245, g127, g193, g223, g236, g239, g243, e224, e237, e240, e244]
  clear l128 l194 l224 l225 l237 l238 l240 l241 l244 l245 g127 g193 g223 g236 g239 g243 e224 e237 e240 e244
  by_cases a2 : v < (2 : Int32)
  · have b : ((1 : Int32) < e) = False := eq_false fun h => k1.mp h a2
    simp [a2, b]
  have b2 : ((1 : Int32) < e) = True := eq_true (k1.mpr a2)
  by_cases c2 : s < (128 : Int32)
  · simp [a2, b2, c2]
  by_cases d2 : (191 : Int32) < s
  · simp [a2, b2, c2, d2]
  by_cases a3 : v < (3 : Int32)
  · have b : ((2 : Int32) < e) = False := eq_false fun h => k2.mp h a3
    simp [a2, b2, c2, d2, a3, b]
  have b3 : ((2 : Int32) < e) = True := eq_true (k2.mpr a3)
  by_cases c3 : t < (128 : Int32)
  · simp [a2, b2, c2, d2, a3, b3, c3]
  by_cases d3 : (191 : Int32) < t
  · simp [a2, b2, c2, d2, a3, b3, c3, d3]
  simp [a2, b2, c2, d2, a3, b3, c3, d3]
theorem own_g0_5 (l s t u e v y1 y2 y3 : Int32) (k1 : (1 : Int32) < e ↔ ¬ v < (2 : Int32)) (k2 : (2 : Int32) < e ↔ ¬ v < (3 : Int32)) (k3 : (3 : Int32) < e ↔ ¬ v < (4 : Int32)) (h1 : y1 &&& (255 : Int32) = s) (h2 : y2 &&& (255 : Int32) = t) (h3 : y3 &&& (255 : Int32) = u) (hl : 237 ≤ l.toInt ∧ l.toInt ≤ 237) : fr1a0 e (tb_SEQUENCE_LENGTH l) (tb_SECOND_LOW l) (tb_SECOND_HIGH l) y1 y2 y3 = fr2 l s t u v := by
  have l128 := own_nlt l 128 128 rfl (by omega)
  have l194 := own_nlt l 194 194 rfl (by omega)
  have l224 := own_nlt l 224 224 rfl (by omega)
  have l225 := own_nlt l 225 225 rfl (by omega)
  have l237 := own_nlt l 237 237 rfl (by omega)
  have l238 := own_lt l 238 238 rfl (by omega)
  have l240 := own_lt l 240 240 rfl (by omega)
  have l241 := own_lt l 241 241 rfl (by omega)
  have l244 := own_lt l 244 244 rfl (by omega)
  have l245 := own_lt l 245 245 rfl (by omega)
  have g127 := own_gt l 127 127 rfl (by omega)
  have g193 := own_gt l 193 193 rfl (by omega)
  have g223 := own_gt l 223 223 rfl (by omega)
  have g236 := own_gt l 236 236 rfl (by omega)
  have g239 := own_ngt l 239 239 rfl (by omega)
  have g243 := own_ngt l 243 243 rfl (by omega)
  have e224 := own_neq l 224 224 rfl (by omega)
  have e237 := own_eq l 237 237 rfl (by omega)
  have e240 := own_neq l 240 240 rfl (by omega)
  have e244 := own_neq l 244 244 rfl (by omega)
  simp only [fr1a0, fr2, tb_SEQUENCE_LENGTH, tb_SECOND_LOW, tb_SECOND_HIGH, ↓reduceIte, h1, h2, h3, l128, l194, l224, l225, l237, l238, l240, l241, l244, l245, g127, g193, g223, g236, g239, g243, e224, e237, e240, e244]
  clear l128 l194 l224 l225 l237 l238 l240 l241 l244 l245 g127 g193 g223 g236 g239 g243 e224 e237 e240 e244
  by_cases a2 : v < (2 : Int32)
  · have b : ((1 : Int32) < e) = False := eq_false fun h => k1.mp h a2
    simp [a2, b]
  have b2 : ((1 : Int32) < e) = True := eq_true (k1.mpr a2)
  by_cases c2 : s < (128 : Int32)
  · simp [a2, b2, c2]
  by_cases d2 : (159 : Int32) < s
  · simp [a2, b2, c2, d2]
  by_cases a3 : v < (3 : Int32)
  · have b : ((2 : Int32) < e) = False := eq_false fun h => k2.mp h a3
    simp [a2, b2, c2, d2, a3, b]
  have b3 : ((2 : Int32) < e) = True := eq_true (k2.mpr a3)
  by_cases c3 : t < (128 : Int32)
  · simp [a2, b2, c2, d2, a3, b3, c3]
  by_cases d3 : (191 : Int32) < t
  · simp [a2, b2, c2, d2, a3, b3, c3, d3]
  simp [a2, b2, c2, d2, a3, b3, c3, d3]
theorem own_g0_6 (l s t u e v y1 y2 y3 : Int32) (k1 : (1 : Int32) < e ↔ ¬ v < (2 : Int32)) (k2 : (2 : Int32) < e ↔ ¬ v < (3 : Int32)) (k3 : (3 : Int32) < e ↔ ¬ v < (4 : Int32)) (h1 : y1 &&& (255 : Int32) = s) (h2 : y2 &&& (255 : Int32) = t) (h3 : y3 &&& (255 : Int32) = u) (hl : 238 ≤ l.toInt ∧ l.toInt ≤ 239) : fr1a0 e (tb_SEQUENCE_LENGTH l) (tb_SECOND_LOW l) (tb_SECOND_HIGH l) y1 y2 y3 = fr2 l s t u v := by
  have l128 := own_nlt l 128 128 rfl (by omega)
  have l194 := own_nlt l 194 194 rfl (by omega)
  have l224 := own_nlt l 224 224 rfl (by omega)
  have l225 := own_nlt l 225 225 rfl (by omega)
  have l237 := own_nlt l 237 237 rfl (by omega)
  have l238 := own_nlt l 238 238 rfl (by omega)
  have l240 := own_lt l 240 240 rfl (by omega)
  have l241 := own_lt l 241 241 rfl (by omega)
  have l244 := own_lt l 244 244 rfl (by omega)
  have l245 := own_lt l 245 245 rfl (by omega)
  have g127 := own_gt l 127 127 rfl (by omega)
  have g193 := own_gt l 193 193 rfl (by omega)
  have g223 := own_gt l 223 223 rfl (by omega)
  have g236 := own_gt l 236 236 rfl (by omega)
  have g239 := own_ngt l 239 239 rfl (by omega)
  have g243 := own_ngt l 243 243 rfl (by omega)
  have e224 := own_neq l 224 224 rfl (by omega)
  have e237 := own_neq l 237 237 rfl (by omega)
  have e240 := own_neq l 240 240 rfl (by omega)
  have e244 := own_neq l 244 244 rfl (by omega)
  simp only [fr1a0, fr2, tb_SEQUENCE_LENGTH, tb_SECOND_LOW, tb_SECOND_HIGH, ↓reduceIte, h1, h2, h3, l128, l194, l224, l225, l237, l238, l240, l241, l244, l245, g127, g193, g223, g236, g239, g243, e224, e237, e240, e244]
  clear l128 l194 l224 l225 l237 l238 l240 l241 l244 l245 g127 g193 g223 g236 g239 g243 e224 e237 e240 e244
  by_cases a2 : v < (2 : Int32)
  · have b : ((1 : Int32) < e) = False := eq_false fun h => k1.mp h a2
    simp [a2, b]
  have b2 : ((1 : Int32) < e) = True := eq_true (k1.mpr a2)
  by_cases c2 : s < (128 : Int32)
  · simp [a2, b2, c2]
  by_cases d2 : (191 : Int32) < s
  · simp [a2, b2, c2, d2]
  by_cases a3 : v < (3 : Int32)
  · have b : ((2 : Int32) < e) = False := eq_false fun h => k2.mp h a3
    simp [a2, b2, c2, d2, a3, b]
  have b3 : ((2 : Int32) < e) = True := eq_true (k2.mpr a3)
  by_cases c3 : t < (128 : Int32)
  · simp [a2, b2, c2, d2, a3, b3, c3]
  by_cases d3 : (191 : Int32) < t
  · simp [a2, b2, c2, d2, a3, b3, c3, d3]
  simp [a2, b2, c2, d2, a3, b3, c3, d3]
theorem own_g0_7 (l s t u e v y1 y2 y3 : Int32) (k1 : (1 : Int32) < e ↔ ¬ v < (2 : Int32)) (k2 : (2 : Int32) < e ↔ ¬ v < (3 : Int32)) (k3 : (3 : Int32) < e ↔ ¬ v < (4 : Int32)) (h1 : y1 &&& (255 : Int32) = s) (h2 : y2 &&& (255 : Int32) = t) (h3 : y3 &&& (255 : Int32) = u) (hl : 240 ≤ l.toInt ∧ l.toInt ≤ 240) : fr1a0 e (tb_SEQUENCE_LENGTH l) (tb_SECOND_LOW l) (tb_SECOND_HIGH l) y1 y2 y3 = fr2 l s t u v := by
  have l128 := own_nlt l 128 128 rfl (by omega)
  have l194 := own_nlt l 194 194 rfl (by omega)
  have l224 := own_nlt l 224 224 rfl (by omega)
  have l225 := own_nlt l 225 225 rfl (by omega)
  have l237 := own_nlt l 237 237 rfl (by omega)
  have l238 := own_nlt l 238 238 rfl (by omega)
  have l240 := own_nlt l 240 240 rfl (by omega)
  have l241 := own_lt l 241 241 rfl (by omega)
  have l244 := own_lt l 244 244 rfl (by omega)
  have l245 := own_lt l 245 245 rfl (by omega)
  have g127 := own_gt l 127 127 rfl (by omega)
  have g193 := own_gt l 193 193 rfl (by omega)
  have g223 := own_gt l 223 223 rfl (by omega)
  have g236 := own_gt l 236 236 rfl (by omega)
  have g239 := own_gt l 239 239 rfl (by omega)
  have g243 := own_ngt l 243 243 rfl (by omega)
  have e224 := own_neq l 224 224 rfl (by omega)
  have e237 := own_neq l 237 237 rfl (by omega)
  have e240 := own_eq l 240 240 rfl (by omega)
  have e244 := own_neq l 244 244 rfl (by omega)
  simp only [fr1a0, fr2, tb_SEQUENCE_LENGTH, tb_SECOND_LOW, tb_SECOND_HIGH, ↓reduceIte, h1, h2, h3, l128, l194, l224, l225, l237, l238, l240, l241, l244, l245, g127, g193, g223, g236, g239, g243, e224, e237, e240, e244]
  clear l128 l194 l224 l225 l237 l238 l240 l241 l244 l245 g127 g193 g223 g236 g239 g243 e224 e237 e240 e244
  by_cases a2 : v < (2 : Int32)
  · have b : ((1 : Int32) < e) = False := eq_false fun h => k1.mp h a2
    simp [a2, b]
  have b2 : ((1 : Int32) < e) = True := eq_true (k1.mpr a2)
  by_cases c2 : s < (144 : Int32)
  · simp [a2, b2, c2]
  by_cases d2 : (191 : Int32) < s
  · simp [a2, b2, c2, d2]
  by_cases a3 : v < (3 : Int32)
  · have b : ((2 : Int32) < e) = False := eq_false fun h => k2.mp h a3
    simp [a2, b2, c2, d2, a3, b]
  have b3 : ((2 : Int32) < e) = True := eq_true (k2.mpr a3)
  by_cases c3 : t < (128 : Int32)
  · simp [a2, b2, c2, d2, a3, b3, c3]
  by_cases d3 : (191 : Int32) < t
  · simp [a2, b2, c2, d2, a3, b3, c3, d3]
  by_cases a4 : v < (4 : Int32)
  · have b : ((3 : Int32) < e) = False := eq_false fun h => k3.mp h a4
    simp [a2, b2, c2, d2, a3, b3, c3, d3, a4, b]
  have b4 : ((3 : Int32) < e) = True := eq_true (k3.mpr a4)
  by_cases c4 : u < (128 : Int32)
  · simp [a2, b2, c2, d2, a3, b3, c3, d3, a4, b4, c4]
  by_cases d4 : (191 : Int32) < u
  · simp [a2, b2, c2, d2, a3, b3, c3, d3, a4, b4, c4, d4]
  simp [a2, b2, c2, d2, a3, b3, c3, d3, a4, b4, c4, d4]
theorem own_g0_8 (l s t u e v y1 y2 y3 : Int32) (k1 : (1 : Int32) < e ↔ ¬ v < (2 : Int32)) (k2 : (2 : Int32) < e ↔ ¬ v < (3 : Int32)) (k3 : (3 : Int32) < e ↔ ¬ v < (4 : Int32)) (h1 : y1 &&& (255 : Int32) = s) (h2 : y2 &&& (255 : Int32) = t) (h3 : y3 &&& (255 : Int32) = u) (hl : 241 ≤ l.toInt ∧ l.toInt ≤ 243) : fr1a0 e (tb_SEQUENCE_LENGTH l) (tb_SECOND_LOW l) (tb_SECOND_HIGH l) y1 y2 y3 = fr2 l s t u v := by
  have l128 := own_nlt l 128 128 rfl (by omega)
  have l194 := own_nlt l 194 194 rfl (by omega)
  have l224 := own_nlt l 224 224 rfl (by omega)
  have l225 := own_nlt l 225 225 rfl (by omega)
  have l237 := own_nlt l 237 237 rfl (by omega)
  have l238 := own_nlt l 238 238 rfl (by omega)
  have l240 := own_nlt l 240 240 rfl (by omega)
  have l241 := own_nlt l 241 241 rfl (by omega)
  have l244 := own_lt l 244 244 rfl (by omega)
  have l245 := own_lt l 245 245 rfl (by omega)
  have g127 := own_gt l 127 127 rfl (by omega)
  have g193 := own_gt l 193 193 rfl (by omega)
  have g223 := own_gt l 223 223 rfl (by omega)
  have g236 := own_gt l 236 236 rfl (by omega)
  have g239 := own_gt l 239 239 rfl (by omega)
  have g243 := own_ngt l 243 243 rfl (by omega)
  have e224 := own_neq l 224 224 rfl (by omega)
  have e237 := own_neq l 237 237 rfl (by omega)
  have e240 := own_neq l 240 240 rfl (by omega)
  have e244 := own_neq l 244 244 rfl (by omega)
  simp only [fr1a0, fr2, tb_SEQUENCE_LENGTH, tb_SECOND_LOW, tb_SECOND_HIGH, ↓reduceIte, h1, h2, h3, l128, l194, l224, l225, l237, l238, l240, l241, l244, l245, g127, g193, g223, g236, g239, g243, e224, e237, e240, e244]
  clear l128 l194 l224 l225 l237 l238 l240 l241 l244 l245 g127 g193 g223 g236 g239 g243 e224 e237 e240 e244
  by_cases a2 : v < (2 : Int32)
  · have b : ((1 : Int32) < e) = False := eq_false fun h => k1.mp h a2
    simp [a2, b]
  have b2 : ((1 : Int32) < e) = True := eq_true (k1.mpr a2)
  by_cases c2 : s < (128 : Int32)
  · simp [a2, b2, c2]
  by_cases d2 : (191 : Int32) < s
  · simp [a2, b2, c2, d2]
  by_cases a3 : v < (3 : Int32)
  · have b : ((2 : Int32) < e) = False := eq_false fun h => k2.mp h a3
    simp [a2, b2, c2, d2, a3, b]
  have b3 : ((2 : Int32) < e) = True := eq_true (k2.mpr a3)
  by_cases c3 : t < (128 : Int32)
  · simp [a2, b2, c2, d2, a3, b3, c3]
  by_cases d3 : (191 : Int32) < t
  · simp [a2, b2, c2, d2, a3, b3, c3, d3]
  by_cases a4 : v < (4 : Int32)
  · have b : ((3 : Int32) < e) = False := eq_false fun h => k3.mp h a4
    simp [a2, b2, c2, d2, a3, b3, c3, d3, a4, b]
  have b4 : ((3 : Int32) < e) = True := eq_true (k3.mpr a4)
  by_cases c4 : u < (128 : Int32)
  · simp [a2, b2, c2, d2, a3, b3, c3, d3, a4, b4, c4]
  by_cases d4 : (191 : Int32) < u
  · simp [a2, b2, c2, d2, a3, b3, c3, d3, a4, b4, c4, d4]
  simp [a2, b2, c2, d2, a3, b3, c3, d3, a4, b4, c4, d4]
theorem own_g0_9 (l s t u e v y1 y2 y3 : Int32) (k1 : (1 : Int32) < e ↔ ¬ v < (2 : Int32)) (k2 : (2 : Int32) < e ↔ ¬ v < (3 : Int32)) (k3 : (3 : Int32) < e ↔ ¬ v < (4 : Int32)) (h1 : y1 &&& (255 : Int32) = s) (h2 : y2 &&& (255 : Int32) = t) (h3 : y3 &&& (255 : Int32) = u) (hl : 244 ≤ l.toInt ∧ l.toInt ≤ 244) : fr1a0 e (tb_SEQUENCE_LENGTH l) (tb_SECOND_LOW l) (tb_SECOND_HIGH l) y1 y2 y3 = fr2 l s t u v := by
  have l128 := own_nlt l 128 128 rfl (by omega)
  have l194 := own_nlt l 194 194 rfl (by omega)
  have l224 := own_nlt l 224 224 rfl (by omega)
  have l225 := own_nlt l 225 225 rfl (by omega)
  have l237 := own_nlt l 237 237 rfl (by omega)
  have l238 := own_nlt l 238 238 rfl (by omega)
  have l240 := own_nlt l 240 240 rfl (by omega)
  have l241 := own_nlt l 241 241 rfl (by omega)
  have l244 := own_nlt l 244 244 rfl (by omega)
  have l245 := own_lt l 245 245 rfl (by omega)
  have g127 := own_gt l 127 127 rfl (by omega)
  have g193 := own_gt l 193 193 rfl (by omega)
  have g223 := own_gt l 223 223 rfl (by omega)
  have g236 := own_gt l 236 236 rfl (by omega)
  have g239 := own_gt l 239 239 rfl (by omega)
  have g243 := own_gt l 243 243 rfl (by omega)
  have e224 := own_neq l 224 224 rfl (by omega)
  have e237 := own_neq l 237 237 rfl (by omega)
  have e240 := own_neq l 240 240 rfl (by omega)
  have e244 := own_eq l 244 244 rfl (by omega)
  simp only [fr1a0, fr2, tb_SEQUENCE_LENGTH, tb_SECOND_LOW, tb_SECOND_HIGH, ↓reduceIte, h1, h2, h3, l128, l194, l224, l225, l237, l238, l240, l241, l244, l245, g127, g193, g223, g236, g239, g243, e224, e237, e240, e244]
  clear l128 l194 l224 l225 l237 l238 l240 l241 l244 l245 g127 g193 g223 g236 g239 g243 e224 e237 e240 e244
  by_cases a2 : v < (2 : Int32)
  · have b : ((1 : Int32) < e) = False := eq_false fun h => k1.mp h a2
    simp [a2, b]
  have b2 : ((1 : Int32) < e) = True := eq_true (k1.mpr a2)
  by_cases c2 : s < (128 : Int32)
  · simp [a2, b2, c2]
  by_cases d2 : (143 : Int32) < s
  · simp [a2, b2, c2, d2]
  by_cases a3 : v < (3 : Int32)
  · have b : ((2 : Int32) < e) = False := eq_false fun h => k2.mp h a3
    simp [a2, b2, c2, d2, a3, b]
  have b3 : ((2 : Int32) < e) = True := eq_true (k2.mpr a3)
  by_cases c3 : t < (128 : Int32)
  · simp [a2, b2, c2, d2, a3, b3, c3]
  by_cases d3 : (191 : Int32) < t
  · simp [a2, b2, c2, d2, a3, b3, c3, d3]
  by_cases a4 : v < (4 : Int32)
  · have b : ((3 : Int32) < e) = False := eq_false fun h => k3.mp h a4
    simp [a2, b2, c2, d2, a3, b3, c3, d3, a4, b]
  have b4 : ((3 : Int32) < e) = True := eq_true (k3.mpr a4)
  by_cases c4 : u < (128 : Int32)
  · simp [a2, b2, c2, d2, a3, b3, c3, d3, a4, b4, c4]
  by_cases d4 : (191 : Int32) < u
  · simp [a2, b2, c2, d2, a3, b3, c3, d3, a4, b4, c4, d4]
  simp [a2, b2, c2, d2, a3, b3, c3, d3, a4, b4, c4, d4]
theorem own_g0_10 (l s t u e v y1 y2 y3 : Int32) (k1 : (1 : Int32) < e ↔ ¬ v < (2 : Int32)) (k2 : (2 : Int32) < e ↔ ¬ v < (3 : Int32)) (k3 : (3 : Int32) < e ↔ ¬ v < (4 : Int32)) (h1 : y1 &&& (255 : Int32) = s) (h2 : y2 &&& (255 : Int32) = t) (h3 : y3 &&& (255 : Int32) = u) (hl : 245 ≤ l.toInt ∧ l.toInt ≤ 255) : fr1a0 e (tb_SEQUENCE_LENGTH l) (tb_SECOND_LOW l) (tb_SECOND_HIGH l) y1 y2 y3 = fr2 l s t u v := by
  have l128 := own_nlt l 128 128 rfl (by omega)
  have l194 := own_nlt l 194 194 rfl (by omega)
  have l224 := own_nlt l 224 224 rfl (by omega)
  have l225 := own_nlt l 225 225 rfl (by omega)
  have l237 := own_nlt l 237 237 rfl (by omega)
  have l238 := own_nlt l 238 238 rfl (by omega)
  have l240 := own_nlt l 240 240 rfl (by omega)
  have l241 := own_nlt l 241 241 rfl (by omega)
  have l244 := own_nlt l 244 244 rfl (by omega)
  have l245 := own_nlt l 245 245 rfl (by omega)
  have g127 := own_gt l 127 127 rfl (by omega)
  have g193 := own_gt l 193 193 rfl (by omega)
  have g223 := own_gt l 223 223 rfl (by omega)
  have g236 := own_gt l 236 236 rfl (by omega)
  have g239 := own_gt l 239 239 rfl (by omega)
  have g243 := own_gt l 243 243 rfl (by omega)
  have e224 := own_neq l 224 224 rfl (by omega)
  have e237 := own_neq l 237 237 rfl (by omega)
  have e240 := own_neq l 240 240 rfl (by omega)
  have e244 := own_neq l 244 244 rfl (by omega)
  simp only [fr1a0, fr2, tb_SEQUENCE_LENGTH, tb_SECOND_LOW, tb_SECOND_HIGH, ↓reduceIte, h1, h2, h3, l128, l194, l224, l225, l237, l238, l240, l241, l244, l245, g127, g193, g223, g236, g239, g243, e224, e237, e240, e244]
  clear l128 l194 l224 l225 l237 l238 l240 l241 l244 l245 g127 g193 g223 g236 g239 g243 e224 e237 e240 e244
  simp
theorem own_g0 (l s t u e v y1 y2 y3 : Int32) (k1 : (1 : Int32) < e ↔ ¬ v < (2 : Int32)) (k2 : (2 : Int32) < e ↔ ¬ v < (3 : Int32)) (k3 : (3 : Int32) < e ↔ ¬ v < (4 : Int32)) (h1 : y1 &&& (255 : Int32) = s) (h2 : y2 &&& (255 : Int32) = t) (h3 : y3 &&& (255 : Int32) = u) (hl : 0 ≤ l.toInt ∧ l.toInt < 256) : fr1a0 e (tb_SEQUENCE_LENGTH l) (tb_SECOND_LOW l) (tb_SECOND_HIGH l) y1 y2 y3 = fr2 l s t u v := by
  have q : (0 ≤ l.toInt ∧ l.toInt ≤ 127) ∨ (128 ≤ l.toInt ∧ l.toInt ≤ 193) ∨ (194 ≤ l.toInt ∧ l.toInt ≤ 223) ∨ (224 ≤ l.toInt ∧ l.toInt ≤ 224) ∨ (225 ≤ l.toInt ∧ l.toInt ≤ 236) ∨ (237 ≤ l.toInt ∧ l.toInt ≤ 237) ∨ (238 ≤ l.toInt ∧ l.toInt ≤ 239) ∨ (240 ≤ l.toInt ∧ l.toInt ≤ 240) ∨ (241 ≤ l.toInt ∧ l.toInt ≤ 243) ∨ (244 ≤ l.toInt ∧ l.toInt ≤ 244) ∨ (245 ≤ l.toInt ∧ l.toInt ≤ 255) := by omega
  rcases q with q | q | q | q | q | q | q | q | q | q | q
  · exact own_g0_0 l s t u e v y1 y2 y3 k1 k2 k3 h1 h2 h3 q
  · exact own_g0_1 l s t u e v y1 y2 y3 k1 k2 k3 h1 h2 h3 q
  · exact own_g0_2 l s t u e v y1 y2 y3 k1 k2 k3 h1 h2 h3 q
  · exact own_g0_3 l s t u e v y1 y2 y3 k1 k2 k3 h1 h2 h3 q
  · exact own_g0_4 l s t u e v y1 y2 y3 k1 k2 k3 h1 h2 h3 q
  · exact own_g0_5 l s t u e v y1 y2 y3 k1 k2 k3 h1 h2 h3 q
  · exact own_g0_6 l s t u e v y1 y2 y3 k1 k2 k3 h1 h2 h3 q
  · exact own_g0_7 l s t u e v y1 y2 y3 k1 k2 k3 h1 h2 h3 q
  · exact own_g0_8 l s t u e v y1 y2 y3 k1 k2 k3 h1 h2 h3 q
  · exact own_g0_9 l s t u e v y1 y2 y3 k1 k2 k3 h1 h2 h3 q
  · exact own_g0_10 l s t u e v y1 y2 y3 k1 k2 k3 h1 h2 h3 q
theorem own_kv0 (e : Int32) (h : 1 ≤ e.toInt ∧ e.toInt ≤ 6) : ((1 : Int32) < e ↔ ¬ e - (0 : Int32) < (2 : Int32)) ∧ ((2 : Int32) < e ↔ ¬ e - (0 : Int32) < (3 : Int32)) ∧ ((3 : Int32) < e ↔ ¬ e - (0 : Int32) < (4 : Int32)) := by
  have q := c_isub e 0
  have q1 := (e - (0 : Int32)).le_toInt
  have q2 := (e - (0 : Int32)).toInt_lt
  have e0 : (0 : Int32).toInt = 0 := rfl
  have e1 : (1 : Int32).toInt = 1 := rfl
  have e2 : (2 : Int32).toInt = 2 := rfl
  have e3 : (3 : Int32).toInt = 3 := rfl
  have e4 : (4 : Int32).toInt = 4 := rfl
  simp only [Int32.lt_iff_toInt_lt]; omega
theorem own_e0 (k : Int32) : 1 ≤ ((1 : Int32) + ((k &&& (1073741823 : Int32)) % (6 : Int32))).toInt ∧ ((1 : Int32) + ((k &&& (1073741823 : Int32)) % (6 : Int32))).toInt ≤ 6 := by
  have r : (k &&& (1073741823 : Int32)).toInt = k.toInt % 1073741824 := c_mask k 1073741823 30 (by decide) (by decide)
  have q := (c_irem (k &&& (1073741823 : Int32)) 6 6 rfl).1 (by omega)
  have q1 := c_iadd 1 ((k &&& (1073741823 : Int32)) % (6 : Int32))
  have q2 := ((1 : Int32) + ((k &&& (1073741823 : Int32)) % (6 : Int32))).le_toInt
  have q3 := ((1 : Int32) + ((k &&& (1073741823 : Int32)) % (6 : Int32))).toInt_lt
  have e : (1 : Int32).toInt = 1 := rfl
  omega
theorem own_g1_0 (l s t u e v y1 y2 y3 : Int32) (k1 : (2 : Int32) < e ↔ ¬ v < (2 : Int32)) (k2 : (3 : Int32) < e ↔ ¬ v < (3 : Int32)) (k3 : (4 : Int32) < e ↔ ¬ v < (4 : Int32)) (h1 : y1 &&& (255 : Int32) = s) (h2 : y2 &&& (255 : Int32) = t) (h3 : y3 &&& (255 : Int32) = u) (hl : 0 ≤ l.toInt ∧ l.toInt ≤ 127) : fr1a1 e (tb_SEQUENCE_LENGTH l) (tb_SECOND_LOW l) (tb_SECOND_HIGH l) y1 y2 y3 = fr2 l s t u v := by
  have l128 := own_lt l 128 128 rfl (by omega)
  have l194 := own_lt l 194 194 rfl (by omega)
  have l224 := own_lt l 224 224 rfl (by omega)
  have l225 := own_lt l 225 225 rfl (by omega)
  have l237 := own_lt l 237 237 rfl (by omega)
  have l238 := own_lt l 238 238 rfl (by omega)
  have l240 := own_lt l 240 240 rfl (by omega)
  have l241 := own_lt l 241 241 rfl (by omega)
  have l244 := own_lt l 244 244 rfl (by omega)
  have l245 := own_lt l 245 245 rfl (by omega)
  have g127 := own_ngt l 127 127 rfl (by omega)
  have g193 := own_ngt l 193 193 rfl (by omega)
  have g223 := own_ngt l 223 223 rfl (by omega)
  have g236 := own_ngt l 236 236 rfl (by omega)
  have g239 := own_ngt l 239 239 rfl (by omega)
  have g243 := own_ngt l 243 243 rfl (by omega)
  have e224 := own_neq l 224 224 rfl (by omega)
  have e237 := own_neq l 237 237 rfl (by omega)
  have e240 := own_neq l 240 240 rfl (by omega)
  have e244 := own_neq l 244 244 rfl (by omega)
  simp only [fr1a1, fr2, tb_SEQUENCE_LENGTH, tb_SECOND_LOW, tb_SECOND_HIGH, ↓reduceIte, h1, h2, h3, l128, l194, l224, l225, l237, l238, l240, l241, l244, l245, g127, g193, g223, g236, g239, g243, e224, e237, e240, e244]
  clear l128 l194 l224 l225 l237 l238 l240 l241 l244 l245 g127 g193 g223 g236 g239 g243 e224 e237 e240 e244
  simp
theorem own_g1_1 (l s t u e v y1 y2 y3 : Int32) (k1 : (2 : Int32) < e ↔ ¬ v < (2 : Int32)) (k2 : (3 : Int32) < e ↔ ¬ v < (3 : Int32)) (k3 : (4 : Int32) < e ↔ ¬ v < (4 : Int32)) (h1 : y1 &&& (255 : Int32) = s) (h2 : y2 &&& (255 : Int32) = t) (h3 : y3 &&& (255 : Int32) = u) (hl : 128 ≤ l.toInt ∧ l.toInt ≤ 193) : fr1a1 e (tb_SEQUENCE_LENGTH l) (tb_SECOND_LOW l) (tb_SECOND_HIGH l) y1 y2 y3 = fr2 l s t u v := by
  have l128 := own_nlt l 128 128 rfl (by omega)
  have l194 := own_lt l 194 194 rfl (by omega)
  have l224 := own_lt l 224 224 rfl (by omega)
  have l225 := own_lt l 225 225 rfl (by omega)
  have l237 := own_lt l 237 237 rfl (by omega)
  have l238 := own_lt l 238 238 rfl (by omega)
  have l240 := own_lt l 240 240 rfl (by omega)
  have l241 := own_lt l 241 241 rfl (by omega)
  have l244 := own_lt l 244 244 rfl (by omega)
  have l245 := own_lt l 245 245 rfl (by omega)
  have g127 := own_gt l 127 127 rfl (by omega)
  have g193 := own_ngt l 193 193 rfl (by omega)
  have g223 := own_ngt l 223 223 rfl (by omega)
  have g236 := own_ngt l 236 236 rfl (by omega)
  have g239 := own_ngt l 239 239 rfl (by omega)
  have g243 := own_ngt l 243 243 rfl (by omega)
  have e224 := own_neq l 224 224 rfl (by omega)
  have e237 := own_neq l 237 237 rfl (by omega)
  have e240 := own_neq l 240 240 rfl (by omega)
  have e244 := own_neq l 244 244 rfl (by omega)
  simp only [fr1a1, fr2, tb_SEQUENCE_LENGTH, tb_SECOND_LOW, tb_SECOND_HIGH, ↓reduceIte, h1, h2, h3, l128, l194, l224, l225, l237, l238, l240, l241, l244, l245, g127, g193, g223, g236, g239, g243, e224, e237, e240, e244]
  clear l128 l194 l224 l225 l237 l238 l240 l241 l244 l245 g127 g193 g223 g236 g239 g243 e224 e237 e240 e244
  simp
theorem own_g1_2 (l s t u e v y1 y2 y3 : Int32) (k1 : (2 : Int32) < e ↔ ¬ v < (2 : Int32)) (k2 : (3 : Int32) < e ↔ ¬ v < (3 : Int32)) (k3 : (4 : Int32) < e ↔ ¬ v < (4 : Int32)) (h1 : y1 &&& (255 : Int32) = s) (h2 : y2 &&& (255 : Int32) = t) (h3 : y3 &&& (255 : Int32) = u) (hl : 194 ≤ l.toInt ∧ l.toInt ≤ 223) : fr1a1 e (tb_SEQUENCE_LENGTH l) (tb_SECOND_LOW l) (tb_SECOND_HIGH l) y1 y2 y3 = fr2 l s t u v := by
  have l128 := own_nlt l 128 128 rfl (by omega)
  have l194 := own_nlt l 194 194 rfl (by omega)
  have l224 := own_lt l 224 224 rfl (by omega)
  have l225 := own_lt l 225 225 rfl (by omega)
  have l237 := own_lt l 237 237 rfl (by omega)
  have l238 := own_lt l 238 238 rfl (by omega)
  have l240 := own_lt l 240 240 rfl (by omega)
  have l241 := own_lt l 241 241 rfl (by omega)
  have l244 := own_lt l 244 244 rfl (by omega)
  have l245 := own_lt l 245 245 rfl (by omega)
  have g127 := own_gt l 127 127 rfl (by omega)
  have g193 := own_gt l 193 193 rfl (by omega)
  have g223 := own_ngt l 223 223 rfl (by omega)
  have g236 := own_ngt l 236 236 rfl (by omega)
  have g239 := own_ngt l 239 239 rfl (by omega)
  have g243 := own_ngt l 243 243 rfl (by omega)
  have e224 := own_neq l 224 224 rfl (by omega)
  have e237 := own_neq l 237 237 rfl (by omega)
  have e240 := own_neq l 240 240 rfl (by omega)
  have e244 := own_neq l 244 244 rfl (by omega)
  simp only [fr1a1, fr2, tb_SEQUENCE_LENGTH, tb_SECOND_LOW, tb_SECOND_HIGH, ↓reduceIte, h1, h2, h3, l128, l194, l224, l225, l237, l238, l240, l241, l244, l245, g127, g193, g223, g236, g239, g243, e224, e237, e240, e244]
  clear l128 l194 l224 l225 l237 l238 l240 l241 l244 l245 g127 g193 g223 g236 g239 g243 e224 e237 e240 e244
  by_cases a2 : v < (2 : Int32)
  · have b : ((2 : Int32) < e) = False := eq_false fun h => k1.mp h a2
    simp [a2, b]
  have b2 : ((2 : Int32) < e) = True := eq_true (k1.mpr a2)
  by_cases c2 : s < (128 : Int32)
  · simp [a2, b2, c2]
  by_cases d2 : (191 : Int32) < s
  · simp [a2, b2, c2, d2]
  simp [a2, b2, c2, d2]
theorem own_g1_3 (l s t u e v y1 y2 y3 : Int32) (k1 : (2 : Int32) < e ↔ ¬ v < (2 : Int32)) (k2 : (3 : Int32) < e ↔ ¬ v < (3 : Int32)) (k3 : (4 : Int32) < e ↔ ¬ v < (4 : Int32)) (h1 : y1 &&& (255 : Int32) = s) (h2 : y2 &&& (255 : Int32) = t) (h3 : y3 &&& (255 : Int32) = u) (hl : 224 ≤ l.toInt ∧ l.toInt ≤ 224) : fr1a1 e (tb_SEQUENCE_LENGTH l) (tb_SECOND_LOW l) (tb_SECOND_HIGH l) y1 y2 y3 = fr2 l s t u v := by
  have l128 := own_nlt l 128 128 rfl (by omega)
  have l194 := own_nlt l 194 194 rfl (by omega)
  have l224 := own_nlt l 224 224 rfl (by omega)
  have l225 := own_lt l 225 225 rfl (by omega)
  have l237 := own_lt l 237 237 rfl (by omega)
  have l238 := own_lt l 238 238 rfl (by omega)
  have l240 := own_lt l 240 240 rfl (by omega)
  have l241 := own_lt l 241 241 rfl (by omega)
  have l244 := own_lt l 244 244 rfl (by omega)
  have l245 := own_lt l 245 245 rfl (by omega)
  have g127 := own_gt l 127 127 rfl (by omega)
  have g193 := own_gt l 193 193 rfl (by omega)
  have g223 := own_gt l 223 223 rfl (by omega)
  have g236 := own_ngt l 236 236 rfl (by omega)
  have g239 := own_ngt l 239 239 rfl (by omega)
  have g243 := own_ngt l 243 243 rfl (by omega)
  have e224 := own_eq l 224 224 rfl (by omega)
  have e237 := own_neq l 237 237 rfl (by omega)
  have e240 := own_neq l 240 240 rfl (by omega)
  have e244 := own_neq l 244 244 rfl (by omega)
  simp only [fr1a1, fr2, tb_SEQUENCE_LENGTH, tb_SECOND_LOW, tb_SECOND_HIGH, ↓reduceIte, h1, h2, h3, l128, l194, l224, l225, l237, l238, l240, l241, l244, l245, g127, g193, g223, g236, g239, g243, e224, e237, e240, e244]
  clear l128 l194 l224 l225 l237 l238 l240 l241 l244 l245 g127 g193 g223 g236 g239 g243 e224 e237 e240 e244
  by_cases a2 : v < (2 : Int32)
  · have b : ((2 : Int32) < e) = False := eq_false fun h => k1.mp h a2
    simp [a2, b]
  have b2 : ((2 : Int32) < e) = True := eq_true (k1.mpr a2)
  by_cases c2 : s < (160 : Int32)
  · simp [a2, b2, c2]
  by_cases d2 : (191 : Int32) < s
  · simp [a2, b2, c2, d2]
  by_cases a3 : v < (3 : Int32)
  · have b : ((3 : Int32) < e) = False := eq_false fun h => k2.mp h a3
    simp [a2, b2, c2, d2, a3, b]
  have b3 : ((3 : Int32) < e) = True := eq_true (k2.mpr a3)
  by_cases c3 : t < (128 : Int32)
  · simp [a2, b2, c2, d2, a3, b3, c3]
  by_cases d3 : (191 : Int32) < t
  · simp [a2, b2, c2, d2, a3, b3, c3, d3]
  simp [a2, b2, c2, d2, a3, b3, c3, d3]
theorem own_g1_4 (l s t u e v y1 y2 y3 : Int32) (k1 : (2 : Int32) < e ↔ ¬ v < (2 : Int32)) (k2 : (3 : Int32) < e ↔ ¬ v < (3 : Int32)) (k3 : (4 : Int32) < e ↔ ¬ v < (4 : Int32)) (h1 : y1 &&& (255 : Int32) = s) (h2 : y2 &&& (255 : Int32) = t) (h3 : y3 &&& (255 : Int32) = u) (hl : 225 ≤ l.toInt ∧ l.toInt ≤ 236) : fr1a1 e (tb_SEQUENCE_LENGTH l) (tb_SECOND_LOW l) (tb_SECOND_HIGH l) y1 y2 y3 = fr2 l s t u v := by
  have l128 := own_nlt l 128 128 rfl (by omega)
  have l194 := own_nlt l 194 194 rfl (by omega)
  have l224 := own_nlt l 224 224 rfl (by omega)
  have l225 := own_nlt l 225 225 rfl (by omega)
  have l237 := own_lt l 237 237 rfl (by omega)
  have l238 := own_lt l 238 238 rfl (by omega)
  have l240 := own_lt l 240 240 rfl (by omega)
  have l241 := own_lt l 241 241 rfl (by omega)
  have l244 := own_lt l 244 244 rfl (by omega)
  have l245 := own_lt l 245 245 rfl (by omega)
  have g127 := own_gt l 127 127 rfl (by omega)
  have g193 := own_gt l 193 193 rfl (by omega)
  have g223 := own_gt l 223 223 rfl (by omega)
  have g236 := own_ngt l 236 236 rfl (by omega)
  have g239 := own_ngt l 239 239 rfl (by omega)
  have g243 := own_ngt l 243 243 rfl (by omega)
  have e224 := own_neq l 224 224 rfl (by omega)
  have e237 := own_neq l 237 237 rfl (by omega)
  have e240 := own_neq l 240 240 rfl (by omega)
  have e244 := own_neq l 244 244 rfl (by omega)
  simp only [fr1a1, fr2, tb_SEQUENCE_LENGTH, tb_SECOND_LOW, tb_SECOND_HIGH, ↓reduceIte, h1, h2, h3, l128, l194, l224, l225, l237, l238, l240, l241, l244, l245, g127, g193, g223, g236, g239, g243, e224, e237, e240, e244]
  clear l128 l194 l224 l225 l237 l238 l240 l241 l244 l245 g127 g193 g223 g236 g239 g243 e224 e237 e240 e244
  by_cases a2 : v < (2 : Int32)
  · have b : ((2 : Int32) < e) = False := eq_false fun h => k1.mp h a2
    simp [a2, b]
  have b2 : ((2 : Int32) < e) = True := eq_true (k1.mpr a2)
  by_cases c2 : s < (128 : Int32)
  · simp [a2, b2, c2]
  by_cases d2 : (191 : Int32) < s
  · simp [a2, b2, c2, d2]
  by_cases a3 : v < (3 : Int32)
  · have b : ((3 : Int32) < e) = False := eq_false fun h => k2.mp h a3
    simp [a2, b2, c2, d2, a3, b]
  have b3 : ((3 : Int32) < e) = True := eq_true (k2.mpr a3)
  by_cases c3 : t < (128 : Int32)
  · simp [a2, b2, c2, d2, a3, b3, c3]
  by_cases d3 : (191 : Int32) < t
  · simp [a2, b2, c2, d2, a3, b3, c3, d3]
  simp [a2, b2, c2, d2, a3, b3, c3, d3]
theorem own_g1_5 (l s t u e v y1 y2 y3 : Int32) (k1 : (2 : Int32) < e ↔ ¬ v < (2 : Int32)) (k2 : (3 : Int32) < e ↔ ¬ v < (3 : Int32)) (k3 : (4 : Int32) < e ↔ ¬ v < (4 : Int32)) (h1 : y1 &&& (255 : Int32) = s) (h2 : y2 &&& (255 : Int32) = t) (h3 : y3 &&& (255 : Int32) = u) (hl : 237 ≤ l.toInt ∧ l.toInt ≤ 237) : fr1a1 e (tb_SEQUENCE_LENGTH l) (tb_SECOND_LOW l) (tb_SECOND_HIGH l) y1 y2 y3 = fr2 l s t u v := by
  have l128 := own_nlt l 128 128 rfl (by omega)
  have l194 := own_nlt l 194 194 rfl (by omega)
  have l224 := own_nlt l 224 224 rfl (by omega)
  have l225 := own_nlt l 225 225 rfl (by omega)
  have l237 := own_nlt l 237 237 rfl (by omega)
  have l238 := own_lt l 238 238 rfl (by omega)
  have l240 := own_lt l 240 240 rfl (by omega)
  have l241 := own_lt l 241 241 rfl (by omega)
  have l244 := own_lt l 244 244 rfl (by omega)
  have l245 := own_lt l 245 245 rfl (by omega)
  have g127 := own_gt l 127 127 rfl (by omega)
  have g193 := own_gt l 193 193 rfl (by omega)
  have g223 := own_gt l 223 223 rfl (by omega)
  have g236 := own_gt l 236 236 rfl (by omega)
  have g239 := own_ngt l 239 239 rfl (by omega)
  have g243 := own_ngt l 243 243 rfl (by omega)
  have e224 := own_neq l 224 224 rfl (by omega)
  have e237 := own_eq l 237 237 rfl (by omega)
  have e240 := own_neq l 240 240 rfl (by omega)
  have e244 := own_neq l 244 244 rfl (by omega)
  simp only [fr1a1, fr2, tb_SEQUENCE_LENGTH, tb_SECOND_LOW, tb_SECOND_HIGH, ↓reduceIte, h1, h2, h3, l128, l194, l224, l225, l237, l238, l240, l241, l244, l245, g127, g193, g223, g236, g239, g243, e224, e237, e240, e244]
  clear l128 l194 l224 l225 l237 l238 l240 l241 l244 l245 g127 g193 g223 g236 g239 g243 e224 e237 e240 e244
  by_cases a2 : v < (2 : Int32)
  · have b : ((2 : Int32) < e) = False := eq_false fun h => k1.mp h a2
    simp [a2, b]
  have b2 : ((2 : Int32) < e) = True := eq_true (k1.mpr a2)
  by_cases c2 : s < (128 : Int32)
  · simp [a2, b2, c2]
  by_cases d2 : (159 : Int32) < s
  · simp [a2, b2, c2, d2]
  by_cases a3 : v < (3 : Int32)
  · have b : ((3 : Int32) < e) = False := eq_false fun h => k2.mp h a3
    simp [a2, b2, c2, d2, a3, b]
  have b3 : ((3 : Int32) < e) = True := eq_true (k2.mpr a3)
  by_cases c3 : t < (128 : Int32)
  · simp [a2, b2, c2, d2, a3, b3, c3]
  by_cases d3 : (191 : Int32) < t
  · simp [a2, b2, c2, d2, a3, b3, c3, d3]
  simp [a2, b2, c2, d2, a3, b3, c3, d3]
theorem own_g1_6 (l s t u e v y1 y2 y3 : Int32) (k1 : (2 : Int32) < e ↔ ¬ v < (2 : Int32)) (k2 : (3 : Int32) < e ↔ ¬ v < (3 : Int32)) (k3 : (4 : Int32) < e ↔ ¬ v < (4 : Int32)) (h1 : y1 &&& (255 : Int32) = s) (h2 : y2 &&& (255 : Int32) = t) (h3 : y3 &&& (255 : Int32) = u) (hl : 238 ≤ l.toInt ∧ l.toInt ≤ 239) : fr1a1 e (tb_SEQUENCE_LENGTH l) (tb_SECOND_LOW l) (tb_SECOND_HIGH l) y1 y2 y3 = fr2 l s t u v := by
  have l128 := own_nlt l 128 128 rfl (by omega)
  have l194 := own_nlt l 194 194 rfl (by omega)
  have l224 := own_nlt l 224 224 rfl (by omega)
  have l225 := own_nlt l 225 225 rfl (by omega)
  have l237 := own_nlt l 237 237 rfl (by omega)
  have l238 := own_nlt l 238 238 rfl (by omega)
  have l240 := own_lt l 240 240 rfl (by omega)
  have l241 := own_lt l 241 241 rfl (by omega)
  have l244 := own_lt l 244 244 rfl (by omega)
  have l245 := own_lt l 245 245 rfl (by omega)
  have g127 := own_gt l 127 127 rfl (by omega)
  have g193 := own_gt l 193 193 rfl (by omega)
  have g223 := own_gt l 223 223 rfl (by omega)
  have g236 := own_gt l 236 236 rfl (by omega)
  have g239 := own_ngt l 239 239 rfl (by omega)
  have g243 := own_ngt l 243 243 rfl (by omega)
  have e224 := own_neq l 224 224 rfl (by omega)
  have e237 := own_neq l 237 237 rfl (by omega)
  have e240 := own_neq l 240 240 rfl (by omega)
  have e244 := own_neq l 244 244 rfl (by omega)
  simp only [fr1a1, fr2, tb_SEQUENCE_LENGTH, tb_SECOND_LOW, tb_SECOND_HIGH, ↓reduceIte, h1, h2, h3, l128, l194, l224, l225, l237, l238, l240, l241, l244, l245, g127, g193, g223, g236, g239, g243, e224, e237, e240, e244]
  clear l128 l194 l224 l225 l237 l238 l240 l241 l244 l245 g127 g193 g223 g236 g239 g243 e224 e237 e240 e244
  by_cases a2 : v < (2 : Int32)
  · have b : ((2 : Int32) < e) = False := eq_false fun h => k1.mp h a2
    simp [a2, b]
  have b2 : ((2 : Int32) < e) = True := eq_true (k1.mpr a2)
  by_cases c2 : s < (128 : Int32)
  · simp [a2, b2, c2]
  by_cases d2 : (191 : Int32) < s
  · simp [a2, b2, c2, d2]
  by_cases a3 : v < (3 : Int32)
  · have b : ((3 : Int32) < e) = False := eq_false fun h => k2.mp h a3
    simp [a2, b2, c2, d2, a3, b]
  have b3 : ((3 : Int32) < e) = True := eq_true (k2.mpr a3)
  by_cases c3 : t < (128 : Int32)
  · simp [a2, b2, c2, d2, a3, b3, c3]
  by_cases d3 : (191 : Int32) < t
  · simp [a2, b2, c2, d2, a3, b3, c3, d3]
  simp [a2, b2, c2, d2, a3, b3, c3, d3]
theorem own_g1_7 (l s t u e v y1 y2 y3 : Int32) (k1 : (2 : Int32) < e ↔ ¬ v < (2 : Int32)) (k2 : (3 : Int32) < e ↔ ¬ v < (3 : Int32)) (k3 : (4 : Int32) < e ↔ ¬ v < (4 : Int32)) (h1 : y1 &&& (255 : Int32) = s) (h2 : y2 &&& (255 : Int32) = t) (h3 : y3 &&& (255 : Int32) = u) (hl : 240 ≤ l.toInt ∧ l.toInt ≤ 240) : fr1a1 e (tb_SEQUENCE_LENGTH l) (tb_SECOND_LOW l) (tb_SECOND_HIGH l) y1 y2 y3 = fr2 l s t u v := by
  have l128 := own_nlt l 128 128 rfl (by omega)
  have l194 := own_nlt l 194 194 rfl (by omega)
  have l224 := own_nlt l 224 224 rfl (by omega)
  have l225 := own_nlt l 225 225 rfl (by omega)
  have l237 := own_nlt l 237 237 rfl (by omega)
  have l238 := own_nlt l 238 238 rfl (by omega)
  have l240 := own_nlt l 240 240 rfl (by omega)
  have l241 := own_lt l 241 241 rfl (by omega)
  have l244 := own_lt l 244 244 rfl (by omega)
  have l245 := own_lt l 245 245 rfl (by omega)
  have g127 := own_gt l 127 127 rfl (by omega)
  have g193 := own_gt l 193 193 rfl (by omega)
  have g223 := own_gt l 223 223 rfl (by omega)
  have g236 := own_gt l 236 236 rfl (by omega)
  have g239 := own_gt l 239 239 rfl (by omega)
  have g243 := own_ngt l 243 243 rfl (by omega)
  have e224 := own_neq l 224 224 rfl (by omega)
  have e237 := own_neq l 237 237 rfl (by omega)
  have e240 := own_eq l 240 240 rfl (by omega)
  have e244 := own_neq l 244 244 rfl (by omega)
  simp only [fr1a1, fr2, tb_SEQUENCE_LENGTH, tb_SECOND_LOW, tb_SECOND_HIGH, ↓reduceIte, h1, h2, h3, l128, l194, l224, l225, l237, l238, l240, l241, l244, l245, g127, g193, g223, g236, g239, g243, e224, e237, e240, e244]
  clear l128 l194 l224 l225 l237 l238 l240 l241 l244 l245 g127 g193 g223 g236 g239 g243 e224 e237 e240 e244
  by_cases a2 : v < (2 : Int32)
  · have b : ((2 : Int32) < e) = False := eq_false fun h => k1.mp h a2
    simp [a2, b]
  have b2 : ((2 : Int32) < e) = True := eq_true (k1.mpr a2)
  by_cases c2 : s < (144 : Int32)
  · simp [a2, b2, c2]
  by_cases d2 : (191 : Int32) < s
  · simp [a2, b2, c2, d2]
  by_cases a3 : v < (3 : Int32)
  · have b : ((3 : Int32) < e) = False := eq_false fun h => k2.mp h a3
    simp [a2, b2, c2, d2, a3, b]
  have b3 : ((3 : Int32) < e) = True := eq_true (k2.mpr a3)
  by_cases c3 : t < (128 : Int32)
  · simp [a2, b2, c2, d2, a3, b3, c3]
  by_cases d3 : (191 : Int32) < t
  · simp [a2, b2, c2, d2, a3, b3, c3, d3]
  by_cases a4 : v < (4 : Int32)
  · have b : ((4 : Int32) < e) = False := eq_false fun h => k3.mp h a4
    simp [a2, b2, c2, d2, a3, b3, c3, d3, a4, b]
  have b4 : ((4 : Int32) < e) = True := eq_true (k3.mpr a4)
  by_cases c4 : u < (128 : Int32)
  · simp [a2, b2, c2, d2, a3, b3, c3, d3, a4, b4, c4]
  by_cases d4 : (191 : Int32) < u
  · simp [a2, b2, c2, d2, a3, b3, c3, d3, a4, b4, c4, d4]
  simp [a2, b2, c2, d2, a3, b3, c3, d3, a4, b4, c4, d4]
theorem own_g1_8 (l s t u e v y1 y2 y3 : Int32) (k1 : (2 : Int32) < e ↔ ¬ v < (2 : Int32)) (k2 : (3 : Int32) < e ↔ ¬ v < (3 : Int32)) (k3 : (4 : Int32) < e ↔ ¬ v < (4 : Int32)) (h1 : y1 &&& (255 : Int32) = s) (h2 : y2 &&& (255 : Int32) = t) (h3 : y3 &&& (255 : Int32) = u) (hl : 241 ≤ l.toInt ∧ l.toInt ≤ 243) : fr1a1 e (tb_SEQUENCE_LENGTH l) (tb_SECOND_LOW l) (tb_SECOND_HIGH l) y1 y2 y3 = fr2 l s t u v := by
  have l128 := own_nlt l 128 128 rfl (by omega)
  have l194 := own_nlt l 194 194 rfl (by omega)
  have l224 := own_nlt l 224 224 rfl (by omega)
  have l225 := own_nlt l 225 225 rfl (by omega)
  have l237 := own_nlt l 237 237 rfl (by omega)
  have l238 := own_nlt l 238 238 rfl (by omega)
  have l240 := own_nlt l 240 240 rfl (by omega)
  have l241 := own_nlt l 241 241 rfl (by omega)
  have l244 := own_lt l 244 244 rfl (by omega)
  have l245 := own_lt l 245 245 rfl (by omega)
  have g127 := own_gt l 127 127 rfl (by omega)
  have g193 := own_gt l 193 193 rfl (by omega)
  have g223 := own_gt l 223 223 rfl (by omega)
  have g236 := own_gt l 236 236 rfl (by omega)
  have g239 := own_gt l 239 239 rfl (by omega)
  have g243 := own_ngt l 243 243 rfl (by omega)
  have e224 := own_neq l 224 224 rfl (by omega)
  have e237 := own_neq l 237 237 rfl (by omega)
  have e240 := own_neq l 240 240 rfl (by omega)
  have e244 := own_neq l 244 244 rfl (by omega)
  simp only [fr1a1, fr2, tb_SEQUENCE_LENGTH, tb_SECOND_LOW, tb_SECOND_HIGH, ↓reduceIte, h1, h2, h3, l128, l194, l224, l225, l237, l238, l240, l241, l244, l245, g127, g193, g223, g236, g239, g243, e224, e237, e240, e244]
  clear l128 l194 l224 l225 l237 l238 l240 l241 l244 l245 g127 g193 g223 g236 g239 g243 e224 e237 e240 e244
  by_cases a2 : v < (2 : Int32)
  · have b : ((2 : Int32) < e) = False := eq_false fun h => k1.mp h a2
    simp [a2, b]
  have b2 : ((2 : Int32) < e) = True := eq_true (k1.mpr a2)
  by_cases c2 : s < (128 : Int32)
  · simp [a2, b2, c2]
  by_cases d2 : (191 : Int32) < s
  · simp [a2, b2, c2, d2]
  by_cases a3 : v < (3 : Int32)
  · have b : ((3 : Int32) < e) = False := eq_false fun h => k2.mp h a3
    simp [a2, b2, c2, d2, a3, b]
  have b3 : ((3 : Int32) < e) = True := eq_true (k2.mpr a3)
  by_cases c3 : t < (128 : Int32)
  · simp [a2, b2, c2, d2, a3, b3, c3]
  by_cases d3 : (191 : Int32) < t
  · simp [a2, b2, c2, d2, a3, b3, c3, d3]
  by_cases a4 : v < (4 : Int32)
  · have b : ((4 : Int32) < e) = False := eq_false fun h => k3.mp h a4
    simp [a2, b2, c2, d2, a3, b3, c3, d3, a4, b]
  have b4 : ((4 : Int32) < e) = True := eq_true (k3.mpr a4)
  by_cases c4 : u < (128 : Int32)
  · simp [a2, b2, c2, d2, a3, b3, c3, d3, a4, b4, c4]
  by_cases d4 : (191 : Int32) < u
  · simp [a2, b2, c2, d2, a3, b3, c3, d3, a4, b4, c4, d4]
  simp [a2, b2, c2, d2, a3, b3, c3, d3, a4, b4, c4, d4]
theorem own_g1_9 (l s t u e v y1 y2 y3 : Int32) (k1 : (2 : Int32) < e ↔ ¬ v < (2 : Int32)) (k2 : (3 : Int32) < e ↔ ¬ v < (3 : Int32)) (k3 : (4 : Int32) < e ↔ ¬ v < (4 : Int32)) (h1 : y1 &&& (255 : Int32) = s) (h2 : y2 &&& (255 : Int32) = t) (h3 : y3 &&& (255 : Int32) = u) (hl : 244 ≤ l.toInt ∧ l.toInt ≤ 244) : fr1a1 e (tb_SEQUENCE_LENGTH l) (tb_SECOND_LOW l) (tb_SECOND_HIGH l) y1 y2 y3 = fr2 l s t u v := by
  have l128 := own_nlt l 128 128 rfl (by omega)
  have l194 := own_nlt l 194 194 rfl (by omega)
  have l224 := own_nlt l 224 224 rfl (by omega)
  have l225 := own_nlt l 225 225 rfl (by omega)
  have l237 := own_nlt l 237 237 rfl (by omega)
  have l238 := own_nlt l 238 238 rfl (by omega)
  have l240 := own_nlt l 240 240 rfl (by omega)
  have l241 := own_nlt l 241 241 rfl (by omega)
  have l244 := own_nlt l 244 244 rfl (by omega)
  have l245 := own_lt l 245 245 rfl (by omega)
  have g127 := own_gt l 127 127 rfl (by omega)
  have g193 := own_gt l 193 193 rfl (by omega)
  have g223 := own_gt l 223 223 rfl (by omega)
  have g236 := own_gt l 236 236 rfl (by omega)
  have g239 := own_gt l 239 239 rfl (by omega)
  have g243 := own_gt l 243 243 rfl (by omega)
  have e224 := own_neq l 224 224 rfl (by omega)
  have e237 := own_neq l 237 237 rfl (by omega)
  have e240 := own_neq l 240 240 rfl (by omega)
  have e244 := own_eq l 244 244 rfl (by omega)
  simp only [fr1a1, fr2, tb_SEQUENCE_LENGTH, tb_SECOND_LOW, tb_SECOND_HIGH, ↓reduceIte, h1, h2, h3, l128, l194, l224, l225, l237, l238, l240, l241, l244, l245, g127, g193, g223, g236, g239, g243, e224, e237, e240, e244]
  clear l128 l194 l224 l225 l237 l238 l240 l241 l244 l245 g127 g193 g223 g236 g239 g243 e224 e237 e240 e244
  by_cases a2 : v < (2 : Int32)
  · have b : ((2 : Int32) < e) = False := eq_false fun h => k1.mp h a2
    simp [a2, b]
  have b2 : ((2 : Int32) < e) = True := eq_true (k1.mpr a2)
  by_cases c2 : s < (128 : Int32)
  · simp [a2, b2, c2]
  by_cases d2 : (143 : Int32) < s
  · simp [a2, b2, c2, d2]
  by_cases a3 : v < (3 : Int32)
  · have b : ((3 : Int32) < e) = False := eq_false fun h => k2.mp h a3
    simp [a2, b2, c2, d2, a3, b]
  have b3 : ((3 : Int32) < e) = True := eq_true (k2.mpr a3)
  by_cases c3 : t < (128 : Int32)
  · simp [a2, b2, c2, d2, a3, b3, c3]
  by_cases d3 : (191 : Int32) < t
  · simp [a2, b2, c2, d2, a3, b3, c3, d3]
  by_cases a4 : v < (4 : Int32)
  · have b : ((4 : Int32) < e) = False := eq_false fun h => k3.mp h a4
    simp [a2, b2, c2, d2, a3, b3, c3, d3, a4, b]
  have b4 : ((4 : Int32) < e) = True := eq_true (k3.mpr a4)
  by_cases c4 : u < (128 : Int32)
  · simp [a2, b2, c2, d2, a3, b3, c3, d3, a4, b4, c4]
  by_cases d4 : (191 : Int32) < u
  · simp [a2, b2, c2, d2, a3, b3, c3, d3, a4, b4, c4, d4]
  simp [a2, b2, c2, d2, a3, b3, c3, d3, a4, b4, c4, d4]
theorem own_g1_10 (l s t u e v y1 y2 y3 : Int32) (k1 : (2 : Int32) < e ↔ ¬ v < (2 : Int32)) (k2 : (3 : Int32) < e ↔ ¬ v < (3 : Int32)) (k3 : (4 : Int32) < e ↔ ¬ v < (4 : Int32)) (h1 : y1 &&& (255 : Int32) = s) (h2 : y2 &&& (255 : Int32) = t) (h3 : y3 &&& (255 : Int32) = u) (hl : 245 ≤ l.toInt ∧ l.toInt ≤ 255) : fr1a1 e (tb_SEQUENCE_LENGTH l) (tb_SECOND_LOW l) (tb_SECOND_HIGH l) y1 y2 y3 = fr2 l s t u v := by
  have l128 := own_nlt l 128 128 rfl (by omega)
  have l194 := own_nlt l 194 194 rfl (by omega)
  have l224 := own_nlt l 224 224 rfl (by omega)
  have l225 := own_nlt l 225 225 rfl (by omega)
  have l237 := own_nlt l 237 237 rfl (by omega)
  have l238 := own_nlt l 238 238 rfl (by omega)
  have l240 := own_nlt l 240 240 rfl (by omega)
  have l241 := own_nlt l 241 241 rfl (by omega)
  have l244 := own_nlt l 244 244 rfl (by omega)
  have l245 := own_nlt l 245 245 rfl (by omega)
  have g127 := own_gt l 127 127 rfl (by omega)
  have g193 := own_gt l 193 193 rfl (by omega)
  have g223 := own_gt l 223 223 rfl (by omega)
  have g236 := own_gt l 236 236 rfl (by omega)
  have g239 := own_gt l 239 239 rfl (by omega)
  have g243 := own_gt l 243 243 rfl (by omega)
  have e224 := own_neq l 224 224 rfl (by omega)
  have e237 := own_neq l 237 237 rfl (by omega)
  have e240 := own_neq l 240 240 rfl (by omega)
  have e244 := own_neq l 244 244 rfl (by omega)
  simp only [fr1a1, fr2, tb_SEQUENCE_LENGTH, tb_SECOND_LOW, tb_SECOND_HIGH, ↓reduceIte, h1, h2, h3, l128, l194, l224, l225, l237, l238, l240, l241, l244, l245, g127, g193, g223, g236, g239, g243, e224, e237, e240, e244]
  clear l128 l194 l224 l225 l237 l238 l240 l241 l244 l245 g127 g193 g223 g236 g239 g243 e224 e237 e240 e244
  simp
theorem own_g1 (l s t u e v y1 y2 y3 : Int32) (k1 : (2 : Int32) < e ↔ ¬ v < (2 : Int32)) (k2 : (3 : Int32) < e ↔ ¬ v < (3 : Int32)) (k3 : (4 : Int32) < e ↔ ¬ v < (4 : Int32)) (h1 : y1 &&& (255 : Int32) = s) (h2 : y2 &&& (255 : Int32) = t) (h3 : y3 &&& (255 : Int32) = u) (hl : 0 ≤ l.toInt ∧ l.toInt < 256) : fr1a1 e (tb_SEQUENCE_LENGTH l) (tb_SECOND_LOW l) (tb_SECOND_HIGH l) y1 y2 y3 = fr2 l s t u v := by
  have q : (0 ≤ l.toInt ∧ l.toInt ≤ 127) ∨ (128 ≤ l.toInt ∧ l.toInt ≤ 193) ∨ (194 ≤ l.toInt ∧ l.toInt ≤ 223) ∨ (224 ≤ l.toInt ∧ l.toInt ≤ 224) ∨ (225 ≤ l.toInt ∧ l.toInt ≤ 236) ∨ (237 ≤ l.toInt ∧ l.toInt ≤ 237) ∨ (238 ≤ l.toInt ∧ l.toInt ≤ 239) ∨ (240 ≤ l.toInt ∧ l.toInt ≤ 240) ∨ (241 ≤ l.toInt ∧ l.toInt ≤ 243) ∨ (244 ≤ l.toInt ∧ l.toInt ≤ 244) ∨ (245 ≤ l.toInt ∧ l.toInt ≤ 255) := by omega
  rcases q with q | q | q | q | q | q | q | q | q | q | q
  · exact own_g1_0 l s t u e v y1 y2 y3 k1 k2 k3 h1 h2 h3 q
  · exact own_g1_1 l s t u e v y1 y2 y3 k1 k2 k3 h1 h2 h3 q
  · exact own_g1_2 l s t u e v y1 y2 y3 k1 k2 k3 h1 h2 h3 q
  · exact own_g1_3 l s t u e v y1 y2 y3 k1 k2 k3 h1 h2 h3 q
  · exact own_g1_4 l s t u e v y1 y2 y3 k1 k2 k3 h1 h2 h3 q
  · exact own_g1_5 l s t u e v y1 y2 y3 k1 k2 k3 h1 h2 h3 q
  · exact own_g1_6 l s t u e v y1 y2 y3 k1 k2 k3 h1 h2 h3 q
  · exact own_g1_7 l s t u e v y1 y2 y3 k1 k2 k3 h1 h2 h3 q
  · exact own_g1_8 l s t u e v y1 y2 y3 k1 k2 k3 h1 h2 h3 q
  · exact own_g1_9 l s t u e v y1 y2 y3 k1 k2 k3 h1 h2 h3 q
  · exact own_g1_10 l s t u e v y1 y2 y3 k1 k2 k3 h1 h2 h3 q
theorem own_kv1 (e : Int32) (h : 2 ≤ e.toInt ∧ e.toInt ≤ 6) : ((2 : Int32) < e ↔ ¬ e - (1 : Int32) < (2 : Int32)) ∧ ((3 : Int32) < e ↔ ¬ e - (1 : Int32) < (3 : Int32)) ∧ ((4 : Int32) < e ↔ ¬ e - (1 : Int32) < (4 : Int32)) := by
  have q := c_isub e 1
  have q1 := (e - (1 : Int32)).le_toInt
  have q2 := (e - (1 : Int32)).toInt_lt
  have e0 : (0 : Int32).toInt = 0 := rfl
  have e1 : (1 : Int32).toInt = 1 := rfl
  have e2 : (2 : Int32).toInt = 2 := rfl
  have e3 : (3 : Int32).toInt = 3 := rfl
  have e4 : (4 : Int32).toInt = 4 := rfl
  simp only [Int32.lt_iff_toInt_lt]; omega
theorem own_e1 (k : Int32) : 2 ≤ ((2 : Int32) + ((k &&& (1073741823 : Int32)) % (5 : Int32))).toInt ∧ ((2 : Int32) + ((k &&& (1073741823 : Int32)) % (5 : Int32))).toInt ≤ 6 := by
  have r : (k &&& (1073741823 : Int32)).toInt = k.toInt % 1073741824 := c_mask k 1073741823 30 (by decide) (by decide)
  have q := (c_irem (k &&& (1073741823 : Int32)) 5 5 rfl).1 (by omega)
  have q1 := c_iadd 2 ((k &&& (1073741823 : Int32)) % (5 : Int32))
  have q2 := ((2 : Int32) + ((k &&& (1073741823 : Int32)) % (5 : Int32))).le_toInt
  have q3 := ((2 : Int32) + ((k &&& (1073741823 : Int32)) % (5 : Int32))).toInt_lt
  have e : (2 : Int32).toInt = 2 := rfl
  omega
theorem law0_112 (pi0 : Int32) (pi1 : Int32) (pi2 : Int32) (pi3 : Int32) (pi5 : Int32) (x4 : Int32) (x66 : Int32) (x75 : Int32) (x84 : Int32) (x93 : Int32) (x104 : Int32) (x109 : Int32) (hx4 : x4 = ((1 : Int32) + ((((pi5.toUInt32 >>> ((1 : Int32) &&& 31).toUInt32).toInt32) &&& (1073741823 : Int32)) % (6 : Int32)))) (hx66 : x66 = (pi0.toInt8.toInt32)) (hx75 : x75 = (pi1.toInt8.toInt32)) (hx84 : x84 = (pi2.toInt8.toInt32)) (hx93 : x93 = (pi3.toInt8.toInt32)) (hx104 : x104 = (fr1a0 x4 (tb_SEQUENCE_LENGTH ((nar .byte x66) &&& (255 : Int32))) (tb_SECOND_LOW ((nar .byte x66) &&& (255 : Int32))) (tb_SECOND_HIGH ((nar .byte x66) &&& (255 : Int32))) (nar .byte x75) (nar .byte x84) (nar .byte x93))) (hx109 : x109 = (fr2 (pi0 &&& (255 : Int32)) (pi1 &&& (255 : Int32)) (pi2 &&& (255 : Int32)) (pi3 &&& (255 : Int32)) (x4 - (0 : Int32)))) (hx1 : (0 : Int32) = (pi5 &&& (1 : Int32))) : x104 = x109 := by
  have r : 1 ≤ x4.toInt ∧ x4.toInt ≤ 6 := by rw [hx4]; exact own_e0 _
  clear hx4
  have k := own_kv0 x4 r
  subst hx66 hx75 hx84 hx93 hx104 hx109
  rw [own_b255 pi0]
  exact own_g0 _ _ _ _ x4 _ _ _ _ k.1 k.2.1 k.2.2 (own_b255 pi1) (own_b255 pi2) (own_b255 pi3) (own_l pi0)
theorem law0_222 (pi0 : Int32) (pi1 : Int32) (pi2 : Int32) (pi3 : Int32) (pi5 : Int32) (x114 : Int32) (x176 : Int32) (x185 : Int32) (x194 : Int32) (x203 : Int32) (x214 : Int32) (x219 : Int32) (hx114 : x114 = ((2 : Int32) + ((((pi5.toUInt32 >>> ((1 : Int32) &&& 31).toUInt32).toInt32) &&& (1073741823 : Int32)) % (5 : Int32)))) (hx176 : x176 = (pi0.toInt8.toInt32)) (hx185 : x185 = (pi1.toInt8.toInt32)) (hx194 : x194 = (pi2.toInt8.toInt32)) (hx203 : x203 = (pi3.toInt8.toInt32)) (hx214 : x214 = (fr1a1 x114 (tb_SEQUENCE_LENGTH ((nar .byte x176) &&& (255 : Int32))) (tb_SECOND_LOW ((nar .byte x176) &&& (255 : Int32))) (tb_SECOND_HIGH ((nar .byte x176) &&& (255 : Int32))) (nar .byte x185) (nar .byte x194) (nar .byte x203))) (hx219 : x219 = (fr2 (pi0 &&& (255 : Int32)) (pi1 &&& (255 : Int32)) (pi2 &&& (255 : Int32)) (pi3 &&& (255 : Int32)) (x114 - (1 : Int32)))) (hx1 : (1 : Int32) = (pi5 &&& (1 : Int32))) : x214 = x219 := by
  have r : 2 ≤ x114.toInt ∧ x114.toInt ≤ 6 := by rw [hx114]; exact own_e1 _
  clear hx114
  have k := own_kv1 x114 r
  subst hx176 hx185 hx194 hx203 hx214 hx219
  rw [own_b255 pi0]
  exact own_g1 _ _ _ _ x114 _ _ _ _ k.1 k.2.1 k.2.2 (own_b255 pi1) (own_b255 pi2) (own_b255 pi3) (own_l pi0)
theorem pd___BII_I : parseMethodDescriptor "([BII)I" = some ⟨[(.array .byte), .int, .int], some .int⟩ := by decide +kernel
theorem pd__IIIII_I : parseMethodDescriptor "(IIIII)I" = some ⟨[.int, .int, .int, .int, .int], some .int⟩ := by decide +kernel
theorem ef_0 (m : MethodId) (x0 : Int32) (x1 : Int32) (x2 : Int32) (x3 : Int32) (x4 : Int32) (x5 : Int32) : entryFrame m #[(.int x0), (.int x1), (.int x2), (.int x3), (.int x4), (.int x5)] maxLocals = mkF m 0 #[iv x0, iv x1, iv x2, iv x3, iv x4, iv x5, .unset, .unset, .unset, .unset] [] := by first | (simp [entryFrame, mkF, argsToLocals, Value.category, maxLocals]; done) | rfl
def Q0 (Z : State) (pi0 : Int32) (pi1 : Int32) (pi2 : Int32) (pi3 : Int32) (pi4 : Int32) (pi5 : Int32) (w_SEQUENCE_LENGTH : Addr) (w_SECOND_LOW : Addr) (w_SECOND_HIGH : Addr) (cc_w_SEQUENCE_LENGTH : Cell) (cc_w_SECOND_LOW : Cell) (cc_w_SECOND_HIGH : Cell) (h0 : Heap) (n0 : Nat) (v : Option Value) (h : Heap) (L : List Loc) : Prop := v = some (.int (1 : Int32)) ∧ Fr n0 L
set_option maxRecDepth 65536 in
set_option maxHeartbeats 40000000 in
theorem rm0 (l : Launch) (Z : State) (a0 : Array Value) (hw : ∀ d ∈ tables_1, d.before a0 Z = true) (ws : List Jvm.Cond) (pi0 : Int32) (pi1 : Int32) (pi2 : Int32) (pi3 : Int32) (pi4 : Int32) (pi5 : Int32) (w_SEQUENCE_LENGTH : Addr) (w_SECOND_LOW : Addr) (w_SECOND_HIGH : Addr) (cc_w_SEQUENCE_LENGTH : Cell) (cc_w_SECOND_LOW : Cell) (cc_w_SECOND_HIGH : Cell) (h0 : Heap) (n0 : Nat) (O0 : Old Z n0 h0) (S_SEQUENCE_LENGTH : Sta Z Z.heap "com/example/strict_codec/strictcodec/Utf8Grammar" "SEQUENCE_LENGTH" "[B" (.ref w_SEQUENCE_LENGTH)) (S_SECOND_LOW : Sta Z Z.heap "com/example/strict_codec/strictcodec/Utf8Grammar" "SECOND_LOW" "[I" (.ref w_SECOND_LOW)) (S_SECOND_HIGH : Sta Z Z.heap "com/example/strict_codec/strictcodec/Utf8Grammar" "SECOND_HIGH" "[I" (.ref w_SECOND_HIGH)) (TB_SEQUENCE_LENGTH : ∀ j : Int32, ¬ j < 0 → j < (256 : Int32) → ¬ (j < 0 ∨ cc_w_SEQUENCE_LENGTH.slots.size ≤ j.toNatClampNeg) ∧ cc_w_SEQUENCE_LENGTH.slots[j.toNatClampNeg]? = some (.int (tb_SEQUENCE_LENGTH j))) (TB_SECOND_LOW : ∀ j : Int32, ¬ j < 0 → j < (256 : Int32) → ¬ (j < 0 ∨ cc_w_SECOND_LOW.slots.size ≤ j.toNatClampNeg) ∧ cc_w_SECOND_LOW.slots[j.toNatClampNeg]? = some (.int (tb_SECOND_LOW j))) (TB_SECOND_HIGH : ∀ j : Int32, ¬ j < 0 → j < (256 : Int32) → ¬ (j < 0 ∨ cc_w_SECOND_HIGH.slots.size ≤ j.toNatClampNeg) ∧ cc_w_SECOND_HIGH.slots[j.toNatClampNeg]? = some (.int (tb_SECOND_HIGH j))) (AR_w_SEQUENCE_LENGTH : Arr Z Z.heap w_SEQUENCE_LENGTH cc_w_SEQUENCE_LENGTH .byte) (AR_w_SECOND_LOW : Arr Z Z.heap w_SECOND_LOW cc_w_SECOND_LOW .int) (AR_w_SECOND_HIGH : Arr Z Z.heap w_SECOND_HIGH cc_w_SECOND_HIGH .int) :
    MetFree l x (head1 (Jvm.Cond.code x code maxLocals ret :: ws) room_1) (fun a U => a = #[(.int pi0), (.int pi1), (.int pi2), (.int pi3), (.int pi4), (.int pi5)] ∧ Z.Warmed39 U.vm ∧ U.heap = h0) (fun _ _ _ _ _ => True) (fun _ U o U' => ∃ v L, o = .returned v ∧ Q0 Z pi0 pi1 pi2 pi3 pi4 pi5 w_SEQUENCE_LENGTH w_SECOND_LOW w_SECOND_HIGH cc_w_SEQUENCE_LENGTH cc_w_SECOND_LOW cc_w_SECOND_HIGH h0 n0 v U'.heap L ∧ FrameEnd U o U' L room_1.cells room_1.slots) := by
  refine MetFree.of_bodySF (plainFor_of_name pn_com_example_strict_codec_strictcodec_Utf8GrammarSpanPinLaw) hisR ?_
  intro p e s m args below meth c s₁ Bd hml0 hP hK
  obtain ⟨rfl, hZ, hh⟩ := hP
  have hx := Bd.exec
  have hby := Bd.bytes
  have hml : c.maxLocals = 10 := hml0
  have hown : s.vm.findClass "com/example/strict_codec/strictcodec/Utf8GrammarSpanPinLaw" = some m.cls := findClass_of_methodNamed Bd.named
  have hnm := (name_of_methodNamed Bd.named Bd.method).1
  have X0 : Stand p l e room_1 s m #[(.int pi0), (.int pi1), (.int pi2), (.int pi3), (.int pi4), (.int pi5)] below meth c s₁ [] 0 0 := Stand.of_body Bd
  have e0 : s₁.heap = h0 := by rw [← hh, Bd.state]; rfl
  have N0 := Fr.nil n0
  obtain ⟨Go, hGo⟩ : ∃ P : State → Prop, ∀ t, P t ↔ Steps p.tables e below (s₁.setTop (entryFrame m #[(.int pi0), (.int pi1), (.int pi2), (.int pi3), (.int pi4), (.int pi5)] maxLocals)) t := ⟨_, fun _ => Iff.rfl⟩
  have pre0 : ∀ t, Steps p.tables e below (s₁.setTop (mkF m 0 #[iv pi0, iv pi1, iv pi2, iv pi3, iv pi4, iv pi5, .unset, .unset, .unset, .unset] [])) t → Go t := fun t k => (hGo t).mpr (castTop (ef_0 m pi0 pi1 pi2 pi3 pi4 pi5) k)
  obtain ⟨x1, hx1⟩ : ∃ z : Int32, z = (pi5 &&& (1 : Int32)) := ⟨_, rfl⟩
  have pre2 : ∀ t, Steps p.tables e below (s₁.setTop (mkF m 6 #[iv pi0, iv pi1, iv pi2, iv pi3, iv pi4, iv pi5, iv x1, .unset, .unset, .unset] [])) t → Go t := fun t kt => pre0 t (by
      subst hx1
      refine y_iload X0.here hx (hb hby at_0) rfl (pc' := 2) rfl ?_
      refine y_iconst X0.here hx (hb hby at_2) (v := (1 : Int32)) rfl (pc' := 3) rfl ?_
      refine y_iand X0.here hx (hb hby at_3) rfl (pc' := 4) rfl ?_
      refine y_istore X0.here hx (hb hby at_4) (l' := #[iv pi0, iv pi1, iv pi2, iv pi3, iv pi4, iv pi5, iv (pi5 &&& (1 : Int32)), .unset, .unset, .unset]) rfl (pc' := 6) rfl ?_
      exact kt)
  have hs6_3 : x1 = (0 : Int32) ∨ x1 = (1 : Int32) := by
      rw [hx1]; exact own_and1 _
  rcases hs6_3 with rfl | rfl
  · skip
    obtain ⟨x4, hx4⟩ : ∃ z : Int32, z = ((1 : Int32) + ((((pi5.toUInt32 >>> ((1 : Int32) &&& 31).toUInt32).toInt32) &&& (1073741823 : Int32)) % (6 : Int32))) := ⟨_, rfl⟩
    have pre5 : ∀ t, Steps p.tables e below (s₁.setTop (mkF m 26 #[iv pi0, iv pi1, iv pi2, iv pi3, iv pi4, iv pi5, iv (0 : Int32), iv x4, .unset, .unset] [])) t → Go t := fun t kt => pre2 t (by
        subst hx4
        refine y_iload X0.here hx (hb hby at_6) rfl (pc' := 8) rfl ?_
        refine y_iconst X0.here hx (hb hby at_8) (v := (1 : Int32)) rfl (pc' := 9) rfl ?_
        refine y_iadd X0.here hx (hb hby at_9) (z := (1 : Int32)) rfl (pc' := 10) rfl ?_
        refine y_iload X0.here hx (hb hby at_10) rfl (pc' := 12) rfl ?_
        refine y_iconst X0.here hx (hb hby at_12) (v := (1 : Int32)) rfl (pc' := 13) rfl ?_
        refine y_iushr X0.here hx (hb hby at_13) (z := ((pi5.toUInt32 >>> ((1 : Int32) &&& 31).toUInt32).toInt32)) rfl (pc' := 14) rfl ?_
        refine X0.ldcInt hx hown (mvT hZ (hw _ (List.mem_of_getElem? (i := 0) rfl))) (g := (mkF m 14 #[iv pi0, iv pi1, iv pi2, iv pi3, iv pi4, iv pi5, iv (0 : Int32), .unset, .unset, .unset] [(.int ((pi5.toUInt32 >>> ((1 : Int32) &&& 31).toUInt32).toInt32)), (.int (1 : Int32))])) rfl (hb hby at_14) _ ?_
        show Steps p.tables e below (s₁.setTop (mkF m 16 #[iv pi0, iv pi1, iv pi2, iv pi3, iv pi4, iv pi5, iv (0 : Int32), .unset, .unset, .unset] [(.int (1073741823 : Int32)), (.int ((pi5.toUInt32 >>> ((1 : Int32) &&& 31).toUInt32).toInt32)), (.int (1 : Int32))])) _
        refine y_iand X0.here hx (hb hby at_16) rfl (pc' := 17) rfl ?_
        refine y_bipush X0.here hx (hb hby at_17) (v := (6 : Int32)) rfl (pc' := 19) rfl ?_
        refine y_iload X0.here hx (hb hby at_19) rfl (pc' := 21) rfl ?_
        refine y_isub X0.here hx (hb hby at_21) (z := (6 : Int32)) rfl (pc' := 22) rfl ?_
        refine iremM (g := (mkF m 22 #[iv pi0, iv pi1, iv pi2, iv pi3, iv pi4, iv pi5, iv (0 : Int32), .unset, .unset, .unset] [(.int (6 : Int32)), (.int (((pi5.toUInt32 >>> ((1 : Int32) &&& 31).toUInt32).toInt32) &&& (1073741823 : Int32))), (.int (1 : Int32))])) X0 hx rfl (hb hby at_22) rfl (by decide) ?_
        show Steps p.tables e below (s₁.setTop (mkF m 23 #[iv pi0, iv pi1, iv pi2, iv pi3, iv pi4, iv pi5, iv (0 : Int32), .unset, .unset, .unset] [(.int ((((pi5.toUInt32 >>> ((1 : Int32) &&& 31).toUInt32).toInt32) &&& (1073741823 : Int32)) % (6 : Int32))), (.int (1 : Int32))])) _
        refine y_iadd X0.here hx (hb hby at_23) rfl (pc' := 24) rfl ?_
        refine y_istore X0.here hx (hb hby at_24) (l' := #[iv pi0, iv pi1, iv pi2, iv pi3, iv pi4, iv pi5, iv (0 : Int32), iv ((1 : Int32) + ((((pi5.toUInt32 >>> ((1 : Int32) &&& 31).toUInt32).toInt32) &&& (1073741823 : Int32)) % (6 : Int32))), .unset, .unset]) rfl (pc' := 26) rfl ?_
        exact kt)
    have pre6 : ∀ t, Steps p.tables e below (s₁.setTop (mkF m 28 #[iv pi0, iv pi1, iv pi2, iv pi3, iv pi4, iv pi5, iv (0 : Int32), iv x4, .unset, .unset] [(.int (6 : Int32))])) t → Go t := fun t kt => pre5 t (by
        refine y_bipush X0.here hx (hb hby at_26) (v := (6 : Int32)) rfl (pc' := 28) rfl ?_
        exact kt)
    obtain ⟨T7, h7, k7, X7, e7, E7, A7, st7⟩ := newP X0 hx hZ (hw _ (List.mem_of_getElem? (i := 1) rfl)) e0 (g := (mkF m 28 #[iv pi0, iv pi1, iv pi2, iv pi3, iv pi4, iv pi5, iv (0 : Int32), iv x4, .unset, .unset] [(.int (6 : Int32))])) rfl (hb hby at_28) rfl (by decide) (cap := 6) (by decide) (by decide) (by decide) (by decide)
    obtain ⟨b7, g7⟩ : ∃ z, z = h0.size := ⟨_, rfl⟩
    rw [← g7] at A7 st7
    have pre8 : ∀ t, Steps p.tables e below (T7.setTop (mkF m 30 #[iv pi0, iv pi1, iv pi2, iv pi3, iv pi4, iv pi5, iv (0 : Int32), iv x4, .unset, .unset] [(.ref b7)])) t → Go t := fun t kt => pre6 t (st7 t kt)
    have G9 : n0 ≤ b7 := Nat.le_trans (O0.1 ▸ O0.2.1) (Nat.le_of_eq g7.symm)
    have O9 := O0.ext E7
    have f10 : Arv Z h7 b7 k7 .byte (6 : Int32) [(.int (0 : Int32)), (.int (0 : Int32)), (.int (0 : Int32)), (.int (0 : Int32)), (.int (0 : Int32)), (.int (0 : Int32))] (.int (0 : Int32)) := (Arv.new A7 (by decide)).pad (pad_rep [] (.int (0 : Int32)) 6)
    have pre11 : ∀ t, Steps p.tables e below (T7.setTop (mkF m 38 #[iv pi0, iv pi1, iv pi2, iv pi3, iv pi4, iv pi5, iv (0 : Int32), iv x4, rv b7, .unset] [(.int (pi4.toInt8.toInt32)), (.int (0 : Int32)), (.ref b7)])) t → Go t := fun t kt => pre8 t (by
        refine y_astore X7.here hx (hb hby at_30) rfl (l' := #[iv pi0, iv pi1, iv pi2, iv pi3, iv pi4, iv pi5, iv (0 : Int32), iv x4, rv b7, .unset]) rfl (pc' := 32) rfl ?_
        refine y_aload X7.here hx (hb hby at_32) rfl rfl (pc' := 34) rfl ?_
        refine y_iconst X7.here hx (hb hby at_34) (v := (0 : Int32)) rfl (pc' := 35) rfl ?_
        refine y_iload X7.here hx (hb hby at_35) rfl (pc' := 37) rfl ?_
        refine y_i2b X7.here hx (hb hby at_37) (z := (pi4.toInt8.toInt32)) rfl (pc' := 38) rfl ?_
        exact kt)
    obtain ⟨x12, hx12⟩ : ∃ z : Int32, z = (pi4.toInt8.toInt32) := ⟨_, rfl⟩
    have pre13 : ∀ t, Steps p.tables e below (T7.setTop (mkF m 38 #[iv pi0, iv pi1, iv pi2, iv pi3, iv pi4, iv pi5, iv (0 : Int32), iv x4, rv b7, .unset] [(.int x12), (.int (0 : Int32)), (.ref b7)])) t → Go t := by subst hx12; exact pre11
    obtain ⟨c14, Ar14, q14, S14, M14, H14, G14⟩ := id f10
    have hin14 : ¬ ((0 : Int32) < 0 ∨ c14.slots.size ≤ ((0 : Int32)).toNatClampNeg) := inb_of S14 ⟨by decide, by decide⟩
    obtain ⟨T15, h15, X15, e15, W15, st15⟩ := stB X7 hx hZ e7 Ar14 (j := (0 : Int32)) hin14 (g := (mkF m 38 #[iv pi0, iv pi1, iv pi2, iv pi3, iv pi4, iv pi5, iv (0 : Int32), iv x4, rv b7, .unset] [(.int x12), (.int (0 : Int32)), (.ref b7)])) rfl rfl (hb hby at_38)
    have pre16 : ∀ t, Steps p.tables e below (T15.setTop (mkF m 39 #[iv pi0, iv pi1, iv pi2, iv pi3, iv pi4, iv pi5, iv (0 : Int32), iv x4, rv b7, .unset] [])) t → Go t := fun t kt => pre13 t (st15 t kt)
    have N18 := Fr.snoc X15 N0 G9
    have O18 := O9.wr W15 G9
    have f19 : Arv Z h15 b7 k7 .byte (6 : Int32) [(.int (nar .byte x12)), (.int (0 : Int32)), (.int (0 : Int32)), (.int (0 : Int32)), (.int (0 : Int32)), (.int (0 : Int32))] (.int (0 : Int32)) := Arv.set Ar14 q14 S14 M14 H14 G14 (fits_nar_byte _) W15 0 rfl (Nat.le_of_ble_eq_true rfl)
    have pre20 : ∀ t, Steps p.tables e below (T15.setTop (mkF m 48 #[iv pi0, iv pi1, iv pi2, iv pi3, iv pi4, iv pi5, iv (0 : Int32), iv x4, rv b7, .unset] [(.int (((pi4.toUInt32 >>> ((8 : Int32) &&& 31).toUInt32).toInt32).toInt8.toInt32)), (.int (1 : Int32)), (.ref b7)])) t → Go t := fun t kt => pre16 t (by
        refine y_aload X15.here hx (hb hby at_39) rfl rfl (pc' := 41) rfl ?_
        refine y_iconst X15.here hx (hb hby at_41) (v := (1 : Int32)) rfl (pc' := 42) rfl ?_
        refine y_iload X15.here hx (hb hby at_42) rfl (pc' := 44) rfl ?_
        refine y_bipush X15.here hx (hb hby at_44) (v := (8 : Int32)) rfl (pc' := 46) rfl ?_
        refine y_iushr X15.here hx (hb hby at_46) (z := ((pi4.toUInt32 >>> ((8 : Int32) &&& 31).toUInt32).toInt32)) rfl (pc' := 47) rfl ?_
        refine y_i2b X15.here hx (hb hby at_47) (z := (((pi4.toUInt32 >>> ((8 : Int32) &&& 31).toUInt32).toInt32).toInt8.toInt32)) rfl (pc' := 48) rfl ?_
        exact kt)
    obtain ⟨x21, hx21⟩ : ∃ z : Int32, z = (((pi4.toUInt32 >>> ((8 : Int32) &&& 31).toUInt32).toInt32).toInt8.toInt32) := ⟨_, rfl⟩
    have pre22 : ∀ t, Steps p.tables e below (T15.setTop (mkF m 48 #[iv pi0, iv pi1, iv pi2, iv pi3, iv pi4, iv pi5, iv (0 : Int32), iv x4, rv b7, .unset] [(.int x21), (.int (1 : Int32)), (.ref b7)])) t → Go t := by subst hx21; exact pre20
    obtain ⟨c23, Ar23, q23, S23, M23, H23, G23⟩ := id f19
    have hin23 : ¬ ((1 : Int32) < 0 ∨ c23.slots.size ≤ ((1 : Int32)).toNatClampNeg) := inb_of S23 ⟨by decide, by decide⟩
    obtain ⟨T24, h24, X24, e24, W24, st24⟩ := stB X15 hx hZ e15 Ar23 (j := (1 : Int32)) hin23 (g := (mkF m 48 #[iv pi0, iv pi1, iv pi2, iv pi3, iv pi4, iv pi5, iv (0 : Int32), iv x4, rv b7, .unset] [(.int x21), (.int (1 : Int32)), (.ref b7)])) rfl rfl (hb hby at_48)
    have pre25 : ∀ t, Steps p.tables e below (T24.setTop (mkF m 49 #[iv pi0, iv pi1, iv pi2, iv pi3, iv pi4, iv pi5, iv (0 : Int32), iv x4, rv b7, .unset] [])) t → Go t := fun t kt => pre22 t (st24 t kt)
    have N27 := Fr.snoc X24 N18 G9
    have O27 := O18.wr W24 G9
    have f28 : Arv Z h24 b7 k7 .byte (6 : Int32) [(.int (nar .byte x12)), (.int (nar .byte x21)), (.int (0 : Int32)), (.int (0 : Int32)), (.int (0 : Int32)), (.int (0 : Int32))] (.int (0 : Int32)) := Arv.set Ar23 q23 S23 M23 H23 G23 (fits_nar_byte _) W24 1 rfl (Nat.le_of_ble_eq_true rfl)
    have pre29 : ∀ t, Steps p.tables e below (T24.setTop (mkF m 58 #[iv pi0, iv pi1, iv pi2, iv pi3, iv pi4, iv pi5, iv (0 : Int32), iv x4, rv b7, .unset] [(.int (((pi4.toUInt32 >>> ((12 : Int32) &&& 31).toUInt32).toInt32).toInt8.toInt32)), (.int (2 : Int32)), (.ref b7)])) t → Go t := fun t kt => pre25 t (by
        refine y_aload X24.here hx (hb hby at_49) rfl rfl (pc' := 51) rfl ?_
        refine y_iconst X24.here hx (hb hby at_51) (v := (2 : Int32)) rfl (pc' := 52) rfl ?_
        refine y_iload X24.here hx (hb hby at_52) rfl (pc' := 54) rfl ?_
        refine y_bipush X24.here hx (hb hby at_54) (v := (12 : Int32)) rfl (pc' := 56) rfl ?_
        refine y_iushr X24.here hx (hb hby at_56) (z := ((pi4.toUInt32 >>> ((12 : Int32) &&& 31).toUInt32).toInt32)) rfl (pc' := 57) rfl ?_
        refine y_i2b X24.here hx (hb hby at_57) (z := (((pi4.toUInt32 >>> ((12 : Int32) &&& 31).toUInt32).toInt32).toInt8.toInt32)) rfl (pc' := 58) rfl ?_
        exact kt)
    obtain ⟨x30, hx30⟩ : ∃ z : Int32, z = (((pi4.toUInt32 >>> ((12 : Int32) &&& 31).toUInt32).toInt32).toInt8.toInt32) := ⟨_, rfl⟩
    have pre31 : ∀ t, Steps p.tables e below (T24.setTop (mkF m 58 #[iv pi0, iv pi1, iv pi2, iv pi3, iv pi4, iv pi5, iv (0 : Int32), iv x4, rv b7, .unset] [(.int x30), (.int (2 : Int32)), (.ref b7)])) t → Go t := by subst hx30; exact pre29
    obtain ⟨c32, Ar32, q32, S32, M32, H32, G32⟩ := id f28
    have hin32 : ¬ ((2 : Int32) < 0 ∨ c32.slots.size ≤ ((2 : Int32)).toNatClampNeg) := inb_of S32 ⟨by decide, by decide⟩
    obtain ⟨T33, h33, X33, e33, W33, st33⟩ := stB X24 hx hZ e24 Ar32 (j := (2 : Int32)) hin32 (g := (mkF m 58 #[iv pi0, iv pi1, iv pi2, iv pi3, iv pi4, iv pi5, iv (0 : Int32), iv x4, rv b7, .unset] [(.int x30), (.int (2 : Int32)), (.ref b7)])) rfl rfl (hb hby at_58)
    have pre34 : ∀ t, Steps p.tables e below (T33.setTop (mkF m 59 #[iv pi0, iv pi1, iv pi2, iv pi3, iv pi4, iv pi5, iv (0 : Int32), iv x4, rv b7, .unset] [])) t → Go t := fun t kt => pre31 t (st33 t kt)
    have N36 := Fr.snoc X33 N27 G9
    have O36 := O27.wr W33 G9
    have f37 : Arv Z h33 b7 k7 .byte (6 : Int32) [(.int (nar .byte x12)), (.int (nar .byte x21)), (.int (nar .byte x30)), (.int (0 : Int32)), (.int (0 : Int32)), (.int (0 : Int32))] (.int (0 : Int32)) := Arv.set Ar32 q32 S32 M32 H32 G32 (fits_nar_byte _) W33 2 rfl (Nat.le_of_ble_eq_true rfl)
    have pre38 : ∀ t, Steps p.tables e below (T33.setTop (mkF m 68 #[iv pi0, iv pi1, iv pi2, iv pi3, iv pi4, iv pi5, iv (0 : Int32), iv x4, rv b7, .unset] [(.int (((pi4.toUInt32 >>> ((20 : Int32) &&& 31).toUInt32).toInt32).toInt8.toInt32)), (.int (3 : Int32)), (.ref b7)])) t → Go t := fun t kt => pre34 t (by
        refine y_aload X33.here hx (hb hby at_59) rfl rfl (pc' := 61) rfl ?_
        refine y_iconst X33.here hx (hb hby at_61) (v := (3 : Int32)) rfl (pc' := 62) rfl ?_
        refine y_iload X33.here hx (hb hby at_62) rfl (pc' := 64) rfl ?_
        refine y_bipush X33.here hx (hb hby at_64) (v := (20 : Int32)) rfl (pc' := 66) rfl ?_
        refine y_iushr X33.here hx (hb hby at_66) (z := ((pi4.toUInt32 >>> ((20 : Int32) &&& 31).toUInt32).toInt32)) rfl (pc' := 67) rfl ?_
        refine y_i2b X33.here hx (hb hby at_67) (z := (((pi4.toUInt32 >>> ((20 : Int32) &&& 31).toUInt32).toInt32).toInt8.toInt32)) rfl (pc' := 68) rfl ?_
        exact kt)
    obtain ⟨x39, hx39⟩ : ∃ z : Int32, z = (((pi4.toUInt32 >>> ((20 : Int32) &&& 31).toUInt32).toInt32).toInt8.toInt32) := ⟨_, rfl⟩
    have pre40 : ∀ t, Steps p.tables e below (T33.setTop (mkF m 68 #[iv pi0, iv pi1, iv pi2, iv pi3, iv pi4, iv pi5, iv (0 : Int32), iv x4, rv b7, .unset] [(.int x39), (.int (3 : Int32)), (.ref b7)])) t → Go t := by subst hx39; exact pre38
    obtain ⟨c41, Ar41, q41, S41, M41, H41, G41⟩ := id f37
    have hin41 : ¬ ((3 : Int32) < 0 ∨ c41.slots.size ≤ ((3 : Int32)).toNatClampNeg) := inb_of S41 ⟨by decide, by decide⟩
    obtain ⟨T42, h42, X42, e42, W42, st42⟩ := stB X33 hx hZ e33 Ar41 (j := (3 : Int32)) hin41 (g := (mkF m 68 #[iv pi0, iv pi1, iv pi2, iv pi3, iv pi4, iv pi5, iv (0 : Int32), iv x4, rv b7, .unset] [(.int x39), (.int (3 : Int32)), (.ref b7)])) rfl rfl (hb hby at_68)
    have pre43 : ∀ t, Steps p.tables e below (T42.setTop (mkF m 69 #[iv pi0, iv pi1, iv pi2, iv pi3, iv pi4, iv pi5, iv (0 : Int32), iv x4, rv b7, .unset] [])) t → Go t := fun t kt => pre40 t (st42 t kt)
    have N45 := Fr.snoc X42 N36 G9
    have O45 := O36.wr W42 G9
    have f46 : Arv Z h42 b7 k7 .byte (6 : Int32) [(.int (nar .byte x12)), (.int (nar .byte x21)), (.int (nar .byte x30)), (.int (nar .byte x39)), (.int (0 : Int32)), (.int (0 : Int32))] (.int (0 : Int32)) := Arv.set Ar41 q41 S41 M41 H41 G41 (fits_nar_byte _) W42 3 rfl (Nat.le_of_ble_eq_true rfl)
    have pre47 : ∀ t, Steps p.tables e below (T42.setTop (mkF m 78 #[iv pi0, iv pi1, iv pi2, iv pi3, iv pi4, iv pi5, iv (0 : Int32), iv x4, rv b7, .unset] [(.int (((pi4.toUInt32 >>> ((24 : Int32) &&& 31).toUInt32).toInt32).toInt8.toInt32)), (.int (4 : Int32)), (.ref b7)])) t → Go t := fun t kt => pre43 t (by
        refine y_aload X42.here hx (hb hby at_69) rfl rfl (pc' := 71) rfl ?_
        refine y_iconst X42.here hx (hb hby at_71) (v := (4 : Int32)) rfl (pc' := 72) rfl ?_
        refine y_iload X42.here hx (hb hby at_72) rfl (pc' := 74) rfl ?_
        refine y_bipush X42.here hx (hb hby at_74) (v := (24 : Int32)) rfl (pc' := 76) rfl ?_
        refine y_iushr X42.here hx (hb hby at_76) (z := ((pi4.toUInt32 >>> ((24 : Int32) &&& 31).toUInt32).toInt32)) rfl (pc' := 77) rfl ?_
        refine y_i2b X42.here hx (hb hby at_77) (z := (((pi4.toUInt32 >>> ((24 : Int32) &&& 31).toUInt32).toInt32).toInt8.toInt32)) rfl (pc' := 78) rfl ?_
        exact kt)
    obtain ⟨x48, hx48⟩ : ∃ z : Int32, z = (((pi4.toUInt32 >>> ((24 : Int32) &&& 31).toUInt32).toInt32).toInt8.toInt32) := ⟨_, rfl⟩
    have pre49 : ∀ t, Steps p.tables e below (T42.setTop (mkF m 78 #[iv pi0, iv pi1, iv pi2, iv pi3, iv pi4, iv pi5, iv (0 : Int32), iv x4, rv b7, .unset] [(.int x48), (.int (4 : Int32)), (.ref b7)])) t → Go t := by subst hx48; exact pre47
    obtain ⟨c50, Ar50, q50, S50, M50, H50, G50⟩ := id f46
    have hin50 : ¬ ((4 : Int32) < 0 ∨ c50.slots.size ≤ ((4 : Int32)).toNatClampNeg) := inb_of S50 ⟨by decide, by decide⟩
    obtain ⟨T51, h51, X51, e51, W51, st51⟩ := stB X42 hx hZ e42 Ar50 (j := (4 : Int32)) hin50 (g := (mkF m 78 #[iv pi0, iv pi1, iv pi2, iv pi3, iv pi4, iv pi5, iv (0 : Int32), iv x4, rv b7, .unset] [(.int x48), (.int (4 : Int32)), (.ref b7)])) rfl rfl (hb hby at_78)
    have pre52 : ∀ t, Steps p.tables e below (T51.setTop (mkF m 79 #[iv pi0, iv pi1, iv pi2, iv pi3, iv pi4, iv pi5, iv (0 : Int32), iv x4, rv b7, .unset] [])) t → Go t := fun t kt => pre49 t (st51 t kt)
    have N54 := Fr.snoc X51 N45 G9
    have O54 := O45.wr W51 G9
    have f55 : Arv Z h51 b7 k7 .byte (6 : Int32) [(.int (nar .byte x12)), (.int (nar .byte x21)), (.int (nar .byte x30)), (.int (nar .byte x39)), (.int (nar .byte x48)), (.int (0 : Int32))] (.int (0 : Int32)) := Arv.set Ar50 q50 S50 M50 H50 G50 (fits_nar_byte _) W51 4 rfl (Nat.le_of_ble_eq_true rfl)
    have pre56 : ∀ t, Steps p.tables e below (T51.setTop (mkF m 88 #[iv pi0, iv pi1, iv pi2, iv pi3, iv pi4, iv pi5, iv (0 : Int32), iv x4, rv b7, .unset] [(.int (((pi4.toUInt32 >>> ((16 : Int32) &&& 31).toUInt32).toInt32).toInt8.toInt32)), (.int (5 : Int32)), (.ref b7)])) t → Go t := fun t kt => pre52 t (by
        refine y_aload X51.here hx (hb hby at_79) rfl rfl (pc' := 81) rfl ?_
        refine y_iconst X51.here hx (hb hby at_81) (v := (5 : Int32)) rfl (pc' := 82) rfl ?_
        refine y_iload X51.here hx (hb hby at_82) rfl (pc' := 84) rfl ?_
        refine y_bipush X51.here hx (hb hby at_84) (v := (16 : Int32)) rfl (pc' := 86) rfl ?_
        refine y_iushr X51.here hx (hb hby at_86) (z := ((pi4.toUInt32 >>> ((16 : Int32) &&& 31).toUInt32).toInt32)) rfl (pc' := 87) rfl ?_
        refine y_i2b X51.here hx (hb hby at_87) (z := (((pi4.toUInt32 >>> ((16 : Int32) &&& 31).toUInt32).toInt32).toInt8.toInt32)) rfl (pc' := 88) rfl ?_
        exact kt)
    obtain ⟨x57, hx57⟩ : ∃ z : Int32, z = (((pi4.toUInt32 >>> ((16 : Int32) &&& 31).toUInt32).toInt32).toInt8.toInt32) := ⟨_, rfl⟩
    have pre58 : ∀ t, Steps p.tables e below (T51.setTop (mkF m 88 #[iv pi0, iv pi1, iv pi2, iv pi3, iv pi4, iv pi5, iv (0 : Int32), iv x4, rv b7, .unset] [(.int x57), (.int (5 : Int32)), (.ref b7)])) t → Go t := by subst hx57; exact pre56
    obtain ⟨c59, Ar59, q59, S59, M59, H59, G59⟩ := id f55
    have hin59 : ¬ ((5 : Int32) < 0 ∨ c59.slots.size ≤ ((5 : Int32)).toNatClampNeg) := inb_of S59 ⟨by decide, by decide⟩
    obtain ⟨T60, h60, X60, e60, W60, st60⟩ := stB X51 hx hZ e51 Ar59 (j := (5 : Int32)) hin59 (g := (mkF m 88 #[iv pi0, iv pi1, iv pi2, iv pi3, iv pi4, iv pi5, iv (0 : Int32), iv x4, rv b7, .unset] [(.int x57), (.int (5 : Int32)), (.ref b7)])) rfl rfl (hb hby at_88)
    have pre61 : ∀ t, Steps p.tables e below (T60.setTop (mkF m 89 #[iv pi0, iv pi1, iv pi2, iv pi3, iv pi4, iv pi5, iv (0 : Int32), iv x4, rv b7, .unset] [])) t → Go t := fun t kt => pre58 t (st60 t kt)
    have N63 := Fr.snoc X60 N54 G9
    have O63 := O54.wr W60 G9
    have f64 : Arv Z h60 b7 k7 .byte (6 : Int32) [(.int (nar .byte x12)), (.int (nar .byte x21)), (.int (nar .byte x30)), (.int (nar .byte x39)), (.int (nar .byte x48)), (.int (nar .byte x57))] (.int (0 : Int32)) := Arv.set Ar59 q59 S59 M59 H59 G59 (fits_nar_byte _) W60 5 rfl (Nat.le_of_ble_eq_true rfl)
    have pre65 : ∀ t, Steps p.tables e below (T60.setTop (mkF m 95 #[iv pi0, iv pi1, iv pi2, iv pi3, iv pi4, iv pi5, iv (0 : Int32), iv x4, rv b7, .unset] [(.int (pi0.toInt8.toInt32)), (.int (0 : Int32)), (.ref b7)])) t → Go t := fun t kt => pre61 t (by
        refine y_aload X60.here hx (hb hby at_89) rfl rfl (pc' := 91) rfl ?_
        refine y_iload X60.here hx (hb hby at_91) rfl (pc' := 93) rfl ?_
        refine y_iloadN X60.here hx (hb hby at_93) rfl (pc' := 94) rfl ?_
        refine y_i2b X60.here hx (hb hby at_94) (z := (pi0.toInt8.toInt32)) rfl (pc' := 95) rfl ?_
        exact kt)
    obtain ⟨x66, hx66⟩ : ∃ z : Int32, z = (pi0.toInt8.toInt32) := ⟨_, rfl⟩
    have pre67 : ∀ t, Steps p.tables e below (T60.setTop (mkF m 95 #[iv pi0, iv pi1, iv pi2, iv pi3, iv pi4, iv pi5, iv (0 : Int32), iv x4, rv b7, .unset] [(.int x66), (.int (0 : Int32)), (.ref b7)])) t → Go t := by subst hx66; exact pre65
    obtain ⟨c68, Ar68, q68, S68, M68, H68, G68⟩ := id f64
    have hin68 : ¬ ((0 : Int32) < 0 ∨ c68.slots.size ≤ ((0 : Int32)).toNatClampNeg) := inb_of S68 ⟨by decide, by decide⟩
    obtain ⟨T69, h69, X69, e69, W69, st69⟩ := stB X60 hx hZ e60 Ar68 (j := (0 : Int32)) hin68 (g := (mkF m 95 #[iv pi0, iv pi1, iv pi2, iv pi3, iv pi4, iv pi5, iv (0 : Int32), iv x4, rv b7, .unset] [(.int x66), (.int (0 : Int32)), (.ref b7)])) rfl rfl (hb hby at_95)
    have pre70 : ∀ t, Steps p.tables e below (T69.setTop (mkF m 96 #[iv pi0, iv pi1, iv pi2, iv pi3, iv pi4, iv pi5, iv (0 : Int32), iv x4, rv b7, .unset] [])) t → Go t := fun t kt => pre67 t (st69 t kt)
    have N72 := Fr.snoc X69 N63 G9
    have O72 := O63.wr W69 G9
    have f73 : Arv Z h69 b7 k7 .byte (6 : Int32) [(.int (nar .byte x66)), (.int (nar .byte x21)), (.int (nar .byte x30)), (.int (nar .byte x39)), (.int (nar .byte x48)), (.int (nar .byte x57))] (.int (0 : Int32)) := Arv.set Ar68 q68 S68 M68 H68 G68 (fits_nar_byte _) W69 0 rfl (Nat.le_of_ble_eq_true rfl)
    have pre74 : ∀ t, Steps p.tables e below (T69.setTop (mkF m 104 #[iv pi0, iv pi1, iv pi2, iv pi3, iv pi4, iv pi5, iv (0 : Int32), iv x4, rv b7, .unset] [(.int (pi1.toInt8.toInt32)), (.int (1 : Int32)), (.ref b7)])) t → Go t := fun t kt => pre70 t (by
        refine y_aload X69.here hx (hb hby at_96) rfl rfl (pc' := 98) rfl ?_
        refine y_iload X69.here hx (hb hby at_98) rfl (pc' := 100) rfl ?_
        refine y_iconst X69.here hx (hb hby at_100) (v := (1 : Int32)) rfl (pc' := 101) rfl ?_
        refine y_iadd X69.here hx (hb hby at_101) (z := (1 : Int32)) rfl (pc' := 102) rfl ?_
        refine y_iloadN X69.here hx (hb hby at_102) rfl (pc' := 103) rfl ?_
        refine y_i2b X69.here hx (hb hby at_103) (z := (pi1.toInt8.toInt32)) rfl (pc' := 104) rfl ?_
        exact kt)
    obtain ⟨x75, hx75⟩ : ∃ z : Int32, z = (pi1.toInt8.toInt32) := ⟨_, rfl⟩
    have pre76 : ∀ t, Steps p.tables e below (T69.setTop (mkF m 104 #[iv pi0, iv pi1, iv pi2, iv pi3, iv pi4, iv pi5, iv (0 : Int32), iv x4, rv b7, .unset] [(.int x75), (.int (1 : Int32)), (.ref b7)])) t → Go t := by subst hx75; exact pre74
    obtain ⟨c77, Ar77, q77, S77, M77, H77, G77⟩ := id f73
    have hin77 : ¬ ((1 : Int32) < 0 ∨ c77.slots.size ≤ ((1 : Int32)).toNatClampNeg) := inb_of S77 ⟨by decide, by decide⟩
    obtain ⟨T78, h78, X78, e78, W78, st78⟩ := stB X69 hx hZ e69 Ar77 (j := (1 : Int32)) hin77 (g := (mkF m 104 #[iv pi0, iv pi1, iv pi2, iv pi3, iv pi4, iv pi5, iv (0 : Int32), iv x4, rv b7, .unset] [(.int x75), (.int (1 : Int32)), (.ref b7)])) rfl rfl (hb hby at_104)
    have pre79 : ∀ t, Steps p.tables e below (T78.setTop (mkF m 105 #[iv pi0, iv pi1, iv pi2, iv pi3, iv pi4, iv pi5, iv (0 : Int32), iv x4, rv b7, .unset] [])) t → Go t := fun t kt => pre76 t (st78 t kt)
    have N81 := Fr.snoc X78 N72 G9
    have O81 := O72.wr W78 G9
    have f82 : Arv Z h78 b7 k7 .byte (6 : Int32) [(.int (nar .byte x66)), (.int (nar .byte x75)), (.int (nar .byte x30)), (.int (nar .byte x39)), (.int (nar .byte x48)), (.int (nar .byte x57))] (.int (0 : Int32)) := Arv.set Ar77 q77 S77 M77 H77 G77 (fits_nar_byte _) W78 1 rfl (Nat.le_of_ble_eq_true rfl)
    have pre83 : ∀ t, Steps p.tables e below (T78.setTop (mkF m 113 #[iv pi0, iv pi1, iv pi2, iv pi3, iv pi4, iv pi5, iv (0 : Int32), iv x4, rv b7, .unset] [(.int (pi2.toInt8.toInt32)), (.int (2 : Int32)), (.ref b7)])) t → Go t := fun t kt => pre79 t (by
        refine y_aload X78.here hx (hb hby at_105) rfl rfl (pc' := 107) rfl ?_
        refine y_iload X78.here hx (hb hby at_107) rfl (pc' := 109) rfl ?_
        refine y_iconst X78.here hx (hb hby at_109) (v := (2 : Int32)) rfl (pc' := 110) rfl ?_
        refine y_iadd X78.here hx (hb hby at_110) (z := (2 : Int32)) rfl (pc' := 111) rfl ?_
        refine y_iloadN X78.here hx (hb hby at_111) rfl (pc' := 112) rfl ?_
        refine y_i2b X78.here hx (hb hby at_112) (z := (pi2.toInt8.toInt32)) rfl (pc' := 113) rfl ?_
        exact kt)
    obtain ⟨x84, hx84⟩ : ∃ z : Int32, z = (pi2.toInt8.toInt32) := ⟨_, rfl⟩
    have pre85 : ∀ t, Steps p.tables e below (T78.setTop (mkF m 113 #[iv pi0, iv pi1, iv pi2, iv pi3, iv pi4, iv pi5, iv (0 : Int32), iv x4, rv b7, .unset] [(.int x84), (.int (2 : Int32)), (.ref b7)])) t → Go t := by subst hx84; exact pre83
    obtain ⟨c86, Ar86, q86, S86, M86, H86, G86⟩ := id f82
    have hin86 : ¬ ((2 : Int32) < 0 ∨ c86.slots.size ≤ ((2 : Int32)).toNatClampNeg) := inb_of S86 ⟨by decide, by decide⟩
    obtain ⟨T87, h87, X87, e87, W87, st87⟩ := stB X78 hx hZ e78 Ar86 (j := (2 : Int32)) hin86 (g := (mkF m 113 #[iv pi0, iv pi1, iv pi2, iv pi3, iv pi4, iv pi5, iv (0 : Int32), iv x4, rv b7, .unset] [(.int x84), (.int (2 : Int32)), (.ref b7)])) rfl rfl (hb hby at_113)
    have pre88 : ∀ t, Steps p.tables e below (T87.setTop (mkF m 114 #[iv pi0, iv pi1, iv pi2, iv pi3, iv pi4, iv pi5, iv (0 : Int32), iv x4, rv b7, .unset] [])) t → Go t := fun t kt => pre85 t (st87 t kt)
    have N90 := Fr.snoc X87 N81 G9
    have O90 := O81.wr W87 G9
    have f91 : Arv Z h87 b7 k7 .byte (6 : Int32) [(.int (nar .byte x66)), (.int (nar .byte x75)), (.int (nar .byte x84)), (.int (nar .byte x39)), (.int (nar .byte x48)), (.int (nar .byte x57))] (.int (0 : Int32)) := Arv.set Ar86 q86 S86 M86 H86 G86 (fits_nar_byte _) W87 2 rfl (Nat.le_of_ble_eq_true rfl)
    have pre92 : ∀ t, Steps p.tables e below (T87.setTop (mkF m 122 #[iv pi0, iv pi1, iv pi2, iv pi3, iv pi4, iv pi5, iv (0 : Int32), iv x4, rv b7, .unset] [(.int (pi3.toInt8.toInt32)), (.int (3 : Int32)), (.ref b7)])) t → Go t := fun t kt => pre88 t (by
        refine y_aload X87.here hx (hb hby at_114) rfl rfl (pc' := 116) rfl ?_
        refine y_iload X87.here hx (hb hby at_116) rfl (pc' := 118) rfl ?_
        refine y_iconst X87.here hx (hb hby at_118) (v := (3 : Int32)) rfl (pc' := 119) rfl ?_
        refine y_iadd X87.here hx (hb hby at_119) (z := (3 : Int32)) rfl (pc' := 120) rfl ?_
        refine y_iloadN X87.here hx (hb hby at_120) rfl (pc' := 121) rfl ?_
        refine y_i2b X87.here hx (hb hby at_121) (z := (pi3.toInt8.toInt32)) rfl (pc' := 122) rfl ?_
        exact kt)
    obtain ⟨x93, hx93⟩ : ∃ z : Int32, z = (pi3.toInt8.toInt32) := ⟨_, rfl⟩
    have pre94 : ∀ t, Steps p.tables e below (T87.setTop (mkF m 122 #[iv pi0, iv pi1, iv pi2, iv pi3, iv pi4, iv pi5, iv (0 : Int32), iv x4, rv b7, .unset] [(.int x93), (.int (3 : Int32)), (.ref b7)])) t → Go t := by subst hx93; exact pre92
    obtain ⟨c95, Ar95, q95, S95, M95, H95, G95⟩ := id f91
    have hin95 : ¬ ((3 : Int32) < 0 ∨ c95.slots.size ≤ ((3 : Int32)).toNatClampNeg) := inb_of S95 ⟨by decide, by decide⟩
    obtain ⟨T96, h96, X96, e96, W96, st96⟩ := stB X87 hx hZ e87 Ar95 (j := (3 : Int32)) hin95 (g := (mkF m 122 #[iv pi0, iv pi1, iv pi2, iv pi3, iv pi4, iv pi5, iv (0 : Int32), iv x4, rv b7, .unset] [(.int x93), (.int (3 : Int32)), (.ref b7)])) rfl rfl (hb hby at_122)
    have pre97 : ∀ t, Steps p.tables e below (T96.setTop (mkF m 123 #[iv pi0, iv pi1, iv pi2, iv pi3, iv pi4, iv pi5, iv (0 : Int32), iv x4, rv b7, .unset] [])) t → Go t := fun t kt => pre94 t (st96 t kt)
    have N99 := Fr.snoc X96 N90 G9
    have O99 := O90.wr W96 G9
    have f100 : Arv Z h96 b7 k7 .byte (6 : Int32) [(.int (nar .byte x66)), (.int (nar .byte x75)), (.int (nar .byte x84)), (.int (nar .byte x93)), (.int (nar .byte x48)), (.int (nar .byte x57))] (.int (0 : Int32)) := Arv.set Ar95 q95 S95 M95 H95 G95 (fits_nar_byte _) W96 3 rfl (Nat.le_of_ble_eq_true rfl)
    have pre101 : ∀ t, Steps p.tables e below (T96.setTop (mkF m 129 #[iv pi0, iv pi1, iv pi2, iv pi3, iv pi4, iv pi5, iv (0 : Int32), iv x4, rv b7, .unset] [(.int x4), (.int (0 : Int32)), (.ref b7)])) t → Go t := fun t kt => pre97 t (by
        refine y_aload X96.here hx (hb hby at_123) rfl rfl (pc' := 125) rfl ?_
        refine y_iload X96.here hx (hb hby at_125) rfl (pc' := 127) rfl ?_
        refine y_iload X96.here hx (hb hby at_127) rfl (pc' := 129) rfl ?_
        exact kt)
    obtain ⟨v102, _, ⟨T102, L102, k102, n102⟩, -, X102, ⟨Lc102, hQ102, l102, y102, z102⟩, st102⟩ := Jvm.LawKit.callS X96 hx (y := (⟨"com/example/strict_codec/strictcodec/Utf8Grammar", "span", "([BII)I"⟩ : MethodName)) hown (mvT hZ (hw _ (List.mem_of_getElem? (i := 2) rfl))) (mvT hZ (hw _ (List.mem_of_getElem? (i := 3) rfl))) (mvT hZ (hw _ (List.mem_of_getElem? (i := 4) rfl))) (mvT hZ (hw _ (List.mem_of_getElem? (i := 5) rfl))) (by decide) (backOf (W := 0) (rm1a0 l Z a0 hw [] b7 x4 w_SEQUENCE_LENGTH w_SECOND_LOW w_SECOND_HIGH (tb_SEQUENCE_LENGTH ((nar .byte x66) &&& (255 : Int32))) (tb_SECOND_LOW ((nar .byte x66) &&& (255 : Int32))) (tb_SECOND_HIGH ((nar .byte x66) &&& (255 : Int32))) k7 (nar .byte x66) (nar .byte x75) (nar .byte x84) (nar .byte x93) (nar .byte x48) (nar .byte x57) cc_w_SEQUENCE_LENGTH cc_w_SECOND_LOW cc_w_SECOND_HIGH h96 n0 O99 S_SEQUENCE_LENGTH S_SECOND_LOW S_SECOND_HIGH (TB_SEQUENCE_LENGTH _ (own_b (nar .byte x66)).1 (own_b (nar .byte x66)).2).1 (TB_SEQUENCE_LENGTH _ (own_b (nar .byte x66)).1 (own_b (nar .byte x66)).2).2 (TB_SECOND_LOW _ (own_b (nar .byte x66)).1 (own_b (nar .byte x66)).2).1 (TB_SECOND_LOW _ (own_b (nar .byte x66)).1 (own_b (nar .byte x66)).2).2 (TB_SECOND_HIGH _ (own_b (nar .byte x66)).1 (own_b (nar .byte x66)).2).1 (TB_SECOND_HIGH _ (own_b (nar .byte x66)).1 (own_b (nar .byte x66)).2).2 (own_w4 _) f100 AR_w_SEQUENCE_LENGTH AR_w_SECOND_LOW AR_w_SECOND_HIGH) hZ (hw _ (List.mem_of_getElem? (i := 5) rfl)) (hw _ (List.mem_of_getElem? (i := 4) rfl)) (by decide) (by decide)) (g := (mkF m 129 #[iv pi0, iv pi1, iv pi2, iv pi3, iv pi4, iv pi5, iv (0 : Int32), iv x4, rv b7, .unset] [(.int x4), (.int (0 : Int32)), (.ref b7)])) rfl (by rw [hml]; rfl) (argsL := [(.ref b7), (.int (0 : Int32)), (.int x4)]) (rest := []) (lenOf pd___BII_I rfl) rfl (by show 2 * 0 + _ ≤ _; exact Nat.le_of_eq rfl) (hb hby at_129) (fun _ _ => ⟨rfl, e96, (by decide : 1 + 0 ≤ _), (by decide : 6 + 0 ≤ _)⟩)
    dsimp only [Pt.U, Pt.locs, Pt.cells, Pt.slots] at X102 l102 y102 z102 st102 hQ102
    subst l102 y102 z102
    obtain ⟨hv102, N102q, e102q⟩ := hQ102
    have N103 := Fr.app N99 N102q
    have hw102 := hv102
    obtain ⟨x104, hx104⟩ : ∃ z : Int32, z = (fr1a0 x4 (tb_SEQUENCE_LENGTH ((nar .byte x66) &&& (255 : Int32))) (tb_SECOND_LOW ((nar .byte x66) &&& (255 : Int32))) (tb_SECOND_HIGH ((nar .byte x66) &&& (255 : Int32))) (nar .byte x75) (nar .byte x84) (nar .byte x93)) := ⟨_, rfl⟩
    rw [← hx104] at hw102
    subst hw102
    have pre105 : ∀ t, Steps p.tables e below (T102.setTop (mkF m 132 #[iv pi0, iv pi1, iv pi2, iv pi3, iv pi4, iv pi5, iv (0 : Int32), iv x4, rv b7, .unset] [(.int x104)])) t → Go t := fun t kt => pre101 t (st102 t kt)
    have pre106 : ∀ t, Steps p.tables e below (T102.setTop (mkF m 161 #[iv pi0, iv pi1, iv pi2, iv pi3, iv pi4, iv pi5, iv (0 : Int32), iv x4, rv b7, iv x104] [(.int (x4 - (0 : Int32))), (.int (pi3 &&& (255 : Int32))), (.int (pi2 &&& (255 : Int32))), (.int (pi1 &&& (255 : Int32))), (.int (pi0 &&& (255 : Int32))), (.int x104)])) t → Go t := fun t kt => pre105 t (by
        refine y_istore X102.here hx (hb hby at_132) (l' := #[iv pi0, iv pi1, iv pi2, iv pi3, iv pi4, iv pi5, iv (0 : Int32), iv x4, rv b7, iv x104]) rfl (pc' := 134) rfl ?_
        refine y_iload X102.here hx (hb hby at_134) rfl (pc' := 136) rfl ?_
        refine y_iloadN X102.here hx (hb hby at_136) rfl (pc' := 137) rfl ?_
        refine y_sipush X102.here hx (hb hby at_137) (v := (255 : Int32)) rfl (pc' := 140) rfl ?_
        refine y_iand X102.here hx (hb hby at_140) rfl (pc' := 141) rfl ?_
        refine y_iloadN X102.here hx (hb hby at_141) rfl (pc' := 142) rfl ?_
        refine y_sipush X102.here hx (hb hby at_142) (v := (255 : Int32)) rfl (pc' := 145) rfl ?_
        refine y_iand X102.here hx (hb hby at_145) rfl (pc' := 146) rfl ?_
        refine y_iloadN X102.here hx (hb hby at_146) rfl (pc' := 147) rfl ?_
        refine y_sipush X102.here hx (hb hby at_147) (v := (255 : Int32)) rfl (pc' := 150) rfl ?_
        refine y_iand X102.here hx (hb hby at_150) rfl (pc' := 151) rfl ?_
        refine y_iloadN X102.here hx (hb hby at_151) rfl (pc' := 152) rfl ?_
        refine y_sipush X102.here hx (hb hby at_152) (v := (255 : Int32)) rfl (pc' := 155) rfl ?_
        refine y_iand X102.here hx (hb hby at_155) rfl (pc' := 156) rfl ?_
        refine y_iload X102.here hx (hb hby at_156) rfl (pc' := 158) rfl ?_
        refine y_iload X102.here hx (hb hby at_158) rfl (pc' := 160) rfl ?_
        refine y_isub X102.here hx (hb hby at_160) rfl (pc' := 161) rfl ?_
        exact kt)
    obtain ⟨v107, _, ⟨T107, L107, k107, n107⟩, -, X107, ⟨Lc107, hQ107, l107, y107, z107⟩, st107⟩ := Jvm.LawKit.callS X102 hx (y := (⟨"com/example/strict_codec/strictcodec/Utf8GrammarSpanPinLaw", "expected", "(IIIII)I"⟩ : MethodName)) hown (mvT hZ (hw _ (List.mem_of_getElem? (i := 12) rfl))) (mvT hZ (hw _ (List.mem_of_getElem? (i := 13) rfl))) (mvT hZ (hw _ (List.mem_of_getElem? (i := 14) rfl))) (mvT hZ (hw _ (List.mem_of_getElem? (i := 15) rfl))) (by decide) (backOf (W := 1) (rm2 l Z a0 hw [] (pi0 &&& (255 : Int32)) (pi1 &&& (255 : Int32)) (pi2 &&& (255 : Int32)) (pi3 &&& (255 : Int32)) (x4 - (0 : Int32)) h96 n0 O99 ) hZ (hw _ (List.mem_of_getElem? (i := 15) rfl)) (hw _ (List.mem_of_getElem? (i := 14) rfl)) (by decide) (by decide)) (g := (mkF m 161 #[iv pi0, iv pi1, iv pi2, iv pi3, iv pi4, iv pi5, iv (0 : Int32), iv x4, rv b7, iv x104] [(.int (x4 - (0 : Int32))), (.int (pi3 &&& (255 : Int32))), (.int (pi2 &&& (255 : Int32))), (.int (pi1 &&& (255 : Int32))), (.int (pi0 &&& (255 : Int32))), (.int x104)])) rfl (by rw [hml]; rfl) (argsL := [(.int (pi0 &&& (255 : Int32))), (.int (pi1 &&& (255 : Int32))), (.int (pi2 &&& (255 : Int32))), (.int (pi3 &&& (255 : Int32))), (.int (x4 - (0 : Int32)))]) (rest := [(.int x104)]) (lenOf pd__IIIII_I rfl) rfl (by show 2 * 0 + _ ≤ _; exact Nat.le_of_eq rfl) (hb hby at_161) (fun _ _ => ⟨rfl, e102q, (by decide : 1 + 0 ≤ _), (by decide : 6 + 0 ≤ _)⟩)
    dsimp only [Pt.U, Pt.locs, Pt.cells, Pt.slots] at X107 l107 y107 z107 st107 hQ107
    subst l107 y107 z107
    obtain ⟨hv107, N107q, e107q⟩ := hQ107
    have N108 := Fr.app N103 N107q
    have hw107 := hv107
    obtain ⟨x109, hx109⟩ : ∃ z : Int32, z = (fr2 (pi0 &&& (255 : Int32)) (pi1 &&& (255 : Int32)) (pi2 &&& (255 : Int32)) (pi3 &&& (255 : Int32)) (x4 - (0 : Int32))) := ⟨_, rfl⟩
    rw [← hx109] at hw107
    subst hw107
    have pre110 : ∀ t, Steps p.tables e below (T107.setTop (mkF m 164 #[iv pi0, iv pi1, iv pi2, iv pi3, iv pi4, iv pi5, iv (0 : Int32), iv x4, rv b7, iv x104] [(.int x109), (.int x104)])) t → Go t := fun t kt => pre106 t (st107 t kt)
    have hf164_111 : x104 = x109 := by
        exact law0_112 pi0 pi1 pi2 pi3 pi5 x4 x66 x75 x84 x93 x104 x109 hx4 hx66 hx75 hx84 hx93 hx104 hx109 hx1
    have pre113 : ∀ t, Steps p.tables e below (T107.setTop (mkF m 172 #[iv pi0, iv pi1, iv pi2, iv pi3, iv pi4, iv pi5, iv (0 : Int32), iv x4, rv b7, iv x104] [(.int (1 : Int32))])) t → Go t := fun t kt => pre110 t (by
        refine y_icmpNo X107.here hx (hb hby at_164) (teq hf164_111).2 (pc' := 167) rfl ?_
        refine y_iconst X107.here hx (hb hby at_167) (v := (1 : Int32)) rfl (pc' := 168) rfl ?_
        refine y_goto X107.here hx (hb hby at_168) (pc' := 172) (by decide) rfl ?_
        exact kt)
    obtain ⟨fs, hr, hrun, hended, hW, hsame⟩ := X107.leave (v := some (.int (1 : Int32))) (fun h => by rw [Bd.returns] at h; cases h)
    refine ⟨_, _, (hGo _).mp (pre113 _ ?_), hrun, hended, _, _, rfl, ?_, ⟨_, rfl⟩, hW, hsame.mono (by decide) (by decide)⟩
    · exact retN X107 hx (t := .boolean) Bd.returns (by simp) (hb hby at_172) hr
    · show Q0 Z pi0 pi1 pi2 pi3 pi4 pi5 w_SEQUENCE_LENGTH w_SECOND_LOW w_SECOND_HIGH cc_w_SEQUENCE_LENGTH cc_w_SECOND_LOW cc_w_SECOND_HIGH h0 n0 _ T107.heap _
      rw [e107q]
      exact ⟨rfl, N108⟩
  · skip
    obtain ⟨x114, hx114⟩ : ∃ z : Int32, z = ((2 : Int32) + ((((pi5.toUInt32 >>> ((1 : Int32) &&& 31).toUInt32).toInt32) &&& (1073741823 : Int32)) % (5 : Int32))) := ⟨_, rfl⟩
    have pre115 : ∀ t, Steps p.tables e below (s₁.setTop (mkF m 26 #[iv pi0, iv pi1, iv pi2, iv pi3, iv pi4, iv pi5, iv (1 : Int32), iv x114, .unset, .unset] [])) t → Go t := fun t kt => pre2 t (by
        subst hx114
        refine y_iload X0.here hx (hb hby at_6) rfl (pc' := 8) rfl ?_
        refine y_iconst X0.here hx (hb hby at_8) (v := (1 : Int32)) rfl (pc' := 9) rfl ?_
        refine y_iadd X0.here hx (hb hby at_9) (z := (2 : Int32)) rfl (pc' := 10) rfl ?_
        refine y_iload X0.here hx (hb hby at_10) rfl (pc' := 12) rfl ?_
        refine y_iconst X0.here hx (hb hby at_12) (v := (1 : Int32)) rfl (pc' := 13) rfl ?_
        refine y_iushr X0.here hx (hb hby at_13) (z := ((pi5.toUInt32 >>> ((1 : Int32) &&& 31).toUInt32).toInt32)) rfl (pc' := 14) rfl ?_
        refine X0.ldcInt hx hown (mvT hZ (hw _ (List.mem_of_getElem? (i := 0) rfl))) (g := (mkF m 14 #[iv pi0, iv pi1, iv pi2, iv pi3, iv pi4, iv pi5, iv (1 : Int32), .unset, .unset, .unset] [(.int ((pi5.toUInt32 >>> ((1 : Int32) &&& 31).toUInt32).toInt32)), (.int (2 : Int32))])) rfl (hb hby at_14) _ ?_
        show Steps p.tables e below (s₁.setTop (mkF m 16 #[iv pi0, iv pi1, iv pi2, iv pi3, iv pi4, iv pi5, iv (1 : Int32), .unset, .unset, .unset] [(.int (1073741823 : Int32)), (.int ((pi5.toUInt32 >>> ((1 : Int32) &&& 31).toUInt32).toInt32)), (.int (2 : Int32))])) _
        refine y_iand X0.here hx (hb hby at_16) rfl (pc' := 17) rfl ?_
        refine y_bipush X0.here hx (hb hby at_17) (v := (6 : Int32)) rfl (pc' := 19) rfl ?_
        refine y_iload X0.here hx (hb hby at_19) rfl (pc' := 21) rfl ?_
        refine y_isub X0.here hx (hb hby at_21) (z := (5 : Int32)) rfl (pc' := 22) rfl ?_
        refine iremM (g := (mkF m 22 #[iv pi0, iv pi1, iv pi2, iv pi3, iv pi4, iv pi5, iv (1 : Int32), .unset, .unset, .unset] [(.int (5 : Int32)), (.int (((pi5.toUInt32 >>> ((1 : Int32) &&& 31).toUInt32).toInt32) &&& (1073741823 : Int32))), (.int (2 : Int32))])) X0 hx rfl (hb hby at_22) rfl (by decide) ?_
        show Steps p.tables e below (s₁.setTop (mkF m 23 #[iv pi0, iv pi1, iv pi2, iv pi3, iv pi4, iv pi5, iv (1 : Int32), .unset, .unset, .unset] [(.int ((((pi5.toUInt32 >>> ((1 : Int32) &&& 31).toUInt32).toInt32) &&& (1073741823 : Int32)) % (5 : Int32))), (.int (2 : Int32))])) _
        refine y_iadd X0.here hx (hb hby at_23) rfl (pc' := 24) rfl ?_
        refine y_istore X0.here hx (hb hby at_24) (l' := #[iv pi0, iv pi1, iv pi2, iv pi3, iv pi4, iv pi5, iv (1 : Int32), iv ((2 : Int32) + ((((pi5.toUInt32 >>> ((1 : Int32) &&& 31).toUInt32).toInt32) &&& (1073741823 : Int32)) % (5 : Int32))), .unset, .unset]) rfl (pc' := 26) rfl ?_
        exact kt)
    have pre116 : ∀ t, Steps p.tables e below (s₁.setTop (mkF m 28 #[iv pi0, iv pi1, iv pi2, iv pi3, iv pi4, iv pi5, iv (1 : Int32), iv x114, .unset, .unset] [(.int (6 : Int32))])) t → Go t := fun t kt => pre115 t (by
        refine y_bipush X0.here hx (hb hby at_26) (v := (6 : Int32)) rfl (pc' := 28) rfl ?_
        exact kt)
    obtain ⟨T117, h117, k117, X117, e117, E117, A117, st117⟩ := newP X0 hx hZ (hw _ (List.mem_of_getElem? (i := 1) rfl)) e0 (g := (mkF m 28 #[iv pi0, iv pi1, iv pi2, iv pi3, iv pi4, iv pi5, iv (1 : Int32), iv x114, .unset, .unset] [(.int (6 : Int32))])) rfl (hb hby at_28) rfl (by decide) (cap := 6) (by decide) (by decide) (by decide) (by decide)
    obtain ⟨b117, g117⟩ : ∃ z, z = h0.size := ⟨_, rfl⟩
    rw [← g117] at A117 st117
    have pre118 : ∀ t, Steps p.tables e below (T117.setTop (mkF m 30 #[iv pi0, iv pi1, iv pi2, iv pi3, iv pi4, iv pi5, iv (1 : Int32), iv x114, .unset, .unset] [(.ref b117)])) t → Go t := fun t kt => pre116 t (st117 t kt)
    have G119 : n0 ≤ b117 := Nat.le_trans (O0.1 ▸ O0.2.1) (Nat.le_of_eq g117.symm)
    have O119 := O0.ext E117
    have f120 : Arv Z h117 b117 k117 .byte (6 : Int32) [(.int (0 : Int32)), (.int (0 : Int32)), (.int (0 : Int32)), (.int (0 : Int32)), (.int (0 : Int32)), (.int (0 : Int32))] (.int (0 : Int32)) := (Arv.new A117 (by decide)).pad (pad_rep [] (.int (0 : Int32)) 6)
    have pre121 : ∀ t, Steps p.tables e below (T117.setTop (mkF m 38 #[iv pi0, iv pi1, iv pi2, iv pi3, iv pi4, iv pi5, iv (1 : Int32), iv x114, rv b117, .unset] [(.int (pi4.toInt8.toInt32)), (.int (0 : Int32)), (.ref b117)])) t → Go t := fun t kt => pre118 t (by
        refine y_astore X117.here hx (hb hby at_30) rfl (l' := #[iv pi0, iv pi1, iv pi2, iv pi3, iv pi4, iv pi5, iv (1 : Int32), iv x114, rv b117, .unset]) rfl (pc' := 32) rfl ?_
        refine y_aload X117.here hx (hb hby at_32) rfl rfl (pc' := 34) rfl ?_
        refine y_iconst X117.here hx (hb hby at_34) (v := (0 : Int32)) rfl (pc' := 35) rfl ?_
        refine y_iload X117.here hx (hb hby at_35) rfl (pc' := 37) rfl ?_
        refine y_i2b X117.here hx (hb hby at_37) (z := (pi4.toInt8.toInt32)) rfl (pc' := 38) rfl ?_
        exact kt)
    obtain ⟨x122, hx122⟩ : ∃ z : Int32, z = (pi4.toInt8.toInt32) := ⟨_, rfl⟩
    have pre123 : ∀ t, Steps p.tables e below (T117.setTop (mkF m 38 #[iv pi0, iv pi1, iv pi2, iv pi3, iv pi4, iv pi5, iv (1 : Int32), iv x114, rv b117, .unset] [(.int x122), (.int (0 : Int32)), (.ref b117)])) t → Go t := by subst hx122; exact pre121
    obtain ⟨c124, Ar124, q124, S124, M124, H124, G124⟩ := id f120
    have hin124 : ¬ ((0 : Int32) < 0 ∨ c124.slots.size ≤ ((0 : Int32)).toNatClampNeg) := inb_of S124 ⟨by decide, by decide⟩
    obtain ⟨T125, h125, X125, e125, W125, st125⟩ := stB X117 hx hZ e117 Ar124 (j := (0 : Int32)) hin124 (g := (mkF m 38 #[iv pi0, iv pi1, iv pi2, iv pi3, iv pi4, iv pi5, iv (1 : Int32), iv x114, rv b117, .unset] [(.int x122), (.int (0 : Int32)), (.ref b117)])) rfl rfl (hb hby at_38)
    have pre126 : ∀ t, Steps p.tables e below (T125.setTop (mkF m 39 #[iv pi0, iv pi1, iv pi2, iv pi3, iv pi4, iv pi5, iv (1 : Int32), iv x114, rv b117, .unset] [])) t → Go t := fun t kt => pre123 t (st125 t kt)
    have N128 := Fr.snoc X125 N0 G119
    have O128 := O119.wr W125 G119
    have f129 : Arv Z h125 b117 k117 .byte (6 : Int32) [(.int (nar .byte x122)), (.int (0 : Int32)), (.int (0 : Int32)), (.int (0 : Int32)), (.int (0 : Int32)), (.int (0 : Int32))] (.int (0 : Int32)) := Arv.set Ar124 q124 S124 M124 H124 G124 (fits_nar_byte _) W125 0 rfl (Nat.le_of_ble_eq_true rfl)
    have pre130 : ∀ t, Steps p.tables e below (T125.setTop (mkF m 48 #[iv pi0, iv pi1, iv pi2, iv pi3, iv pi4, iv pi5, iv (1 : Int32), iv x114, rv b117, .unset] [(.int (((pi4.toUInt32 >>> ((8 : Int32) &&& 31).toUInt32).toInt32).toInt8.toInt32)), (.int (1 : Int32)), (.ref b117)])) t → Go t := fun t kt => pre126 t (by
        refine y_aload X125.here hx (hb hby at_39) rfl rfl (pc' := 41) rfl ?_
        refine y_iconst X125.here hx (hb hby at_41) (v := (1 : Int32)) rfl (pc' := 42) rfl ?_
        refine y_iload X125.here hx (hb hby at_42) rfl (pc' := 44) rfl ?_
        refine y_bipush X125.here hx (hb hby at_44) (v := (8 : Int32)) rfl (pc' := 46) rfl ?_
        refine y_iushr X125.here hx (hb hby at_46) (z := ((pi4.toUInt32 >>> ((8 : Int32) &&& 31).toUInt32).toInt32)) rfl (pc' := 47) rfl ?_
        refine y_i2b X125.here hx (hb hby at_47) (z := (((pi4.toUInt32 >>> ((8 : Int32) &&& 31).toUInt32).toInt32).toInt8.toInt32)) rfl (pc' := 48) rfl ?_
        exact kt)
    obtain ⟨x131, hx131⟩ : ∃ z : Int32, z = (((pi4.toUInt32 >>> ((8 : Int32) &&& 31).toUInt32).toInt32).toInt8.toInt32) := ⟨_, rfl⟩
    have pre132 : ∀ t, Steps p.tables e below (T125.setTop (mkF m 48 #[iv pi0, iv pi1, iv pi2, iv pi3, iv pi4, iv pi5, iv (1 : Int32), iv x114, rv b117, .unset] [(.int x131), (.int (1 : Int32)), (.ref b117)])) t → Go t := by subst hx131; exact pre130
    obtain ⟨c133, Ar133, q133, S133, M133, H133, G133⟩ := id f129
    have hin133 : ¬ ((1 : Int32) < 0 ∨ c133.slots.size ≤ ((1 : Int32)).toNatClampNeg) := inb_of S133 ⟨by decide, by decide⟩
    obtain ⟨T134, h134, X134, e134, W134, st134⟩ := stB X125 hx hZ e125 Ar133 (j := (1 : Int32)) hin133 (g := (mkF m 48 #[iv pi0, iv pi1, iv pi2, iv pi3, iv pi4, iv pi5, iv (1 : Int32), iv x114, rv b117, .unset] [(.int x131), (.int (1 : Int32)), (.ref b117)])) rfl rfl (hb hby at_48)
    have pre135 : ∀ t, Steps p.tables e below (T134.setTop (mkF m 49 #[iv pi0, iv pi1, iv pi2, iv pi3, iv pi4, iv pi5, iv (1 : Int32), iv x114, rv b117, .unset] [])) t → Go t := fun t kt => pre132 t (st134 t kt)
    have N137 := Fr.snoc X134 N128 G119
    have O137 := O128.wr W134 G119
    have f138 : Arv Z h134 b117 k117 .byte (6 : Int32) [(.int (nar .byte x122)), (.int (nar .byte x131)), (.int (0 : Int32)), (.int (0 : Int32)), (.int (0 : Int32)), (.int (0 : Int32))] (.int (0 : Int32)) := Arv.set Ar133 q133 S133 M133 H133 G133 (fits_nar_byte _) W134 1 rfl (Nat.le_of_ble_eq_true rfl)
    have pre139 : ∀ t, Steps p.tables e below (T134.setTop (mkF m 58 #[iv pi0, iv pi1, iv pi2, iv pi3, iv pi4, iv pi5, iv (1 : Int32), iv x114, rv b117, .unset] [(.int (((pi4.toUInt32 >>> ((12 : Int32) &&& 31).toUInt32).toInt32).toInt8.toInt32)), (.int (2 : Int32)), (.ref b117)])) t → Go t := fun t kt => pre135 t (by
        refine y_aload X134.here hx (hb hby at_49) rfl rfl (pc' := 51) rfl ?_
        refine y_iconst X134.here hx (hb hby at_51) (v := (2 : Int32)) rfl (pc' := 52) rfl ?_
        refine y_iload X134.here hx (hb hby at_52) rfl (pc' := 54) rfl ?_
        refine y_bipush X134.here hx (hb hby at_54) (v := (12 : Int32)) rfl (pc' := 56) rfl ?_
        refine y_iushr X134.here hx (hb hby at_56) (z := ((pi4.toUInt32 >>> ((12 : Int32) &&& 31).toUInt32).toInt32)) rfl (pc' := 57) rfl ?_
        refine y_i2b X134.here hx (hb hby at_57) (z := (((pi4.toUInt32 >>> ((12 : Int32) &&& 31).toUInt32).toInt32).toInt8.toInt32)) rfl (pc' := 58) rfl ?_
        exact kt)
    obtain ⟨x140, hx140⟩ : ∃ z : Int32, z = (((pi4.toUInt32 >>> ((12 : Int32) &&& 31).toUInt32).toInt32).toInt8.toInt32) := ⟨_, rfl⟩
    have pre141 : ∀ t, Steps p.tables e below (T134.setTop (mkF m 58 #[iv pi0, iv pi1, iv pi2, iv pi3, iv pi4, iv pi5, iv (1 : Int32), iv x114, rv b117, .unset] [(.int x140), (.int (2 : Int32)), (.ref b117)])) t → Go t := by subst hx140; exact pre139
    obtain ⟨c142, Ar142, q142, S142, M142, H142, G142⟩ := id f138
    have hin142 : ¬ ((2 : Int32) < 0 ∨ c142.slots.size ≤ ((2 : Int32)).toNatClampNeg) := inb_of S142 ⟨by decide, by decide⟩
    obtain ⟨T143, h143, X143, e143, W143, st143⟩ := stB X134 hx hZ e134 Ar142 (j := (2 : Int32)) hin142 (g := (mkF m 58 #[iv pi0, iv pi1, iv pi2, iv pi3, iv pi4, iv pi5, iv (1 : Int32), iv x114, rv b117, .unset] [(.int x140), (.int (2 : Int32)), (.ref b117)])) rfl rfl (hb hby at_58)
    have pre144 : ∀ t, Steps p.tables e below (T143.setTop (mkF m 59 #[iv pi0, iv pi1, iv pi2, iv pi3, iv pi4, iv pi5, iv (1 : Int32), iv x114, rv b117, .unset] [])) t → Go t := fun t kt => pre141 t (st143 t kt)
    have N146 := Fr.snoc X143 N137 G119
    have O146 := O137.wr W143 G119
    have f147 : Arv Z h143 b117 k117 .byte (6 : Int32) [(.int (nar .byte x122)), (.int (nar .byte x131)), (.int (nar .byte x140)), (.int (0 : Int32)), (.int (0 : Int32)), (.int (0 : Int32))] (.int (0 : Int32)) := Arv.set Ar142 q142 S142 M142 H142 G142 (fits_nar_byte _) W143 2 rfl (Nat.le_of_ble_eq_true rfl)
    have pre148 : ∀ t, Steps p.tables e below (T143.setTop (mkF m 68 #[iv pi0, iv pi1, iv pi2, iv pi3, iv pi4, iv pi5, iv (1 : Int32), iv x114, rv b117, .unset] [(.int (((pi4.toUInt32 >>> ((20 : Int32) &&& 31).toUInt32).toInt32).toInt8.toInt32)), (.int (3 : Int32)), (.ref b117)])) t → Go t := fun t kt => pre144 t (by
        refine y_aload X143.here hx (hb hby at_59) rfl rfl (pc' := 61) rfl ?_
        refine y_iconst X143.here hx (hb hby at_61) (v := (3 : Int32)) rfl (pc' := 62) rfl ?_
        refine y_iload X143.here hx (hb hby at_62) rfl (pc' := 64) rfl ?_
        refine y_bipush X143.here hx (hb hby at_64) (v := (20 : Int32)) rfl (pc' := 66) rfl ?_
        refine y_iushr X143.here hx (hb hby at_66) (z := ((pi4.toUInt32 >>> ((20 : Int32) &&& 31).toUInt32).toInt32)) rfl (pc' := 67) rfl ?_
        refine y_i2b X143.here hx (hb hby at_67) (z := (((pi4.toUInt32 >>> ((20 : Int32) &&& 31).toUInt32).toInt32).toInt8.toInt32)) rfl (pc' := 68) rfl ?_
        exact kt)
    obtain ⟨x149, hx149⟩ : ∃ z : Int32, z = (((pi4.toUInt32 >>> ((20 : Int32) &&& 31).toUInt32).toInt32).toInt8.toInt32) := ⟨_, rfl⟩
    have pre150 : ∀ t, Steps p.tables e below (T143.setTop (mkF m 68 #[iv pi0, iv pi1, iv pi2, iv pi3, iv pi4, iv pi5, iv (1 : Int32), iv x114, rv b117, .unset] [(.int x149), (.int (3 : Int32)), (.ref b117)])) t → Go t := by subst hx149; exact pre148
    obtain ⟨c151, Ar151, q151, S151, M151, H151, G151⟩ := id f147
    have hin151 : ¬ ((3 : Int32) < 0 ∨ c151.slots.size ≤ ((3 : Int32)).toNatClampNeg) := inb_of S151 ⟨by decide, by decide⟩
    obtain ⟨T152, h152, X152, e152, W152, st152⟩ := stB X143 hx hZ e143 Ar151 (j := (3 : Int32)) hin151 (g := (mkF m 68 #[iv pi0, iv pi1, iv pi2, iv pi3, iv pi4, iv pi5, iv (1 : Int32), iv x114, rv b117, .unset] [(.int x149), (.int (3 : Int32)), (.ref b117)])) rfl rfl (hb hby at_68)
    have pre153 : ∀ t, Steps p.tables e below (T152.setTop (mkF m 69 #[iv pi0, iv pi1, iv pi2, iv pi3, iv pi4, iv pi5, iv (1 : Int32), iv x114, rv b117, .unset] [])) t → Go t := fun t kt => pre150 t (st152 t kt)
    have N155 := Fr.snoc X152 N146 G119
    have O155 := O146.wr W152 G119
    have f156 : Arv Z h152 b117 k117 .byte (6 : Int32) [(.int (nar .byte x122)), (.int (nar .byte x131)), (.int (nar .byte x140)), (.int (nar .byte x149)), (.int (0 : Int32)), (.int (0 : Int32))] (.int (0 : Int32)) := Arv.set Ar151 q151 S151 M151 H151 G151 (fits_nar_byte _) W152 3 rfl (Nat.le_of_ble_eq_true rfl)
    have pre157 : ∀ t, Steps p.tables e below (T152.setTop (mkF m 78 #[iv pi0, iv pi1, iv pi2, iv pi3, iv pi4, iv pi5, iv (1 : Int32), iv x114, rv b117, .unset] [(.int (((pi4.toUInt32 >>> ((24 : Int32) &&& 31).toUInt32).toInt32).toInt8.toInt32)), (.int (4 : Int32)), (.ref b117)])) t → Go t := fun t kt => pre153 t (by
        refine y_aload X152.here hx (hb hby at_69) rfl rfl (pc' := 71) rfl ?_
        refine y_iconst X152.here hx (hb hby at_71) (v := (4 : Int32)) rfl (pc' := 72) rfl ?_
        refine y_iload X152.here hx (hb hby at_72) rfl (pc' := 74) rfl ?_
        refine y_bipush X152.here hx (hb hby at_74) (v := (24 : Int32)) rfl (pc' := 76) rfl ?_
        refine y_iushr X152.here hx (hb hby at_76) (z := ((pi4.toUInt32 >>> ((24 : Int32) &&& 31).toUInt32).toInt32)) rfl (pc' := 77) rfl ?_
        refine y_i2b X152.here hx (hb hby at_77) (z := (((pi4.toUInt32 >>> ((24 : Int32) &&& 31).toUInt32).toInt32).toInt8.toInt32)) rfl (pc' := 78) rfl ?_
        exact kt)
    obtain ⟨x158, hx158⟩ : ∃ z : Int32, z = (((pi4.toUInt32 >>> ((24 : Int32) &&& 31).toUInt32).toInt32).toInt8.toInt32) := ⟨_, rfl⟩
    have pre159 : ∀ t, Steps p.tables e below (T152.setTop (mkF m 78 #[iv pi0, iv pi1, iv pi2, iv pi3, iv pi4, iv pi5, iv (1 : Int32), iv x114, rv b117, .unset] [(.int x158), (.int (4 : Int32)), (.ref b117)])) t → Go t := by subst hx158; exact pre157
    obtain ⟨c160, Ar160, q160, S160, M160, H160, G160⟩ := id f156
    have hin160 : ¬ ((4 : Int32) < 0 ∨ c160.slots.size ≤ ((4 : Int32)).toNatClampNeg) := inb_of S160 ⟨by decide, by decide⟩
    obtain ⟨T161, h161, X161, e161, W161, st161⟩ := stB X152 hx hZ e152 Ar160 (j := (4 : Int32)) hin160 (g := (mkF m 78 #[iv pi0, iv pi1, iv pi2, iv pi3, iv pi4, iv pi5, iv (1 : Int32), iv x114, rv b117, .unset] [(.int x158), (.int (4 : Int32)), (.ref b117)])) rfl rfl (hb hby at_78)
    have pre162 : ∀ t, Steps p.tables e below (T161.setTop (mkF m 79 #[iv pi0, iv pi1, iv pi2, iv pi3, iv pi4, iv pi5, iv (1 : Int32), iv x114, rv b117, .unset] [])) t → Go t := fun t kt => pre159 t (st161 t kt)
    have N164 := Fr.snoc X161 N155 G119
    have O164 := O155.wr W161 G119
    have f165 : Arv Z h161 b117 k117 .byte (6 : Int32) [(.int (nar .byte x122)), (.int (nar .byte x131)), (.int (nar .byte x140)), (.int (nar .byte x149)), (.int (nar .byte x158)), (.int (0 : Int32))] (.int (0 : Int32)) := Arv.set Ar160 q160 S160 M160 H160 G160 (fits_nar_byte _) W161 4 rfl (Nat.le_of_ble_eq_true rfl)
    have pre166 : ∀ t, Steps p.tables e below (T161.setTop (mkF m 88 #[iv pi0, iv pi1, iv pi2, iv pi3, iv pi4, iv pi5, iv (1 : Int32), iv x114, rv b117, .unset] [(.int (((pi4.toUInt32 >>> ((16 : Int32) &&& 31).toUInt32).toInt32).toInt8.toInt32)), (.int (5 : Int32)), (.ref b117)])) t → Go t := fun t kt => pre162 t (by
        refine y_aload X161.here hx (hb hby at_79) rfl rfl (pc' := 81) rfl ?_
        refine y_iconst X161.here hx (hb hby at_81) (v := (5 : Int32)) rfl (pc' := 82) rfl ?_
        refine y_iload X161.here hx (hb hby at_82) rfl (pc' := 84) rfl ?_
        refine y_bipush X161.here hx (hb hby at_84) (v := (16 : Int32)) rfl (pc' := 86) rfl ?_
        refine y_iushr X161.here hx (hb hby at_86) (z := ((pi4.toUInt32 >>> ((16 : Int32) &&& 31).toUInt32).toInt32)) rfl (pc' := 87) rfl ?_
        refine y_i2b X161.here hx (hb hby at_87) (z := (((pi4.toUInt32 >>> ((16 : Int32) &&& 31).toUInt32).toInt32).toInt8.toInt32)) rfl (pc' := 88) rfl ?_
        exact kt)
    obtain ⟨x167, hx167⟩ : ∃ z : Int32, z = (((pi4.toUInt32 >>> ((16 : Int32) &&& 31).toUInt32).toInt32).toInt8.toInt32) := ⟨_, rfl⟩
    have pre168 : ∀ t, Steps p.tables e below (T161.setTop (mkF m 88 #[iv pi0, iv pi1, iv pi2, iv pi3, iv pi4, iv pi5, iv (1 : Int32), iv x114, rv b117, .unset] [(.int x167), (.int (5 : Int32)), (.ref b117)])) t → Go t := by subst hx167; exact pre166
    obtain ⟨c169, Ar169, q169, S169, M169, H169, G169⟩ := id f165
    have hin169 : ¬ ((5 : Int32) < 0 ∨ c169.slots.size ≤ ((5 : Int32)).toNatClampNeg) := inb_of S169 ⟨by decide, by decide⟩
    obtain ⟨T170, h170, X170, e170, W170, st170⟩ := stB X161 hx hZ e161 Ar169 (j := (5 : Int32)) hin169 (g := (mkF m 88 #[iv pi0, iv pi1, iv pi2, iv pi3, iv pi4, iv pi5, iv (1 : Int32), iv x114, rv b117, .unset] [(.int x167), (.int (5 : Int32)), (.ref b117)])) rfl rfl (hb hby at_88)
    have pre171 : ∀ t, Steps p.tables e below (T170.setTop (mkF m 89 #[iv pi0, iv pi1, iv pi2, iv pi3, iv pi4, iv pi5, iv (1 : Int32), iv x114, rv b117, .unset] [])) t → Go t := fun t kt => pre168 t (st170 t kt)
    have N173 := Fr.snoc X170 N164 G119
    have O173 := O164.wr W170 G119
    have f174 : Arv Z h170 b117 k117 .byte (6 : Int32) [(.int (nar .byte x122)), (.int (nar .byte x131)), (.int (nar .byte x140)), (.int (nar .byte x149)), (.int (nar .byte x158)), (.int (nar .byte x167))] (.int (0 : Int32)) := Arv.set Ar169 q169 S169 M169 H169 G169 (fits_nar_byte _) W170 5 rfl (Nat.le_of_ble_eq_true rfl)
    have pre175 : ∀ t, Steps p.tables e below (T170.setTop (mkF m 95 #[iv pi0, iv pi1, iv pi2, iv pi3, iv pi4, iv pi5, iv (1 : Int32), iv x114, rv b117, .unset] [(.int (pi0.toInt8.toInt32)), (.int (1 : Int32)), (.ref b117)])) t → Go t := fun t kt => pre171 t (by
        refine y_aload X170.here hx (hb hby at_89) rfl rfl (pc' := 91) rfl ?_
        refine y_iload X170.here hx (hb hby at_91) rfl (pc' := 93) rfl ?_
        refine y_iloadN X170.here hx (hb hby at_93) rfl (pc' := 94) rfl ?_
        refine y_i2b X170.here hx (hb hby at_94) (z := (pi0.toInt8.toInt32)) rfl (pc' := 95) rfl ?_
        exact kt)
    obtain ⟨x176, hx176⟩ : ∃ z : Int32, z = (pi0.toInt8.toInt32) := ⟨_, rfl⟩
    have pre177 : ∀ t, Steps p.tables e below (T170.setTop (mkF m 95 #[iv pi0, iv pi1, iv pi2, iv pi3, iv pi4, iv pi5, iv (1 : Int32), iv x114, rv b117, .unset] [(.int x176), (.int (1 : Int32)), (.ref b117)])) t → Go t := by subst hx176; exact pre175
    obtain ⟨c178, Ar178, q178, S178, M178, H178, G178⟩ := id f174
    have hin178 : ¬ ((1 : Int32) < 0 ∨ c178.slots.size ≤ ((1 : Int32)).toNatClampNeg) := inb_of S178 ⟨by decide, by decide⟩
    obtain ⟨T179, h179, X179, e179, W179, st179⟩ := stB X170 hx hZ e170 Ar178 (j := (1 : Int32)) hin178 (g := (mkF m 95 #[iv pi0, iv pi1, iv pi2, iv pi3, iv pi4, iv pi5, iv (1 : Int32), iv x114, rv b117, .unset] [(.int x176), (.int (1 : Int32)), (.ref b117)])) rfl rfl (hb hby at_95)
    have pre180 : ∀ t, Steps p.tables e below (T179.setTop (mkF m 96 #[iv pi0, iv pi1, iv pi2, iv pi3, iv pi4, iv pi5, iv (1 : Int32), iv x114, rv b117, .unset] [])) t → Go t := fun t kt => pre177 t (st179 t kt)
    have N182 := Fr.snoc X179 N173 G119
    have O182 := O173.wr W179 G119
    have f183 : Arv Z h179 b117 k117 .byte (6 : Int32) [(.int (nar .byte x122)), (.int (nar .byte x176)), (.int (nar .byte x140)), (.int (nar .byte x149)), (.int (nar .byte x158)), (.int (nar .byte x167))] (.int (0 : Int32)) := Arv.set Ar178 q178 S178 M178 H178 G178 (fits_nar_byte _) W179 1 rfl (Nat.le_of_ble_eq_true rfl)
    have pre184 : ∀ t, Steps p.tables e below (T179.setTop (mkF m 104 #[iv pi0, iv pi1, iv pi2, iv pi3, iv pi4, iv pi5, iv (1 : Int32), iv x114, rv b117, .unset] [(.int (pi1.toInt8.toInt32)), (.int (2 : Int32)), (.ref b117)])) t → Go t := fun t kt => pre180 t (by
        refine y_aload X179.here hx (hb hby at_96) rfl rfl (pc' := 98) rfl ?_
        refine y_iload X179.here hx (hb hby at_98) rfl (pc' := 100) rfl ?_
        refine y_iconst X179.here hx (hb hby at_100) (v := (1 : Int32)) rfl (pc' := 101) rfl ?_
        refine y_iadd X179.here hx (hb hby at_101) (z := (2 : Int32)) rfl (pc' := 102) rfl ?_
        refine y_iloadN X179.here hx (hb hby at_102) rfl (pc' := 103) rfl ?_
        refine y_i2b X179.here hx (hb hby at_103) (z := (pi1.toInt8.toInt32)) rfl (pc' := 104) rfl ?_
        exact kt)
    obtain ⟨x185, hx185⟩ : ∃ z : Int32, z = (pi1.toInt8.toInt32) := ⟨_, rfl⟩
    have pre186 : ∀ t, Steps p.tables e below (T179.setTop (mkF m 104 #[iv pi0, iv pi1, iv pi2, iv pi3, iv pi4, iv pi5, iv (1 : Int32), iv x114, rv b117, .unset] [(.int x185), (.int (2 : Int32)), (.ref b117)])) t → Go t := by subst hx185; exact pre184
    obtain ⟨c187, Ar187, q187, S187, M187, H187, G187⟩ := id f183
    have hin187 : ¬ ((2 : Int32) < 0 ∨ c187.slots.size ≤ ((2 : Int32)).toNatClampNeg) := inb_of S187 ⟨by decide, by decide⟩
    obtain ⟨T188, h188, X188, e188, W188, st188⟩ := stB X179 hx hZ e179 Ar187 (j := (2 : Int32)) hin187 (g := (mkF m 104 #[iv pi0, iv pi1, iv pi2, iv pi3, iv pi4, iv pi5, iv (1 : Int32), iv x114, rv b117, .unset] [(.int x185), (.int (2 : Int32)), (.ref b117)])) rfl rfl (hb hby at_104)
    have pre189 : ∀ t, Steps p.tables e below (T188.setTop (mkF m 105 #[iv pi0, iv pi1, iv pi2, iv pi3, iv pi4, iv pi5, iv (1 : Int32), iv x114, rv b117, .unset] [])) t → Go t := fun t kt => pre186 t (st188 t kt)
    have N191 := Fr.snoc X188 N182 G119
    have O191 := O182.wr W188 G119
    have f192 : Arv Z h188 b117 k117 .byte (6 : Int32) [(.int (nar .byte x122)), (.int (nar .byte x176)), (.int (nar .byte x185)), (.int (nar .byte x149)), (.int (nar .byte x158)), (.int (nar .byte x167))] (.int (0 : Int32)) := Arv.set Ar187 q187 S187 M187 H187 G187 (fits_nar_byte _) W188 2 rfl (Nat.le_of_ble_eq_true rfl)
    have pre193 : ∀ t, Steps p.tables e below (T188.setTop (mkF m 113 #[iv pi0, iv pi1, iv pi2, iv pi3, iv pi4, iv pi5, iv (1 : Int32), iv x114, rv b117, .unset] [(.int (pi2.toInt8.toInt32)), (.int (3 : Int32)), (.ref b117)])) t → Go t := fun t kt => pre189 t (by
        refine y_aload X188.here hx (hb hby at_105) rfl rfl (pc' := 107) rfl ?_
        refine y_iload X188.here hx (hb hby at_107) rfl (pc' := 109) rfl ?_
        refine y_iconst X188.here hx (hb hby at_109) (v := (2 : Int32)) rfl (pc' := 110) rfl ?_
        refine y_iadd X188.here hx (hb hby at_110) (z := (3 : Int32)) rfl (pc' := 111) rfl ?_
        refine y_iloadN X188.here hx (hb hby at_111) rfl (pc' := 112) rfl ?_
        refine y_i2b X188.here hx (hb hby at_112) (z := (pi2.toInt8.toInt32)) rfl (pc' := 113) rfl ?_
        exact kt)
    obtain ⟨x194, hx194⟩ : ∃ z : Int32, z = (pi2.toInt8.toInt32) := ⟨_, rfl⟩
    have pre195 : ∀ t, Steps p.tables e below (T188.setTop (mkF m 113 #[iv pi0, iv pi1, iv pi2, iv pi3, iv pi4, iv pi5, iv (1 : Int32), iv x114, rv b117, .unset] [(.int x194), (.int (3 : Int32)), (.ref b117)])) t → Go t := by subst hx194; exact pre193
    obtain ⟨c196, Ar196, q196, S196, M196, H196, G196⟩ := id f192
    have hin196 : ¬ ((3 : Int32) < 0 ∨ c196.slots.size ≤ ((3 : Int32)).toNatClampNeg) := inb_of S196 ⟨by decide, by decide⟩
    obtain ⟨T197, h197, X197, e197, W197, st197⟩ := stB X188 hx hZ e188 Ar196 (j := (3 : Int32)) hin196 (g := (mkF m 113 #[iv pi0, iv pi1, iv pi2, iv pi3, iv pi4, iv pi5, iv (1 : Int32), iv x114, rv b117, .unset] [(.int x194), (.int (3 : Int32)), (.ref b117)])) rfl rfl (hb hby at_113)
    have pre198 : ∀ t, Steps p.tables e below (T197.setTop (mkF m 114 #[iv pi0, iv pi1, iv pi2, iv pi3, iv pi4, iv pi5, iv (1 : Int32), iv x114, rv b117, .unset] [])) t → Go t := fun t kt => pre195 t (st197 t kt)
    have N200 := Fr.snoc X197 N191 G119
    have O200 := O191.wr W197 G119
    have f201 : Arv Z h197 b117 k117 .byte (6 : Int32) [(.int (nar .byte x122)), (.int (nar .byte x176)), (.int (nar .byte x185)), (.int (nar .byte x194)), (.int (nar .byte x158)), (.int (nar .byte x167))] (.int (0 : Int32)) := Arv.set Ar196 q196 S196 M196 H196 G196 (fits_nar_byte _) W197 3 rfl (Nat.le_of_ble_eq_true rfl)
    have pre202 : ∀ t, Steps p.tables e below (T197.setTop (mkF m 122 #[iv pi0, iv pi1, iv pi2, iv pi3, iv pi4, iv pi5, iv (1 : Int32), iv x114, rv b117, .unset] [(.int (pi3.toInt8.toInt32)), (.int (4 : Int32)), (.ref b117)])) t → Go t := fun t kt => pre198 t (by
        refine y_aload X197.here hx (hb hby at_114) rfl rfl (pc' := 116) rfl ?_
        refine y_iload X197.here hx (hb hby at_116) rfl (pc' := 118) rfl ?_
        refine y_iconst X197.here hx (hb hby at_118) (v := (3 : Int32)) rfl (pc' := 119) rfl ?_
        refine y_iadd X197.here hx (hb hby at_119) (z := (4 : Int32)) rfl (pc' := 120) rfl ?_
        refine y_iloadN X197.here hx (hb hby at_120) rfl (pc' := 121) rfl ?_
        refine y_i2b X197.here hx (hb hby at_121) (z := (pi3.toInt8.toInt32)) rfl (pc' := 122) rfl ?_
        exact kt)
    obtain ⟨x203, hx203⟩ : ∃ z : Int32, z = (pi3.toInt8.toInt32) := ⟨_, rfl⟩
    have pre204 : ∀ t, Steps p.tables e below (T197.setTop (mkF m 122 #[iv pi0, iv pi1, iv pi2, iv pi3, iv pi4, iv pi5, iv (1 : Int32), iv x114, rv b117, .unset] [(.int x203), (.int (4 : Int32)), (.ref b117)])) t → Go t := by subst hx203; exact pre202
    obtain ⟨c205, Ar205, q205, S205, M205, H205, G205⟩ := id f201
    have hin205 : ¬ ((4 : Int32) < 0 ∨ c205.slots.size ≤ ((4 : Int32)).toNatClampNeg) := inb_of S205 ⟨by decide, by decide⟩
    obtain ⟨T206, h206, X206, e206, W206, st206⟩ := stB X197 hx hZ e197 Ar205 (j := (4 : Int32)) hin205 (g := (mkF m 122 #[iv pi0, iv pi1, iv pi2, iv pi3, iv pi4, iv pi5, iv (1 : Int32), iv x114, rv b117, .unset] [(.int x203), (.int (4 : Int32)), (.ref b117)])) rfl rfl (hb hby at_122)
    have pre207 : ∀ t, Steps p.tables e below (T206.setTop (mkF m 123 #[iv pi0, iv pi1, iv pi2, iv pi3, iv pi4, iv pi5, iv (1 : Int32), iv x114, rv b117, .unset] [])) t → Go t := fun t kt => pre204 t (st206 t kt)
    have N209 := Fr.snoc X206 N200 G119
    have O209 := O200.wr W206 G119
    have f210 : Arv Z h206 b117 k117 .byte (6 : Int32) [(.int (nar .byte x122)), (.int (nar .byte x176)), (.int (nar .byte x185)), (.int (nar .byte x194)), (.int (nar .byte x203)), (.int (nar .byte x167))] (.int (0 : Int32)) := Arv.set Ar205 q205 S205 M205 H205 G205 (fits_nar_byte _) W206 4 rfl (Nat.le_of_ble_eq_true rfl)
    have pre211 : ∀ t, Steps p.tables e below (T206.setTop (mkF m 129 #[iv pi0, iv pi1, iv pi2, iv pi3, iv pi4, iv pi5, iv (1 : Int32), iv x114, rv b117, .unset] [(.int x114), (.int (1 : Int32)), (.ref b117)])) t → Go t := fun t kt => pre207 t (by
        refine y_aload X206.here hx (hb hby at_123) rfl rfl (pc' := 125) rfl ?_
        refine y_iload X206.here hx (hb hby at_125) rfl (pc' := 127) rfl ?_
        refine y_iload X206.here hx (hb hby at_127) rfl (pc' := 129) rfl ?_
        exact kt)
    obtain ⟨v212, _, ⟨T212, L212, k212, n212⟩, -, X212, ⟨Lc212, hQ212, l212, y212, z212⟩, st212⟩ := Jvm.LawKit.callS X206 hx (y := (⟨"com/example/strict_codec/strictcodec/Utf8Grammar", "span", "([BII)I"⟩ : MethodName)) hown (mvT hZ (hw _ (List.mem_of_getElem? (i := 2) rfl))) (mvT hZ (hw _ (List.mem_of_getElem? (i := 3) rfl))) (mvT hZ (hw _ (List.mem_of_getElem? (i := 4) rfl))) (mvT hZ (hw _ (List.mem_of_getElem? (i := 5) rfl))) (by decide) (backOf (W := 0) (rm1a1 l Z a0 hw [] b117 x114 w_SEQUENCE_LENGTH w_SECOND_LOW w_SECOND_HIGH (tb_SEQUENCE_LENGTH ((nar .byte x176) &&& (255 : Int32))) (tb_SECOND_LOW ((nar .byte x176) &&& (255 : Int32))) (tb_SECOND_HIGH ((nar .byte x176) &&& (255 : Int32))) k117 (nar .byte x122) (nar .byte x176) (nar .byte x185) (nar .byte x194) (nar .byte x203) (nar .byte x167) cc_w_SEQUENCE_LENGTH cc_w_SECOND_LOW cc_w_SECOND_HIGH h206 n0 O209 S_SEQUENCE_LENGTH S_SECOND_LOW S_SECOND_HIGH (TB_SEQUENCE_LENGTH _ (own_b (nar .byte x176)).1 (own_b (nar .byte x176)).2).1 (TB_SEQUENCE_LENGTH _ (own_b (nar .byte x176)).1 (own_b (nar .byte x176)).2).2 (TB_SECOND_LOW _ (own_b (nar .byte x176)).1 (own_b (nar .byte x176)).2).1 (TB_SECOND_LOW _ (own_b (nar .byte x176)).1 (own_b (nar .byte x176)).2).2 (TB_SECOND_HIGH _ (own_b (nar .byte x176)).1 (own_b (nar .byte x176)).2).1 (TB_SECOND_HIGH _ (own_b (nar .byte x176)).1 (own_b (nar .byte x176)).2).2 (own_w4 _) f210 AR_w_SEQUENCE_LENGTH AR_w_SECOND_LOW AR_w_SECOND_HIGH) hZ (hw _ (List.mem_of_getElem? (i := 5) rfl)) (hw _ (List.mem_of_getElem? (i := 4) rfl)) (by decide) (by decide)) (g := (mkF m 129 #[iv pi0, iv pi1, iv pi2, iv pi3, iv pi4, iv pi5, iv (1 : Int32), iv x114, rv b117, .unset] [(.int x114), (.int (1 : Int32)), (.ref b117)])) rfl (by rw [hml]; rfl) (argsL := [(.ref b117), (.int (1 : Int32)), (.int x114)]) (rest := []) (lenOf pd___BII_I rfl) rfl (by show 2 * 0 + _ ≤ _; exact Nat.le_of_eq rfl) (hb hby at_129) (fun _ _ => ⟨rfl, e206, (by decide : 1 + 0 ≤ _), (by decide : 6 + 0 ≤ _)⟩)
    dsimp only [Pt.U, Pt.locs, Pt.cells, Pt.slots] at X212 l212 y212 z212 st212 hQ212
    subst l212 y212 z212
    obtain ⟨hv212, N212q, e212q⟩ := hQ212
    have N213 := Fr.app N209 N212q
    have hw212 := hv212
    obtain ⟨x214, hx214⟩ : ∃ z : Int32, z = (fr1a1 x114 (tb_SEQUENCE_LENGTH ((nar .byte x176) &&& (255 : Int32))) (tb_SECOND_LOW ((nar .byte x176) &&& (255 : Int32))) (tb_SECOND_HIGH ((nar .byte x176) &&& (255 : Int32))) (nar .byte x185) (nar .byte x194) (nar .byte x203)) := ⟨_, rfl⟩
    rw [← hx214] at hw212
    subst hw212
    have pre215 : ∀ t, Steps p.tables e below (T212.setTop (mkF m 132 #[iv pi0, iv pi1, iv pi2, iv pi3, iv pi4, iv pi5, iv (1 : Int32), iv x114, rv b117, .unset] [(.int x214)])) t → Go t := fun t kt => pre211 t (st212 t kt)
    have pre216 : ∀ t, Steps p.tables e below (T212.setTop (mkF m 161 #[iv pi0, iv pi1, iv pi2, iv pi3, iv pi4, iv pi5, iv (1 : Int32), iv x114, rv b117, iv x214] [(.int (x114 - (1 : Int32))), (.int (pi3 &&& (255 : Int32))), (.int (pi2 &&& (255 : Int32))), (.int (pi1 &&& (255 : Int32))), (.int (pi0 &&& (255 : Int32))), (.int x214)])) t → Go t := fun t kt => pre215 t (by
        refine y_istore X212.here hx (hb hby at_132) (l' := #[iv pi0, iv pi1, iv pi2, iv pi3, iv pi4, iv pi5, iv (1 : Int32), iv x114, rv b117, iv x214]) rfl (pc' := 134) rfl ?_
        refine y_iload X212.here hx (hb hby at_134) rfl (pc' := 136) rfl ?_
        refine y_iloadN X212.here hx (hb hby at_136) rfl (pc' := 137) rfl ?_
        refine y_sipush X212.here hx (hb hby at_137) (v := (255 : Int32)) rfl (pc' := 140) rfl ?_
        refine y_iand X212.here hx (hb hby at_140) rfl (pc' := 141) rfl ?_
        refine y_iloadN X212.here hx (hb hby at_141) rfl (pc' := 142) rfl ?_
        refine y_sipush X212.here hx (hb hby at_142) (v := (255 : Int32)) rfl (pc' := 145) rfl ?_
        refine y_iand X212.here hx (hb hby at_145) rfl (pc' := 146) rfl ?_
        refine y_iloadN X212.here hx (hb hby at_146) rfl (pc' := 147) rfl ?_
        refine y_sipush X212.here hx (hb hby at_147) (v := (255 : Int32)) rfl (pc' := 150) rfl ?_
        refine y_iand X212.here hx (hb hby at_150) rfl (pc' := 151) rfl ?_
        refine y_iloadN X212.here hx (hb hby at_151) rfl (pc' := 152) rfl ?_
        refine y_sipush X212.here hx (hb hby at_152) (v := (255 : Int32)) rfl (pc' := 155) rfl ?_
        refine y_iand X212.here hx (hb hby at_155) rfl (pc' := 156) rfl ?_
        refine y_iload X212.here hx (hb hby at_156) rfl (pc' := 158) rfl ?_
        refine y_iload X212.here hx (hb hby at_158) rfl (pc' := 160) rfl ?_
        refine y_isub X212.here hx (hb hby at_160) rfl (pc' := 161) rfl ?_
        exact kt)
    obtain ⟨v217, _, ⟨T217, L217, k217, n217⟩, -, X217, ⟨Lc217, hQ217, l217, y217, z217⟩, st217⟩ := Jvm.LawKit.callS X212 hx (y := (⟨"com/example/strict_codec/strictcodec/Utf8GrammarSpanPinLaw", "expected", "(IIIII)I"⟩ : MethodName)) hown (mvT hZ (hw _ (List.mem_of_getElem? (i := 12) rfl))) (mvT hZ (hw _ (List.mem_of_getElem? (i := 13) rfl))) (mvT hZ (hw _ (List.mem_of_getElem? (i := 14) rfl))) (mvT hZ (hw _ (List.mem_of_getElem? (i := 15) rfl))) (by decide) (backOf (W := 1) (rm2 l Z a0 hw [] (pi0 &&& (255 : Int32)) (pi1 &&& (255 : Int32)) (pi2 &&& (255 : Int32)) (pi3 &&& (255 : Int32)) (x114 - (1 : Int32)) h206 n0 O209 ) hZ (hw _ (List.mem_of_getElem? (i := 15) rfl)) (hw _ (List.mem_of_getElem? (i := 14) rfl)) (by decide) (by decide)) (g := (mkF m 161 #[iv pi0, iv pi1, iv pi2, iv pi3, iv pi4, iv pi5, iv (1 : Int32), iv x114, rv b117, iv x214] [(.int (x114 - (1 : Int32))), (.int (pi3 &&& (255 : Int32))), (.int (pi2 &&& (255 : Int32))), (.int (pi1 &&& (255 : Int32))), (.int (pi0 &&& (255 : Int32))), (.int x214)])) rfl (by rw [hml]; rfl) (argsL := [(.int (pi0 &&& (255 : Int32))), (.int (pi1 &&& (255 : Int32))), (.int (pi2 &&& (255 : Int32))), (.int (pi3 &&& (255 : Int32))), (.int (x114 - (1 : Int32)))]) (rest := [(.int x214)]) (lenOf pd__IIIII_I rfl) rfl (by show 2 * 0 + _ ≤ _; exact Nat.le_of_eq rfl) (hb hby at_161) (fun _ _ => ⟨rfl, e212q, (by decide : 1 + 0 ≤ _), (by decide : 6 + 0 ≤ _)⟩)
    dsimp only [Pt.U, Pt.locs, Pt.cells, Pt.slots] at X217 l217 y217 z217 st217 hQ217
    subst l217 y217 z217
    obtain ⟨hv217, N217q, e217q⟩ := hQ217
    have N218 := Fr.app N213 N217q
    have hw217 := hv217
    obtain ⟨x219, hx219⟩ : ∃ z : Int32, z = (fr2 (pi0 &&& (255 : Int32)) (pi1 &&& (255 : Int32)) (pi2 &&& (255 : Int32)) (pi3 &&& (255 : Int32)) (x114 - (1 : Int32))) := ⟨_, rfl⟩
    rw [← hx219] at hw217
    subst hw217
    have pre220 : ∀ t, Steps p.tables e below (T217.setTop (mkF m 164 #[iv pi0, iv pi1, iv pi2, iv pi3, iv pi4, iv pi5, iv (1 : Int32), iv x114, rv b117, iv x214] [(.int x219), (.int x214)])) t → Go t := fun t kt => pre216 t (st217 t kt)
    have hf164_221 : x214 = x219 := by
        exact law0_222 pi0 pi1 pi2 pi3 pi5 x114 x176 x185 x194 x203 x214 x219 hx114 hx176 hx185 hx194 hx203 hx214 hx219 hx1
    have pre223 : ∀ t, Steps p.tables e below (T217.setTop (mkF m 172 #[iv pi0, iv pi1, iv pi2, iv pi3, iv pi4, iv pi5, iv (1 : Int32), iv x114, rv b117, iv x214] [(.int (1 : Int32))])) t → Go t := fun t kt => pre220 t (by
        refine y_icmpNo X217.here hx (hb hby at_164) (teq hf164_221).2 (pc' := 167) rfl ?_
        refine y_iconst X217.here hx (hb hby at_167) (v := (1 : Int32)) rfl (pc' := 168) rfl ?_
        refine y_goto X217.here hx (hb hby at_168) (pc' := 172) (by decide) rfl ?_
        exact kt)
    obtain ⟨fs, hr, hrun, hended, hW, hsame⟩ := X217.leave (v := some (.int (1 : Int32))) (fun h => by rw [Bd.returns] at h; cases h)
    refine ⟨_, _, (hGo _).mp (pre223 _ ?_), hrun, hended, _, _, rfl, ?_, ⟨_, rfl⟩, hW, hsame.mono (by decide) (by decide)⟩
    · exact retN X217 hx (t := .boolean) Bd.returns (by simp) (hb hby at_172) hr
    · show Q0 Z pi0 pi1 pi2 pi3 pi4 pi5 w_SEQUENCE_LENGTH w_SECOND_LOW w_SECOND_HIGH cc_w_SEQUENCE_LENGTH cc_w_SECOND_LOW cc_w_SECOND_HIGH h0 n0 _ T217.heap _
      rw [e217q]
      exact ⟨rfl, N218⟩
set_option maxRecDepth 65536 in
set_option maxHeartbeats 40000000 in
theorem comes_1 {Post : Tables → Env → Array Value → State → Outcome → State → Prop} (hpost : ∀ tb e args s v u, (limb_1_1.after args s (.returned v) u = true ∧ limb_1_2.after args s (.returned v) u = true ∧ True) → FrameEnd s (.returned v) u (Jvm.fieldLocs frame_1_writes args s ++ Jvm.arrayLocs frame_1_arrays args s ++ Jvm.staticLocs frame_1_statics s) 16 128 → Post tb e args s (.returned v) u) :
    ArmFor flags0 classFile x code maxLocals ret World_1 tables_1 room_1 Calls_1 rest_1 Pre_1 Post := by
  intro l hfl _ _ p e ha hc hk s m args below hf hA hF happ hP
  obtain ⟨hcalls, hrest, hpre⟩ := hP
  obtain ⟨-, -, -, hnamed, -, -, -, hat⟩ := (Spec.applies_iff hf).mp happ
  obtain ⟨hg, hn⟩ := and_e (Cond.before_iff.mp (show (Jvm.Cond.and given_1 narrow_1).before args s = true from hpre))
  obtain ⟨g0, gr0⟩ := and_e hg
  obtain ⟨g1, gr1⟩ := and_e gr0
  obtain ⟨g2, gr2⟩ := and_e gr1
  obtain ⟨g3, gr3⟩ := and_e gr2
  obtain ⟨g4, gr4⟩ := and_e gr3
  obtain ⟨g5, gr5⟩ := and_e gr4
  obtain ⟨w0, w1, w2, w3, w4, w5, rfl⟩ : ∃ w0 w1 w2 w3 w4 w5 : Value, args = #[w0, w1, w2, w3, w4, w5] := by
    have hs : args.size = 6 := by simpa [Cond.value, given_1] using g0
    obtain ⟨L⟩ := args
    match L, hs with
    | [w0, w1, w2, w3, w4, w5], _ => exact ⟨w0, w1, w2, w3, w4, w5, rfl⟩
  have hw := fun d (hd : d ∈ tables_1) => atoms_spec (ws := Jvm.Cond.code x code maxLocals ret :: tables_1) hat d (List.mem_cons_of_mem _ hd)
  have hfit : Fit s := fun {y c} hc i hi => by
    obtain ⟨ha, rfl⟩ := Array.getElem?_eq_some_iff.mp hc
    have q := List.all_eq_true.mp ((Array.all_eq_true_iff_forall_mem.mp hF) _ (Array.getElem_mem ha)) i (List.mem_range.mpr hi)
    simpa [Array.getElem?_eq_getElem hi] using q
  obtain ⟨i0, ei0⟩ := is_v g1
  obtain rfl : w0 = (.int i0) := Option.some.inj ei0
  obtain ⟨i1, ei1⟩ := is_v g2
  obtain rfl : w1 = (.int i1) := Option.some.inj ei1
  obtain ⟨i2, ei2⟩ := is_v g3
  obtain rfl : w2 = (.int i2) := Option.some.inj ei2
  obtain ⟨i3, ei3⟩ := is_v g4
  obtain rfl : w3 = (.int i3) := Option.some.inj ei3
  obtain ⟨i4, ei4⟩ := is_v g5
  obtain rfl : w4 = (.int i4) := Option.some.inj ei4
  obtain ⟨i5, ei5⟩ := is_v gr5
  obtain rfl : w5 = (.int i5) := Option.some.inj ei5
  obtain ⟨n0, nr0⟩ := and_e hn
  obtain ⟨n1, nr1⟩ := and_e nr0
  obtain ⟨n2, nr2⟩ := and_e nr1
  obtain ⟨n3, nr3⟩ := and_e nr2
  obtain ⟨n4, nr4⟩ := and_e nr3
  obtain ⟨n5, nr5⟩ := and_e nr4
  obtain ⟨n6, nr6⟩ := and_e nr5
  obtain ⟨n7, nr7⟩ := and_e nr6
  obtain ⟨n8, nr8⟩ := and_e nr7
  obtain ⟨n9, nr9⟩ := and_e nr8
  obtain ⟨n10, nr10⟩ := and_e nr9
  obtain ⟨n11, nr11⟩ := and_e nr10
  obtain ⟨n12, nr12⟩ := and_e nr11
  obtain ⟨n13, nr13⟩ := and_e nr12
  obtain ⟨n14, nr14⟩ := and_e nr13
  obtain ⟨n15, nr15⟩ := and_e nr14
  obtain ⟨n16, nr16⟩ := and_e nr15
  obtain ⟨n17, nr17⟩ := and_e nr16
  obtain ⟨n18, nr18⟩ := and_e nr17
  obtain ⟨n19, nr19⟩ := and_e nr18
  obtain ⟨n20, nr20⟩ := and_e nr19
  obtain ⟨n21, nr21⟩ := and_e nr20
  obtain ⟨n22, nr22⟩ := and_e nr21
  obtain ⟨n23, nr23⟩ := and_e nr22
  obtain ⟨w_SEQUENCE_LENGTH, ev_SEQUENCE_LENGTH⟩ := arr_v n0
  have S_SEQUENCE_LENGTH := Sta.start ev_SEQUENCE_LENGTH (Or.inr ⟨(hw _ (List.mem_of_getElem? (i := 4) rfl)), (hw _ (List.mem_of_getElem? (i := 7) rfl))⟩)
  obtain ⟨cc_w_SEQUENCE_LENGTH, AR_w_SEQUENCE_LENGTH⟩ := Arr.start ev_SEQUENCE_LENGTH n0
  have SZ_w_SEQUENCE_LENGTH := own_sz (own_len ev_SEQUENCE_LENGTH (AR_w_SEQUENCE_LENGTH.fin (Vm.Alike.refl _)) (own_eqI n1))
  have TB_SEQUENCE_LENGTH : ∀ j : Int32, ¬ j < 0 → j < (256 : Int32) → ¬ (j < 0 ∨ cc_w_SEQUENCE_LENGTH.slots.size ≤ j.toNatClampNeg) ∧ cc_w_SEQUENCE_LENGTH.slots[j.toNatClampNeg]? = some (.int (tb_SEQUENCE_LENGTH j)) := by
    intro j hj hj2
    have hin := inb_of SZ_w_SEQUENCE_LENGTH ⟨hj, hj2⟩
    obtain ⟨v, hv1, hv2⟩ := elem_fit hfit AR_w_SEQUENCE_LENGTH hin
    obtain ⟨x, rfl⟩ := fit_I hv2 (by simp)
    refine ⟨hin, hv1.trans (congrArg (fun z => some (Value.int z)) ?_)⟩
    have hlt := Nat.lt_of_not_le fun q => hin (Or.inr q)
    have eI := idx_at (args := (#[(.int i0), (.int i1), (.int i2), (.int i3), (.int i4), (.int i5)] : Array Value)) (first := s) (o := none) (s := s) hj
    have evj : (Jvm.Term.static "com/example/strict_codec/strictcodec/Utf8Grammar" "SEQUENCE_LENGTH" "[B").eval (#[(.int i0), (.int i1), (.int i2), (.int i3), (.int i4), (.int i5)] : Array Value) s none [j.toNatClampNeg] s = some (.ref w_SEQUENCE_LENGTH) := by first | exact ev_SEQUENCE_LENGTH | simpa [Term.eval] using ev_SEQUENCE_LENGTH
    have eE : (Jvm.Term.elem (Jvm.Term.static "com/example/strict_codec/strictcodec/Utf8Grammar" "SEQUENCE_LENGTH" "[B") (Jvm.Term.index 0)).eval (#[(.int i0), (.int i1), (.int i2), (.int i3), (.int i4), (.int i5)] : Array Value) s none [j.toNatClampNeg] s = some (.int x) := (elem_f evj eI (AR_w_SEQUENCE_LENGTH.fin (Vm.Alike.refl _)) hj).trans hv1
    have c0 : (128 : Int32) ≤ j ∨ x = (1 : Int32) := or_e2 (Cond.le_ints (Term.int_eval _) eI) (Cond.eq_ints eE (Term.int_eval _)) (Cond.all_elim ev_SEQUENCE_LENGTH (AR_w_SEQUENCE_LENGTH.fin (Vm.Alike.refl _)) n6 _ hlt)
    have c1 : j < (128 : Int32) ∨ ¬ j < (194 : Int32) ∨ x = (0 : Int32) := or3 (Cond.all_elim ev_SEQUENCE_LENGTH (AR_w_SEQUENCE_LENGTH.fin (Vm.Alike.refl _)) n7 _ hlt) (Cond.lt_ints eI (Term.int_eval _)) (Cond.le_ints (Term.int_eval _) eI) (Cond.eq_ints eE (Term.int_eval _))
    have c2 : j < (194 : Int32) ∨ ¬ j < (224 : Int32) ∨ x = (2 : Int32) := or3 (Cond.all_elim ev_SEQUENCE_LENGTH (AR_w_SEQUENCE_LENGTH.fin (Vm.Alike.refl _)) n8 _ hlt) (Cond.lt_ints eI (Term.int_eval _)) (Cond.le_ints (Term.int_eval _) eI) (Cond.eq_ints eE (Term.int_eval _))
    have c3 : j < (224 : Int32) ∨ ¬ j < (240 : Int32) ∨ x = (3 : Int32) := or3 (Cond.all_elim ev_SEQUENCE_LENGTH (AR_w_SEQUENCE_LENGTH.fin (Vm.Alike.refl _)) n9 _ hlt) (Cond.lt_ints eI (Term.int_eval _)) (Cond.le_ints (Term.int_eval _) eI) (Cond.eq_ints eE (Term.int_eval _))
    have c4 : j < (240 : Int32) ∨ ¬ j < (245 : Int32) ∨ x = (4 : Int32) := or3 (Cond.all_elim ev_SEQUENCE_LENGTH (AR_w_SEQUENCE_LENGTH.fin (Vm.Alike.refl _)) n10 _ hlt) (Cond.lt_ints eI (Term.int_eval _)) (Cond.le_ints (Term.int_eval _) eI) (Cond.eq_ints eE (Term.int_eval _))
    have c5 : j < (245 : Int32) ∨ x = (0 : Int32) := or_e2 (Cond.lt_ints eI (Term.int_eval _)) (Cond.eq_ints eE (Term.int_eval _)) (Cond.all_elim ev_SEQUENCE_LENGTH (AR_w_SEQUENCE_LENGTH.fin (Vm.Alike.refl _)) n11 _ hlt)
    exact own_tb_SEQUENCE_LENGTH j x hj hj2 c0 c1 c2 c3 c4 c5
  obtain ⟨w_SECOND_LOW, ev_SECOND_LOW⟩ := arr_v n2
  have S_SECOND_LOW := Sta.start ev_SECOND_LOW (Or.inr ⟨(hw _ (List.mem_of_getElem? (i := 4) rfl)), (hw _ (List.mem_of_getElem? (i := 9) rfl))⟩)
  obtain ⟨cc_w_SECOND_LOW, AR_w_SECOND_LOW⟩ := Arr.start ev_SECOND_LOW n2
  have SZ_w_SECOND_LOW := own_sz (own_len ev_SECOND_LOW (AR_w_SECOND_LOW.fin (Vm.Alike.refl _)) (own_eqI n3))
  have TB_SECOND_LOW : ∀ j : Int32, ¬ j < 0 → j < (256 : Int32) → ¬ (j < 0 ∨ cc_w_SECOND_LOW.slots.size ≤ j.toNatClampNeg) ∧ cc_w_SECOND_LOW.slots[j.toNatClampNeg]? = some (.int (tb_SECOND_LOW j)) := by
    intro j hj hj2
    have hin := inb_of SZ_w_SECOND_LOW ⟨hj, hj2⟩
    obtain ⟨v, hv1, hv2⟩ := elem_fit hfit AR_w_SECOND_LOW hin
    obtain ⟨x, rfl⟩ := fit_I hv2 (by simp)
    refine ⟨hin, hv1.trans (congrArg (fun z => some (Value.int z)) ?_)⟩
    have hlt := Nat.lt_of_not_le fun q => hin (Or.inr q)
    have eI := idx_at (args := (#[(.int i0), (.int i1), (.int i2), (.int i3), (.int i4), (.int i5)] : Array Value)) (first := s) (o := none) (s := s) hj
    have evj : (Jvm.Term.static "com/example/strict_codec/strictcodec/Utf8Grammar" "SECOND_LOW" "[I").eval (#[(.int i0), (.int i1), (.int i2), (.int i3), (.int i4), (.int i5)] : Array Value) s none [j.toNatClampNeg] s = some (.ref w_SECOND_LOW) := by first | exact ev_SECOND_LOW | simpa [Term.eval] using ev_SECOND_LOW
    have eE : (Jvm.Term.elem (Jvm.Term.static "com/example/strict_codec/strictcodec/Utf8Grammar" "SECOND_LOW" "[I") (Jvm.Term.index 0)).eval (#[(.int i0), (.int i1), (.int i2), (.int i3), (.int i4), (.int i5)] : Array Value) s none [j.toNatClampNeg] s = some (.int x) := (elem_f evj eI (AR_w_SECOND_LOW.fin (Vm.Alike.refl _)) hj).trans hv1
    have c0 : (194 : Int32) ≤ j ∨ x = (0 : Int32) := or_e2 (Cond.le_ints (Term.int_eval _) eI) (Cond.eq_ints eE (Term.int_eval _)) (Cond.all_elim ev_SECOND_LOW (AR_w_SECOND_LOW.fin (Vm.Alike.refl _)) n12 _ hlt)
    have c1 : j < (194 : Int32) ∨ ¬ j < (224 : Int32) ∨ x = (128 : Int32) := or3 (Cond.all_elim ev_SECOND_LOW (AR_w_SECOND_LOW.fin (Vm.Alike.refl _)) n13 _ hlt) (Cond.lt_ints eI (Term.int_eval _)) (Cond.le_ints (Term.int_eval _) eI) (Cond.eq_ints eE (Term.int_eval _))
    have c2 : j = (224 : Int32) → x = (160 : Int32) := fun q => by subst q; exact Value.int.inj (Option.some.inj (hv1.symm.trans (elem_in (own_eqI n14) ev_SECOND_LOW (Term.int_eval _) AR_w_SECOND_LOW.1).2))
    have c3 : j < (225 : Int32) ∨ ¬ j < (240 : Int32) ∨ x = (128 : Int32) := or3 (Cond.all_elim ev_SECOND_LOW (AR_w_SECOND_LOW.fin (Vm.Alike.refl _)) n15 _ hlt) (Cond.lt_ints eI (Term.int_eval _)) (Cond.le_ints (Term.int_eval _) eI) (Cond.eq_ints eE (Term.int_eval _))
    have c4 : j = (240 : Int32) → x = (144 : Int32) := fun q => by subst q; exact Value.int.inj (Option.some.inj (hv1.symm.trans (elem_in (own_eqI n16) ev_SECOND_LOW (Term.int_eval _) AR_w_SECOND_LOW.1).2))
    have c5 : j < (241 : Int32) ∨ ¬ j < (245 : Int32) ∨ x = (128 : Int32) := or3 (Cond.all_elim ev_SECOND_LOW (AR_w_SECOND_LOW.fin (Vm.Alike.refl _)) n17 _ hlt) (Cond.lt_ints eI (Term.int_eval _)) (Cond.le_ints (Term.int_eval _) eI) (Cond.eq_ints eE (Term.int_eval _))
    have c6 : j < (245 : Int32) ∨ x = (0 : Int32) := or_e2 (Cond.lt_ints eI (Term.int_eval _)) (Cond.eq_ints eE (Term.int_eval _)) (Cond.all_elim ev_SECOND_LOW (AR_w_SECOND_LOW.fin (Vm.Alike.refl _)) n18 _ hlt)
    exact own_tb_SECOND_LOW j x hj hj2 c0 c1 c2 c3 c4 c5 c6
  obtain ⟨w_SECOND_HIGH, ev_SECOND_HIGH⟩ := arr_v n4
  have S_SECOND_HIGH := Sta.start ev_SECOND_HIGH (Or.inr ⟨(hw _ (List.mem_of_getElem? (i := 4) rfl)), (hw _ (List.mem_of_getElem? (i := 11) rfl))⟩)
  obtain ⟨cc_w_SECOND_HIGH, AR_w_SECOND_HIGH⟩ := Arr.start ev_SECOND_HIGH n4
  have SZ_w_SECOND_HIGH := own_sz (own_len ev_SECOND_HIGH (AR_w_SECOND_HIGH.fin (Vm.Alike.refl _)) (own_eqI n5))
  have TB_SECOND_HIGH : ∀ j : Int32, ¬ j < 0 → j < (256 : Int32) → ¬ (j < 0 ∨ cc_w_SECOND_HIGH.slots.size ≤ j.toNatClampNeg) ∧ cc_w_SECOND_HIGH.slots[j.toNatClampNeg]? = some (.int (tb_SECOND_HIGH j)) := by
    intro j hj hj2
    have hin := inb_of SZ_w_SECOND_HIGH ⟨hj, hj2⟩
    obtain ⟨v, hv1, hv2⟩ := elem_fit hfit AR_w_SECOND_HIGH hin
    obtain ⟨x, rfl⟩ := fit_I hv2 (by simp)
    refine ⟨hin, hv1.trans (congrArg (fun z => some (Value.int z)) ?_)⟩
    have hlt := Nat.lt_of_not_le fun q => hin (Or.inr q)
    have eI := idx_at (args := (#[(.int i0), (.int i1), (.int i2), (.int i3), (.int i4), (.int i5)] : Array Value)) (first := s) (o := none) (s := s) hj
    have evj : (Jvm.Term.static "com/example/strict_codec/strictcodec/Utf8Grammar" "SECOND_HIGH" "[I").eval (#[(.int i0), (.int i1), (.int i2), (.int i3), (.int i4), (.int i5)] : Array Value) s none [j.toNatClampNeg] s = some (.ref w_SECOND_HIGH) := by first | exact ev_SECOND_HIGH | simpa [Term.eval] using ev_SECOND_HIGH
    have eE : (Jvm.Term.elem (Jvm.Term.static "com/example/strict_codec/strictcodec/Utf8Grammar" "SECOND_HIGH" "[I") (Jvm.Term.index 0)).eval (#[(.int i0), (.int i1), (.int i2), (.int i3), (.int i4), (.int i5)] : Array Value) s none [j.toNatClampNeg] s = some (.int x) := (elem_f evj eI (AR_w_SECOND_HIGH.fin (Vm.Alike.refl _)) hj).trans hv1
    have c0 : (194 : Int32) ≤ j ∨ x = (0 : Int32) := or_e2 (Cond.le_ints (Term.int_eval _) eI) (Cond.eq_ints eE (Term.int_eval _)) (Cond.all_elim ev_SECOND_HIGH (AR_w_SECOND_HIGH.fin (Vm.Alike.refl _)) n19 _ hlt)
    have c1 : j < (194 : Int32) ∨ ¬ j < (237 : Int32) ∨ x = (191 : Int32) := or3 (Cond.all_elim ev_SECOND_HIGH (AR_w_SECOND_HIGH.fin (Vm.Alike.refl _)) n20 _ hlt) (Cond.lt_ints eI (Term.int_eval _)) (Cond.le_ints (Term.int_eval _) eI) (Cond.eq_ints eE (Term.int_eval _))
    have c2 : j = (237 : Int32) → x = (159 : Int32) := fun q => by subst q; exact Value.int.inj (Option.some.inj (hv1.symm.trans (elem_in (own_eqI n21) ev_SECOND_HIGH (Term.int_eval _) AR_w_SECOND_HIGH.1).2))
    have c3 : j < (238 : Int32) ∨ ¬ j < (244 : Int32) ∨ x = (191 : Int32) := or3 (Cond.all_elim ev_SECOND_HIGH (AR_w_SECOND_HIGH.fin (Vm.Alike.refl _)) n22 _ hlt) (Cond.lt_ints eI (Term.int_eval _)) (Cond.le_ints (Term.int_eval _) eI) (Cond.eq_ints eE (Term.int_eval _))
    have c4 : j = (244 : Int32) → x = (143 : Int32) := fun q => by subst q; exact Value.int.inj (Option.some.inj (hv1.symm.trans (elem_in (own_eqI n23) ev_SECOND_HIGH (Term.int_eval _) AR_w_SECOND_HIGH.1).2))
    have c5 : j < (245 : Int32) ∨ x = (0 : Int32) := or_e2 (Cond.lt_ints eI (Term.int_eval _)) (Cond.eq_ints eE (Term.int_eval _)) (Cond.all_elim ev_SECOND_HIGH (AR_w_SECOND_HIGH.fin (Vm.Alike.refl _)) nr23 _ hlt)
    exact own_tb_SECOND_HIGH j x hj hj2 c0 c1 c2 c3 c4 c5
  obtain ⟨n, o, h1, h2, h3, _, L, rfl, ⟨rfl, N⟩, hq⟩ := rm0 l s _ hw tables_1 i0 i1 i2 i3 i4 i5 w_SEQUENCE_LENGTH w_SECOND_LOW w_SECOND_HIGH cc_w_SEQUENCE_LENGTH cc_w_SECOND_LOW cc_w_SECOND_HIGH s.heap s.heap.size (Old.start s) S_SEQUENCE_LENGTH S_SECOND_LOW S_SECOND_HIGH TB_SEQUENCE_LENGTH TB_SECOND_LOW TB_SECOND_HIGH AR_w_SEQUENCE_LENGTH AR_w_SECOND_LOW AR_w_SECOND_HIGH p e ha hc hk s m _ below hf ((Spec.applies_iff_loose hf).mp happ).1 ⟨rfl, State.Warmed39.refl s, rfl⟩ trivial
  refine ⟨n, _, h1, h2, h3, hpost _ _ _ _ _ _ ⟨Cond.after_iff.mpr rfl, Cond.after_iff.mpr (eq_i res_at (Term.int_eval (1)) rfl), trivial⟩ ⟨hq.1, hq.2.1, (hq.2.2.sift fun y hy => Or.inr (N y hy)).mono (by decide) (by decide)⟩⟩
theorem main_1_1 : Claimed_1_1 := comes_1 fun _ _ _ _ _ _ h hF => ⟨h.1, hF⟩
theorem main_1_2 : Claimed_1_2 := comes_1 fun _ _ _ _ _ _ h hF => ⟨h.2.1, hF⟩
end Jvm.Pilot.@@N@@
namespace Jvm.Pilot.@@N@@
open Jvm Jvm.ClassFile Sem Op Lib Jvm.Free Jvm.Stand Jvm.Pilot.@@N@@.Jvm.D
/-! MADE BY PROGRAM (witnessworld.py) out of the Statement's table words and the real class files: 9 classes; the members and pool entries that the words name. The judged class is class 1, her method 1. -/
namespace start1
open Jvm.ClassFile
def u (s : String) : CpInfo := .utf8 (stringToUtf16 s)
/-- a pool by its gaps: so many unusable entries, then the entry; so many at the end -/
def gap : Nat → List CpInfo → List CpInfo
  | 0, r => r
  | n + 1, r => .unusable :: gap n r
def poolList (es : List (Nat × CpInfo)) (last : Nat) : List CpInfo := es.foldr (fun e r => gap e.1 (e.2 :: r)) (gap last [])
def pool (es : List (Nat × CpInfo)) (last : Nat) : Array CpInfo := ⟨poolList es last⟩
def fileOf (pool : Array CpInfo) (this : Nat) (attrs : Array Attribute := #[]) (ms : Array MethodInfo := #[]) (fl : Nat := 33) (sup : Nat := 0) (ifs : Array Nat := #[]) (fds : Array FieldInfo := #[]) : ClassFile where
  minorVersion := 0
  majorVersion := 65
  constantPool := pool
  accessFlags := fl
  thisClass := this
  superClass := sup
  interfaces := ifs
  fields := fds
  methods := ms
  attributes := attrs
def plain (name : String) (sup : Option ClassId) : Class where
  name := name
  kind := .ordinary
  loader := none
  accessFlags := 33
  super := sup
  interfaces := #[]
  cf := none
  fields := #[]
  methods := #[]
  instanceTypes := #[]
  staticTypes := #[]
  resolved := #[]
  callSites := []
  init := .initialized
  statics := none
  mirror := none

def pool0 : Array CpInfo := pool [(5, u "<init>"), (0, u "()V"), (1, .class_ 10), (1, u "java/lang/Object")] 113

def k0m0 : Method := { name := "<init>", desc := "()V", sig := { parameters := [], returnType := none }, accessFlags := 1, code := none }
/-- java/lang/Object -/
def k0 : Class := { plain "java/lang/Object" none with
  accessFlags := 33
  interfaces := #[]
  cf := some (fileOf pool0 8 #[] #[{ accessFlags := 1, nameIndex := 5, descriptorIndex := 6, attributes := #[] }] 33 0 #[] #[])
  fields := #[]
  methods := #[k0m0]
  instanceTypes := #[]
  staticTypes := #[]
  resolved := Array.replicate 124 none
  statics := none }

def pool1 : Array CpInfo := pool [(2, .class_ 4), (1, u "java/lang/Object"), (0, u "<init>"), (0, u "()V"), (0, .integer 1073741823), (0, .methodref 9 10), (0, .class_ 11), (0, .nameAndType 12 13), (0, u "com/example/strict_codec/strictcodec/Utf8Grammar"), (0, u "span"), (0, u "([BII)I"), (0, .methodref 15 16), (0, .class_ 17), (0, .nameAndType 18 19), (0, u "com/example/strict_codec/strictcodec/Utf8GrammarSpanPinLaw"), (0, u "expected"), (0, u "(IIIII)I"), (0, .methodref 15 21), (0, .nameAndType 22 23), (0, u "cont"), (0, u "(I)Z"), (2, u "law"), (0, u "(IIIIII)Z")] 5

def k1m0 : Method := { name := "<init>", desc := "()V", sig := { parameters := [], returnType := none }, accessFlags := 1, code := none }
def k1c1 : Code := { maxStack := 7, maxLocals := 10, code := code, exceptionTable := #[], attributes := #[] }
def k1m1 : Method := { name := "law", desc := "(IIIIII)Z", sig := { parameters := [.int, .int, .int, .int, .int, .int], returnType := some .boolean }, accessFlags := 9, code := some k1c1 }
def k1c2 : Code := { maxStack := 2, maxLocals := 1, code := method_3_code, exceptionTable := #[], attributes := #[] }
def k1m2 : Method := { name := "cont", desc := "(I)Z", sig := { parameters := [.int], returnType := some .boolean }, accessFlags := 10, code := some k1c2 }
def k1c3 : Code := { maxStack := 2, maxLocals := 9, code := method_4_code, exceptionTable := #[], attributes := #[] }
def k1m3 : Method := { name := "expected", desc := "(IIIII)I", sig := { parameters := [.int, .int, .int, .int, .int], returnType := some .int }, accessFlags := 10, code := some k1c3 }
/-- com/example/strict_codec/strictcodec/Utf8GrammarSpanPinLaw -/
def k1 : Class := { plain "com/example/strict_codec/strictcodec/Utf8GrammarSpanPinLaw" (some 0) with
  accessFlags := 49
  interfaces := #[]
  cf := some (fileOf pool1 15 #[] #[{ accessFlags := 1, nameIndex := 5, descriptorIndex := 6, attributes := #[] }, { accessFlags := 9, nameIndex := 26, descriptorIndex := 27, attributes := #[] }, { accessFlags := 10, nameIndex := 22, descriptorIndex := 23, attributes := #[] }, { accessFlags := 10, nameIndex := 18, descriptorIndex := 19, attributes := #[] }] 49 2 #[] #[])
  fields := #[]
  methods := #[k1m0, k1m1, k1m2, k1m3]
  instanceTypes := #[]
  staticTypes := #[]
  resolved := Array.replicate 33 none
  statics := none }

def pool2 : Array CpInfo := pool [(2, .class_ 4), (1, u "java/lang/Object"), (0, u "<init>"), (0, u "()V"), (0, .class_ 8), (0, u "com/example/strict_codec/strictcodec/Utf8Grammar"), (0, .fieldref 7 10), (0, .nameAndType 11 12), (0, u "SEQUENCE_LENGTH"), (0, u "[B"), (0, .fieldref 7 14), (0, .nameAndType 15 16), (0, u "SECOND_LOW"), (0, u "[I"), (0, .fieldref 7 18), (0, .nameAndType 19 16), (0, u "SECOND_HIGH"), (6, u "REFUSAL"), (0, u "[Lcom/example/strict_codec/strictcodec/Reason;"), (2, u "LEAD_PAYLOAD"), (2, u "LEAD_MARK"), (2, u "$assertionsDisabled"), (0, u "Z"), (45, u "LONGS"), (0, u "Ljava/lang/invoke/VarHandle;"), (11, u "([BII)I"), (4, u "NEXT"), (0, u "[J"), (2, u "REJECT"), (0, u "I"), (9, u "FIXED_2"), (2, u "FORM_2"), (12, u "FIXED_3"), (2, u "FORM_3"), (5, u "INTS"), (5, u "FIXED_1_3"), (2, u "FORM_1_3"), (2, u "FIXED_4"), (2, u "FORM_4"), (3, u "FOUR_BYTE_LEAST"), (2, u "FOUR_BYTE_MOST"), (15, u "LANE_PAYLOADS"), (0, u "J"), (2, u "LANE_FIXED"), (2, u "LANE_FORM"), (2, u "LANE_FLOOR"), (2, u "LANE_CEILING"), (2, u "LANE_GUARDS"), (11, u "THREE_BYTE_LEAST"), (2, u "THREE_BYTE_MOST"), (2, u "THREE_BYTE_GAP_FIRST"), (2, u "THREE_BYTE_GAP_LAST"), (113, u "CONTINUATION_PAYLOAD"), (2, u "CONTINUATION_MARK"), (1, u "STATE_BITS"), (0, u "ACCEPT"), (1, u "REFUSED"), (1, u "HIGH_BITS"), (8, u "span")] 29

def k2m0 : Method := { name := "<init>", desc := "()V", sig := { parameters := [], returnType := none }, accessFlags := 2, code := none }
def k2c1 : Code := { maxStack := 3, maxLocals := 9, code := prog_19_method_13_code, exceptionTable := #[], attributes := #[] }
def k2m1 : Method := { name := "span", desc := "([BII)I", sig := { parameters := [(.array .byte), .int, .int], returnType := some .int }, accessFlags := 8, code := some k2c1 }
/-- com/example/strict_codec/strictcodec/Utf8Grammar -/
def k2 : Class := { plain "com/example/strict_codec/strictcodec/Utf8Grammar" (some 0) with
  accessFlags := 48
  interfaces := #[]
  cf := some (fileOf pool2 7 #[] #[{ accessFlags := 2, nameIndex := 5, descriptorIndex := 6, attributes := #[] }, { accessFlags := 8, nameIndex := 349, descriptorIndex := 96, attributes := #[] }] 48 2 #[] #[{ accessFlags := 26, nameIndex := 11, descriptorIndex := 12, attributes := #[] }, { accessFlags := 26, nameIndex := 15, descriptorIndex := 16, attributes := #[] }, { accessFlags := 26, nameIndex := 19, descriptorIndex := 16, attributes := #[] }, { accessFlags := 26, nameIndex := 26, descriptorIndex := 27, attributes := #[] }, { accessFlags := 26, nameIndex := 30, descriptorIndex := 16, attributes := #[] }, { accessFlags := 26, nameIndex := 33, descriptorIndex := 16, attributes := #[] }, { accessFlags := 26, nameIndex := 330, descriptorIndex := 106, attributes := #[] }, { accessFlags := 26, nameIndex := 333, descriptorIndex := 106, attributes := #[] }, { accessFlags := 26, nameIndex := 101, descriptorIndex := 102, attributes := #[] }, { accessFlags := 26, nameIndex := 335, descriptorIndex := 106, attributes := #[] }, { accessFlags := 26, nameIndex := 336, descriptorIndex := 106, attributes := #[] }, { accessFlags := 26, nameIndex := 105, descriptorIndex := 106, attributes := #[] }, { accessFlags := 26, nameIndex := 338, descriptorIndex := 106, attributes := #[] }, { accessFlags := 26, nameIndex := 141, descriptorIndex := 84, attributes := #[] }, { accessFlags := 26, nameIndex := 83, descriptorIndex := 84, attributes := #[] }, { accessFlags := 26, nameIndex := 340, descriptorIndex := 180, attributes := #[] }, { accessFlags := 26, nameIndex := 207, descriptorIndex := 106, attributes := #[] }, { accessFlags := 26, nameIndex := 210, descriptorIndex := 106, attributes := #[] }, { accessFlags := 26, nameIndex := 213, descriptorIndex := 106, attributes := #[] }, { accessFlags := 26, nameIndex := 216, descriptorIndex := 106, attributes := #[] }, { accessFlags := 26, nameIndex := 160, descriptorIndex := 106, attributes := #[] }, { accessFlags := 26, nameIndex := 163, descriptorIndex := 106, attributes := #[] }, { accessFlags := 26, nameIndex := 116, descriptorIndex := 106, attributes := #[] }, { accessFlags := 26, nameIndex := 119, descriptorIndex := 106, attributes := #[] }, { accessFlags := 26, nameIndex := 132, descriptorIndex := 106, attributes := #[] }, { accessFlags := 26, nameIndex := 135, descriptorIndex := 106, attributes := #[] }, { accessFlags := 26, nameIndex := 147, descriptorIndex := 106, attributes := #[] }, { accessFlags := 26, nameIndex := 150, descriptorIndex := 106, attributes := #[] }, { accessFlags := 26, nameIndex := 153, descriptorIndex := 106, attributes := #[] }, { accessFlags := 26, nameIndex := 156, descriptorIndex := 106, attributes := #[] }, { accessFlags := 26, nameIndex := 183, descriptorIndex := 180, attributes := #[] }, { accessFlags := 26, nameIndex := 186, descriptorIndex := 180, attributes := #[] }, { accessFlags := 26, nameIndex := 179, descriptorIndex := 180, attributes := #[] }, { accessFlags := 26, nameIndex := 195, descriptorIndex := 180, attributes := #[] }, { accessFlags := 26, nameIndex := 189, descriptorIndex := 180, attributes := #[] }, { accessFlags := 26, nameIndex := 192, descriptorIndex := 180, attributes := #[] }, { accessFlags := 4120, nameIndex := 36, descriptorIndex := 37, attributes := #[] }])
  fields := #[{ name := "SEQUENCE_LENGTH", type := (.array .byte), accessFlags := 26, slot := 0, constantValue := 0 }, { name := "SECOND_LOW", type := (.array .int), accessFlags := 26, slot := 1, constantValue := 0 }, { name := "SECOND_HIGH", type := (.array .int), accessFlags := 26, slot := 2, constantValue := 0 }, { name := "REFUSAL", type := (.array (.object "com/example/strict_codec/strictcodec/Reason")), accessFlags := 26, slot := 3, constantValue := 0 }, { name := "LEAD_PAYLOAD", type := (.array .int), accessFlags := 26, slot := 4, constantValue := 0 }, { name := "LEAD_MARK", type := (.array .int), accessFlags := 26, slot := 5, constantValue := 0 }, { name := "CONTINUATION_PAYLOAD", type := .int, accessFlags := 26, slot := 6, constantValue := 0 }, { name := "CONTINUATION_MARK", type := .int, accessFlags := 26, slot := 7, constantValue := 0 }, { name := "NEXT", type := (.array .long), accessFlags := 26, slot := 8, constantValue := 0 }, { name := "STATE_BITS", type := .int, accessFlags := 26, slot := 9, constantValue := 0 }, { name := "ACCEPT", type := .int, accessFlags := 26, slot := 10, constantValue := 0 }, { name := "REJECT", type := .int, accessFlags := 26, slot := 11, constantValue := 0 }, { name := "REFUSED", type := .int, accessFlags := 26, slot := 12, constantValue := 0 }, { name := "INTS", type := (.object "java/lang/invoke/VarHandle"), accessFlags := 26, slot := 13, constantValue := 0 }, { name := "LONGS", type := (.object "java/lang/invoke/VarHandle"), accessFlags := 26, slot := 14, constantValue := 0 }, { name := "HIGH_BITS", type := .long, accessFlags := 26, slot := 15, constantValue := 0 }, { name := "THREE_BYTE_LEAST", type := .int, accessFlags := 26, slot := 16, constantValue := 0 }, { name := "THREE_BYTE_MOST", type := .int, accessFlags := 26, slot := 17, constantValue := 0 }, { name := "THREE_BYTE_GAP_FIRST", type := .int, accessFlags := 26, slot := 18, constantValue := 0 }, { name := "THREE_BYTE_GAP_LAST", type := .int, accessFlags := 26, slot := 19, constantValue := 0 }, { name := "FOUR_BYTE_LEAST", type := .int, accessFlags := 26, slot := 20, constantValue := 0 }, { name := "FOUR_BYTE_MOST", type := .int, accessFlags := 26, slot := 21, constantValue := 0 }, { name := "FIXED_2", type := .int, accessFlags := 26, slot := 22, constantValue := 0 }, { name := "FORM_2", type := .int, accessFlags := 26, slot := 23, constantValue := 0 }, { name := "FIXED_3", type := .int, accessFlags := 26, slot := 24, constantValue := 0 }, { name := "FORM_3", type := .int, accessFlags := 26, slot := 25, constantValue := 0 }, { name := "FIXED_1_3", type := .int, accessFlags := 26, slot := 26, constantValue := 0 }, { name := "FORM_1_3", type := .int, accessFlags := 26, slot := 27, constantValue := 0 }, { name := "FIXED_4", type := .int, accessFlags := 26, slot := 28, constantValue := 0 }, { name := "FORM_4", type := .int, accessFlags := 26, slot := 29, constantValue := 0 }, { name := "LANE_FIXED", type := .long, accessFlags := 26, slot := 30, constantValue := 0 }, { name := "LANE_FORM", type := .long, accessFlags := 26, slot := 31, constantValue := 0 }, { name := "LANE_PAYLOADS", type := .long, accessFlags := 26, slot := 32, constantValue := 0 }, { name := "LANE_GUARDS", type := .long, accessFlags := 26, slot := 33, constantValue := 0 }, { name := "LANE_FLOOR", type := .long, accessFlags := 26, slot := 34, constantValue := 0 }, { name := "LANE_CEILING", type := .long, accessFlags := 26, slot := 35, constantValue := 0 }, { name := "$assertionsDisabled", type := .boolean, accessFlags := 4120, slot := 36, constantValue := 0 }]
  methods := #[k2m0, k2m1]
  instanceTypes := #[]
  staticTypes := #[(.array .byte), (.array .int), (.array .int), (.array (.object "com/example/strict_codec/strictcodec/Reason")), (.array .int), (.array .int), .int, .int, (.array .long), .int, .int, .int, .int, (.object "java/lang/invoke/VarHandle"), (.object "java/lang/invoke/VarHandle"), .long, .int, .int, .int, .int, .int, .int, .int, .int, .int, .int, .int, .int, .int, .int, .long, .long, .long, .long, .long, .long, .boolean]
  resolved := Array.replicate 379 none
  statics := some 0 }

def pool3 : Array CpInfo := pool [(1, u "java/lang/Cloneable"), (0, .class_ 1), (0, u "java/lang/Object"), (0, .class_ 3)] 3

/-- java/lang/Cloneable -/
def k3 : Class := { plain "java/lang/Cloneable" (some 0) with
  accessFlags := 1537
  interfaces := #[]
  cf := some (fileOf pool3 2 #[] #[] 1537 4 #[] #[])
  fields := #[]
  methods := #[]
  instanceTypes := #[]
  staticTypes := #[]
  resolved := Array.replicate 8 none
  statics := none }

def pool4 : Array CpInfo := pool [(1, u "java/io/Serializable"), (0, .class_ 1), (0, u "java/lang/Object"), (0, .class_ 3)] 3

/-- java/io/Serializable -/
def k4 : Class := { plain "java/io/Serializable" (some 0) with
  accessFlags := 1537
  interfaces := #[]
  cf := some (fileOf pool4 2 #[] #[] 1537 4 #[] #[])
  fields := #[]
  methods := #[]
  instanceTypes := #[]
  staticTypes := #[]
  resolved := Array.replicate 8 none
  statics := none }

/-- the primitive byte -/
def k5 : Class := { plain "byte" none with kind := .primitive 'B', accessFlags := 0x411 }
/-- [B -/
def k6 : Class := { plain "[B" (some 0) with kind := .array 5 .byte, interfaces := #[3, 4], accessFlags := 1041 }

/-- the primitive int -/
def k7 : Class := { plain "int" none with kind := .primitive 'I', accessFlags := 0x411 }
/-- [I -/
def k8 : Class := { plain "[I" (some 0) with kind := .array 7 .int, interfaces := #[3, 4], accessFlags := 1041 }

def heap : Heap := #[{ cls := 2, slots := #[.ref 1, .ref 2, .ref 3, .null, .null, .null, .int 0, .int 0, .null, .int 0, .int 0, .int 0, .int 0, .null, .null, .long 0, .int 0, .int 0, .int 0, .int 0, .int 0, .int 0, .int 0, .int 0, .int 0, .int 0, .int 0, .int 0, .int 0, .int 0, .long 0, .long 0, .long 0, .long 0, .long 0, .long 0, .int 0], vm := .statics 2 },
  { cls := 6, slots := #[.int 1, .int 1, .int 1, .int 1, .int 1, .int 1, .int 1, .int 1, .int 1, .int 1, .int 1, .int 1, .int 1, .int 1, .int 1, .int 1, .int 1, .int 1, .int 1, .int 1, .int 1, .int 1, .int 1, .int 1, .int 1, .int 1, .int 1, .int 1, .int 1, .int 1, .int 1, .int 1, .int 1, .int 1, .int 1, .int 1, .int 1, .int 1, .int 1, .int 1, .int 1, .int 1, .int 1, .int 1, .int 1, .int 1, .int 1, .int 1, .int 1, .int 1, .int 1, .int 1, .int 1, .int 1, .int 1, .int 1, .int 1, .int 1, .int 1, .int 1, .int 1, .int 1, .int 1, .int 1, .int 1, .int 1, .int 1, .int 1, .int 1, .int 1, .int 1, .int 1, .int 1, .int 1, .int 1, .int 1, .int 1, .int 1, .int 1, .int 1, .int 1, .int 1, .int 1, .int 1, .int 1, .int 1, .int 1, .int 1, .int 1, .int 1, .int 1, .int 1, .int 1, .int 1, .int 1, .int 1, .int 1, .int 1, .int 1, .int 1, .int 1, .int 1, .int 1, .int 1, .int 1, .int 1, .int 1, .int 1, .int 1, .int 1, .int 1, .int 1, .int 1, .int 1, .int 1, .int 1, .int 1, .int 1, .int 1, .int 1, .int 1, .int 1, .int 1, .int 1, .int 1, .int 1, .int 1, .int 1, .int 0, .int 0, .int 0, .int 0, .int 0, .int 0, .int 0, .int 0, .int 0, .int 0, .int 0, .int 0, .int 0, .int 0, .int 0, .int 0, .int 0, .int 0, .int 0, .int 0, .int 0, .int 0, .int 0, .int 0, .int 0, .int 0, .int 0, .int 0, .int 0, .int 0, .int 0, .int 0, .int 0, .int 0, .int 0, .int 0, .int 0, .int 0, .int 0, .int 0, .int 0, .int 0, .int 0, .int 0, .int 0, .int 0, .int 0, .int 0, .int 0, .int 0, .int 0, .int 0, .int 0, .int 0, .int 0, .int 0, .int 0, .int 0, .int 0, .int 0, .int 0, .int 0, .int 0, .int 0, .int 0, .int 0, .int 2, .int 2, .int 2, .int 2, .int 2, .int 2, .int 2, .int 2, .int 2, .int 2, .int 2, .int 2, .int 2, .int 2, .int 2, .int 2, .int 2, .int 2, .int 2, .int 2, .int 2, .int 2, .int 2, .int 2, .int 2, .int 2, .int 2, .int 2, .int 2, .int 2, .int 3, .int 3, .int 3, .int 3, .int 3, .int 3, .int 3, .int 3, .int 3, .int 3, .int 3, .int 3, .int 3, .int 3, .int 3, .int 3, .int 4, .int 4, .int 4, .int 4, .int 4, .int 0, .int 0, .int 0, .int 0, .int 0, .int 0, .int 0, .int 0, .int 0, .int 0, .int 0], vm := .none },
  { cls := 8, slots := #[.int 0, .int 0, .int 0, .int 0, .int 0, .int 0, .int 0, .int 0, .int 0, .int 0, .int 0, .int 0, .int 0, .int 0, .int 0, .int 0, .int 0, .int 0, .int 0, .int 0, .int 0, .int 0, .int 0, .int 0, .int 0, .int 0, .int 0, .int 0, .int 0, .int 0, .int 0, .int 0, .int 0, .int 0, .int 0, .int 0, .int 0, .int 0, .int 0, .int 0, .int 0, .int 0, .int 0, .int 0, .int 0, .int 0, .int 0, .int 0, .int 0, .int 0, .int 0, .int 0, .int 0, .int 0, .int 0, .int 0, .int 0, .int 0, .int 0, .int 0, .int 0, .int 0, .int 0, .int 0, .int 0, .int 0, .int 0, .int 0, .int 0, .int 0, .int 0, .int 0, .int 0, .int 0, .int 0, .int 0, .int 0, .int 0, .int 0, .int 0, .int 0, .int 0, .int 0, .int 0, .int 0, .int 0, .int 0, .int 0, .int 0, .int 0, .int 0, .int 0, .int 0, .int 0, .int 0, .int 0, .int 0, .int 0, .int 0, .int 0, .int 0, .int 0, .int 0, .int 0, .int 0, .int 0, .int 0, .int 0, .int 0, .int 0, .int 0, .int 0, .int 0, .int 0, .int 0, .int 0, .int 0, .int 0, .int 0, .int 0, .int 0, .int 0, .int 0, .int 0, .int 0, .int 0, .int 0, .int 0, .int 0, .int 0, .int 0, .int 0, .int 0, .int 0, .int 0, .int 0, .int 0, .int 0, .int 0, .int 0, .int 0, .int 0, .int 0, .int 0, .int 0, .int 0, .int 0, .int 0, .int 0, .int 0, .int 0, .int 0, .int 0, .int 0, .int 0, .int 0, .int 0, .int 0, .int 0, .int 0, .int 0, .int 0, .int 0, .int 0, .int 0, .int 0, .int 0, .int 0, .int 0, .int 0, .int 0, .int 0, .int 0, .int 0, .int 0, .int 0, .int 0, .int 0, .int 0, .int 0, .int 0, .int 0, .int 0, .int 0, .int 0, .int 0, .int 0, .int 0, .int 0, .int 0, .int 0, .int 0, .int 0, .int 0, .int 128, .int 128, .int 128, .int 128, .int 128, .int 128, .int 128, .int 128, .int 128, .int 128, .int 128, .int 128, .int 128, .int 128, .int 128, .int 128, .int 128, .int 128, .int 128, .int 128, .int 128, .int 128, .int 128, .int 128, .int 128, .int 128, .int 128, .int 128, .int 128, .int 128, .int 160, .int 128, .int 128, .int 128, .int 128, .int 128, .int 128, .int 128, .int 128, .int 128, .int 128, .int 128, .int 128, .int 128, .int 128, .int 128, .int 144, .int 128, .int 128, .int 128, .int 128, .int 0, .int 0, .int 0, .int 0, .int 0, .int 0, .int 0, .int 0, .int 0, .int 0, .int 0], vm := .none },
  { cls := 8, slots := #[.int 0, .int 0, .int 0, .int 0, .int 0, .int 0, .int 0, .int 0, .int 0, .int 0, .int 0, .int 0, .int 0, .int 0, .int 0, .int 0, .int 0, .int 0, .int 0, .int 0, .int 0, .int 0, .int 0, .int 0, .int 0, .int 0, .int 0, .int 0, .int 0, .int 0, .int 0, .int 0, .int 0, .int 0, .int 0, .int 0, .int 0, .int 0, .int 0, .int 0, .int 0, .int 0, .int 0, .int 0, .int 0, .int 0, .int 0, .int 0, .int 0, .int 0, .int 0, .int 0, .int 0, .int 0, .int 0, .int 0, .int 0, .int 0, .int 0, .int 0, .int 0, .int 0, .int 0, .int 0, .int 0, .int 0, .int 0, .int 0, .int 0, .int 0, .int 0, .int 0, .int 0, .int 0, .int 0, .int 0, .int 0, .int 0, .int 0, .int 0, .int 0, .int 0, .int 0, .int 0, .int 0, .int 0, .int 0, .int 0, .int 0, .int 0, .int 0, .int 0, .int 0, .int 0, .int 0, .int 0, .int 0, .int 0, .int 0, .int 0, .int 0, .int 0, .int 0, .int 0, .int 0, .int 0, .int 0, .int 0, .int 0, .int 0, .int 0, .int 0, .int 0, .int 0, .int 0, .int 0, .int 0, .int 0, .int 0, .int 0, .int 0, .int 0, .int 0, .int 0, .int 0, .int 0, .int 0, .int 0, .int 0, .int 0, .int 0, .int 0, .int 0, .int 0, .int 0, .int 0, .int 0, .int 0, .int 0, .int 0, .int 0, .int 0, .int 0, .int 0, .int 0, .int 0, .int 0, .int 0, .int 0, .int 0, .int 0, .int 0, .int 0, .int 0, .int 0, .int 0, .int 0, .int 0, .int 0, .int 0, .int 0, .int 0, .int 0, .int 0, .int 0, .int 0, .int 0, .int 0, .int 0, .int 0, .int 0, .int 0, .int 0, .int 0, .int 0, .int 0, .int 0, .int 0, .int 0, .int 0, .int 0, .int 0, .int 0, .int 0, .int 0, .int 0, .int 0, .int 0, .int 0, .int 0, .int 0, .int 0, .int 0, .int 0, .int 191, .int 191, .int 191, .int 191, .int 191, .int 191, .int 191, .int 191, .int 191, .int 191, .int 191, .int 191, .int 191, .int 191, .int 191, .int 191, .int 191, .int 191, .int 191, .int 191, .int 191, .int 191, .int 191, .int 191, .int 191, .int 191, .int 191, .int 191, .int 191, .int 191, .int 191, .int 191, .int 191, .int 191, .int 191, .int 191, .int 191, .int 191, .int 191, .int 191, .int 191, .int 191, .int 191, .int 159, .int 191, .int 191, .int 191, .int 191, .int 191, .int 191, .int 143, .int 0, .int 0, .int 0, .int 0, .int 0, .int 0, .int 0, .int 0, .int 0, .int 0, .int 0], vm := .none }]
def classes : Array Class := #[k0, k1, k2, k3, k4, k5, k6, k7, k8]
def interned : List (Array UInt16 × Addr) := []
def slotsUsed : Nat := 805
def theMethod : MethodId := ⟨1, 1⟩
def args0 : Array Value := #[.int 1, .int 2, .int 3, .int 5, .int 6, .int 8]
def aboutOver (below : List Frame) : State where
  vm := { classes := classes, interned := interned.toArray }
  heap := heap
  slotsUsed := slotsUsed
  threads := #[{ frames := .invoking theMethod args0 :: below }]
def below0 : List Frame := [.native { method := ⟨0, 0⟩, args := #[] }]
def about1 : State := aboutOver below0
def p0 : Program := .bare "" "" ""
def e0 : Env := launch0.env 0 0 0
theorem w_frames : about1.frames = Frame.invoking theMethod args0 :: below0 := rfl
set_option maxRecDepth 65536 in
theorem w_args : argsFit about1.vm theMethod args0 = true := by decide +kernel
set_option maxRecDepth 65536 in
theorem w_heap : heapFits about1 = true := by decide +kernel
set_option maxRecDepth 65536 in
theorem w_runnable : about1.curStatus? = some .runnable := by decide +kernel
set_option maxRecDepth 65536 in
theorem w_alone : about1.alone = true := by decide +kernel
set_option maxRecDepth 65536 in
theorem w_named : about1.methodNamed? x = some theMethod := by decide +kernel
set_option maxRecDepth 65536 in
theorem w_hears : about1.hears theMethod below0 = true := by decide +kernel
set_option maxRecDepth 65536 in
theorem w_ripe : about1.ripe theMethod args0 below0 = true := by decide +kernel
theorem w_running : about1.status = .running := rfl
set_option maxRecDepth 65536 in
theorem w_room : about1.hasRoom e0.platform room_1 = true :=
  launch0.hasRoom_least _ room_1 (by decide +kernel) (by decide +kernel) (by decide +kernel) (by decide +kernel) (by decide +kernel) (by decide +kernel)
theorem allAtoms_all (ts : List Jvm.Cond) (a : Array Jvm.Value) (st : Jvm.State) : (allAtoms ts).before a st = ts.all (fun c => c.before a st) := by
  induction ts with
  | nil => rfl
  | cons c t ih =>
    show (Jvm.Cond.and c (allAtoms t)).before a st = _
    rw [Jvm.Cond.before_and, ih, List.all_cons]
def words1 : List Jvm.Cond := Jvm.Cond.code x code maxLocals ret :: tables_1
/-- a 'code' word, met by the world's own term for the bytes: nothing is compared byte by byte -/
theorem code_word {y : MethodName} {bytes : ByteArray} {mx : Nat} {rt : Option FieldType} {a : Array Value} {s : State} {m : MethodId} {meth : Method} {c : Code} (h1 : s.methodNamed? y = some m) (h2 : s.vm.method? m = some meth) (h3 : meth.code = some c) (h4 : c.code = bytes)
    (h5 : (c.maxLocals == mx && c.exceptionTable.isEmpty && decide (c.maxStack ≤ mostOperands) && decide (meth.sig.returnType = rt) && !meth.locks && decide (parseMethodDescriptor y.desc = some meth.sig)) = true) : (Jvm.Cond.code y bytes mx rt).before a s = true := by
  simp only [Bool.and_eq_true, beq_iff_eq, Bool.not_eq_true', decide_eq_true_eq] at h5
  obtain ⟨⟨⟨⟨⟨g1, g2⟩, g3⟩, g4⟩, g5⟩, g6⟩ := h5
  simp [Cond.before, Cond.holds, Cond.value, h1, h2, h3, h4, g1, g2, g3, g4, g5, g6]
def isCode : Jvm.Cond → Bool
  | .code _ _ _ _ => true
  | _ => false
theorem all_split {L : List Jvm.Cond} {P : Jvm.Cond → Bool} (h1 : L.all (fun c => isCode c || P c) = true) (h2 : ∀ c ∈ L.filter isCode, P c = true) : L.all P = true := by
  refine List.all_eq_true.mpr fun c hc => ?_
  have h := List.all_eq_true.mp h1 c hc
  rcases Bool.eq_false_or_eq_true (isCode c) with hi | hi
  · exact h2 c (List.mem_filter.mpr ⟨hc, hi⟩)
  · simpa [hi] using h
set_option maxRecDepth 65536 in
theorem w_c0 : (Jvm.Cond.code x code maxLocals ret).before args0 about1 = true := code_word (m := ⟨1, 1⟩) (meth := k1m1) (c := k1c1) (by decide +kernel) rfl rfl rfl (by decide +kernel)
set_option maxRecDepth 65536 in
theorem w_c1 : (Jvm.Cond.code ({ cls := "com/example/strict_codec/strictcodec/Utf8Grammar", name := "span", desc := "([BII)I" } : Jvm.MethodName) prog_19_method_13_code (9 : Nat) (Option.some Jvm.ClassFile.FieldType.int)).before args0 about1 = true := code_word (m := ⟨2, 1⟩) (meth := k2m1) (c := k2c1) (by decide +kernel) rfl rfl rfl (by decide +kernel)
set_option maxRecDepth 65536 in
theorem w_c2 : (Jvm.Cond.code ({ cls := "com/example/strict_codec/strictcodec/Utf8GrammarSpanPinLaw", name := "expected", desc := "(IIIII)I" } : Jvm.MethodName) method_4_code (9 : Nat) (Option.some Jvm.ClassFile.FieldType.int)).before args0 about1 = true := code_word (m := ⟨1, 3⟩) (meth := k1m3) (c := k1c3) (by decide +kernel) rfl rfl rfl (by decide +kernel)
set_option maxRecDepth 65536 in
theorem w_c3 : (Jvm.Cond.code ({ cls := "com/example/strict_codec/strictcodec/Utf8GrammarSpanPinLaw", name := "cont", desc := "(I)Z" } : Jvm.MethodName) method_3_code (1 : Nat) (Option.some Jvm.ClassFile.FieldType.boolean)).before args0 about1 = true := code_word (m := ⟨1, 2⟩) (meth := k1m2) (c := k1c2) (by decide +kernel) rfl rfl rfl (by decide +kernel)
def codes1 : List Jvm.Cond := [Jvm.Cond.code x code maxLocals ret, Jvm.Cond.code ({ cls := "com/example/strict_codec/strictcodec/Utf8Grammar", name := "span", desc := "([BII)I" } : Jvm.MethodName) prog_19_method_13_code (9 : Nat) (Option.some Jvm.ClassFile.FieldType.int), Jvm.Cond.code ({ cls := "com/example/strict_codec/strictcodec/Utf8GrammarSpanPinLaw", name := "expected", desc := "(IIIII)I" } : Jvm.MethodName) method_4_code (9 : Nat) (Option.some Jvm.ClassFile.FieldType.int), Jvm.Cond.code ({ cls := "com/example/strict_codec/strictcodec/Utf8GrammarSpanPinLaw", name := "cont", desc := "(I)Z" } : Jvm.MethodName) method_3_code (1 : Nat) (Option.some Jvm.ClassFile.FieldType.boolean)]
set_option maxRecDepth 65536 in
theorem codes_eq : words1.filter isCode = codes1 := rfl
theorem w_codes : ∀ c ∈ words1.filter isCode, c.before args0 about1 = true := by
  rw [codes_eq]
  intro c hc
  simp only [codes1, List.mem_cons, List.not_mem_nil, or_false] at hc
  rcases hc with rfl | rfl | rfl | rfl
  · exact w_c0
  · exact w_c1
  · exact w_c2
  · exact w_c3
set_option maxRecDepth 65536 in
theorem w_t1 : words1.all (fun c => isCode c || c.before args0 about1) = true := by decide +kernel
theorem w_tables : (allAtoms (Jvm.Cond.code x code maxLocals ret :: tables_1)).before args0 about1 = true := by
  rw [allAtoms_all]
  show words1.all (fun c => c.before args0 about1) = true
  refine all_split ?_ w_codes
  rw [w_t1]
set_option maxRecDepth 65536 in
theorem w_case : (Jvm.Cond.and given_1 narrow_1).before args0 about1 = true := by decide +kernel
theorem w_applies : (headSpec (Jvm.Cond.code x code maxLocals ret :: tables_1) room_1).applies x e0.platform about1 = true :=
  (Spec.applies_iff w_frames).mpr ⟨w_running, w_runnable, w_alone, w_named, w_hears, w_ripe, w_room, w_tables⟩
theorem atStart : AtStart classFile x code maxLocals ret World_1 tables_1 room_1 Calls_1 rest_1 Pre_1 launch0 p0 e0 about1 theMethod args0 below0 :=
  ⟨lists_1, trivial, launch0.admits_env _ _ _, launch0.least_env, fairChoices_fair.cas, fairChoices_fair.clock, w_frames, w_args, w_heap, w_applies, trivial, trivial, w_case⟩
end start1
theorem witness_1 : WitnessClaimed_1 := ⟨start1.p0, start1.e0, start1.about1, start1.theMethod, start1.args0, start1.below0, start1.atStart⟩
end Jvm.Pilot.@@N@@
