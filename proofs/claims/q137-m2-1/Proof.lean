import JvmDerived
import JvmDerived.Pilot.@@N@@Statement
import JvmDerived.Pilot.@@N@@Code
set_option linter.unusedVariables false
set_option linter.unusedSimpArgs false
namespace Jvm.Pilot.@@N@@
open Jvm Jvm.ClassFile Sem Op Lib Jvm.Free Jvm.Stand Jvm.LawKit Jvm.RoadKit Bundle Jvm.Pilot.@@N@@.Jvm.D
/-- the run stands at T' as it stood at T: the heap is the same -/
def Nx {p : Program} {l : Launch} {e : Env} {R : Room} {s : State} {m : MethodId} {args : Array Value} {below : List Frame} {meth : Method} {c : Code} {T : State} {locs : List Loc} {cells slots : Nat} (X : Stand p l e R s m args below meth c T locs cells slots) (T' : State) : Prop := Stand p l e R s m args below meth c T' locs cells slots ∧ T'.heap = T.heap
theorem lq_eq {x y : Int64} (h : x = y) : lcmpW x y = 0 := (lcW x y).trans ((lc_eq x y).mpr h)
theorem lq_ne {x y : Int64} (h : ¬ x = y) : ¬ lcmpW x y = 0 := fun q => h ((lc_eq x y).mp ((lcW x y).symm.trans q))
theorem lq_lt {x y : Int64} (h : x < y) : lcmpW x y < 0 := by rw [lcW]; exact (lc_lt x y).mpr h
theorem lq_nlt {x y : Int64} (h : ¬ x < y) : ¬ lcmpW x y < 0 := by rw [lcW]; exact fun q => h ((lc_lt x y).mp q)
theorem lq_gt {x y : Int64} (h : y < x) : 0 < lcmpW x y := by rw [lcW]; exact (lc_gt x y).mpr h
theorem lq_ngt {x y : Int64} (h : ¬ y < x) : ¬ 0 < lcmpW x y := by rw [lcW]; exact fun q => h ((lc_gt x y).mp q)
theorem own_eqI {args : Array Value} {first s : State} {o : Option Outcome} {idx : List Nat} {t : Term} {k : Int32} (h : (Jvm.Cond.eq t (.int k)).value args first o s idx = some true) : t.eval args first o idx s = some (.int k) := by
  simp only [Cond.value, Term.eval] at h
  cases ht : t.eval args first o idx s with
  | none => simp [ht] at h
  | some x => cases x <;> simp [ht] at h ⊢; exact h
theorem own_eqL {args : Array Value} {first s : State} {o : Option Outcome} {idx : List Nat} {t : Term} {k : Int64} (h : (Jvm.Cond.eq t (.long k)).value args first o s idx = some true) : t.eval args first o idx s = some (.long k) := by
  simp only [Cond.value, Term.eval] at h
  cases ht : t.eval args first o idx s with
  | none => simp [ht] at h
  | some x => cases x <;> simp [ht] at h ⊢; exact h
abbrev jv (x : Int64) : Slot := .val (.long x)
theorem y_iloadN {tb : Tables} [Ours tb] {e : Env} {below : List Frame} {T target : State} {m : MethodId} {c : Code} (h : At T m c below) (hx : tb.exec = Jvm.exec) {pc pc' : Nat} {L : Array Slot} {S : List Value} {k : Fin 4} {v : Int32} (hd : decode c.code pc = .ok (.iload_n k, 1)) (hl : L[k.val]? = some (.val (.int v))) (hp : pc + 1 = pc') (hr : Steps tb e below (T.setTop (mkF m pc' L (.int v :: S))) target) : Steps tb e below (T.setTop (mkF m pc L S)) target := by subst hp; exact XS.iloadN h hx rfl hd hl hr
theorem y_lloadN {tb : Tables} [Ours tb] {e : Env} {below : List Frame} {T target : State} {m : MethodId} {c : Code} (h : At T m c below) (hx : tb.exec = Jvm.exec) {pc pc' : Nat} {L : Array Slot} {S : List Value} {k : Fin 4} {v : Int64} (hd : decode c.code pc = .ok (.lload_n k, 1)) (hl : L[k.val]? = some (.val (.long v))) (hp : pc + 1 = pc') (hr : Steps tb e below (T.setTop (mkF m pc' L (.long v :: S))) target) : Steps tb e below (T.setTop (mkF m pc L S)) target := by subst hp; exact XS.lloadN h hx rfl hd hl hr
theorem y_aloadN {tb : Tables} [Ours tb] {e : Env} {below : List Frame} {T target : State} {m : MethodId} {c : Code} (h : At T m c below) (hx : tb.exec = Jvm.exec) {pc pc' : Nat} {L : Array Slot} {S : List Value} {k : Fin 4} {v : Value} (hd : decode c.code pc = .ok (.aload_n k, 1)) (hl : L[k.val]? = some (.val v)) (hv : v.isRef = true) (hp : pc + 1 = pc') (hr : Steps tb e below (T.setTop (mkF m pc' L (v :: S))) target) : Steps tb e below (T.setTop (mkF m pc L S)) target := by subst hp; exact XS.aloadN h hx rfl hd hl hv hr
theorem y_istoreN {tb : Tables} [Ours tb] {e : Env} {below : List Frame} {T target : State} {m : MethodId} {c : Code} (h : At T m c below) (hx : tb.exec = Jvm.exec) {pc pc' : Nat} {L : Array Slot} {S : List Value} {k : Fin 4} {v : Int32} {l' : Array Slot} (hd : decode c.code pc = .ok (.istore_n k, 1)) (hl : storeLocals L k.val (.int v) = some l') (hp : pc + 1 = pc') (hr : Steps tb e below (T.setTop (mkF m pc' l' S)) target) : Steps tb e below (T.setTop (mkF m pc L (.int v :: S))) target := by subst hp; exact XS.istoreN h hx rfl hd rfl hl hr
theorem y_lstoreN {tb : Tables} [Ours tb] {e : Env} {below : List Frame} {T target : State} {m : MethodId} {c : Code} (h : At T m c below) (hx : tb.exec = Jvm.exec) {pc pc' : Nat} {L : Array Slot} {S : List Value} {k : Fin 4} {v : Int64} {l' : Array Slot} (hd : decode c.code pc = .ok (.lstore_n k, 1)) (hl : storeLocals L k.val (.long v) = some l') (hp : pc + 1 = pc') (hr : Steps tb e below (T.setTop (mkF m pc' l' S)) target) : Steps tb e below (T.setTop (mkF m pc L (.long v :: S))) target := by subst hp; exact XS.lstoreN h hx rfl hd rfl hl hr
theorem y_astoreN {tb : Tables} [Ours tb] {e : Env} {below : List Frame} {T target : State} {m : MethodId} {c : Code} (h : At T m c below) (hx : tb.exec = Jvm.exec) {pc pc' : Nat} {L : Array Slot} {S : List Value} {k : Fin 4} {v : Value} {l' : Array Slot} (hd : decode c.code pc = .ok (.astore_n k, 1)) (hv : v.isRef = true) (hl : storeLocals L k.val v = some l') (hp : pc + 1 = pc') (hr : Steps tb e below (T.setTop (mkF m pc' l' S)) target) : Steps tb e below (T.setTop (mkF m pc L (v :: S))) target := by subst hp; exact XS.astoreN h hx rfl hd rfl hv hl hr
theorem y_iload {tb : Tables} [Ours tb] {e : Env} {below : List Frame} {T target : State} {m : MethodId} {c : Code} (h : At T m c below) (hx : tb.exec = Jvm.exec) {pc pc' : Nat} {L : Array Slot} {S : List Value} {k : Nat} {v : Int32} (hd : decode c.code pc = .ok (.iload k, 2)) (hl : L[k]? = some (.val (.int v))) (hp : pc + 2 = pc') (hr : Steps tb e below (T.setTop (mkF m pc' L (.int v :: S))) target) : Steps tb e below (T.setTop (mkF m pc L S)) target := by subst hp; exact XS.iload h hx rfl hd hl hr
theorem y_lload {tb : Tables} [Ours tb] {e : Env} {below : List Frame} {T target : State} {m : MethodId} {c : Code} (h : At T m c below) (hx : tb.exec = Jvm.exec) {pc pc' : Nat} {L : Array Slot} {S : List Value} {k : Nat} {v : Int64} (hd : decode c.code pc = .ok (.lload k, 2)) (hl : L[k]? = some (.val (.long v))) (hp : pc + 2 = pc') (hr : Steps tb e below (T.setTop (mkF m pc' L (.long v :: S))) target) : Steps tb e below (T.setTop (mkF m pc L S)) target := by subst hp; exact XS.lload h hx rfl hd hl hr
theorem y_aload {tb : Tables} [Ours tb] {e : Env} {below : List Frame} {T target : State} {m : MethodId} {c : Code} (h : At T m c below) (hx : tb.exec = Jvm.exec) {pc pc' : Nat} {L : Array Slot} {S : List Value} {k : Nat} {v : Value} (hd : decode c.code pc = .ok (.aload k, 2)) (hl : L[k]? = some (.val v)) (hv : v.isRef = true) (hp : pc + 2 = pc') (hr : Steps tb e below (T.setTop (mkF m pc' L (v :: S))) target) : Steps tb e below (T.setTop (mkF m pc L S)) target := by subst hp; exact XS.aload h hx rfl hd hl hv hr
theorem y_istore {tb : Tables} [Ours tb] {e : Env} {below : List Frame} {T target : State} {m : MethodId} {c : Code} (h : At T m c below) (hx : tb.exec = Jvm.exec) {pc pc' : Nat} {L : Array Slot} {S : List Value} {k : Nat} {v : Int32} {l' : Array Slot} (hd : decode c.code pc = .ok (.istore k, 2)) (hl : storeLocals L k (.int v) = some l') (hp : pc + 2 = pc') (hr : Steps tb e below (T.setTop (mkF m pc' l' S)) target) : Steps tb e below (T.setTop (mkF m pc L (.int v :: S))) target := by subst hp; exact XS.istore h hx rfl hd rfl hl hr
theorem y_lstore {tb : Tables} [Ours tb] {e : Env} {below : List Frame} {T target : State} {m : MethodId} {c : Code} (h : At T m c below) (hx : tb.exec = Jvm.exec) {pc pc' : Nat} {L : Array Slot} {S : List Value} {k : Nat} {v : Int64} {l' : Array Slot} (hd : decode c.code pc = .ok (.lstore k, 2)) (hl : storeLocals L k (.long v) = some l') (hp : pc + 2 = pc') (hr : Steps tb e below (T.setTop (mkF m pc' l' S)) target) : Steps tb e below (T.setTop (mkF m pc L (.long v :: S))) target := by subst hp; exact XS.lstore h hx rfl hd rfl hl hr
theorem y_astore {tb : Tables} [Ours tb] {e : Env} {below : List Frame} {T target : State} {m : MethodId} {c : Code} (h : At T m c below) (hx : tb.exec = Jvm.exec) {pc pc' : Nat} {L : Array Slot} {S : List Value} {k : Nat} {v : Value} {l' : Array Slot} (hd : decode c.code pc = .ok (.astore k, 2)) (hv : v.isRef = true) (hl : storeLocals L k v = some l') (hp : pc + 2 = pc') (hr : Steps tb e below (T.setTop (mkF m pc' l' S)) target) : Steps tb e below (T.setTop (mkF m pc L (v :: S))) target := by subst hp; exact XS.astore h hx rfl hd rfl hv hl hr
theorem y_iconst {tb : Tables} [Ours tb] {e : Env} {below : List Frame} {T target : State} {m : MethodId} {c : Code} (h : At T m c below) (hx : tb.exec = Jvm.exec) {pc pc' : Nat} {L : Array Slot} {S : List Value} {i : Int} {v : Int32} (hd : decode c.code pc = .ok (.iconst i, 1)) (hv : Int32.ofInt i = v) (hp : pc + 1 = pc') (hr : Steps tb e below (T.setTop (mkF m pc' L (.int v :: S))) target) : Steps tb e below (T.setTop (mkF m pc L S)) target := by subst hp; exact XS.iconst h hx rfl hd (by rw [hv]; exact hr)
theorem y_bipush {tb : Tables} [Ours tb] {e : Env} {below : List Frame} {T target : State} {m : MethodId} {c : Code} (h : At T m c below) (hx : tb.exec = Jvm.exec) {pc pc' : Nat} {L : Array Slot} {S : List Value} {i : Int} {v : Int32} (hd : decode c.code pc = .ok (.bipush i, 2)) (hv : (Int8.ofInt i).toInt32 = v) (hp : pc + 2 = pc') (hr : Steps tb e below (T.setTop (mkF m pc' L (.int v :: S))) target) : Steps tb e below (T.setTop (mkF m pc L S)) target := by subst hp; exact XS.bipush h hx rfl hd (by rw [hv]; exact hr)
theorem y_sipush {tb : Tables} [Ours tb] {e : Env} {below : List Frame} {T target : State} {m : MethodId} {c : Code} (h : At T m c below) (hx : tb.exec = Jvm.exec) {pc pc' : Nat} {L : Array Slot} {S : List Value} {i : Int} {v : Int32} (hd : decode c.code pc = .ok (.sipush i, 3)) (hv : (Int16.ofInt i).toInt32 = v) (hp : pc + 3 = pc') (hr : Steps tb e below (T.setTop (mkF m pc' L (.int v :: S))) target) : Steps tb e below (T.setTop (mkF m pc L S)) target := by subst hp; exact XS.sipush h hx rfl hd (by rw [hv]; exact hr)
theorem y_lconst {tb : Tables} [Ours tb] {e : Env} {below : List Frame} {T target : State} {m : MethodId} {c : Code} (h : At T m c below) (hx : tb.exec = Jvm.exec) {pc pc' : Nat} {L : Array Slot} {S : List Value} {k : Fin 2} {v : Int64} (hd : decode c.code pc = .ok (.lconst k, 1)) (hv : Int64.ofNat k.val = v) (hp : pc + 1 = pc') (hr : Steps tb e below (T.setTop (mkF m pc' L (.long v :: S))) target) : Steps tb e below (T.setTop (mkF m pc L S)) target := by subst hp; exact XS.lconst h hx rfl hd (by first | exact hv ▸ hr | (rw [hv]; exact hr) | (subst hv; exact hr))
theorem y_aconstNull {tb : Tables} [Ours tb] {e : Env} {below : List Frame} {T target : State} {m : MethodId} {c : Code} (h : At T m c below) (hx : tb.exec = Jvm.exec) {pc pc' : Nat} {L : Array Slot} {S : List Value} (hd : decode c.code pc = .ok (.aconst_null, 1)) (hp : pc + 1 = pc') (hr : Steps tb e below (T.setTop (mkF m pc' L (.null :: S))) target) : Steps tb e below (T.setTop (mkF m pc L S)) target := by subst hp; exact XS.aconstNull h hx rfl hd hr
theorem y_iadd {tb : Tables} [Ours tb] {e : Env} {below : List Frame} {T target : State} {m : MethodId} {c : Code} (h : At T m c below) (hx : tb.exec = Jvm.exec) {pc pc' : Nat} {L : Array Slot} {S : List Value} {x y z : Int32} (hd : decode c.code pc = .ok (.iadd, 1)) (hz : x + y = z) (hp : pc + 1 = pc') (hr : Steps tb e below (T.setTop (mkF m pc' L (.int z :: S))) target) : Steps tb e below (T.setTop (mkF m pc L (.int y :: .int x :: S))) target := by subst hp; exact XS.iadd h hx rfl hd rfl (by rw [hz]; exact hr)
theorem y_isub {tb : Tables} [Ours tb] {e : Env} {below : List Frame} {T target : State} {m : MethodId} {c : Code} (h : At T m c below) (hx : tb.exec = Jvm.exec) {pc pc' : Nat} {L : Array Slot} {S : List Value} {x y z : Int32} (hd : decode c.code pc = .ok (.isub, 1)) (hz : x - y = z) (hp : pc + 1 = pc') (hr : Steps tb e below (T.setTop (mkF m pc' L (.int z :: S))) target) : Steps tb e below (T.setTop (mkF m pc L (.int y :: .int x :: S))) target := by subst hp; exact XS.isub h hx rfl hd rfl (by rw [hz]; exact hr)
theorem y_imul {tb : Tables} [Ours tb] {e : Env} {below : List Frame} {T target : State} {m : MethodId} {c : Code} (h : At T m c below) (hx : tb.exec = Jvm.exec) {pc pc' : Nat} {L : Array Slot} {S : List Value} {x y z : Int32} (hd : decode c.code pc = .ok (.imul, 1)) (hz : x * y = z) (hp : pc + 1 = pc') (hr : Steps tb e below (T.setTop (mkF m pc' L (.int z :: S))) target) : Steps tb e below (T.setTop (mkF m pc L (.int y :: .int x :: S))) target := by subst hp; exact XS.imul h hx rfl hd rfl (by rw [hz]; exact hr)
theorem y_iand {tb : Tables} [Ours tb] {e : Env} {below : List Frame} {T target : State} {m : MethodId} {c : Code} (h : At T m c below) (hx : tb.exec = Jvm.exec) {pc pc' : Nat} {L : Array Slot} {S : List Value} {x y z : Int32} (hd : decode c.code pc = .ok (.iand, 1)) (hz : x &&& y = z) (hp : pc + 1 = pc') (hr : Steps tb e below (T.setTop (mkF m pc' L (.int z :: S))) target) : Steps tb e below (T.setTop (mkF m pc L (.int y :: .int x :: S))) target := by subst hp; exact XS.iand h hx rfl hd rfl (by rw [hz]; exact hr)
theorem y_ior {tb : Tables} [Ours tb] {e : Env} {below : List Frame} {T target : State} {m : MethodId} {c : Code} (h : At T m c below) (hx : tb.exec = Jvm.exec) {pc pc' : Nat} {L : Array Slot} {S : List Value} {x y z : Int32} (hd : decode c.code pc = .ok (.ior, 1)) (hz : x ||| y = z) (hp : pc + 1 = pc') (hr : Steps tb e below (T.setTop (mkF m pc' L (.int z :: S))) target) : Steps tb e below (T.setTop (mkF m pc L (.int y :: .int x :: S))) target := by subst hp; exact XS.ior h hx rfl hd rfl (by rw [hz]; exact hr)
theorem y_ixor {tb : Tables} [Ours tb] {e : Env} {below : List Frame} {T target : State} {m : MethodId} {c : Code} (h : At T m c below) (hx : tb.exec = Jvm.exec) {pc pc' : Nat} {L : Array Slot} {S : List Value} {x y z : Int32} (hd : decode c.code pc = .ok (.ixor, 1)) (hz : x ^^^ y = z) (hp : pc + 1 = pc') (hr : Steps tb e below (T.setTop (mkF m pc' L (.int z :: S))) target) : Steps tb e below (T.setTop (mkF m pc L (.int y :: .int x :: S))) target := by subst hp; exact XS.ixor h hx rfl hd rfl (by rw [hz]; exact hr)
theorem y_ladd {tb : Tables} [Ours tb] {e : Env} {below : List Frame} {T target : State} {m : MethodId} {c : Code} (h : At T m c below) (hx : tb.exec = Jvm.exec) {pc pc' : Nat} {L : Array Slot} {S : List Value} {x y z : Int64} (hd : decode c.code pc = .ok (.ladd, 1)) (hz : x + y = z) (hp : pc + 1 = pc') (hr : Steps tb e below (T.setTop (mkF m pc' L (.long z :: S))) target) : Steps tb e below (T.setTop (mkF m pc L (.long y :: .long x :: S))) target := by subst hp; exact XS.ladd h hx rfl hd rfl (by rw [hz]; exact hr)
theorem y_lsub {tb : Tables} [Ours tb] {e : Env} {below : List Frame} {T target : State} {m : MethodId} {c : Code} (h : At T m c below) (hx : tb.exec = Jvm.exec) {pc pc' : Nat} {L : Array Slot} {S : List Value} {x y z : Int64} (hd : decode c.code pc = .ok (.lsub, 1)) (hz : x - y = z) (hp : pc + 1 = pc') (hr : Steps tb e below (T.setTop (mkF m pc' L (.long z :: S))) target) : Steps tb e below (T.setTop (mkF m pc L (.long y :: .long x :: S))) target := by subst hp; exact XS.lsub h hx rfl hd rfl (by rw [hz]; exact hr)
theorem y_lmul {tb : Tables} [Ours tb] {e : Env} {below : List Frame} {T target : State} {m : MethodId} {c : Code} (h : At T m c below) (hx : tb.exec = Jvm.exec) {pc pc' : Nat} {L : Array Slot} {S : List Value} {x y z : Int64} (hd : decode c.code pc = .ok (.lmul, 1)) (hz : x * y = z) (hp : pc + 1 = pc') (hr : Steps tb e below (T.setTop (mkF m pc' L (.long z :: S))) target) : Steps tb e below (T.setTop (mkF m pc L (.long y :: .long x :: S))) target := by subst hp; exact XS.lmul h hx rfl hd rfl (by rw [hz]; exact hr)
theorem y_land {tb : Tables} [Ours tb] {e : Env} {below : List Frame} {T target : State} {m : MethodId} {c : Code} (h : At T m c below) (hx : tb.exec = Jvm.exec) {pc pc' : Nat} {L : Array Slot} {S : List Value} {x y z : Int64} (hd : decode c.code pc = .ok (.land, 1)) (hz : x &&& y = z) (hp : pc + 1 = pc') (hr : Steps tb e below (T.setTop (mkF m pc' L (.long z :: S))) target) : Steps tb e below (T.setTop (mkF m pc L (.long y :: .long x :: S))) target := by subst hp; exact XS.land h hx rfl hd rfl (by rw [hz]; exact hr)
theorem y_lor {tb : Tables} [Ours tb] {e : Env} {below : List Frame} {T target : State} {m : MethodId} {c : Code} (h : At T m c below) (hx : tb.exec = Jvm.exec) {pc pc' : Nat} {L : Array Slot} {S : List Value} {x y z : Int64} (hd : decode c.code pc = .ok (.lor, 1)) (hz : x ||| y = z) (hp : pc + 1 = pc') (hr : Steps tb e below (T.setTop (mkF m pc' L (.long z :: S))) target) : Steps tb e below (T.setTop (mkF m pc L (.long y :: .long x :: S))) target := by subst hp; exact XS.lor h hx rfl hd rfl (by rw [hz]; exact hr)
theorem y_lxor {tb : Tables} [Ours tb] {e : Env} {below : List Frame} {T target : State} {m : MethodId} {c : Code} (h : At T m c below) (hx : tb.exec = Jvm.exec) {pc pc' : Nat} {L : Array Slot} {S : List Value} {x y z : Int64} (hd : decode c.code pc = .ok (.lxor, 1)) (hz : x ^^^ y = z) (hp : pc + 1 = pc') (hr : Steps tb e below (T.setTop (mkF m pc' L (.long z :: S))) target) : Steps tb e below (T.setTop (mkF m pc L (.long y :: .long x :: S))) target := by subst hp; exact XS.lxor h hx rfl hd rfl (by rw [hz]; exact hr)
theorem y_ineg {tb : Tables} [Ours tb] {e : Env} {below : List Frame} {T target : State} {m : MethodId} {c : Code} (h : At T m c below) (hx : tb.exec = Jvm.exec) {pc pc' : Nat} {L : Array Slot} {S : List Value} {x : Int32} {z : Int32} (hd : decode c.code pc = .ok (.ineg, 1)) (hz : -x = z) (hp : pc + 1 = pc') (hr : Steps tb e below (T.setTop (mkF m pc' L (.int z :: S))) target) : Steps tb e below (T.setTop (mkF m pc L (.int x :: S))) target := by subst hp; exact XS.ineg h hx rfl hd rfl (by subst hz; exact hr)
theorem y_lneg {tb : Tables} [Ours tb] {e : Env} {below : List Frame} {T target : State} {m : MethodId} {c : Code} (h : At T m c below) (hx : tb.exec = Jvm.exec) {pc pc' : Nat} {L : Array Slot} {S : List Value} {x : Int64} {z : Int64} (hd : decode c.code pc = .ok (.lneg, 1)) (hz : -x = z) (hp : pc + 1 = pc') (hr : Steps tb e below (T.setTop (mkF m pc' L (.long z :: S))) target) : Steps tb e below (T.setTop (mkF m pc L (.long x :: S))) target := by subst hp; exact XS.lneg h hx rfl hd rfl (by subst hz; exact hr)
theorem y_i2l {tb : Tables} [Ours tb] {e : Env} {below : List Frame} {T target : State} {m : MethodId} {c : Code} (h : At T m c below) (hx : tb.exec = Jvm.exec) {pc pc' : Nat} {L : Array Slot} {S : List Value} {x : Int32} {z : Int64} (hd : decode c.code pc = .ok (.i2l, 1)) (hz : x.toInt64 = z) (hp : pc + 1 = pc') (hr : Steps tb e below (T.setTop (mkF m pc' L (.long z :: S))) target) : Steps tb e below (T.setTop (mkF m pc L (.int x :: S))) target := by subst hp; exact XS.i2l h hx rfl hd rfl (by subst hz; exact hr)
theorem y_l2i {tb : Tables} [Ours tb] {e : Env} {below : List Frame} {T target : State} {m : MethodId} {c : Code} (h : At T m c below) (hx : tb.exec = Jvm.exec) {pc pc' : Nat} {L : Array Slot} {S : List Value} {x : Int64} {z : Int32} (hd : decode c.code pc = .ok (.l2i, 1)) (hz : x.toInt32 = z) (hp : pc + 1 = pc') (hr : Steps tb e below (T.setTop (mkF m pc' L (.int z :: S))) target) : Steps tb e below (T.setTop (mkF m pc L (.long x :: S))) target := by subst hp; exact XS.l2i h hx rfl hd rfl (by subst hz; exact hr)
theorem y_i2b {tb : Tables} [Ours tb] {e : Env} {below : List Frame} {T target : State} {m : MethodId} {c : Code} (h : At T m c below) (hx : tb.exec = Jvm.exec) {pc pc' : Nat} {L : Array Slot} {S : List Value} {x : Int32} {z : Int32} (hd : decode c.code pc = .ok (.i2b, 1)) (hz : x.toInt8.toInt32 = z) (hp : pc + 1 = pc') (hr : Steps tb e below (T.setTop (mkF m pc' L (.int z :: S))) target) : Steps tb e below (T.setTop (mkF m pc L (.int x :: S))) target := by subst hp; exact XS.i2b h hx rfl hd rfl (by subst hz; exact hr)
theorem y_i2s {tb : Tables} [Ours tb] {e : Env} {below : List Frame} {T target : State} {m : MethodId} {c : Code} (h : At T m c below) (hx : tb.exec = Jvm.exec) {pc pc' : Nat} {L : Array Slot} {S : List Value} {x : Int32} {z : Int32} (hd : decode c.code pc = .ok (.i2s, 1)) (hz : x.toInt16.toInt32 = z) (hp : pc + 1 = pc') (hr : Steps tb e below (T.setTop (mkF m pc' L (.int z :: S))) target) : Steps tb e below (T.setTop (mkF m pc L (.int x :: S))) target := by subst hp; exact XS.i2s h hx rfl hd rfl (by subst hz; exact hr)
theorem y_i2c {tb : Tables} [Ours tb] {e : Env} {below : List Frame} {T target : State} {m : MethodId} {c : Code} (h : At T m c below) (hx : tb.exec = Jvm.exec) {pc pc' : Nat} {L : Array Slot} {S : List Value} {x : Int32} {z : Int32} (hd : decode c.code pc = .ok (.i2c, 1)) (hz : x.toUInt32.toUInt16.toUInt32.toInt32 = z) (hp : pc + 1 = pc') (hr : Steps tb e below (T.setTop (mkF m pc' L (.int z :: S))) target) : Steps tb e below (T.setTop (mkF m pc L (.int x :: S))) target := by subst hp; exact XS.i2c h hx rfl hd rfl (by subst hz; exact hr)
theorem y_ishl {tb : Tables} [Ours tb] {e : Env} {below : List Frame} {T target : State} {m : MethodId} {c : Code} (h : At T m c below) (hx : tb.exec = Jvm.exec) {pc pc' : Nat} {L : Array Slot} {S : List Value} {x z : Int32} {y : Int32} (hd : decode c.code pc = .ok (.ishl, 1)) (hz : (x <<< (y &&& 31)) = z) (hp : pc + 1 = pc') (hr : Steps tb e below (T.setTop (mkF m pc' L (.int z :: S))) target) : Steps tb e below (T.setTop (mkF m pc L (.int y :: .int x :: S))) target := by subst hp; exact XS.ishl h hx rfl hd rfl (by subst hz; exact hr)
theorem y_ishr {tb : Tables} [Ours tb] {e : Env} {below : List Frame} {T target : State} {m : MethodId} {c : Code} (h : At T m c below) (hx : tb.exec = Jvm.exec) {pc pc' : Nat} {L : Array Slot} {S : List Value} {x z : Int32} {y : Int32} (hd : decode c.code pc = .ok (.ishr, 1)) (hz : (x >>> (y &&& 31)) = z) (hp : pc + 1 = pc') (hr : Steps tb e below (T.setTop (mkF m pc' L (.int z :: S))) target) : Steps tb e below (T.setTop (mkF m pc L (.int y :: .int x :: S))) target := by subst hp; exact XS.ishr h hx rfl hd rfl (by subst hz; exact hr)
theorem y_iushr {tb : Tables} [Ours tb] {e : Env} {below : List Frame} {T target : State} {m : MethodId} {c : Code} (h : At T m c below) (hx : tb.exec = Jvm.exec) {pc pc' : Nat} {L : Array Slot} {S : List Value} {x z : Int32} {y : Int32} (hd : decode c.code pc = .ok (.iushr, 1)) (hz : ((x.toUInt32 >>> (y &&& 31).toUInt32).toInt32) = z) (hp : pc + 1 = pc') (hr : Steps tb e below (T.setTop (mkF m pc' L (.int z :: S))) target) : Steps tb e below (T.setTop (mkF m pc L (.int y :: .int x :: S))) target := by subst hp; exact XS.iushr h hx rfl hd rfl (by subst hz; exact hr)
theorem y_lshl {tb : Tables} [Ours tb] {e : Env} {below : List Frame} {T target : State} {m : MethodId} {c : Code} (h : At T m c below) (hx : tb.exec = Jvm.exec) {pc pc' : Nat} {L : Array Slot} {S : List Value} {x z : Int64} {y : Int32} (hd : decode c.code pc = .ok (.lshl, 1)) (hz : (x <<< (y &&& 0x3f).toInt64) = z) (hp : pc + 1 = pc') (hr : Steps tb e below (T.setTop (mkF m pc' L (.long z :: S))) target) : Steps tb e below (T.setTop (mkF m pc L (.int y :: .long x :: S))) target := by subst hp; exact XS.lshl h hx rfl hd rfl (by subst hz; exact hr)
theorem y_lshr {tb : Tables} [Ours tb] {e : Env} {below : List Frame} {T target : State} {m : MethodId} {c : Code} (h : At T m c below) (hx : tb.exec = Jvm.exec) {pc pc' : Nat} {L : Array Slot} {S : List Value} {x z : Int64} {y : Int32} (hd : decode c.code pc = .ok (.lshr, 1)) (hz : (x >>> (y &&& 0x3f).toInt64) = z) (hp : pc + 1 = pc') (hr : Steps tb e below (T.setTop (mkF m pc' L (.long z :: S))) target) : Steps tb e below (T.setTop (mkF m pc L (.int y :: .long x :: S))) target := by subst hp; exact XS.lshr h hx rfl hd rfl (by subst hz; exact hr)
theorem y_lushr {tb : Tables} [Ours tb] {e : Env} {below : List Frame} {T target : State} {m : MethodId} {c : Code} (h : At T m c below) (hx : tb.exec = Jvm.exec) {pc pc' : Nat} {L : Array Slot} {S : List Value} {x z : Int64} {y : Int32} (hd : decode c.code pc = .ok (.lushr, 1)) (hz : ((x.toUInt64 >>> (y &&& 0x3f).toInt64.toUInt64).toInt64) = z) (hp : pc + 1 = pc') (hr : Steps tb e below (T.setTop (mkF m pc' L (.long z :: S))) target) : Steps tb e below (T.setTop (mkF m pc L (.int y :: .long x :: S))) target := by subst hp; exact XS.lushr h hx rfl hd rfl (by subst hz; exact hr)
theorem y_lcmp {tb : Tables} [Ours tb] {e : Env} {below : List Frame} {T target : State} {m : MethodId} {c : Code} (h : At T m c below) (hx : tb.exec = Jvm.exec) {pc pc' : Nat} {L : Array Slot} {S : List Value} {x y : Int64} (hd : decode c.code pc = .ok (.lcmp, 1)) (hp : pc + 1 = pc') (hr : Steps tb e below (T.setTop (mkF m pc' L (.int (lcmpW x y) :: S))) target) : Steps tb e below (T.setTop (mkF m pc L (.long y :: .long x :: S))) target := by subst hp; exact XS.lcmp h hx rfl hd rfl hr
theorem y_iinc {tb : Tables} [Ours tb] {e : Env} {below : List Frame} {T target : State} {m : MethodId} {c : Code} (h : At T m c below) (hx : tb.exec = Jvm.exec) {pc pc' : Nat} {L : Array Slot} {S : List Value} {k : Nat} {cst : Int} {x : Int32} {l' : Array Slot} (hd : decode c.code pc = .ok (.iinc k cst, 3)) (hl : L[k]? = some (.val (.int x))) (hl' : storeLocals L k (.int (x + Int32.ofInt cst)) = some l') (hp : pc + 3 = pc') (hr : Steps tb e below (T.setTop (mkF m pc' l' S)) target) : Steps tb e below (T.setTop (mkF m pc L S)) target := by subst hp; exact XS.iinc h hx rfl hd hl hl' hr
theorem y_dup {tb : Tables} [Ours tb] {e : Env} {below : List Frame} {T target : State} {m : MethodId} {c : Code} (h : At T m c below) (hx : tb.exec = Jvm.exec) {pc pc' : Nat} {L : Array Slot} {S : List Value} {v : Value} (hd : decode c.code pc = .ok (.dup, 1)) (hc : v.category = 1) (hp : pc + 1 = pc') (hr : Steps tb e below (T.setTop (mkF m pc' L (v :: v :: S))) target) : Steps tb e below (T.setTop (mkF m pc L (v :: S))) target := by subst hp; exact XS.dup h hx rfl hd rfl hc hr
theorem y_goto {tb : Tables} [Ours tb] {e : Env} {below : List Frame} {T target : State} {m : MethodId} {c : Code} (h : At T m c below) (hx : tb.exec = Jvm.exec) {pc pc' : Nat} {L : Array Slot} {S : List Value} {o : Int} (hd : decode c.code pc = .ok (.goto o, 3)) (ho : 0 ≤ (pc : Int) + o) (hp : ((pc : Int) + o).toNat = pc') (hr : Steps tb e below (T.setTop (mkF m pc' L S)) target) : Steps tb e below (T.setTop (mkF m pc L S)) target := XS.goto h hx rfl rfl hd ho hp hr
theorem y_ifYes {tb : Tables} [Ours tb] {e : Env} {below : List Frame} {T target : State} {m : MethodId} {c : Code} (h : At T m c below) (hx : tb.exec = Jvm.exec) {pc pc' : Nat} {L : Array Slot} {S : List Value} {cd : ClassFile.Cond} {x : Int32} {o : Int} (hd : decode c.code pc = .ok (.ifCond cd o, 3)) (hc : ifCond.holds cd x = true) (ho : 0 ≤ (pc : Int) + o) (hp : ((pc : Int) + o).toNat = pc') (hr : Steps tb e below (T.setTop (mkF m pc' L S)) target) : Steps tb e below (T.setTop (mkF m pc L (.int x :: S))) target := XS.ifYes h hx rfl rfl hd rfl hc ho hp hr
theorem y_ifNo {tb : Tables} [Ours tb] {e : Env} {below : List Frame} {T target : State} {m : MethodId} {c : Code} (h : At T m c below) (hx : tb.exec = Jvm.exec) {pc pc' : Nat} {L : Array Slot} {S : List Value} {cd : ClassFile.Cond} {x : Int32} {o : Int} (hd : decode c.code pc = .ok (.ifCond cd o, 3)) (hc : ifCond.holds cd x = false) (hp : pc + 3 = pc') (hr : Steps tb e below (T.setTop (mkF m pc' L S)) target) : Steps tb e below (T.setTop (mkF m pc L (.int x :: S))) target := by subst hp; exact XS.ifNo h hx rfl hd rfl hc hr
theorem y_icmpYes {tb : Tables} [Ours tb] {e : Env} {below : List Frame} {T target : State} {m : MethodId} {c : Code} (h : At T m c below) (hx : tb.exec = Jvm.exec) {pc pc' : Nat} {L : Array Slot} {S : List Value} {cd : ClassFile.Cond} {x y : Int32} {o : Int} (hd : decode c.code pc = .ok (.if_icmp cd o, 3)) (hc : if_icmp.holds cd x y = true) (ho : 0 ≤ (pc : Int) + o) (hp : ((pc : Int) + o).toNat = pc') (hr : Steps tb e below (T.setTop (mkF m pc' L S)) target) : Steps tb e below (T.setTop (mkF m pc L (.int y :: .int x :: S))) target := XS.icmpYes h hx rfl rfl hd rfl hc ho hp hr
theorem y_icmpNo {tb : Tables} [Ours tb] {e : Env} {below : List Frame} {T target : State} {m : MethodId} {c : Code} (h : At T m c below) (hx : tb.exec = Jvm.exec) {pc pc' : Nat} {L : Array Slot} {S : List Value} {cd : ClassFile.Cond} {x y : Int32} {o : Int} (hd : decode c.code pc = .ok (.if_icmp cd o, 3)) (hc : if_icmp.holds cd x y = false) (hp : pc + 3 = pc') (hr : Steps tb e below (T.setTop (mkF m pc' L S)) target) : Steps tb e below (T.setTop (mkF m pc L (.int y :: .int x :: S))) target := by subst hp; exact XS.icmpNo h hx rfl hd rfl hc hr
theorem own_nar01 {x : Int32} (h : x = 0 ∨ x = 1) : nar .boolean x = x := by rcases h with rfl | rfl <;> rfl
theorem own_ite01 {c : Prop} [Decidable c] : (if c then (0 : Int32) else (1 : Int32)) = 0 ∨ (if c then (0 : Int32) else (1 : Int32)) = 1 := by split <;> simp
theorem own_narI {c : Prop} [Decidable c] : nar .boolean (if c then (1 : Int32) else (0 : Int32)) = (if c then (1 : Int32) else (0 : Int32)) := by split <;> rfl
theorem own_ne1 (a : Int32) : ¬ a = a + 1 := fun h => by
  have q := c_iadd a 1
  rw [← h] at q
  have e : (1 : Int32).toInt = 1 := rfl
  omega
theorem own_of {x k : Int32} (h : x.toInt = k.toInt) : x = k := Int32.toInt_inj.mp h
theorem own_and3 (k : Int32) : k &&& 3 = 0 ∨ k &&& 3 = 1 ∨ k &&& 3 = 2 ∨ k &&& 3 = 3 := by
  have q : (k &&& 3).toInt = k.toInt % 4 := c_mask k 3 2 (by decide) (by decide)
  generalize k &&& 3 = x at q ⊢
  have : x.toInt = 0 ∨ x.toInt = 1 ∨ x.toInt = 2 ∨ x.toInt = 3 := by omega
  rcases this with h | h | h | h
  · exact Or.inl (own_of h)
  · exact Or.inr (Or.inl (own_of h))
  · exact Or.inr (Or.inr (Or.inl (own_of h)))
  · exact Or.inr (Or.inr (Or.inr (own_of h)))
theorem own_b127 (o : Int32) : ((nar .byte (o.toInt8.toInt32)) &&& (127 : Int32)).toInt = o.toInt % 128 := by
  have q1 := c_i2b o
  have q2 := c_i2b (o.toInt8.toInt32)
  have q3 : ((nar .byte (o.toInt8.toInt32)) &&& (127 : Int32)).toInt = (o.toInt8.toInt32.toInt8.toInt32).toInt % 128 := c_mask (o.toInt8.toInt32.toInt8.toInt32) 127 7 (by decide) (by decide)
  omega
theorem own_b63 (o : Int32) : ((nar .byte (o.toInt8.toInt32)) &&& (63 : Int32)).toInt = o.toInt % 64 := by
  have q1 := c_i2b o
  have q2 := c_i2b (o.toInt8.toInt32)
  have q3 : ((nar .byte (o.toInt8.toInt32)) &&& (63 : Int32)).toInt = (o.toInt8.toInt32.toInt8.toInt32).toInt % 64 := c_mask (o.toInt8.toInt32.toInt8.toInt32) 63 6 (by decide) (by decide)
  omega
theorem own_b31 (o : Int32) : ((nar .byte (o.toInt8.toInt32)) &&& (31 : Int32)).toInt = o.toInt % 32 := by
  have q1 := c_i2b o
  have q2 := c_i2b (o.toInt8.toInt32)
  have q3 : ((nar .byte (o.toInt8.toInt32)) &&& (31 : Int32)).toInt = (o.toInt8.toInt32.toInt8.toInt32).toInt % 32 := c_mask (o.toInt8.toInt32.toInt8.toInt32) 31 5 (by decide) (by decide)
  omega
theorem own_b15 (o : Int32) : ((nar .byte (o.toInt8.toInt32)) &&& (15 : Int32)).toInt = o.toInt % 16 := by
  have q1 := c_i2b o
  have q2 := c_i2b (o.toInt8.toInt32)
  have q3 : ((nar .byte (o.toInt8.toInt32)) &&& (15 : Int32)).toInt = (o.toInt8.toInt32.toInt8.toInt32).toInt % 16 := c_mask (o.toInt8.toInt32.toInt8.toInt32) 15 4 (by decide) (by decide)
  omega
theorem own_b7 (o : Int32) : ((nar .byte (o.toInt8.toInt32)) &&& (7 : Int32)).toInt = o.toInt % 8 := by
  have q1 := c_i2b o
  have q2 := c_i2b (o.toInt8.toInt32)
  have q3 : ((nar .byte (o.toInt8.toInt32)) &&& (7 : Int32)).toInt = (o.toInt8.toInt32.toInt8.toInt32).toInt % 8 := c_mask (o.toInt8.toInt32.toInt8.toInt32) 7 3 (by decide) (by decide)
  omega
theorem own_c6 (p : Int32) : ((nar .byte (((128 : Int32) ||| (p &&& (63 : Int32))).toInt8.toInt32)) &&& (63 : Int32)).toInt = p.toInt % 64 := by
  have a : (p &&& (63 : Int32)).toInt = p.toInt % 64 := c_mask p 63 6 (by decide) (by decide)
  have e : (128 : Int32).toInt = 128 := rfl
  have q := c_or 128 (p &&& (63 : Int32)) 6 (by decide) 64 rfl (by decide) (by omega) (by omega)
  have q1 := own_b63 ((128 : Int32) ||| (p &&& (63 : Int32)))
  omega
theorem own_h31 (t : Int32) (h : 0 ≤ t.toInt ∧ t.toInt < 32) : ((nar .byte (((192 : Int32) ||| t).toInt8.toInt32)) &&& (31 : Int32)).toInt = t.toInt := by
  have e : (192 : Int32).toInt = 192 := rfl
  have q := c_or 192 t 5 (by decide) 32 rfl (by decide) h.1 h.2
  have q1 := own_b31 ((192 : Int32) ||| t)
  omega
theorem own_h15 (t : Int32) (h : 0 ≤ t.toInt ∧ t.toInt < 16) : ((nar .byte (((224 : Int32) ||| t).toInt8.toInt32)) &&& (15 : Int32)).toInt = t.toInt := by
  have e : (224 : Int32).toInt = 224 := rfl
  have q := c_or 224 t 4 (by decide) 16 rfl (by decide) h.1 h.2
  have q1 := own_b15 ((224 : Int32) ||| t)
  omega
theorem own_h7 (t : Int32) (h : 0 ≤ t.toInt ∧ t.toInt < 8) : ((nar .byte (((240 : Int32) ||| t).toInt8.toInt32)) &&& (7 : Int32)).toInt = t.toInt := by
  have e : (240 : Int32).toInt = 240 := rfl
  have q := c_or 240 t 3 (by decide) 8 rfl (by decide) h.1 h.2
  have q1 := own_b7 ((240 : Int32) ||| t)
  omega
theorem own_jn {a b : Int32} {u v : Int} (ha : a.toInt = u) (hb : b.toInt = v) (hu : 0 ≤ u ∧ u < 1048576) (hv : 0 ≤ v ∧ v < 64) : ((a <<< ((6 : Int32) &&& 31)) ||| b).toInt = u * 64 + v := by
  subst ha hb
  have q : ((a <<< ((6 : Int32) &&& 31)).toInt - a.toInt * 64) % 4294967296 = 0 := c_ishl a 6 6 (by decide)
  have q1 := (a <<< ((6 : Int32) &&& 31)).le_toInt
  have q2 := (a <<< ((6 : Int32) &&& 31)).toInt_lt
  have e : (a <<< ((6 : Int32) &&& 31)).toInt = a.toInt * 64 := by omega
  have q3 := c_or (a <<< ((6 : Int32) &&& 31)) b 6 (by decide) 64 rfl (by omega) hv.1 hv.2
  have q4 := ((a <<< ((6 : Int32) &&& 31)) ||| b).le_toInt
  have q5 := ((a <<< ((6 : Int32) &&& 31)) ||| b).toInt_lt
  omega
theorem own_v1 (s : Int32) (h : 0 ≤ s.toInt ∧ s.toInt < 128) : ((nar .byte (s.toInt8.toInt32)) &&& (127 : Int32)) = s := own_of ((own_b127 s).trans (by omega))
theorem own_w2 (s t6 : Int32) (h : 0 ≤ s.toInt ∧ s.toInt < 2048) (h6 : t6.toInt = s.toInt / 64) : ((((nar .byte (((192 : Int32) ||| t6).toInt8.toInt32)) &&& (31 : Int32)) <<< ((6 : Int32) &&& 31)) ||| ((nar .byte (((128 : Int32) ||| (s &&& (63 : Int32))).toInt8.toInt32)) &&& (63 : Int32))) = s := by
  have j := own_h31 t6 (by omega)
  have j := own_jn j (own_c6 s) (by omega) (by omega)
  exact own_of (j.trans (by omega))
theorem own_w3 (s t6 t12 : Int32) (h : 0 ≤ s.toInt ∧ s.toInt < 65536) (h6 : t6.toInt = s.toInt / 64) (h12 : t12.toInt = s.toInt / 4096) : ((((((nar .byte (((224 : Int32) ||| t12).toInt8.toInt32)) &&& (15 : Int32)) <<< ((6 : Int32) &&& 31)) ||| ((nar .byte (((128 : Int32) ||| (t6 &&& (63 : Int32))).toInt8.toInt32)) &&& (63 : Int32))) <<< ((6 : Int32) &&& 31)) ||| ((nar .byte (((128 : Int32) ||| (s &&& (63 : Int32))).toInt8.toInt32)) &&& (63 : Int32))) = s := by
  have j := own_h15 t12 (by omega)
  have j := own_jn j (own_c6 t6) (by omega) (by omega)
  have j := own_jn j (own_c6 s) (by omega) (by omega)
  exact own_of (j.trans (by omega))
theorem own_w4 (s t6 t12 t18 : Int32) (h : 0 ≤ s.toInt ∧ s.toInt < 2097152) (h6 : t6.toInt = s.toInt / 64) (h12 : t12.toInt = s.toInt / 4096) (h18 : t18.toInt = s.toInt / 262144) : ((((((((nar .byte (((240 : Int32) ||| t18).toInt8.toInt32)) &&& (7 : Int32)) <<< ((6 : Int32) &&& 31)) ||| ((nar .byte (((128 : Int32) ||| (t12 &&& (63 : Int32))).toInt8.toInt32)) &&& (63 : Int32))) <<< ((6 : Int32) &&& 31)) ||| ((nar .byte (((128 : Int32) ||| (t6 &&& (63 : Int32))).toInt8.toInt32)) &&& (63 : Int32))) <<< ((6 : Int32) &&& 31)) ||| ((nar .byte (((128 : Int32) ||| (s &&& (63 : Int32))).toInt8.toInt32)) &&& (63 : Int32))) = s := by
  have j := own_h7 t18 (by omega)
  have j := own_jn j (own_c6 t12) (by omega) (by omega)
  have j := own_jn j (own_c6 t6) (by omega) (by omega)
  have j := own_jn j (own_c6 s) (by omega) (by omega)
  exact own_of (j.trans (by omega))
theorem own_r (k : Int32) : 0 ≤ (k &&& (2147483647 : Int32)).toInt := by
  have q : (k &&& (2147483647 : Int32)).toInt = k.toInt % 2147483648 := c_mask k 2147483647 31 (by decide) (by decide)
  omega
theorem own_s1 (k : Int32) : 0 ≤ (k &&& (127 : Int32)).toInt ∧ (k &&& (127 : Int32)).toInt < 128 := by
  have q : (k &&& (127 : Int32)).toInt = k.toInt % 128 := c_mask k 127 7 (by decide) (by decide)
  omega
theorem own_s2 (k : Int32) : 0 ≤ ((128 : Int32) + ((k &&& (2147483647 : Int32)) % (1920 : Int32))).toInt ∧ ((128 : Int32) + ((k &&& (2147483647 : Int32)) % (1920 : Int32))).toInt < 2048 := by
  have r := own_r k
  have q := (c_irem (k &&& (2147483647 : Int32)) 1920 1920 rfl).1 r
  have q1 := c_iadd 128 ((k &&& (2147483647 : Int32)) % (1920 : Int32))
  have q2 := ((128 : Int32) + ((k &&& (2147483647 : Int32)) % (1920 : Int32))).le_toInt
  have q3 := ((128 : Int32) + ((k &&& (2147483647 : Int32)) % (1920 : Int32))).toInt_lt
  have e : (128 : Int32).toInt = 128 := rfl
  omega
theorem own_s3a (k : Int32) : 0 ≤ ((2048 : Int32) + ((k &&& (2147483647 : Int32)) % (61440 : Int32))).toInt ∧ ((2048 : Int32) + ((k &&& (2147483647 : Int32)) % (61440 : Int32))).toInt < 63488 := by
  have r := own_r k
  have q := (c_irem (k &&& (2147483647 : Int32)) 61440 61440 rfl).1 r
  have q1 := c_iadd 2048 ((k &&& (2147483647 : Int32)) % (61440 : Int32))
  have q2 := ((2048 : Int32) + ((k &&& (2147483647 : Int32)) % (61440 : Int32))).le_toInt
  have q3 := ((2048 : Int32) + ((k &&& (2147483647 : Int32)) % (61440 : Int32))).toInt_lt
  have e : (2048 : Int32).toInt = 2048 := rfl
  omega
theorem own_s4 (k : Int32) : 0 ≤ ((65536 : Int32) + ((k &&& (2147483647 : Int32)) % (1048576 : Int32))).toInt ∧ ((65536 : Int32) + ((k &&& (2147483647 : Int32)) % (1048576 : Int32))).toInt < 2097152 := by
  have r := own_r k
  have q := (c_irem (k &&& (2147483647 : Int32)) 1048576 1048576 rfl).1 r
  have q1 := c_iadd 65536 ((k &&& (2147483647 : Int32)) % (1048576 : Int32))
  have q2 := ((65536 : Int32) + ((k &&& (2147483647 : Int32)) % (1048576 : Int32))).le_toInt
  have q3 := ((65536 : Int32) + ((k &&& (2147483647 : Int32)) % (1048576 : Int32))).toInt_lt
  have e : (65536 : Int32).toInt = 65536 := rfl
  omega
theorem own_s3 {a : Int32} (g : 0 ≤ a.toInt ∧ a.toInt < 63488) : 0 ≤ (if a < (55296 : Int32) then a else (a + (2048 : Int32))).toInt ∧ (if a < (55296 : Int32) then a else (a + (2048 : Int32))).toInt < 65536 := by
  have q1 := c_iadd a 2048
  have q2 := (a + (2048 : Int32)).le_toInt
  have q3 := (a + (2048 : Int32)).toInt_lt
  have e : (2048 : Int32).toInt = 2048 := rfl
  split <;> omega
theorem d1_0 : decode prog_19_method_14_code 0 = .ok (.aload_n 0, 1) := by decide +kernel
theorem d1_1 : decode prog_19_method_14_code 1 = .ok (.iload_n 1, 1) := by decide +kernel
theorem d1_2 : decode prog_19_method_14_code 2 = .ok (.baload, 1) := by decide +kernel
theorem d1_3 : decode prog_19_method_14_code 3 = .ok (.getstatic 28, 3) := by decide +kernel
theorem d1_6 : decode prog_19_method_14_code 6 = .ok (.iload_n 2, 1) := by decide +kernel
theorem d1_7 : decode prog_19_method_14_code 7 = .ok (.iaload, 1) := by decide +kernel
theorem d1_8 : decode prog_19_method_14_code 8 = .ok (.iand, 1) := by decide +kernel
theorem d1_9 : decode prog_19_method_14_code 9 = .ok (.istore_n 3, 1) := by decide +kernel
theorem d1_10 : decode prog_19_method_14_code 10 = .ok (.iconst 1, 1) := by decide +kernel
theorem d1_11 : decode prog_19_method_14_code 11 = .ok (.istore 4, 2) := by decide +kernel
theorem d1_13 : decode prog_19_method_14_code 13 = .ok (.iload 4, 2) := by decide +kernel
theorem d1_15 : decode prog_19_method_14_code 15 = .ok (.iload_n 2, 1) := by decide +kernel
theorem d1_16 : decode prog_19_method_14_code 16 = .ok (.if_icmp .ge 24, 3) := by decide +kernel
theorem d1_40 : decode prog_19_method_14_code 40 = .ok (.iload_n 3, 1) := by decide +kernel
theorem d1_41 : decode prog_19_method_14_code 41 = .ok (.ireturn, 1) := by decide +kernel
theorem pn_com_example_strict_codec_strictcodec_Utf8Grammar : plainName "com/example/strict_codec/strictcodec/Utf8Grammar" = true := by first | (simp [plainName, overriddenIn]; done) | decide +kernel
theorem ef_1a0l1 (m : MethodId) (x0 : Addr) : entryFrame m #[(.ref x0), (.int (0 : Int32)), (.int (1 : Int32))] 5 = mkF m 0 #[rv x0, iv (0 : Int32), iv (1 : Int32), .unset, .unset] [] := by first | (simp [entryFrame, mkF, argsToLocals, Value.category]; done) | rfl
def Q1a0l1 (Z : State) (pr0 : Addr) (w_LEAD_PAYLOAD : Addr) (kk_pr0 : ClassId) (y0 : Int32) (y1 : Int32) (y2 : Int32) (y3 : Int32) (y4 : Int32) (y5 : Int32) (y6 : Int32) (y7 : Int32) (cc_w_LEAD_PAYLOAD : Cell) (h0 : Heap) (n0 : Nat) (v : Option Value) (h : Heap) (L : List Loc) : Prop := v = some (.int (y0 &&& (127 : Int32))) ∧ Fr n0 L ∧ h = h0
set_option maxRecDepth 65536 in
set_option maxHeartbeats 40000000 in
theorem rm1a0l1 (l : Launch) (Z : State) (a0 : Array Value) (hw : ∀ d ∈ tables_1, d.before a0 Z = true) (ws : List Jvm.Cond) (pr0 : Addr) (w_LEAD_PAYLOAD : Addr) (kk_pr0 : ClassId) (y0 : Int32) (y1 : Int32) (y2 : Int32) (y3 : Int32) (y4 : Int32) (y5 : Int32) (y6 : Int32) (y7 : Int32) (cc_w_LEAD_PAYLOAD : Cell) (h0 : Heap) (n0 : Nat) (O0 : Old Z n0 h0) (S_LEAD_PAYLOAD : Sta Z Z.heap "com/example/strict_codec/strictcodec/Utf8Grammar" "LEAD_PAYLOAD" "[I" (.ref w_LEAD_PAYLOAD)) (V_pr0 : Arv Z h0 pr0 kk_pr0 .byte (8 : Int32) [(.int y0), (.int y1), (.int y2), (.int y3), (.int y4), (.int y5), (.int y6), (.int y7)] (.int (0 : Int32))) (AR_w_LEAD_PAYLOAD : Arr Z Z.heap w_LEAD_PAYLOAD cc_w_LEAD_PAYLOAD .int) (IN1_w_LEAD_PAYLOAD : ¬ ((1 : Int32) < 0 ∨ cc_w_LEAD_PAYLOAD.slots.size ≤ (1 : Int32).toNatClampNeg)) (AT1_w_LEAD_PAYLOAD : cc_w_LEAD_PAYLOAD.slots[(1 : Int32).toNatClampNeg]? = some (.int (127 : Int32))) :
    MetFree l (⟨"com/example/strict_codec/strictcodec/Utf8Grammar", "scalarValue", "([BII)I"⟩ : MethodName) (head1 (Jvm.Cond.code (⟨"com/example/strict_codec/strictcodec/Utf8Grammar", "scalarValue", "([BII)I"⟩ : MethodName) prog_19_method_14_code 5 (some .int) :: ws) ({ frames := 0, cells := 0, slots := 0, locals := 0 } : Room)) (fun a U => a = #[(.ref pr0), (.int (0 : Int32)), (.int (1 : Int32))] ∧ Z.Warmed39 U.vm ∧ U.heap = h0) (fun _ _ _ _ _ => True) (fun _ U o U' => ∃ v L, o = .returned v ∧ Q1a0l1 Z pr0 w_LEAD_PAYLOAD kk_pr0 y0 y1 y2 y3 y4 y5 y6 y7 cc_w_LEAD_PAYLOAD h0 n0 v U'.heap L ∧ FrameEnd U o U' L ({ frames := 0, cells := 0, slots := 0, locals := 0 } : Room).cells ({ frames := 0, cells := 0, slots := 0, locals := 0 } : Room).slots) := by
  refine MetFree.of_bodySF (plainFor_of_name pn_com_example_strict_codec_strictcodec_Utf8Grammar) hisR ?_
  intro p e s m args below meth c s₁ Bd hml0 hP hK
  obtain ⟨rfl, hZ, hh⟩ := hP
  have hx := Bd.exec
  have hby := Bd.bytes
  have hml : c.maxLocals = 5 := hml0
  have hown : s.vm.findClass "com/example/strict_codec/strictcodec/Utf8Grammar" = some m.cls := findClass_of_methodNamed Bd.named
  have hnm := (name_of_methodNamed Bd.named Bd.method).1
  have X0 : Stand p l e ({ frames := 0, cells := 0, slots := 0, locals := 0 } : Room) s m #[(.ref pr0), (.int (0 : Int32)), (.int (1 : Int32))] below meth c s₁ [] 0 0 := Stand.of_body Bd
  have e0 : s₁.heap = h0 := by rw [← hh, Bd.state]; rfl
  have N0 := Fr.nil n0
  obtain ⟨Go, hGo⟩ : ∃ P : State → Prop, ∀ t, P t ↔ Steps p.tables e below (s₁.setTop (entryFrame m #[(.ref pr0), (.int (0 : Int32)), (.int (1 : Int32))] 5)) t := ⟨_, fun _ => Iff.rfl⟩
  have pre0 : ∀ t, Steps p.tables e below (s₁.setTop (mkF m 0 #[rv pr0, iv (0 : Int32), iv (1 : Int32), .unset, .unset] [])) t → Go t := fun t k => (hGo t).mpr (castTop (ef_1a0l1 m pr0) k)
  have pre1 : ∀ t, Steps p.tables e below (s₁.setTop (mkF m 2 #[rv pr0, iv (0 : Int32), iv (1 : Int32), .unset, .unset] [(.int (0 : Int32)), (.ref pr0)])) t → Go t := fun t kt => pre0 t (by
      refine y_aloadN X0.here hx (hb hby d1_0) rfl rfl (pc' := 1) rfl ?_
      refine y_iloadN X0.here hx (hb hby d1_1) rfl (pc' := 2) rfl ?_
      exact kt)
  obtain ⟨c2, Ar2, q2, S2, M2, H2, G2⟩ := id V_pr0
  have hin2 : ¬ ((0 : Int32) < 0 ∨ c2.slots.size ≤ ((0 : Int32)).toNatClampNeg) := inb_of S2 ⟨by decide, by decide⟩
  have hat2 : c2.slots[((0 : Int32)).toNatClampNeg]? = some (.int y0) := Has.at H2 hin2 rfl
  have pre3 : ∀ t, Steps p.tables e below (s₁.setTop (mkF m 3 #[rv pr0, iv (0 : Int32), iv (1 : Int32), .unset, .unset] [(.int y0)])) t → Go t := fun t kt => pre1 t (by
      refine X0.baloadBytes hx (j := (0 : Int32)) (v := (.int y0)) (by rw [e0]; exact Ar2.1) (State.isArrayOf_alike hZ.alike Ar2.2.1) Ar2.2.2 hin2 hat2 (g := (mkF m 2 #[rv pr0, iv (0 : Int32), iv (1 : Int32), .unset, .unset] [(.int (0 : Int32)), (.ref pr0)])) rfl rfl (hb hby d1_2) _ ?_
      show Steps p.tables e below (s₁.setTop (mkF m 3 #[rv pr0, iv (0 : Int32), iv (1 : Int32), .unset, .unset] [(.int y0)])) _
      exact kt)
  obtain ⟨T4, X4, e4, st4⟩ := getS2 X0 hx hZ hown (host := "") (Or.inl (hw _ (List.mem_of_getElem? (i := 6) rfl))) Via.refl e0 (S_LEAD_PAYLOAD.ext O0.2) (g := (mkF m 3 #[rv pr0, iv (0 : Int32), iv (1 : Int32), .unset, .unset] [(.int y0)])) rfl (hb hby d1_3)
  have pre5 : ∀ t, Steps p.tables e below (T4.setTop (mkF m 6 #[rv pr0, iv (0 : Int32), iv (1 : Int32), .unset, .unset] [(.ref w_LEAD_PAYLOAD), (.int y0)])) t → Go t := fun t kt => pre3 t (st4 t kt)
  have pre6 : ∀ t, Steps p.tables e below (T4.setTop (mkF m 7 #[rv pr0, iv (0 : Int32), iv (1 : Int32), .unset, .unset] [(.int (1 : Int32)), (.ref w_LEAD_PAYLOAD), (.int y0)])) t → Go t := fun t kt => pre5 t (by
      refine y_iloadN X4.here hx (hb hby d1_6) rfl (pc' := 7) rfl ?_
      exact kt)
  have A7 := AR_w_LEAD_PAYLOAD.ext O0.2
  obtain ⟨x8, hx8⟩ : ∃ z : Int32, z = (y0 &&& (127 : Int32)) := ⟨_, rfl⟩
  have pre9 : ∀ t, Steps p.tables e below (T4.setTop (mkF m 10 #[rv pr0, iv (0 : Int32), iv (1 : Int32), iv x8, .unset] [])) t → Go t := fun t kt => pre6 t (by
      subst hx8
      refine X4.iaload hx (j := (1 : Int32)) (v := (.int (127 : Int32))) (by rw [e4]; exact A7.1) (State.isArrayOf_alike hZ.alike A7.2.1) A7.2.2 IN1_w_LEAD_PAYLOAD AT1_w_LEAD_PAYLOAD (g := (mkF m 7 #[rv pr0, iv (0 : Int32), iv (1 : Int32), .unset, .unset] [(.int (1 : Int32)), (.ref w_LEAD_PAYLOAD), (.int y0)])) rfl rfl (hb hby d1_7) _ ?_
      show Steps p.tables e below (T4.setTop (mkF m 8 #[rv pr0, iv (0 : Int32), iv (1 : Int32), .unset, .unset] [(.int (127 : Int32)), (.int y0)])) _
      refine y_iand X4.here hx (hb hby d1_8) rfl (pc' := 9) rfl ?_
      refine y_istoreN X4.here hx (hb hby d1_9) (l' := #[rv pr0, iv (0 : Int32), iv (1 : Int32), iv (y0 &&& (127 : Int32)), .unset]) rfl (pc' := 10) rfl ?_
      exact kt)
  have pre10 : ∀ t, Steps p.tables e below (T4.setTop (mkF m 41 #[rv pr0, iv (0 : Int32), iv (1 : Int32), iv x8, iv (1 : Int32)] [(.int x8)])) t → Go t := fun t kt => pre9 t (by
      refine y_iconst X4.here hx (hb hby d1_10) (v := (1 : Int32)) rfl (pc' := 11) rfl ?_
      refine y_istore X4.here hx (hb hby d1_11) (l' := #[rv pr0, iv (0 : Int32), iv (1 : Int32), iv x8, iv (1 : Int32)]) rfl (pc' := 13) rfl ?_
      refine y_iload X4.here hx (hb hby d1_13) rfl (pc' := 15) rfl ?_
      refine y_iloadN X4.here hx (hb hby d1_15) rfl (pc' := 16) rfl ?_
      refine y_icmpYes X4.here hx (hb hby d1_16) (flt (by decide : ¬ ((1 : Int32) < (1 : Int32)))).2.1 (pc' := 40) (by decide) rfl ?_
      refine y_iloadN X4.here hx (hb hby d1_40) rfl (pc' := 41) rfl ?_
      exact kt)
  obtain ⟨fs, hr, hrun, hended, hW, hsame⟩ := X4.leave (v := some (.int x8)) (fun h => by rw [Bd.returns] at h; cases h)
  refine ⟨_, _, (hGo _).mp (pre10 _ ?_), hrun, hended, _, _, rfl, ?_, ⟨_, rfl⟩, hW, hsame.mono (by decide) (by decide)⟩
  · exact retOut X4 hx Bd.returns rfl (Or.inl ⟨rfl, Or.inl rfl, _, rfl⟩) (hb hby d1_41) hr
  · show Q1a0l1 Z pr0 w_LEAD_PAYLOAD kk_pr0 y0 y1 y2 y3 y4 y5 y6 y7 cc_w_LEAD_PAYLOAD h0 n0 _ T4.heap _
    rw [e4]
    subst hx8
    exact ⟨rfl, N0, rfl⟩
theorem ef_1a1l1 (m : MethodId) (x0 : Addr) : entryFrame m #[(.ref x0), (.int (1 : Int32)), (.int (1 : Int32))] 5 = mkF m 0 #[rv x0, iv (1 : Int32), iv (1 : Int32), .unset, .unset] [] := by first | (simp [entryFrame, mkF, argsToLocals, Value.category]; done) | rfl
def Q1a1l1 (Z : State) (pr0 : Addr) (w_LEAD_PAYLOAD : Addr) (kk_pr0 : ClassId) (y0 : Int32) (y1 : Int32) (y2 : Int32) (y3 : Int32) (y4 : Int32) (y5 : Int32) (y6 : Int32) (y7 : Int32) (cc_w_LEAD_PAYLOAD : Cell) (h0 : Heap) (n0 : Nat) (v : Option Value) (h : Heap) (L : List Loc) : Prop := v = some (.int (y1 &&& (127 : Int32))) ∧ Fr n0 L ∧ h = h0
set_option maxRecDepth 65536 in
set_option maxHeartbeats 40000000 in
theorem rm1a1l1 (l : Launch) (Z : State) (a0 : Array Value) (hw : ∀ d ∈ tables_1, d.before a0 Z = true) (ws : List Jvm.Cond) (pr0 : Addr) (w_LEAD_PAYLOAD : Addr) (kk_pr0 : ClassId) (y0 : Int32) (y1 : Int32) (y2 : Int32) (y3 : Int32) (y4 : Int32) (y5 : Int32) (y6 : Int32) (y7 : Int32) (cc_w_LEAD_PAYLOAD : Cell) (h0 : Heap) (n0 : Nat) (O0 : Old Z n0 h0) (S_LEAD_PAYLOAD : Sta Z Z.heap "com/example/strict_codec/strictcodec/Utf8Grammar" "LEAD_PAYLOAD" "[I" (.ref w_LEAD_PAYLOAD)) (V_pr0 : Arv Z h0 pr0 kk_pr0 .byte (8 : Int32) [(.int y0), (.int y1), (.int y2), (.int y3), (.int y4), (.int y5), (.int y6), (.int y7)] (.int (0 : Int32))) (AR_w_LEAD_PAYLOAD : Arr Z Z.heap w_LEAD_PAYLOAD cc_w_LEAD_PAYLOAD .int) (IN1_w_LEAD_PAYLOAD : ¬ ((1 : Int32) < 0 ∨ cc_w_LEAD_PAYLOAD.slots.size ≤ (1 : Int32).toNatClampNeg)) (AT1_w_LEAD_PAYLOAD : cc_w_LEAD_PAYLOAD.slots[(1 : Int32).toNatClampNeg]? = some (.int (127 : Int32))) :
    MetFree l (⟨"com/example/strict_codec/strictcodec/Utf8Grammar", "scalarValue", "([BII)I"⟩ : MethodName) (head1 (Jvm.Cond.code (⟨"com/example/strict_codec/strictcodec/Utf8Grammar", "scalarValue", "([BII)I"⟩ : MethodName) prog_19_method_14_code 5 (some .int) :: ws) ({ frames := 0, cells := 0, slots := 0, locals := 0 } : Room)) (fun a U => a = #[(.ref pr0), (.int (1 : Int32)), (.int (1 : Int32))] ∧ Z.Warmed39 U.vm ∧ U.heap = h0) (fun _ _ _ _ _ => True) (fun _ U o U' => ∃ v L, o = .returned v ∧ Q1a1l1 Z pr0 w_LEAD_PAYLOAD kk_pr0 y0 y1 y2 y3 y4 y5 y6 y7 cc_w_LEAD_PAYLOAD h0 n0 v U'.heap L ∧ FrameEnd U o U' L ({ frames := 0, cells := 0, slots := 0, locals := 0 } : Room).cells ({ frames := 0, cells := 0, slots := 0, locals := 0 } : Room).slots) := by
  refine MetFree.of_bodySF (plainFor_of_name pn_com_example_strict_codec_strictcodec_Utf8Grammar) hisR ?_
  intro p e s m args below meth c s₁ Bd hml0 hP hK
  obtain ⟨rfl, hZ, hh⟩ := hP
  have hx := Bd.exec
  have hby := Bd.bytes
  have hml : c.maxLocals = 5 := hml0
  have hown : s.vm.findClass "com/example/strict_codec/strictcodec/Utf8Grammar" = some m.cls := findClass_of_methodNamed Bd.named
  have hnm := (name_of_methodNamed Bd.named Bd.method).1
  have X0 : Stand p l e ({ frames := 0, cells := 0, slots := 0, locals := 0 } : Room) s m #[(.ref pr0), (.int (1 : Int32)), (.int (1 : Int32))] below meth c s₁ [] 0 0 := Stand.of_body Bd
  have e0 : s₁.heap = h0 := by rw [← hh, Bd.state]; rfl
  have N0 := Fr.nil n0
  obtain ⟨Go, hGo⟩ : ∃ P : State → Prop, ∀ t, P t ↔ Steps p.tables e below (s₁.setTop (entryFrame m #[(.ref pr0), (.int (1 : Int32)), (.int (1 : Int32))] 5)) t := ⟨_, fun _ => Iff.rfl⟩
  have pre0 : ∀ t, Steps p.tables e below (s₁.setTop (mkF m 0 #[rv pr0, iv (1 : Int32), iv (1 : Int32), .unset, .unset] [])) t → Go t := fun t k => (hGo t).mpr (castTop (ef_1a1l1 m pr0) k)
  have pre1 : ∀ t, Steps p.tables e below (s₁.setTop (mkF m 2 #[rv pr0, iv (1 : Int32), iv (1 : Int32), .unset, .unset] [(.int (1 : Int32)), (.ref pr0)])) t → Go t := fun t kt => pre0 t (by
      refine y_aloadN X0.here hx (hb hby d1_0) rfl rfl (pc' := 1) rfl ?_
      refine y_iloadN X0.here hx (hb hby d1_1) rfl (pc' := 2) rfl ?_
      exact kt)
  obtain ⟨c2, Ar2, q2, S2, M2, H2, G2⟩ := id V_pr0
  have hin2 : ¬ ((1 : Int32) < 0 ∨ c2.slots.size ≤ ((1 : Int32)).toNatClampNeg) := inb_of S2 ⟨by decide, by decide⟩
  have hat2 : c2.slots[((1 : Int32)).toNatClampNeg]? = some (.int y1) := Has.at H2 hin2 rfl
  have pre3 : ∀ t, Steps p.tables e below (s₁.setTop (mkF m 3 #[rv pr0, iv (1 : Int32), iv (1 : Int32), .unset, .unset] [(.int y1)])) t → Go t := fun t kt => pre1 t (by
      refine X0.baloadBytes hx (j := (1 : Int32)) (v := (.int y1)) (by rw [e0]; exact Ar2.1) (State.isArrayOf_alike hZ.alike Ar2.2.1) Ar2.2.2 hin2 hat2 (g := (mkF m 2 #[rv pr0, iv (1 : Int32), iv (1 : Int32), .unset, .unset] [(.int (1 : Int32)), (.ref pr0)])) rfl rfl (hb hby d1_2) _ ?_
      show Steps p.tables e below (s₁.setTop (mkF m 3 #[rv pr0, iv (1 : Int32), iv (1 : Int32), .unset, .unset] [(.int y1)])) _
      exact kt)
  obtain ⟨T4, X4, e4, st4⟩ := getS2 X0 hx hZ hown (host := "") (Or.inl (hw _ (List.mem_of_getElem? (i := 6) rfl))) Via.refl e0 (S_LEAD_PAYLOAD.ext O0.2) (g := (mkF m 3 #[rv pr0, iv (1 : Int32), iv (1 : Int32), .unset, .unset] [(.int y1)])) rfl (hb hby d1_3)
  have pre5 : ∀ t, Steps p.tables e below (T4.setTop (mkF m 6 #[rv pr0, iv (1 : Int32), iv (1 : Int32), .unset, .unset] [(.ref w_LEAD_PAYLOAD), (.int y1)])) t → Go t := fun t kt => pre3 t (st4 t kt)
  have pre6 : ∀ t, Steps p.tables e below (T4.setTop (mkF m 7 #[rv pr0, iv (1 : Int32), iv (1 : Int32), .unset, .unset] [(.int (1 : Int32)), (.ref w_LEAD_PAYLOAD), (.int y1)])) t → Go t := fun t kt => pre5 t (by
      refine y_iloadN X4.here hx (hb hby d1_6) rfl (pc' := 7) rfl ?_
      exact kt)
  have A7 := AR_w_LEAD_PAYLOAD.ext O0.2
  obtain ⟨x8, hx8⟩ : ∃ z : Int32, z = (y1 &&& (127 : Int32)) := ⟨_, rfl⟩
  have pre9 : ∀ t, Steps p.tables e below (T4.setTop (mkF m 10 #[rv pr0, iv (1 : Int32), iv (1 : Int32), iv x8, .unset] [])) t → Go t := fun t kt => pre6 t (by
      subst hx8
      refine X4.iaload hx (j := (1 : Int32)) (v := (.int (127 : Int32))) (by rw [e4]; exact A7.1) (State.isArrayOf_alike hZ.alike A7.2.1) A7.2.2 IN1_w_LEAD_PAYLOAD AT1_w_LEAD_PAYLOAD (g := (mkF m 7 #[rv pr0, iv (1 : Int32), iv (1 : Int32), .unset, .unset] [(.int (1 : Int32)), (.ref w_LEAD_PAYLOAD), (.int y1)])) rfl rfl (hb hby d1_7) _ ?_
      show Steps p.tables e below (T4.setTop (mkF m 8 #[rv pr0, iv (1 : Int32), iv (1 : Int32), .unset, .unset] [(.int (127 : Int32)), (.int y1)])) _
      refine y_iand X4.here hx (hb hby d1_8) rfl (pc' := 9) rfl ?_
      refine y_istoreN X4.here hx (hb hby d1_9) (l' := #[rv pr0, iv (1 : Int32), iv (1 : Int32), iv (y1 &&& (127 : Int32)), .unset]) rfl (pc' := 10) rfl ?_
      exact kt)
  have pre10 : ∀ t, Steps p.tables e below (T4.setTop (mkF m 41 #[rv pr0, iv (1 : Int32), iv (1 : Int32), iv x8, iv (1 : Int32)] [(.int x8)])) t → Go t := fun t kt => pre9 t (by
      refine y_iconst X4.here hx (hb hby d1_10) (v := (1 : Int32)) rfl (pc' := 11) rfl ?_
      refine y_istore X4.here hx (hb hby d1_11) (l' := #[rv pr0, iv (1 : Int32), iv (1 : Int32), iv x8, iv (1 : Int32)]) rfl (pc' := 13) rfl ?_
      refine y_iload X4.here hx (hb hby d1_13) rfl (pc' := 15) rfl ?_
      refine y_iloadN X4.here hx (hb hby d1_15) rfl (pc' := 16) rfl ?_
      refine y_icmpYes X4.here hx (hb hby d1_16) (flt (by decide : ¬ ((1 : Int32) < (1 : Int32)))).2.1 (pc' := 40) (by decide) rfl ?_
      refine y_iloadN X4.here hx (hb hby d1_40) rfl (pc' := 41) rfl ?_
      exact kt)
  obtain ⟨fs, hr, hrun, hended, hW, hsame⟩ := X4.leave (v := some (.int x8)) (fun h => by rw [Bd.returns] at h; cases h)
  refine ⟨_, _, (hGo _).mp (pre10 _ ?_), hrun, hended, _, _, rfl, ?_, ⟨_, rfl⟩, hW, hsame.mono (by decide) (by decide)⟩
  · exact retOut X4 hx Bd.returns rfl (Or.inl ⟨rfl, Or.inl rfl, _, rfl⟩) (hb hby d1_41) hr
  · show Q1a1l1 Z pr0 w_LEAD_PAYLOAD kk_pr0 y0 y1 y2 y3 y4 y5 y6 y7 cc_w_LEAD_PAYLOAD h0 n0 _ T4.heap _
    rw [e4]
    subst hx8
    exact ⟨rfl, N0, rfl⟩
theorem ef_1a2l1 (m : MethodId) (x0 : Addr) : entryFrame m #[(.ref x0), (.int (2 : Int32)), (.int (1 : Int32))] 5 = mkF m 0 #[rv x0, iv (2 : Int32), iv (1 : Int32), .unset, .unset] [] := by first | (simp [entryFrame, mkF, argsToLocals, Value.category]; done) | rfl
def Q1a2l1 (Z : State) (pr0 : Addr) (w_LEAD_PAYLOAD : Addr) (kk_pr0 : ClassId) (y0 : Int32) (y1 : Int32) (y2 : Int32) (y3 : Int32) (y4 : Int32) (y5 : Int32) (y6 : Int32) (y7 : Int32) (cc_w_LEAD_PAYLOAD : Cell) (h0 : Heap) (n0 : Nat) (v : Option Value) (h : Heap) (L : List Loc) : Prop := v = some (.int (y2 &&& (127 : Int32))) ∧ Fr n0 L ∧ h = h0
set_option maxRecDepth 65536 in
set_option maxHeartbeats 40000000 in
theorem rm1a2l1 (l : Launch) (Z : State) (a0 : Array Value) (hw : ∀ d ∈ tables_1, d.before a0 Z = true) (ws : List Jvm.Cond) (pr0 : Addr) (w_LEAD_PAYLOAD : Addr) (kk_pr0 : ClassId) (y0 : Int32) (y1 : Int32) (y2 : Int32) (y3 : Int32) (y4 : Int32) (y5 : Int32) (y6 : Int32) (y7 : Int32) (cc_w_LEAD_PAYLOAD : Cell) (h0 : Heap) (n0 : Nat) (O0 : Old Z n0 h0) (S_LEAD_PAYLOAD : Sta Z Z.heap "com/example/strict_codec/strictcodec/Utf8Grammar" "LEAD_PAYLOAD" "[I" (.ref w_LEAD_PAYLOAD)) (V_pr0 : Arv Z h0 pr0 kk_pr0 .byte (8 : Int32) [(.int y0), (.int y1), (.int y2), (.int y3), (.int y4), (.int y5), (.int y6), (.int y7)] (.int (0 : Int32))) (AR_w_LEAD_PAYLOAD : Arr Z Z.heap w_LEAD_PAYLOAD cc_w_LEAD_PAYLOAD .int) (IN1_w_LEAD_PAYLOAD : ¬ ((1 : Int32) < 0 ∨ cc_w_LEAD_PAYLOAD.slots.size ≤ (1 : Int32).toNatClampNeg)) (AT1_w_LEAD_PAYLOAD : cc_w_LEAD_PAYLOAD.slots[(1 : Int32).toNatClampNeg]? = some (.int (127 : Int32))) :
    MetFree l (⟨"com/example/strict_codec/strictcodec/Utf8Grammar", "scalarValue", "([BII)I"⟩ : MethodName) (head1 (Jvm.Cond.code (⟨"com/example/strict_codec/strictcodec/Utf8Grammar", "scalarValue", "([BII)I"⟩ : MethodName) prog_19_method_14_code 5 (some .int) :: ws) ({ frames := 0, cells := 0, slots := 0, locals := 0 } : Room)) (fun a U => a = #[(.ref pr0), (.int (2 : Int32)), (.int (1 : Int32))] ∧ Z.Warmed39 U.vm ∧ U.heap = h0) (fun _ _ _ _ _ => True) (fun _ U o U' => ∃ v L, o = .returned v ∧ Q1a2l1 Z pr0 w_LEAD_PAYLOAD kk_pr0 y0 y1 y2 y3 y4 y5 y6 y7 cc_w_LEAD_PAYLOAD h0 n0 v U'.heap L ∧ FrameEnd U o U' L ({ frames := 0, cells := 0, slots := 0, locals := 0 } : Room).cells ({ frames := 0, cells := 0, slots := 0, locals := 0 } : Room).slots) := by
  refine MetFree.of_bodySF (plainFor_of_name pn_com_example_strict_codec_strictcodec_Utf8Grammar) hisR ?_
  intro p e s m args below meth c s₁ Bd hml0 hP hK
  obtain ⟨rfl, hZ, hh⟩ := hP
  have hx := Bd.exec
  have hby := Bd.bytes
  have hml : c.maxLocals = 5 := hml0
  have hown : s.vm.findClass "com/example/strict_codec/strictcodec/Utf8Grammar" = some m.cls := findClass_of_methodNamed Bd.named
  have hnm := (name_of_methodNamed Bd.named Bd.method).1
  have X0 : Stand p l e ({ frames := 0, cells := 0, slots := 0, locals := 0 } : Room) s m #[(.ref pr0), (.int (2 : Int32)), (.int (1 : Int32))] below meth c s₁ [] 0 0 := Stand.of_body Bd
  have e0 : s₁.heap = h0 := by rw [← hh, Bd.state]; rfl
  have N0 := Fr.nil n0
  obtain ⟨Go, hGo⟩ : ∃ P : State → Prop, ∀ t, P t ↔ Steps p.tables e below (s₁.setTop (entryFrame m #[(.ref pr0), (.int (2 : Int32)), (.int (1 : Int32))] 5)) t := ⟨_, fun _ => Iff.rfl⟩
  have pre0 : ∀ t, Steps p.tables e below (s₁.setTop (mkF m 0 #[rv pr0, iv (2 : Int32), iv (1 : Int32), .unset, .unset] [])) t → Go t := fun t k => (hGo t).mpr (castTop (ef_1a2l1 m pr0) k)
  have pre1 : ∀ t, Steps p.tables e below (s₁.setTop (mkF m 2 #[rv pr0, iv (2 : Int32), iv (1 : Int32), .unset, .unset] [(.int (2 : Int32)), (.ref pr0)])) t → Go t := fun t kt => pre0 t (by
      refine y_aloadN X0.here hx (hb hby d1_0) rfl rfl (pc' := 1) rfl ?_
      refine y_iloadN X0.here hx (hb hby d1_1) rfl (pc' := 2) rfl ?_
      exact kt)
  obtain ⟨c2, Ar2, q2, S2, M2, H2, G2⟩ := id V_pr0
  have hin2 : ¬ ((2 : Int32) < 0 ∨ c2.slots.size ≤ ((2 : Int32)).toNatClampNeg) := inb_of S2 ⟨by decide, by decide⟩
  have hat2 : c2.slots[((2 : Int32)).toNatClampNeg]? = some (.int y2) := Has.at H2 hin2 rfl
  have pre3 : ∀ t, Steps p.tables e below (s₁.setTop (mkF m 3 #[rv pr0, iv (2 : Int32), iv (1 : Int32), .unset, .unset] [(.int y2)])) t → Go t := fun t kt => pre1 t (by
      refine X0.baloadBytes hx (j := (2 : Int32)) (v := (.int y2)) (by rw [e0]; exact Ar2.1) (State.isArrayOf_alike hZ.alike Ar2.2.1) Ar2.2.2 hin2 hat2 (g := (mkF m 2 #[rv pr0, iv (2 : Int32), iv (1 : Int32), .unset, .unset] [(.int (2 : Int32)), (.ref pr0)])) rfl rfl (hb hby d1_2) _ ?_
      show Steps p.tables e below (s₁.setTop (mkF m 3 #[rv pr0, iv (2 : Int32), iv (1 : Int32), .unset, .unset] [(.int y2)])) _
      exact kt)
  obtain ⟨T4, X4, e4, st4⟩ := getS2 X0 hx hZ hown (host := "") (Or.inl (hw _ (List.mem_of_getElem? (i := 6) rfl))) Via.refl e0 (S_LEAD_PAYLOAD.ext O0.2) (g := (mkF m 3 #[rv pr0, iv (2 : Int32), iv (1 : Int32), .unset, .unset] [(.int y2)])) rfl (hb hby d1_3)
  have pre5 : ∀ t, Steps p.tables e below (T4.setTop (mkF m 6 #[rv pr0, iv (2 : Int32), iv (1 : Int32), .unset, .unset] [(.ref w_LEAD_PAYLOAD), (.int y2)])) t → Go t := fun t kt => pre3 t (st4 t kt)
  have pre6 : ∀ t, Steps p.tables e below (T4.setTop (mkF m 7 #[rv pr0, iv (2 : Int32), iv (1 : Int32), .unset, .unset] [(.int (1 : Int32)), (.ref w_LEAD_PAYLOAD), (.int y2)])) t → Go t := fun t kt => pre5 t (by
      refine y_iloadN X4.here hx (hb hby d1_6) rfl (pc' := 7) rfl ?_
      exact kt)
  have A7 := AR_w_LEAD_PAYLOAD.ext O0.2
  obtain ⟨x8, hx8⟩ : ∃ z : Int32, z = (y2 &&& (127 : Int32)) := ⟨_, rfl⟩
  have pre9 : ∀ t, Steps p.tables e below (T4.setTop (mkF m 10 #[rv pr0, iv (2 : Int32), iv (1 : Int32), iv x8, .unset] [])) t → Go t := fun t kt => pre6 t (by
      subst hx8
      refine X4.iaload hx (j := (1 : Int32)) (v := (.int (127 : Int32))) (by rw [e4]; exact A7.1) (State.isArrayOf_alike hZ.alike A7.2.1) A7.2.2 IN1_w_LEAD_PAYLOAD AT1_w_LEAD_PAYLOAD (g := (mkF m 7 #[rv pr0, iv (2 : Int32), iv (1 : Int32), .unset, .unset] [(.int (1 : Int32)), (.ref w_LEAD_PAYLOAD), (.int y2)])) rfl rfl (hb hby d1_7) _ ?_
      show Steps p.tables e below (T4.setTop (mkF m 8 #[rv pr0, iv (2 : Int32), iv (1 : Int32), .unset, .unset] [(.int (127 : Int32)), (.int y2)])) _
      refine y_iand X4.here hx (hb hby d1_8) rfl (pc' := 9) rfl ?_
      refine y_istoreN X4.here hx (hb hby d1_9) (l' := #[rv pr0, iv (2 : Int32), iv (1 : Int32), iv (y2 &&& (127 : Int32)), .unset]) rfl (pc' := 10) rfl ?_
      exact kt)
  have pre10 : ∀ t, Steps p.tables e below (T4.setTop (mkF m 41 #[rv pr0, iv (2 : Int32), iv (1 : Int32), iv x8, iv (1 : Int32)] [(.int x8)])) t → Go t := fun t kt => pre9 t (by
      refine y_iconst X4.here hx (hb hby d1_10) (v := (1 : Int32)) rfl (pc' := 11) rfl ?_
      refine y_istore X4.here hx (hb hby d1_11) (l' := #[rv pr0, iv (2 : Int32), iv (1 : Int32), iv x8, iv (1 : Int32)]) rfl (pc' := 13) rfl ?_
      refine y_iload X4.here hx (hb hby d1_13) rfl (pc' := 15) rfl ?_
      refine y_iloadN X4.here hx (hb hby d1_15) rfl (pc' := 16) rfl ?_
      refine y_icmpYes X4.here hx (hb hby d1_16) (flt (by decide : ¬ ((1 : Int32) < (1 : Int32)))).2.1 (pc' := 40) (by decide) rfl ?_
      refine y_iloadN X4.here hx (hb hby d1_40) rfl (pc' := 41) rfl ?_
      exact kt)
  obtain ⟨fs, hr, hrun, hended, hW, hsame⟩ := X4.leave (v := some (.int x8)) (fun h => by rw [Bd.returns] at h; cases h)
  refine ⟨_, _, (hGo _).mp (pre10 _ ?_), hrun, hended, _, _, rfl, ?_, ⟨_, rfl⟩, hW, hsame.mono (by decide) (by decide)⟩
  · exact retOut X4 hx Bd.returns rfl (Or.inl ⟨rfl, Or.inl rfl, _, rfl⟩) (hb hby d1_41) hr
  · show Q1a2l1 Z pr0 w_LEAD_PAYLOAD kk_pr0 y0 y1 y2 y3 y4 y5 y6 y7 cc_w_LEAD_PAYLOAD h0 n0 _ T4.heap _
    rw [e4]
    subst hx8
    exact ⟨rfl, N0, rfl⟩
theorem ef_1a3l1 (m : MethodId) (x0 : Addr) : entryFrame m #[(.ref x0), (.int (3 : Int32)), (.int (1 : Int32))] 5 = mkF m 0 #[rv x0, iv (3 : Int32), iv (1 : Int32), .unset, .unset] [] := by first | (simp [entryFrame, mkF, argsToLocals, Value.category]; done) | rfl
def Q1a3l1 (Z : State) (pr0 : Addr) (w_LEAD_PAYLOAD : Addr) (kk_pr0 : ClassId) (y0 : Int32) (y1 : Int32) (y2 : Int32) (y3 : Int32) (y4 : Int32) (y5 : Int32) (y6 : Int32) (y7 : Int32) (cc_w_LEAD_PAYLOAD : Cell) (h0 : Heap) (n0 : Nat) (v : Option Value) (h : Heap) (L : List Loc) : Prop := v = some (.int (y3 &&& (127 : Int32))) ∧ Fr n0 L ∧ h = h0
set_option maxRecDepth 65536 in
set_option maxHeartbeats 40000000 in
theorem rm1a3l1 (l : Launch) (Z : State) (a0 : Array Value) (hw : ∀ d ∈ tables_1, d.before a0 Z = true) (ws : List Jvm.Cond) (pr0 : Addr) (w_LEAD_PAYLOAD : Addr) (kk_pr0 : ClassId) (y0 : Int32) (y1 : Int32) (y2 : Int32) (y3 : Int32) (y4 : Int32) (y5 : Int32) (y6 : Int32) (y7 : Int32) (cc_w_LEAD_PAYLOAD : Cell) (h0 : Heap) (n0 : Nat) (O0 : Old Z n0 h0) (S_LEAD_PAYLOAD : Sta Z Z.heap "com/example/strict_codec/strictcodec/Utf8Grammar" "LEAD_PAYLOAD" "[I" (.ref w_LEAD_PAYLOAD)) (V_pr0 : Arv Z h0 pr0 kk_pr0 .byte (8 : Int32) [(.int y0), (.int y1), (.int y2), (.int y3), (.int y4), (.int y5), (.int y6), (.int y7)] (.int (0 : Int32))) (AR_w_LEAD_PAYLOAD : Arr Z Z.heap w_LEAD_PAYLOAD cc_w_LEAD_PAYLOAD .int) (IN1_w_LEAD_PAYLOAD : ¬ ((1 : Int32) < 0 ∨ cc_w_LEAD_PAYLOAD.slots.size ≤ (1 : Int32).toNatClampNeg)) (AT1_w_LEAD_PAYLOAD : cc_w_LEAD_PAYLOAD.slots[(1 : Int32).toNatClampNeg]? = some (.int (127 : Int32))) :
    MetFree l (⟨"com/example/strict_codec/strictcodec/Utf8Grammar", "scalarValue", "([BII)I"⟩ : MethodName) (head1 (Jvm.Cond.code (⟨"com/example/strict_codec/strictcodec/Utf8Grammar", "scalarValue", "([BII)I"⟩ : MethodName) prog_19_method_14_code 5 (some .int) :: ws) ({ frames := 0, cells := 0, slots := 0, locals := 0 } : Room)) (fun a U => a = #[(.ref pr0), (.int (3 : Int32)), (.int (1 : Int32))] ∧ Z.Warmed39 U.vm ∧ U.heap = h0) (fun _ _ _ _ _ => True) (fun _ U o U' => ∃ v L, o = .returned v ∧ Q1a3l1 Z pr0 w_LEAD_PAYLOAD kk_pr0 y0 y1 y2 y3 y4 y5 y6 y7 cc_w_LEAD_PAYLOAD h0 n0 v U'.heap L ∧ FrameEnd U o U' L ({ frames := 0, cells := 0, slots := 0, locals := 0 } : Room).cells ({ frames := 0, cells := 0, slots := 0, locals := 0 } : Room).slots) := by
  refine MetFree.of_bodySF (plainFor_of_name pn_com_example_strict_codec_strictcodec_Utf8Grammar) hisR ?_
  intro p e s m args below meth c s₁ Bd hml0 hP hK
  obtain ⟨rfl, hZ, hh⟩ := hP
  have hx := Bd.exec
  have hby := Bd.bytes
  have hml : c.maxLocals = 5 := hml0
  have hown : s.vm.findClass "com/example/strict_codec/strictcodec/Utf8Grammar" = some m.cls := findClass_of_methodNamed Bd.named
  have hnm := (name_of_methodNamed Bd.named Bd.method).1
  have X0 : Stand p l e ({ frames := 0, cells := 0, slots := 0, locals := 0 } : Room) s m #[(.ref pr0), (.int (3 : Int32)), (.int (1 : Int32))] below meth c s₁ [] 0 0 := Stand.of_body Bd
  have e0 : s₁.heap = h0 := by rw [← hh, Bd.state]; rfl
  have N0 := Fr.nil n0
  obtain ⟨Go, hGo⟩ : ∃ P : State → Prop, ∀ t, P t ↔ Steps p.tables e below (s₁.setTop (entryFrame m #[(.ref pr0), (.int (3 : Int32)), (.int (1 : Int32))] 5)) t := ⟨_, fun _ => Iff.rfl⟩
  have pre0 : ∀ t, Steps p.tables e below (s₁.setTop (mkF m 0 #[rv pr0, iv (3 : Int32), iv (1 : Int32), .unset, .unset] [])) t → Go t := fun t k => (hGo t).mpr (castTop (ef_1a3l1 m pr0) k)
  have pre1 : ∀ t, Steps p.tables e below (s₁.setTop (mkF m 2 #[rv pr0, iv (3 : Int32), iv (1 : Int32), .unset, .unset] [(.int (3 : Int32)), (.ref pr0)])) t → Go t := fun t kt => pre0 t (by
      refine y_aloadN X0.here hx (hb hby d1_0) rfl rfl (pc' := 1) rfl ?_
      refine y_iloadN X0.here hx (hb hby d1_1) rfl (pc' := 2) rfl ?_
      exact kt)
  obtain ⟨c2, Ar2, q2, S2, M2, H2, G2⟩ := id V_pr0
  have hin2 : ¬ ((3 : Int32) < 0 ∨ c2.slots.size ≤ ((3 : Int32)).toNatClampNeg) := inb_of S2 ⟨by decide, by decide⟩
  have hat2 : c2.slots[((3 : Int32)).toNatClampNeg]? = some (.int y3) := Has.at H2 hin2 rfl
  have pre3 : ∀ t, Steps p.tables e below (s₁.setTop (mkF m 3 #[rv pr0, iv (3 : Int32), iv (1 : Int32), .unset, .unset] [(.int y3)])) t → Go t := fun t kt => pre1 t (by
      refine X0.baloadBytes hx (j := (3 : Int32)) (v := (.int y3)) (by rw [e0]; exact Ar2.1) (State.isArrayOf_alike hZ.alike Ar2.2.1) Ar2.2.2 hin2 hat2 (g := (mkF m 2 #[rv pr0, iv (3 : Int32), iv (1 : Int32), .unset, .unset] [(.int (3 : Int32)), (.ref pr0)])) rfl rfl (hb hby d1_2) _ ?_
      show Steps p.tables e below (s₁.setTop (mkF m 3 #[rv pr0, iv (3 : Int32), iv (1 : Int32), .unset, .unset] [(.int y3)])) _
      exact kt)
  obtain ⟨T4, X4, e4, st4⟩ := getS2 X0 hx hZ hown (host := "") (Or.inl (hw _ (List.mem_of_getElem? (i := 6) rfl))) Via.refl e0 (S_LEAD_PAYLOAD.ext O0.2) (g := (mkF m 3 #[rv pr0, iv (3 : Int32), iv (1 : Int32), .unset, .unset] [(.int y3)])) rfl (hb hby d1_3)
  have pre5 : ∀ t, Steps p.tables e below (T4.setTop (mkF m 6 #[rv pr0, iv (3 : Int32), iv (1 : Int32), .unset, .unset] [(.ref w_LEAD_PAYLOAD), (.int y3)])) t → Go t := fun t kt => pre3 t (st4 t kt)
  have pre6 : ∀ t, Steps p.tables e below (T4.setTop (mkF m 7 #[rv pr0, iv (3 : Int32), iv (1 : Int32), .unset, .unset] [(.int (1 : Int32)), (.ref w_LEAD_PAYLOAD), (.int y3)])) t → Go t := fun t kt => pre5 t (by
      refine y_iloadN X4.here hx (hb hby d1_6) rfl (pc' := 7) rfl ?_
      exact kt)
  have A7 := AR_w_LEAD_PAYLOAD.ext O0.2
  obtain ⟨x8, hx8⟩ : ∃ z : Int32, z = (y3 &&& (127 : Int32)) := ⟨_, rfl⟩
  have pre9 : ∀ t, Steps p.tables e below (T4.setTop (mkF m 10 #[rv pr0, iv (3 : Int32), iv (1 : Int32), iv x8, .unset] [])) t → Go t := fun t kt => pre6 t (by
      subst hx8
      refine X4.iaload hx (j := (1 : Int32)) (v := (.int (127 : Int32))) (by rw [e4]; exact A7.1) (State.isArrayOf_alike hZ.alike A7.2.1) A7.2.2 IN1_w_LEAD_PAYLOAD AT1_w_LEAD_PAYLOAD (g := (mkF m 7 #[rv pr0, iv (3 : Int32), iv (1 : Int32), .unset, .unset] [(.int (1 : Int32)), (.ref w_LEAD_PAYLOAD), (.int y3)])) rfl rfl (hb hby d1_7) _ ?_
      show Steps p.tables e below (T4.setTop (mkF m 8 #[rv pr0, iv (3 : Int32), iv (1 : Int32), .unset, .unset] [(.int (127 : Int32)), (.int y3)])) _
      refine y_iand X4.here hx (hb hby d1_8) rfl (pc' := 9) rfl ?_
      refine y_istoreN X4.here hx (hb hby d1_9) (l' := #[rv pr0, iv (3 : Int32), iv (1 : Int32), iv (y3 &&& (127 : Int32)), .unset]) rfl (pc' := 10) rfl ?_
      exact kt)
  have pre10 : ∀ t, Steps p.tables e below (T4.setTop (mkF m 41 #[rv pr0, iv (3 : Int32), iv (1 : Int32), iv x8, iv (1 : Int32)] [(.int x8)])) t → Go t := fun t kt => pre9 t (by
      refine y_iconst X4.here hx (hb hby d1_10) (v := (1 : Int32)) rfl (pc' := 11) rfl ?_
      refine y_istore X4.here hx (hb hby d1_11) (l' := #[rv pr0, iv (3 : Int32), iv (1 : Int32), iv x8, iv (1 : Int32)]) rfl (pc' := 13) rfl ?_
      refine y_iload X4.here hx (hb hby d1_13) rfl (pc' := 15) rfl ?_
      refine y_iloadN X4.here hx (hb hby d1_15) rfl (pc' := 16) rfl ?_
      refine y_icmpYes X4.here hx (hb hby d1_16) (flt (by decide : ¬ ((1 : Int32) < (1 : Int32)))).2.1 (pc' := 40) (by decide) rfl ?_
      refine y_iloadN X4.here hx (hb hby d1_40) rfl (pc' := 41) rfl ?_
      exact kt)
  obtain ⟨fs, hr, hrun, hended, hW, hsame⟩ := X4.leave (v := some (.int x8)) (fun h => by rw [Bd.returns] at h; cases h)
  refine ⟨_, _, (hGo _).mp (pre10 _ ?_), hrun, hended, _, _, rfl, ?_, ⟨_, rfl⟩, hW, hsame.mono (by decide) (by decide)⟩
  · exact retOut X4 hx Bd.returns rfl (Or.inl ⟨rfl, Or.inl rfl, _, rfl⟩) (hb hby d1_41) hr
  · show Q1a3l1 Z pr0 w_LEAD_PAYLOAD kk_pr0 y0 y1 y2 y3 y4 y5 y6 y7 cc_w_LEAD_PAYLOAD h0 n0 _ T4.heap _
    rw [e4]
    subst hx8
    exact ⟨rfl, N0, rfl⟩
theorem d1_19 : decode prog_19_method_14_code 19 = .ok (.iload_n 3, 1) := by decide +kernel
theorem d1_20 : decode prog_19_method_14_code 20 = .ok (.bipush 6, 2) := by decide +kernel
theorem d1_22 : decode prog_19_method_14_code 22 = .ok (.ishl, 1) := by decide +kernel
theorem d1_23 : decode prog_19_method_14_code 23 = .ok (.aload_n 0, 1) := by decide +kernel
theorem d1_24 : decode prog_19_method_14_code 24 = .ok (.iload_n 1, 1) := by decide +kernel
theorem d1_25 : decode prog_19_method_14_code 25 = .ok (.iload 4, 2) := by decide +kernel
theorem d1_27 : decode prog_19_method_14_code 27 = .ok (.iadd, 1) := by decide +kernel
theorem d1_28 : decode prog_19_method_14_code 28 = .ok (.baload, 1) := by decide +kernel
theorem d1_29 : decode prog_19_method_14_code 29 = .ok (.bipush 63, 2) := by decide +kernel
theorem d1_31 : decode prog_19_method_14_code 31 = .ok (.iand, 1) := by decide +kernel
theorem d1_32 : decode prog_19_method_14_code 32 = .ok (.ior, 1) := by decide +kernel
theorem d1_33 : decode prog_19_method_14_code 33 = .ok (.istore_n 3, 1) := by decide +kernel
theorem d1_34 : decode prog_19_method_14_code 34 = .ok (.iinc 4 1, 3) := by decide +kernel
theorem d1_37 : decode prog_19_method_14_code 37 = .ok (.goto (-24), 3) := by decide +kernel
theorem ef_1a0l2 (m : MethodId) (x0 : Addr) : entryFrame m #[(.ref x0), (.int (0 : Int32)), (.int (2 : Int32))] 5 = mkF m 0 #[rv x0, iv (0 : Int32), iv (2 : Int32), .unset, .unset] [] := by first | (simp [entryFrame, mkF, argsToLocals, Value.category]; done) | rfl
def Q1a0l2 (Z : State) (pr0 : Addr) (w_LEAD_PAYLOAD : Addr) (kk_pr0 : ClassId) (y0 : Int32) (y1 : Int32) (y2 : Int32) (y3 : Int32) (y4 : Int32) (y5 : Int32) (y6 : Int32) (y7 : Int32) (cc_w_LEAD_PAYLOAD : Cell) (h0 : Heap) (n0 : Nat) (v : Option Value) (h : Heap) (L : List Loc) : Prop := v = some (.int (((y0 &&& (31 : Int32)) <<< ((6 : Int32) &&& 31)) ||| (y1 &&& (63 : Int32)))) ∧ Fr n0 L ∧ h = h0
set_option maxRecDepth 65536 in
set_option maxHeartbeats 40000000 in
theorem rm1a0l2 (l : Launch) (Z : State) (a0 : Array Value) (hw : ∀ d ∈ tables_1, d.before a0 Z = true) (ws : List Jvm.Cond) (pr0 : Addr) (w_LEAD_PAYLOAD : Addr) (kk_pr0 : ClassId) (y0 : Int32) (y1 : Int32) (y2 : Int32) (y3 : Int32) (y4 : Int32) (y5 : Int32) (y6 : Int32) (y7 : Int32) (cc_w_LEAD_PAYLOAD : Cell) (h0 : Heap) (n0 : Nat) (O0 : Old Z n0 h0) (S_LEAD_PAYLOAD : Sta Z Z.heap "com/example/strict_codec/strictcodec/Utf8Grammar" "LEAD_PAYLOAD" "[I" (.ref w_LEAD_PAYLOAD)) (V_pr0 : Arv Z h0 pr0 kk_pr0 .byte (8 : Int32) [(.int y0), (.int y1), (.int y2), (.int y3), (.int y4), (.int y5), (.int y6), (.int y7)] (.int (0 : Int32))) (AR_w_LEAD_PAYLOAD : Arr Z Z.heap w_LEAD_PAYLOAD cc_w_LEAD_PAYLOAD .int) (IN2_w_LEAD_PAYLOAD : ¬ ((2 : Int32) < 0 ∨ cc_w_LEAD_PAYLOAD.slots.size ≤ (2 : Int32).toNatClampNeg)) (AT2_w_LEAD_PAYLOAD : cc_w_LEAD_PAYLOAD.slots[(2 : Int32).toNatClampNeg]? = some (.int (31 : Int32))) :
    MetFree l (⟨"com/example/strict_codec/strictcodec/Utf8Grammar", "scalarValue", "([BII)I"⟩ : MethodName) (head1 (Jvm.Cond.code (⟨"com/example/strict_codec/strictcodec/Utf8Grammar", "scalarValue", "([BII)I"⟩ : MethodName) prog_19_method_14_code 5 (some .int) :: ws) ({ frames := 0, cells := 0, slots := 0, locals := 0 } : Room)) (fun a U => a = #[(.ref pr0), (.int (0 : Int32)), (.int (2 : Int32))] ∧ Z.Warmed39 U.vm ∧ U.heap = h0) (fun _ _ _ _ _ => True) (fun _ U o U' => ∃ v L, o = .returned v ∧ Q1a0l2 Z pr0 w_LEAD_PAYLOAD kk_pr0 y0 y1 y2 y3 y4 y5 y6 y7 cc_w_LEAD_PAYLOAD h0 n0 v U'.heap L ∧ FrameEnd U o U' L ({ frames := 0, cells := 0, slots := 0, locals := 0 } : Room).cells ({ frames := 0, cells := 0, slots := 0, locals := 0 } : Room).slots) := by
  refine MetFree.of_bodySF (plainFor_of_name pn_com_example_strict_codec_strictcodec_Utf8Grammar) hisR ?_
  intro p e s m args below meth c s₁ Bd hml0 hP hK
  obtain ⟨rfl, hZ, hh⟩ := hP
  have hx := Bd.exec
  have hby := Bd.bytes
  have hml : c.maxLocals = 5 := hml0
  have hown : s.vm.findClass "com/example/strict_codec/strictcodec/Utf8Grammar" = some m.cls := findClass_of_methodNamed Bd.named
  have hnm := (name_of_methodNamed Bd.named Bd.method).1
  have X0 : Stand p l e ({ frames := 0, cells := 0, slots := 0, locals := 0 } : Room) s m #[(.ref pr0), (.int (0 : Int32)), (.int (2 : Int32))] below meth c s₁ [] 0 0 := Stand.of_body Bd
  have e0 : s₁.heap = h0 := by rw [← hh, Bd.state]; rfl
  have N0 := Fr.nil n0
  obtain ⟨Go, hGo⟩ : ∃ P : State → Prop, ∀ t, P t ↔ Steps p.tables e below (s₁.setTop (entryFrame m #[(.ref pr0), (.int (0 : Int32)), (.int (2 : Int32))] 5)) t := ⟨_, fun _ => Iff.rfl⟩
  have pre0 : ∀ t, Steps p.tables e below (s₁.setTop (mkF m 0 #[rv pr0, iv (0 : Int32), iv (2 : Int32), .unset, .unset] [])) t → Go t := fun t k => (hGo t).mpr (castTop (ef_1a0l2 m pr0) k)
  have pre1 : ∀ t, Steps p.tables e below (s₁.setTop (mkF m 2 #[rv pr0, iv (0 : Int32), iv (2 : Int32), .unset, .unset] [(.int (0 : Int32)), (.ref pr0)])) t → Go t := fun t kt => pre0 t (by
      refine y_aloadN X0.here hx (hb hby d1_0) rfl rfl (pc' := 1) rfl ?_
      refine y_iloadN X0.here hx (hb hby d1_1) rfl (pc' := 2) rfl ?_
      exact kt)
  obtain ⟨c2, Ar2, q2, S2, M2, H2, G2⟩ := id V_pr0
  have hin2 : ¬ ((0 : Int32) < 0 ∨ c2.slots.size ≤ ((0 : Int32)).toNatClampNeg) := inb_of S2 ⟨by decide, by decide⟩
  have hat2 : c2.slots[((0 : Int32)).toNatClampNeg]? = some (.int y0) := Has.at H2 hin2 rfl
  have pre3 : ∀ t, Steps p.tables e below (s₁.setTop (mkF m 3 #[rv pr0, iv (0 : Int32), iv (2 : Int32), .unset, .unset] [(.int y0)])) t → Go t := fun t kt => pre1 t (by
      refine X0.baloadBytes hx (j := (0 : Int32)) (v := (.int y0)) (by rw [e0]; exact Ar2.1) (State.isArrayOf_alike hZ.alike Ar2.2.1) Ar2.2.2 hin2 hat2 (g := (mkF m 2 #[rv pr0, iv (0 : Int32), iv (2 : Int32), .unset, .unset] [(.int (0 : Int32)), (.ref pr0)])) rfl rfl (hb hby d1_2) _ ?_
      show Steps p.tables e below (s₁.setTop (mkF m 3 #[rv pr0, iv (0 : Int32), iv (2 : Int32), .unset, .unset] [(.int y0)])) _
      exact kt)
  obtain ⟨T4, X4, e4, st4⟩ := getS2 X0 hx hZ hown (host := "") (Or.inl (hw _ (List.mem_of_getElem? (i := 6) rfl))) Via.refl e0 (S_LEAD_PAYLOAD.ext O0.2) (g := (mkF m 3 #[rv pr0, iv (0 : Int32), iv (2 : Int32), .unset, .unset] [(.int y0)])) rfl (hb hby d1_3)
  have pre5 : ∀ t, Steps p.tables e below (T4.setTop (mkF m 6 #[rv pr0, iv (0 : Int32), iv (2 : Int32), .unset, .unset] [(.ref w_LEAD_PAYLOAD), (.int y0)])) t → Go t := fun t kt => pre3 t (st4 t kt)
  have pre6 : ∀ t, Steps p.tables e below (T4.setTop (mkF m 7 #[rv pr0, iv (0 : Int32), iv (2 : Int32), .unset, .unset] [(.int (2 : Int32)), (.ref w_LEAD_PAYLOAD), (.int y0)])) t → Go t := fun t kt => pre5 t (by
      refine y_iloadN X4.here hx (hb hby d1_6) rfl (pc' := 7) rfl ?_
      exact kt)
  have A7 := AR_w_LEAD_PAYLOAD.ext O0.2
  obtain ⟨x8, hx8⟩ : ∃ z : Int32, z = (y0 &&& (31 : Int32)) := ⟨_, rfl⟩
  have pre9 : ∀ t, Steps p.tables e below (T4.setTop (mkF m 10 #[rv pr0, iv (0 : Int32), iv (2 : Int32), iv x8, .unset] [])) t → Go t := fun t kt => pre6 t (by
      subst hx8
      refine X4.iaload hx (j := (2 : Int32)) (v := (.int (31 : Int32))) (by rw [e4]; exact A7.1) (State.isArrayOf_alike hZ.alike A7.2.1) A7.2.2 IN2_w_LEAD_PAYLOAD AT2_w_LEAD_PAYLOAD (g := (mkF m 7 #[rv pr0, iv (0 : Int32), iv (2 : Int32), .unset, .unset] [(.int (2 : Int32)), (.ref w_LEAD_PAYLOAD), (.int y0)])) rfl rfl (hb hby d1_7) _ ?_
      show Steps p.tables e below (T4.setTop (mkF m 8 #[rv pr0, iv (0 : Int32), iv (2 : Int32), .unset, .unset] [(.int (31 : Int32)), (.int y0)])) _
      refine y_iand X4.here hx (hb hby d1_8) rfl (pc' := 9) rfl ?_
      refine y_istoreN X4.here hx (hb hby d1_9) (l' := #[rv pr0, iv (0 : Int32), iv (2 : Int32), iv (y0 &&& (31 : Int32)), .unset]) rfl (pc' := 10) rfl ?_
      exact kt)
  have pre10 : ∀ t, Steps p.tables e below (T4.setTop (mkF m 28 #[rv pr0, iv (0 : Int32), iv (2 : Int32), iv x8, iv (1 : Int32)] [(.int (1 : Int32)), (.ref pr0), (.int (x8 <<< ((6 : Int32) &&& 31)))])) t → Go t := fun t kt => pre9 t (by
      refine y_iconst X4.here hx (hb hby d1_10) (v := (1 : Int32)) rfl (pc' := 11) rfl ?_
      refine y_istore X4.here hx (hb hby d1_11) (l' := #[rv pr0, iv (0 : Int32), iv (2 : Int32), iv x8, iv (1 : Int32)]) rfl (pc' := 13) rfl ?_
      refine y_iload X4.here hx (hb hby d1_13) rfl (pc' := 15) rfl ?_
      refine y_iloadN X4.here hx (hb hby d1_15) rfl (pc' := 16) rfl ?_
      refine y_icmpNo X4.here hx (hb hby d1_16) (tlt (by decide : (1 : Int32) < (2 : Int32))).2.1 (pc' := 19) rfl ?_
      refine y_iloadN X4.here hx (hb hby d1_19) rfl (pc' := 20) rfl ?_
      refine y_bipush X4.here hx (hb hby d1_20) (v := (6 : Int32)) rfl (pc' := 22) rfl ?_
      refine y_ishl X4.here hx (hb hby d1_22) (z := (x8 <<< ((6 : Int32) &&& 31))) rfl (pc' := 23) rfl ?_
      refine y_aloadN X4.here hx (hb hby d1_23) rfl rfl (pc' := 24) rfl ?_
      refine y_iloadN X4.here hx (hb hby d1_24) rfl (pc' := 25) rfl ?_
      refine y_iload X4.here hx (hb hby d1_25) rfl (pc' := 27) rfl ?_
      refine y_iadd X4.here hx (hb hby d1_27) (z := (1 : Int32)) rfl (pc' := 28) rfl ?_
      exact kt)
  obtain ⟨c11, Ar11, q11, S11, M11, H11, G11⟩ := id V_pr0
  have hin11 : ¬ ((1 : Int32) < 0 ∨ c11.slots.size ≤ ((1 : Int32)).toNatClampNeg) := inb_of S11 ⟨by decide, by decide⟩
  have hat11 : c11.slots[((1 : Int32)).toNatClampNeg]? = some (.int y1) := Has.at H11 hin11 rfl
  obtain ⟨x12, hx12⟩ : ∃ z : Int32, z = ((x8 <<< ((6 : Int32) &&& 31)) ||| (y1 &&& (63 : Int32))) := ⟨_, rfl⟩
  have pre13 : ∀ t, Steps p.tables e below (T4.setTop (mkF m 34 #[rv pr0, iv (0 : Int32), iv (2 : Int32), iv x12, iv (1 : Int32)] [])) t → Go t := fun t kt => pre10 t (by
      subst hx12
      refine X4.baloadBytes hx (j := (1 : Int32)) (v := (.int y1)) (by rw [e4]; exact Ar11.1) (State.isArrayOf_alike hZ.alike Ar11.2.1) Ar11.2.2 hin11 hat11 (g := (mkF m 28 #[rv pr0, iv (0 : Int32), iv (2 : Int32), iv x8, iv (1 : Int32)] [(.int (1 : Int32)), (.ref pr0), (.int (x8 <<< ((6 : Int32) &&& 31)))])) rfl rfl (hb hby d1_28) _ ?_
      show Steps p.tables e below (T4.setTop (mkF m 29 #[rv pr0, iv (0 : Int32), iv (2 : Int32), iv x8, iv (1 : Int32)] [(.int y1), (.int (x8 <<< ((6 : Int32) &&& 31)))])) _
      refine y_bipush X4.here hx (hb hby d1_29) (v := (63 : Int32)) rfl (pc' := 31) rfl ?_
      refine y_iand X4.here hx (hb hby d1_31) rfl (pc' := 32) rfl ?_
      refine y_ior X4.here hx (hb hby d1_32) rfl (pc' := 33) rfl ?_
      refine y_istoreN X4.here hx (hb hby d1_33) (l' := #[rv pr0, iv (0 : Int32), iv (2 : Int32), iv ((x8 <<< ((6 : Int32) &&& 31)) ||| (y1 &&& (63 : Int32))), iv (1 : Int32)]) rfl (pc' := 34) rfl ?_
      exact kt)
  have pre14 : ∀ t, Steps p.tables e below (T4.setTop (mkF m 41 #[rv pr0, iv (0 : Int32), iv (2 : Int32), iv x12, iv (2 : Int32)] [(.int x12)])) t → Go t := fun t kt => pre13 t (by
      refine y_iinc X4.here hx (hb hby d1_34) rfl (l' := #[rv pr0, iv (0 : Int32), iv (2 : Int32), iv x12, iv (2 : Int32)]) rfl (pc' := 37) rfl ?_
      refine y_goto X4.here hx (hb hby d1_37) (pc' := 13) (by decide) rfl ?_
      refine y_iload X4.here hx (hb hby d1_13) rfl (pc' := 15) rfl ?_
      refine y_iloadN X4.here hx (hb hby d1_15) rfl (pc' := 16) rfl ?_
      refine y_icmpYes X4.here hx (hb hby d1_16) (flt (by decide : ¬ ((2 : Int32) < (2 : Int32)))).2.1 (pc' := 40) (by decide) rfl ?_
      refine y_iloadN X4.here hx (hb hby d1_40) rfl (pc' := 41) rfl ?_
      exact kt)
  obtain ⟨fs, hr, hrun, hended, hW, hsame⟩ := X4.leave (v := some (.int x12)) (fun h => by rw [Bd.returns] at h; cases h)
  refine ⟨_, _, (hGo _).mp (pre14 _ ?_), hrun, hended, _, _, rfl, ?_, ⟨_, rfl⟩, hW, hsame.mono (by decide) (by decide)⟩
  · exact retOut X4 hx Bd.returns rfl (Or.inl ⟨rfl, Or.inl rfl, _, rfl⟩) (hb hby d1_41) hr
  · show Q1a0l2 Z pr0 w_LEAD_PAYLOAD kk_pr0 y0 y1 y2 y3 y4 y5 y6 y7 cc_w_LEAD_PAYLOAD h0 n0 _ T4.heap _
    rw [e4]
    subst hx8 hx12
    exact ⟨rfl, N0, rfl⟩
theorem ef_1a1l2 (m : MethodId) (x0 : Addr) : entryFrame m #[(.ref x0), (.int (1 : Int32)), (.int (2 : Int32))] 5 = mkF m 0 #[rv x0, iv (1 : Int32), iv (2 : Int32), .unset, .unset] [] := by first | (simp [entryFrame, mkF, argsToLocals, Value.category]; done) | rfl
def Q1a1l2 (Z : State) (pr0 : Addr) (w_LEAD_PAYLOAD : Addr) (kk_pr0 : ClassId) (y0 : Int32) (y1 : Int32) (y2 : Int32) (y3 : Int32) (y4 : Int32) (y5 : Int32) (y6 : Int32) (y7 : Int32) (cc_w_LEAD_PAYLOAD : Cell) (h0 : Heap) (n0 : Nat) (v : Option Value) (h : Heap) (L : List Loc) : Prop := v = some (.int (((y1 &&& (31 : Int32)) <<< ((6 : Int32) &&& 31)) ||| (y2 &&& (63 : Int32)))) ∧ Fr n0 L ∧ h = h0
set_option maxRecDepth 65536 in
set_option maxHeartbeats 40000000 in
theorem rm1a1l2 (l : Launch) (Z : State) (a0 : Array Value) (hw : ∀ d ∈ tables_1, d.before a0 Z = true) (ws : List Jvm.Cond) (pr0 : Addr) (w_LEAD_PAYLOAD : Addr) (kk_pr0 : ClassId) (y0 : Int32) (y1 : Int32) (y2 : Int32) (y3 : Int32) (y4 : Int32) (y5 : Int32) (y6 : Int32) (y7 : Int32) (cc_w_LEAD_PAYLOAD : Cell) (h0 : Heap) (n0 : Nat) (O0 : Old Z n0 h0) (S_LEAD_PAYLOAD : Sta Z Z.heap "com/example/strict_codec/strictcodec/Utf8Grammar" "LEAD_PAYLOAD" "[I" (.ref w_LEAD_PAYLOAD)) (V_pr0 : Arv Z h0 pr0 kk_pr0 .byte (8 : Int32) [(.int y0), (.int y1), (.int y2), (.int y3), (.int y4), (.int y5), (.int y6), (.int y7)] (.int (0 : Int32))) (AR_w_LEAD_PAYLOAD : Arr Z Z.heap w_LEAD_PAYLOAD cc_w_LEAD_PAYLOAD .int) (IN2_w_LEAD_PAYLOAD : ¬ ((2 : Int32) < 0 ∨ cc_w_LEAD_PAYLOAD.slots.size ≤ (2 : Int32).toNatClampNeg)) (AT2_w_LEAD_PAYLOAD : cc_w_LEAD_PAYLOAD.slots[(2 : Int32).toNatClampNeg]? = some (.int (31 : Int32))) :
    MetFree l (⟨"com/example/strict_codec/strictcodec/Utf8Grammar", "scalarValue", "([BII)I"⟩ : MethodName) (head1 (Jvm.Cond.code (⟨"com/example/strict_codec/strictcodec/Utf8Grammar", "scalarValue", "([BII)I"⟩ : MethodName) prog_19_method_14_code 5 (some .int) :: ws) ({ frames := 0, cells := 0, slots := 0, locals := 0 } : Room)) (fun a U => a = #[(.ref pr0), (.int (1 : Int32)), (.int (2 : Int32))] ∧ Z.Warmed39 U.vm ∧ U.heap = h0) (fun _ _ _ _ _ => True) (fun _ U o U' => ∃ v L, o = .returned v ∧ Q1a1l2 Z pr0 w_LEAD_PAYLOAD kk_pr0 y0 y1 y2 y3 y4 y5 y6 y7 cc_w_LEAD_PAYLOAD h0 n0 v U'.heap L ∧ FrameEnd U o U' L ({ frames := 0, cells := 0, slots := 0, locals := 0 } : Room).cells ({ frames := 0, cells := 0, slots := 0, locals := 0 } : Room).slots) := by
  refine MetFree.of_bodySF (plainFor_of_name pn_com_example_strict_codec_strictcodec_Utf8Grammar) hisR ?_
  intro p e s m args below meth c s₁ Bd hml0 hP hK
  obtain ⟨rfl, hZ, hh⟩ := hP
  have hx := Bd.exec
  have hby := Bd.bytes
  have hml : c.maxLocals = 5 := hml0
  have hown : s.vm.findClass "com/example/strict_codec/strictcodec/Utf8Grammar" = some m.cls := findClass_of_methodNamed Bd.named
  have hnm := (name_of_methodNamed Bd.named Bd.method).1
  have X0 : Stand p l e ({ frames := 0, cells := 0, slots := 0, locals := 0 } : Room) s m #[(.ref pr0), (.int (1 : Int32)), (.int (2 : Int32))] below meth c s₁ [] 0 0 := Stand.of_body Bd
  have e0 : s₁.heap = h0 := by rw [← hh, Bd.state]; rfl
  have N0 := Fr.nil n0
  obtain ⟨Go, hGo⟩ : ∃ P : State → Prop, ∀ t, P t ↔ Steps p.tables e below (s₁.setTop (entryFrame m #[(.ref pr0), (.int (1 : Int32)), (.int (2 : Int32))] 5)) t := ⟨_, fun _ => Iff.rfl⟩
  have pre0 : ∀ t, Steps p.tables e below (s₁.setTop (mkF m 0 #[rv pr0, iv (1 : Int32), iv (2 : Int32), .unset, .unset] [])) t → Go t := fun t k => (hGo t).mpr (castTop (ef_1a1l2 m pr0) k)
  have pre1 : ∀ t, Steps p.tables e below (s₁.setTop (mkF m 2 #[rv pr0, iv (1 : Int32), iv (2 : Int32), .unset, .unset] [(.int (1 : Int32)), (.ref pr0)])) t → Go t := fun t kt => pre0 t (by
      refine y_aloadN X0.here hx (hb hby d1_0) rfl rfl (pc' := 1) rfl ?_
      refine y_iloadN X0.here hx (hb hby d1_1) rfl (pc' := 2) rfl ?_
      exact kt)
  obtain ⟨c2, Ar2, q2, S2, M2, H2, G2⟩ := id V_pr0
  have hin2 : ¬ ((1 : Int32) < 0 ∨ c2.slots.size ≤ ((1 : Int32)).toNatClampNeg) := inb_of S2 ⟨by decide, by decide⟩
  have hat2 : c2.slots[((1 : Int32)).toNatClampNeg]? = some (.int y1) := Has.at H2 hin2 rfl
  have pre3 : ∀ t, Steps p.tables e below (s₁.setTop (mkF m 3 #[rv pr0, iv (1 : Int32), iv (2 : Int32), .unset, .unset] [(.int y1)])) t → Go t := fun t kt => pre1 t (by
      refine X0.baloadBytes hx (j := (1 : Int32)) (v := (.int y1)) (by rw [e0]; exact Ar2.1) (State.isArrayOf_alike hZ.alike Ar2.2.1) Ar2.2.2 hin2 hat2 (g := (mkF m 2 #[rv pr0, iv (1 : Int32), iv (2 : Int32), .unset, .unset] [(.int (1 : Int32)), (.ref pr0)])) rfl rfl (hb hby d1_2) _ ?_
      show Steps p.tables e below (s₁.setTop (mkF m 3 #[rv pr0, iv (1 : Int32), iv (2 : Int32), .unset, .unset] [(.int y1)])) _
      exact kt)
  obtain ⟨T4, X4, e4, st4⟩ := getS2 X0 hx hZ hown (host := "") (Or.inl (hw _ (List.mem_of_getElem? (i := 6) rfl))) Via.refl e0 (S_LEAD_PAYLOAD.ext O0.2) (g := (mkF m 3 #[rv pr0, iv (1 : Int32), iv (2 : Int32), .unset, .unset] [(.int y1)])) rfl (hb hby d1_3)
  have pre5 : ∀ t, Steps p.tables e below (T4.setTop (mkF m 6 #[rv pr0, iv (1 : Int32), iv (2 : Int32), .unset, .unset] [(.ref w_LEAD_PAYLOAD), (.int y1)])) t → Go t := fun t kt => pre3 t (st4 t kt)
  have pre6 : ∀ t, Steps p.tables e below (T4.setTop (mkF m 7 #[rv pr0, iv (1 : Int32), iv (2 : Int32), .unset, .unset] [(.int (2 : Int32)), (.ref w_LEAD_PAYLOAD), (.int y1)])) t → Go t := fun t kt => pre5 t (by
      refine y_iloadN X4.here hx (hb hby d1_6) rfl (pc' := 7) rfl ?_
      exact kt)
  have A7 := AR_w_LEAD_PAYLOAD.ext O0.2
  obtain ⟨x8, hx8⟩ : ∃ z : Int32, z = (y1 &&& (31 : Int32)) := ⟨_, rfl⟩
  have pre9 : ∀ t, Steps p.tables e below (T4.setTop (mkF m 10 #[rv pr0, iv (1 : Int32), iv (2 : Int32), iv x8, .unset] [])) t → Go t := fun t kt => pre6 t (by
      subst hx8
      refine X4.iaload hx (j := (2 : Int32)) (v := (.int (31 : Int32))) (by rw [e4]; exact A7.1) (State.isArrayOf_alike hZ.alike A7.2.1) A7.2.2 IN2_w_LEAD_PAYLOAD AT2_w_LEAD_PAYLOAD (g := (mkF m 7 #[rv pr0, iv (1 : Int32), iv (2 : Int32), .unset, .unset] [(.int (2 : Int32)), (.ref w_LEAD_PAYLOAD), (.int y1)])) rfl rfl (hb hby d1_7) _ ?_
      show Steps p.tables e below (T4.setTop (mkF m 8 #[rv pr0, iv (1 : Int32), iv (2 : Int32), .unset, .unset] [(.int (31 : Int32)), (.int y1)])) _
      refine y_iand X4.here hx (hb hby d1_8) rfl (pc' := 9) rfl ?_
      refine y_istoreN X4.here hx (hb hby d1_9) (l' := #[rv pr0, iv (1 : Int32), iv (2 : Int32), iv (y1 &&& (31 : Int32)), .unset]) rfl (pc' := 10) rfl ?_
      exact kt)
  have pre10 : ∀ t, Steps p.tables e below (T4.setTop (mkF m 28 #[rv pr0, iv (1 : Int32), iv (2 : Int32), iv x8, iv (1 : Int32)] [(.int (2 : Int32)), (.ref pr0), (.int (x8 <<< ((6 : Int32) &&& 31)))])) t → Go t := fun t kt => pre9 t (by
      refine y_iconst X4.here hx (hb hby d1_10) (v := (1 : Int32)) rfl (pc' := 11) rfl ?_
      refine y_istore X4.here hx (hb hby d1_11) (l' := #[rv pr0, iv (1 : Int32), iv (2 : Int32), iv x8, iv (1 : Int32)]) rfl (pc' := 13) rfl ?_
      refine y_iload X4.here hx (hb hby d1_13) rfl (pc' := 15) rfl ?_
      refine y_iloadN X4.here hx (hb hby d1_15) rfl (pc' := 16) rfl ?_
      refine y_icmpNo X4.here hx (hb hby d1_16) (tlt (by decide : (1 : Int32) < (2 : Int32))).2.1 (pc' := 19) rfl ?_
      refine y_iloadN X4.here hx (hb hby d1_19) rfl (pc' := 20) rfl ?_
      refine y_bipush X4.here hx (hb hby d1_20) (v := (6 : Int32)) rfl (pc' := 22) rfl ?_
      refine y_ishl X4.here hx (hb hby d1_22) (z := (x8 <<< ((6 : Int32) &&& 31))) rfl (pc' := 23) rfl ?_
      refine y_aloadN X4.here hx (hb hby d1_23) rfl rfl (pc' := 24) rfl ?_
      refine y_iloadN X4.here hx (hb hby d1_24) rfl (pc' := 25) rfl ?_
      refine y_iload X4.here hx (hb hby d1_25) rfl (pc' := 27) rfl ?_
      refine y_iadd X4.here hx (hb hby d1_27) (z := (2 : Int32)) rfl (pc' := 28) rfl ?_
      exact kt)
  obtain ⟨c11, Ar11, q11, S11, M11, H11, G11⟩ := id V_pr0
  have hin11 : ¬ ((2 : Int32) < 0 ∨ c11.slots.size ≤ ((2 : Int32)).toNatClampNeg) := inb_of S11 ⟨by decide, by decide⟩
  have hat11 : c11.slots[((2 : Int32)).toNatClampNeg]? = some (.int y2) := Has.at H11 hin11 rfl
  obtain ⟨x12, hx12⟩ : ∃ z : Int32, z = ((x8 <<< ((6 : Int32) &&& 31)) ||| (y2 &&& (63 : Int32))) := ⟨_, rfl⟩
  have pre13 : ∀ t, Steps p.tables e below (T4.setTop (mkF m 34 #[rv pr0, iv (1 : Int32), iv (2 : Int32), iv x12, iv (1 : Int32)] [])) t → Go t := fun t kt => pre10 t (by
      subst hx12
      refine X4.baloadBytes hx (j := (2 : Int32)) (v := (.int y2)) (by rw [e4]; exact Ar11.1) (State.isArrayOf_alike hZ.alike Ar11.2.1) Ar11.2.2 hin11 hat11 (g := (mkF m 28 #[rv pr0, iv (1 : Int32), iv (2 : Int32), iv x8, iv (1 : Int32)] [(.int (2 : Int32)), (.ref pr0), (.int (x8 <<< ((6 : Int32) &&& 31)))])) rfl rfl (hb hby d1_28) _ ?_
      show Steps p.tables e below (T4.setTop (mkF m 29 #[rv pr0, iv (1 : Int32), iv (2 : Int32), iv x8, iv (1 : Int32)] [(.int y2), (.int (x8 <<< ((6 : Int32) &&& 31)))])) _
      refine y_bipush X4.here hx (hb hby d1_29) (v := (63 : Int32)) rfl (pc' := 31) rfl ?_
      refine y_iand X4.here hx (hb hby d1_31) rfl (pc' := 32) rfl ?_
      refine y_ior X4.here hx (hb hby d1_32) rfl (pc' := 33) rfl ?_
      refine y_istoreN X4.here hx (hb hby d1_33) (l' := #[rv pr0, iv (1 : Int32), iv (2 : Int32), iv ((x8 <<< ((6 : Int32) &&& 31)) ||| (y2 &&& (63 : Int32))), iv (1 : Int32)]) rfl (pc' := 34) rfl ?_
      exact kt)
  have pre14 : ∀ t, Steps p.tables e below (T4.setTop (mkF m 41 #[rv pr0, iv (1 : Int32), iv (2 : Int32), iv x12, iv (2 : Int32)] [(.int x12)])) t → Go t := fun t kt => pre13 t (by
      refine y_iinc X4.here hx (hb hby d1_34) rfl (l' := #[rv pr0, iv (1 : Int32), iv (2 : Int32), iv x12, iv (2 : Int32)]) rfl (pc' := 37) rfl ?_
      refine y_goto X4.here hx (hb hby d1_37) (pc' := 13) (by decide) rfl ?_
      refine y_iload X4.here hx (hb hby d1_13) rfl (pc' := 15) rfl ?_
      refine y_iloadN X4.here hx (hb hby d1_15) rfl (pc' := 16) rfl ?_
      refine y_icmpYes X4.here hx (hb hby d1_16) (flt (by decide : ¬ ((2 : Int32) < (2 : Int32)))).2.1 (pc' := 40) (by decide) rfl ?_
      refine y_iloadN X4.here hx (hb hby d1_40) rfl (pc' := 41) rfl ?_
      exact kt)
  obtain ⟨fs, hr, hrun, hended, hW, hsame⟩ := X4.leave (v := some (.int x12)) (fun h => by rw [Bd.returns] at h; cases h)
  refine ⟨_, _, (hGo _).mp (pre14 _ ?_), hrun, hended, _, _, rfl, ?_, ⟨_, rfl⟩, hW, hsame.mono (by decide) (by decide)⟩
  · exact retOut X4 hx Bd.returns rfl (Or.inl ⟨rfl, Or.inl rfl, _, rfl⟩) (hb hby d1_41) hr
  · show Q1a1l2 Z pr0 w_LEAD_PAYLOAD kk_pr0 y0 y1 y2 y3 y4 y5 y6 y7 cc_w_LEAD_PAYLOAD h0 n0 _ T4.heap _
    rw [e4]
    subst hx8 hx12
    exact ⟨rfl, N0, rfl⟩
theorem ef_1a2l2 (m : MethodId) (x0 : Addr) : entryFrame m #[(.ref x0), (.int (2 : Int32)), (.int (2 : Int32))] 5 = mkF m 0 #[rv x0, iv (2 : Int32), iv (2 : Int32), .unset, .unset] [] := by first | (simp [entryFrame, mkF, argsToLocals, Value.category]; done) | rfl
def Q1a2l2 (Z : State) (pr0 : Addr) (w_LEAD_PAYLOAD : Addr) (kk_pr0 : ClassId) (y0 : Int32) (y1 : Int32) (y2 : Int32) (y3 : Int32) (y4 : Int32) (y5 : Int32) (y6 : Int32) (y7 : Int32) (cc_w_LEAD_PAYLOAD : Cell) (h0 : Heap) (n0 : Nat) (v : Option Value) (h : Heap) (L : List Loc) : Prop := v = some (.int (((y2 &&& (31 : Int32)) <<< ((6 : Int32) &&& 31)) ||| (y3 &&& (63 : Int32)))) ∧ Fr n0 L ∧ h = h0
set_option maxRecDepth 65536 in
set_option maxHeartbeats 40000000 in
theorem rm1a2l2 (l : Launch) (Z : State) (a0 : Array Value) (hw : ∀ d ∈ tables_1, d.before a0 Z = true) (ws : List Jvm.Cond) (pr0 : Addr) (w_LEAD_PAYLOAD : Addr) (kk_pr0 : ClassId) (y0 : Int32) (y1 : Int32) (y2 : Int32) (y3 : Int32) (y4 : Int32) (y5 : Int32) (y6 : Int32) (y7 : Int32) (cc_w_LEAD_PAYLOAD : Cell) (h0 : Heap) (n0 : Nat) (O0 : Old Z n0 h0) (S_LEAD_PAYLOAD : Sta Z Z.heap "com/example/strict_codec/strictcodec/Utf8Grammar" "LEAD_PAYLOAD" "[I" (.ref w_LEAD_PAYLOAD)) (V_pr0 : Arv Z h0 pr0 kk_pr0 .byte (8 : Int32) [(.int y0), (.int y1), (.int y2), (.int y3), (.int y4), (.int y5), (.int y6), (.int y7)] (.int (0 : Int32))) (AR_w_LEAD_PAYLOAD : Arr Z Z.heap w_LEAD_PAYLOAD cc_w_LEAD_PAYLOAD .int) (IN2_w_LEAD_PAYLOAD : ¬ ((2 : Int32) < 0 ∨ cc_w_LEAD_PAYLOAD.slots.size ≤ (2 : Int32).toNatClampNeg)) (AT2_w_LEAD_PAYLOAD : cc_w_LEAD_PAYLOAD.slots[(2 : Int32).toNatClampNeg]? = some (.int (31 : Int32))) :
    MetFree l (⟨"com/example/strict_codec/strictcodec/Utf8Grammar", "scalarValue", "([BII)I"⟩ : MethodName) (head1 (Jvm.Cond.code (⟨"com/example/strict_codec/strictcodec/Utf8Grammar", "scalarValue", "([BII)I"⟩ : MethodName) prog_19_method_14_code 5 (some .int) :: ws) ({ frames := 0, cells := 0, slots := 0, locals := 0 } : Room)) (fun a U => a = #[(.ref pr0), (.int (2 : Int32)), (.int (2 : Int32))] ∧ Z.Warmed39 U.vm ∧ U.heap = h0) (fun _ _ _ _ _ => True) (fun _ U o U' => ∃ v L, o = .returned v ∧ Q1a2l2 Z pr0 w_LEAD_PAYLOAD kk_pr0 y0 y1 y2 y3 y4 y5 y6 y7 cc_w_LEAD_PAYLOAD h0 n0 v U'.heap L ∧ FrameEnd U o U' L ({ frames := 0, cells := 0, slots := 0, locals := 0 } : Room).cells ({ frames := 0, cells := 0, slots := 0, locals := 0 } : Room).slots) := by
  refine MetFree.of_bodySF (plainFor_of_name pn_com_example_strict_codec_strictcodec_Utf8Grammar) hisR ?_
  intro p e s m args below meth c s₁ Bd hml0 hP hK
  obtain ⟨rfl, hZ, hh⟩ := hP
  have hx := Bd.exec
  have hby := Bd.bytes
  have hml : c.maxLocals = 5 := hml0
  have hown : s.vm.findClass "com/example/strict_codec/strictcodec/Utf8Grammar" = some m.cls := findClass_of_methodNamed Bd.named
  have hnm := (name_of_methodNamed Bd.named Bd.method).1
  have X0 : Stand p l e ({ frames := 0, cells := 0, slots := 0, locals := 0 } : Room) s m #[(.ref pr0), (.int (2 : Int32)), (.int (2 : Int32))] below meth c s₁ [] 0 0 := Stand.of_body Bd
  have e0 : s₁.heap = h0 := by rw [← hh, Bd.state]; rfl
  have N0 := Fr.nil n0
  obtain ⟨Go, hGo⟩ : ∃ P : State → Prop, ∀ t, P t ↔ Steps p.tables e below (s₁.setTop (entryFrame m #[(.ref pr0), (.int (2 : Int32)), (.int (2 : Int32))] 5)) t := ⟨_, fun _ => Iff.rfl⟩
  have pre0 : ∀ t, Steps p.tables e below (s₁.setTop (mkF m 0 #[rv pr0, iv (2 : Int32), iv (2 : Int32), .unset, .unset] [])) t → Go t := fun t k => (hGo t).mpr (castTop (ef_1a2l2 m pr0) k)
  have pre1 : ∀ t, Steps p.tables e below (s₁.setTop (mkF m 2 #[rv pr0, iv (2 : Int32), iv (2 : Int32), .unset, .unset] [(.int (2 : Int32)), (.ref pr0)])) t → Go t := fun t kt => pre0 t (by
      refine y_aloadN X0.here hx (hb hby d1_0) rfl rfl (pc' := 1) rfl ?_
      refine y_iloadN X0.here hx (hb hby d1_1) rfl (pc' := 2) rfl ?_
      exact kt)
  obtain ⟨c2, Ar2, q2, S2, M2, H2, G2⟩ := id V_pr0
  have hin2 : ¬ ((2 : Int32) < 0 ∨ c2.slots.size ≤ ((2 : Int32)).toNatClampNeg) := inb_of S2 ⟨by decide, by decide⟩
  have hat2 : c2.slots[((2 : Int32)).toNatClampNeg]? = some (.int y2) := Has.at H2 hin2 rfl
  have pre3 : ∀ t, Steps p.tables e below (s₁.setTop (mkF m 3 #[rv pr0, iv (2 : Int32), iv (2 : Int32), .unset, .unset] [(.int y2)])) t → Go t := fun t kt => pre1 t (by
      refine X0.baloadBytes hx (j := (2 : Int32)) (v := (.int y2)) (by rw [e0]; exact Ar2.1) (State.isArrayOf_alike hZ.alike Ar2.2.1) Ar2.2.2 hin2 hat2 (g := (mkF m 2 #[rv pr0, iv (2 : Int32), iv (2 : Int32), .unset, .unset] [(.int (2 : Int32)), (.ref pr0)])) rfl rfl (hb hby d1_2) _ ?_
      show Steps p.tables e below (s₁.setTop (mkF m 3 #[rv pr0, iv (2 : Int32), iv (2 : Int32), .unset, .unset] [(.int y2)])) _
      exact kt)
  obtain ⟨T4, X4, e4, st4⟩ := getS2 X0 hx hZ hown (host := "") (Or.inl (hw _ (List.mem_of_getElem? (i := 6) rfl))) Via.refl e0 (S_LEAD_PAYLOAD.ext O0.2) (g := (mkF m 3 #[rv pr0, iv (2 : Int32), iv (2 : Int32), .unset, .unset] [(.int y2)])) rfl (hb hby d1_3)
  have pre5 : ∀ t, Steps p.tables e below (T4.setTop (mkF m 6 #[rv pr0, iv (2 : Int32), iv (2 : Int32), .unset, .unset] [(.ref w_LEAD_PAYLOAD), (.int y2)])) t → Go t := fun t kt => pre3 t (st4 t kt)
  have pre6 : ∀ t, Steps p.tables e below (T4.setTop (mkF m 7 #[rv pr0, iv (2 : Int32), iv (2 : Int32), .unset, .unset] [(.int (2 : Int32)), (.ref w_LEAD_PAYLOAD), (.int y2)])) t → Go t := fun t kt => pre5 t (by
      refine y_iloadN X4.here hx (hb hby d1_6) rfl (pc' := 7) rfl ?_
      exact kt)
  have A7 := AR_w_LEAD_PAYLOAD.ext O0.2
  obtain ⟨x8, hx8⟩ : ∃ z : Int32, z = (y2 &&& (31 : Int32)) := ⟨_, rfl⟩
  have pre9 : ∀ t, Steps p.tables e below (T4.setTop (mkF m 10 #[rv pr0, iv (2 : Int32), iv (2 : Int32), iv x8, .unset] [])) t → Go t := fun t kt => pre6 t (by
      subst hx8
      refine X4.iaload hx (j := (2 : Int32)) (v := (.int (31 : Int32))) (by rw [e4]; exact A7.1) (State.isArrayOf_alike hZ.alike A7.2.1) A7.2.2 IN2_w_LEAD_PAYLOAD AT2_w_LEAD_PAYLOAD (g := (mkF m 7 #[rv pr0, iv (2 : Int32), iv (2 : Int32), .unset, .unset] [(.int (2 : Int32)), (.ref w_LEAD_PAYLOAD), (.int y2)])) rfl rfl (hb hby d1_7) _ ?_
      show Steps p.tables e below (T4.setTop (mkF m 8 #[rv pr0, iv (2 : Int32), iv (2 : Int32), .unset, .unset] [(.int (31 : Int32)), (.int y2)])) _
      refine y_iand X4.here hx (hb hby d1_8) rfl (pc' := 9) rfl ?_
      refine y_istoreN X4.here hx (hb hby d1_9) (l' := #[rv pr0, iv (2 : Int32), iv (2 : Int32), iv (y2 &&& (31 : Int32)), .unset]) rfl (pc' := 10) rfl ?_
      exact kt)
  have pre10 : ∀ t, Steps p.tables e below (T4.setTop (mkF m 28 #[rv pr0, iv (2 : Int32), iv (2 : Int32), iv x8, iv (1 : Int32)] [(.int (3 : Int32)), (.ref pr0), (.int (x8 <<< ((6 : Int32) &&& 31)))])) t → Go t := fun t kt => pre9 t (by
      refine y_iconst X4.here hx (hb hby d1_10) (v := (1 : Int32)) rfl (pc' := 11) rfl ?_
      refine y_istore X4.here hx (hb hby d1_11) (l' := #[rv pr0, iv (2 : Int32), iv (2 : Int32), iv x8, iv (1 : Int32)]) rfl (pc' := 13) rfl ?_
      refine y_iload X4.here hx (hb hby d1_13) rfl (pc' := 15) rfl ?_
      refine y_iloadN X4.here hx (hb hby d1_15) rfl (pc' := 16) rfl ?_
      refine y_icmpNo X4.here hx (hb hby d1_16) (tlt (by decide : (1 : Int32) < (2 : Int32))).2.1 (pc' := 19) rfl ?_
      refine y_iloadN X4.here hx (hb hby d1_19) rfl (pc' := 20) rfl ?_
      refine y_bipush X4.here hx (hb hby d1_20) (v := (6 : Int32)) rfl (pc' := 22) rfl ?_
      refine y_ishl X4.here hx (hb hby d1_22) (z := (x8 <<< ((6 : Int32) &&& 31))) rfl (pc' := 23) rfl ?_
      refine y_aloadN X4.here hx (hb hby d1_23) rfl rfl (pc' := 24) rfl ?_
      refine y_iloadN X4.here hx (hb hby d1_24) rfl (pc' := 25) rfl ?_
      refine y_iload X4.here hx (hb hby d1_25) rfl (pc' := 27) rfl ?_
      refine y_iadd X4.here hx (hb hby d1_27) (z := (3 : Int32)) rfl (pc' := 28) rfl ?_
      exact kt)
  obtain ⟨c11, Ar11, q11, S11, M11, H11, G11⟩ := id V_pr0
  have hin11 : ¬ ((3 : Int32) < 0 ∨ c11.slots.size ≤ ((3 : Int32)).toNatClampNeg) := inb_of S11 ⟨by decide, by decide⟩
  have hat11 : c11.slots[((3 : Int32)).toNatClampNeg]? = some (.int y3) := Has.at H11 hin11 rfl
  obtain ⟨x12, hx12⟩ : ∃ z : Int32, z = ((x8 <<< ((6 : Int32) &&& 31)) ||| (y3 &&& (63 : Int32))) := ⟨_, rfl⟩
  have pre13 : ∀ t, Steps p.tables e below (T4.setTop (mkF m 34 #[rv pr0, iv (2 : Int32), iv (2 : Int32), iv x12, iv (1 : Int32)] [])) t → Go t := fun t kt => pre10 t (by
      subst hx12
      refine X4.baloadBytes hx (j := (3 : Int32)) (v := (.int y3)) (by rw [e4]; exact Ar11.1) (State.isArrayOf_alike hZ.alike Ar11.2.1) Ar11.2.2 hin11 hat11 (g := (mkF m 28 #[rv pr0, iv (2 : Int32), iv (2 : Int32), iv x8, iv (1 : Int32)] [(.int (3 : Int32)), (.ref pr0), (.int (x8 <<< ((6 : Int32) &&& 31)))])) rfl rfl (hb hby d1_28) _ ?_
      show Steps p.tables e below (T4.setTop (mkF m 29 #[rv pr0, iv (2 : Int32), iv (2 : Int32), iv x8, iv (1 : Int32)] [(.int y3), (.int (x8 <<< ((6 : Int32) &&& 31)))])) _
      refine y_bipush X4.here hx (hb hby d1_29) (v := (63 : Int32)) rfl (pc' := 31) rfl ?_
      refine y_iand X4.here hx (hb hby d1_31) rfl (pc' := 32) rfl ?_
      refine y_ior X4.here hx (hb hby d1_32) rfl (pc' := 33) rfl ?_
      refine y_istoreN X4.here hx (hb hby d1_33) (l' := #[rv pr0, iv (2 : Int32), iv (2 : Int32), iv ((x8 <<< ((6 : Int32) &&& 31)) ||| (y3 &&& (63 : Int32))), iv (1 : Int32)]) rfl (pc' := 34) rfl ?_
      exact kt)
  have pre14 : ∀ t, Steps p.tables e below (T4.setTop (mkF m 41 #[rv pr0, iv (2 : Int32), iv (2 : Int32), iv x12, iv (2 : Int32)] [(.int x12)])) t → Go t := fun t kt => pre13 t (by
      refine y_iinc X4.here hx (hb hby d1_34) rfl (l' := #[rv pr0, iv (2 : Int32), iv (2 : Int32), iv x12, iv (2 : Int32)]) rfl (pc' := 37) rfl ?_
      refine y_goto X4.here hx (hb hby d1_37) (pc' := 13) (by decide) rfl ?_
      refine y_iload X4.here hx (hb hby d1_13) rfl (pc' := 15) rfl ?_
      refine y_iloadN X4.here hx (hb hby d1_15) rfl (pc' := 16) rfl ?_
      refine y_icmpYes X4.here hx (hb hby d1_16) (flt (by decide : ¬ ((2 : Int32) < (2 : Int32)))).2.1 (pc' := 40) (by decide) rfl ?_
      refine y_iloadN X4.here hx (hb hby d1_40) rfl (pc' := 41) rfl ?_
      exact kt)
  obtain ⟨fs, hr, hrun, hended, hW, hsame⟩ := X4.leave (v := some (.int x12)) (fun h => by rw [Bd.returns] at h; cases h)
  refine ⟨_, _, (hGo _).mp (pre14 _ ?_), hrun, hended, _, _, rfl, ?_, ⟨_, rfl⟩, hW, hsame.mono (by decide) (by decide)⟩
  · exact retOut X4 hx Bd.returns rfl (Or.inl ⟨rfl, Or.inl rfl, _, rfl⟩) (hb hby d1_41) hr
  · show Q1a2l2 Z pr0 w_LEAD_PAYLOAD kk_pr0 y0 y1 y2 y3 y4 y5 y6 y7 cc_w_LEAD_PAYLOAD h0 n0 _ T4.heap _
    rw [e4]
    subst hx8 hx12
    exact ⟨rfl, N0, rfl⟩
theorem ef_1a3l2 (m : MethodId) (x0 : Addr) : entryFrame m #[(.ref x0), (.int (3 : Int32)), (.int (2 : Int32))] 5 = mkF m 0 #[rv x0, iv (3 : Int32), iv (2 : Int32), .unset, .unset] [] := by first | (simp [entryFrame, mkF, argsToLocals, Value.category]; done) | rfl
def Q1a3l2 (Z : State) (pr0 : Addr) (w_LEAD_PAYLOAD : Addr) (kk_pr0 : ClassId) (y0 : Int32) (y1 : Int32) (y2 : Int32) (y3 : Int32) (y4 : Int32) (y5 : Int32) (y6 : Int32) (y7 : Int32) (cc_w_LEAD_PAYLOAD : Cell) (h0 : Heap) (n0 : Nat) (v : Option Value) (h : Heap) (L : List Loc) : Prop := v = some (.int (((y3 &&& (31 : Int32)) <<< ((6 : Int32) &&& 31)) ||| (y4 &&& (63 : Int32)))) ∧ Fr n0 L ∧ h = h0
set_option maxRecDepth 65536 in
set_option maxHeartbeats 40000000 in
theorem rm1a3l2 (l : Launch) (Z : State) (a0 : Array Value) (hw : ∀ d ∈ tables_1, d.before a0 Z = true) (ws : List Jvm.Cond) (pr0 : Addr) (w_LEAD_PAYLOAD : Addr) (kk_pr0 : ClassId) (y0 : Int32) (y1 : Int32) (y2 : Int32) (y3 : Int32) (y4 : Int32) (y5 : Int32) (y6 : Int32) (y7 : Int32) (cc_w_LEAD_PAYLOAD : Cell) (h0 : Heap) (n0 : Nat) (O0 : Old Z n0 h0) (S_LEAD_PAYLOAD : Sta Z Z.heap "com/example/strict_codec/strictcodec/Utf8Grammar" "LEAD_PAYLOAD" "[I" (.ref w_LEAD_PAYLOAD)) (V_pr0 : Arv Z h0 pr0 kk_pr0 .byte (8 : Int32) [(.int y0), (.int y1), (.int y2), (.int y3), (.int y4), (.int y5), (.int y6), (.int y7)] (.int (0 : Int32))) (AR_w_LEAD_PAYLOAD : Arr Z Z.heap w_LEAD_PAYLOAD cc_w_LEAD_PAYLOAD .int) (IN2_w_LEAD_PAYLOAD : ¬ ((2 : Int32) < 0 ∨ cc_w_LEAD_PAYLOAD.slots.size ≤ (2 : Int32).toNatClampNeg)) (AT2_w_LEAD_PAYLOAD : cc_w_LEAD_PAYLOAD.slots[(2 : Int32).toNatClampNeg]? = some (.int (31 : Int32))) :
    MetFree l (⟨"com/example/strict_codec/strictcodec/Utf8Grammar", "scalarValue", "([BII)I"⟩ : MethodName) (head1 (Jvm.Cond.code (⟨"com/example/strict_codec/strictcodec/Utf8Grammar", "scalarValue", "([BII)I"⟩ : MethodName) prog_19_method_14_code 5 (some .int) :: ws) ({ frames := 0, cells := 0, slots := 0, locals := 0 } : Room)) (fun a U => a = #[(.ref pr0), (.int (3 : Int32)), (.int (2 : Int32))] ∧ Z.Warmed39 U.vm ∧ U.heap = h0) (fun _ _ _ _ _ => True) (fun _ U o U' => ∃ v L, o = .returned v ∧ Q1a3l2 Z pr0 w_LEAD_PAYLOAD kk_pr0 y0 y1 y2 y3 y4 y5 y6 y7 cc_w_LEAD_PAYLOAD h0 n0 v U'.heap L ∧ FrameEnd U o U' L ({ frames := 0, cells := 0, slots := 0, locals := 0 } : Room).cells ({ frames := 0, cells := 0, slots := 0, locals := 0 } : Room).slots) := by
  refine MetFree.of_bodySF (plainFor_of_name pn_com_example_strict_codec_strictcodec_Utf8Grammar) hisR ?_
  intro p e s m args below meth c s₁ Bd hml0 hP hK
  obtain ⟨rfl, hZ, hh⟩ := hP
  have hx := Bd.exec
  have hby := Bd.bytes
  have hml : c.maxLocals = 5 := hml0
  have hown : s.vm.findClass "com/example/strict_codec/strictcodec/Utf8Grammar" = some m.cls := findClass_of_methodNamed Bd.named
  have hnm := (name_of_methodNamed Bd.named Bd.method).1
  have X0 : Stand p l e ({ frames := 0, cells := 0, slots := 0, locals := 0 } : Room) s m #[(.ref pr0), (.int (3 : Int32)), (.int (2 : Int32))] below meth c s₁ [] 0 0 := Stand.of_body Bd
  have e0 : s₁.heap = h0 := by rw [← hh, Bd.state]; rfl
  have N0 := Fr.nil n0
  obtain ⟨Go, hGo⟩ : ∃ P : State → Prop, ∀ t, P t ↔ Steps p.tables e below (s₁.setTop (entryFrame m #[(.ref pr0), (.int (3 : Int32)), (.int (2 : Int32))] 5)) t := ⟨_, fun _ => Iff.rfl⟩
  have pre0 : ∀ t, Steps p.tables e below (s₁.setTop (mkF m 0 #[rv pr0, iv (3 : Int32), iv (2 : Int32), .unset, .unset] [])) t → Go t := fun t k => (hGo t).mpr (castTop (ef_1a3l2 m pr0) k)
  have pre1 : ∀ t, Steps p.tables e below (s₁.setTop (mkF m 2 #[rv pr0, iv (3 : Int32), iv (2 : Int32), .unset, .unset] [(.int (3 : Int32)), (.ref pr0)])) t → Go t := fun t kt => pre0 t (by
      refine y_aloadN X0.here hx (hb hby d1_0) rfl rfl (pc' := 1) rfl ?_
      refine y_iloadN X0.here hx (hb hby d1_1) rfl (pc' := 2) rfl ?_
      exact kt)
  obtain ⟨c2, Ar2, q2, S2, M2, H2, G2⟩ := id V_pr0
  have hin2 : ¬ ((3 : Int32) < 0 ∨ c2.slots.size ≤ ((3 : Int32)).toNatClampNeg) := inb_of S2 ⟨by decide, by decide⟩
  have hat2 : c2.slots[((3 : Int32)).toNatClampNeg]? = some (.int y3) := Has.at H2 hin2 rfl
  have pre3 : ∀ t, Steps p.tables e below (s₁.setTop (mkF m 3 #[rv pr0, iv (3 : Int32), iv (2 : Int32), .unset, .unset] [(.int y3)])) t → Go t := fun t kt => pre1 t (by
      refine X0.baloadBytes hx (j := (3 : Int32)) (v := (.int y3)) (by rw [e0]; exact Ar2.1) (State.isArrayOf_alike hZ.alike Ar2.2.1) Ar2.2.2 hin2 hat2 (g := (mkF m 2 #[rv pr0, iv (3 : Int32), iv (2 : Int32), .unset, .unset] [(.int (3 : Int32)), (.ref pr0)])) rfl rfl (hb hby d1_2) _ ?_
      show Steps p.tables e below (s₁.setTop (mkF m 3 #[rv pr0, iv (3 : Int32), iv (2 : Int32), .unset, .unset] [(.int y3)])) _
      exact kt)
  obtain ⟨T4, X4, e4, st4⟩ := getS2 X0 hx hZ hown (host := "") (Or.inl (hw _ (List.mem_of_getElem? (i := 6) rfl))) Via.refl e0 (S_LEAD_PAYLOAD.ext O0.2) (g := (mkF m 3 #[rv pr0, iv (3 : Int32), iv (2 : Int32), .unset, .unset] [(.int y3)])) rfl (hb hby d1_3)
  have pre5 : ∀ t, Steps p.tables e below (T4.setTop (mkF m 6 #[rv pr0, iv (3 : Int32), iv (2 : Int32), .unset, .unset] [(.ref w_LEAD_PAYLOAD), (.int y3)])) t → Go t := fun t kt => pre3 t (st4 t kt)
  have pre6 : ∀ t, Steps p.tables e below (T4.setTop (mkF m 7 #[rv pr0, iv (3 : Int32), iv (2 : Int32), .unset, .unset] [(.int (2 : Int32)), (.ref w_LEAD_PAYLOAD), (.int y3)])) t → Go t := fun t kt => pre5 t (by
      refine y_iloadN X4.here hx (hb hby d1_6) rfl (pc' := 7) rfl ?_
      exact kt)
  have A7 := AR_w_LEAD_PAYLOAD.ext O0.2
  obtain ⟨x8, hx8⟩ : ∃ z : Int32, z = (y3 &&& (31 : Int32)) := ⟨_, rfl⟩
  have pre9 : ∀ t, Steps p.tables e below (T4.setTop (mkF m 10 #[rv pr0, iv (3 : Int32), iv (2 : Int32), iv x8, .unset] [])) t → Go t := fun t kt => pre6 t (by
      subst hx8
      refine X4.iaload hx (j := (2 : Int32)) (v := (.int (31 : Int32))) (by rw [e4]; exact A7.1) (State.isArrayOf_alike hZ.alike A7.2.1) A7.2.2 IN2_w_LEAD_PAYLOAD AT2_w_LEAD_PAYLOAD (g := (mkF m 7 #[rv pr0, iv (3 : Int32), iv (2 : Int32), .unset, .unset] [(.int (2 : Int32)), (.ref w_LEAD_PAYLOAD), (.int y3)])) rfl rfl (hb hby d1_7) _ ?_
      show Steps p.tables e below (T4.setTop (mkF m 8 #[rv pr0, iv (3 : Int32), iv (2 : Int32), .unset, .unset] [(.int (31 : Int32)), (.int y3)])) _
      refine y_iand X4.here hx (hb hby d1_8) rfl (pc' := 9) rfl ?_
      refine y_istoreN X4.here hx (hb hby d1_9) (l' := #[rv pr0, iv (3 : Int32), iv (2 : Int32), iv (y3 &&& (31 : Int32)), .unset]) rfl (pc' := 10) rfl ?_
      exact kt)
  have pre10 : ∀ t, Steps p.tables e below (T4.setTop (mkF m 28 #[rv pr0, iv (3 : Int32), iv (2 : Int32), iv x8, iv (1 : Int32)] [(.int (4 : Int32)), (.ref pr0), (.int (x8 <<< ((6 : Int32) &&& 31)))])) t → Go t := fun t kt => pre9 t (by
      refine y_iconst X4.here hx (hb hby d1_10) (v := (1 : Int32)) rfl (pc' := 11) rfl ?_
      refine y_istore X4.here hx (hb hby d1_11) (l' := #[rv pr0, iv (3 : Int32), iv (2 : Int32), iv x8, iv (1 : Int32)]) rfl (pc' := 13) rfl ?_
      refine y_iload X4.here hx (hb hby d1_13) rfl (pc' := 15) rfl ?_
      refine y_iloadN X4.here hx (hb hby d1_15) rfl (pc' := 16) rfl ?_
      refine y_icmpNo X4.here hx (hb hby d1_16) (tlt (by decide : (1 : Int32) < (2 : Int32))).2.1 (pc' := 19) rfl ?_
      refine y_iloadN X4.here hx (hb hby d1_19) rfl (pc' := 20) rfl ?_
      refine y_bipush X4.here hx (hb hby d1_20) (v := (6 : Int32)) rfl (pc' := 22) rfl ?_
      refine y_ishl X4.here hx (hb hby d1_22) (z := (x8 <<< ((6 : Int32) &&& 31))) rfl (pc' := 23) rfl ?_
      refine y_aloadN X4.here hx (hb hby d1_23) rfl rfl (pc' := 24) rfl ?_
      refine y_iloadN X4.here hx (hb hby d1_24) rfl (pc' := 25) rfl ?_
      refine y_iload X4.here hx (hb hby d1_25) rfl (pc' := 27) rfl ?_
      refine y_iadd X4.here hx (hb hby d1_27) (z := (4 : Int32)) rfl (pc' := 28) rfl ?_
      exact kt)
  obtain ⟨c11, Ar11, q11, S11, M11, H11, G11⟩ := id V_pr0
  have hin11 : ¬ ((4 : Int32) < 0 ∨ c11.slots.size ≤ ((4 : Int32)).toNatClampNeg) := inb_of S11 ⟨by decide, by decide⟩
  have hat11 : c11.slots[((4 : Int32)).toNatClampNeg]? = some (.int y4) := Has.at H11 hin11 rfl
  obtain ⟨x12, hx12⟩ : ∃ z : Int32, z = ((x8 <<< ((6 : Int32) &&& 31)) ||| (y4 &&& (63 : Int32))) := ⟨_, rfl⟩
  have pre13 : ∀ t, Steps p.tables e below (T4.setTop (mkF m 34 #[rv pr0, iv (3 : Int32), iv (2 : Int32), iv x12, iv (1 : Int32)] [])) t → Go t := fun t kt => pre10 t (by
      subst hx12
      refine X4.baloadBytes hx (j := (4 : Int32)) (v := (.int y4)) (by rw [e4]; exact Ar11.1) (State.isArrayOf_alike hZ.alike Ar11.2.1) Ar11.2.2 hin11 hat11 (g := (mkF m 28 #[rv pr0, iv (3 : Int32), iv (2 : Int32), iv x8, iv (1 : Int32)] [(.int (4 : Int32)), (.ref pr0), (.int (x8 <<< ((6 : Int32) &&& 31)))])) rfl rfl (hb hby d1_28) _ ?_
      show Steps p.tables e below (T4.setTop (mkF m 29 #[rv pr0, iv (3 : Int32), iv (2 : Int32), iv x8, iv (1 : Int32)] [(.int y4), (.int (x8 <<< ((6 : Int32) &&& 31)))])) _
      refine y_bipush X4.here hx (hb hby d1_29) (v := (63 : Int32)) rfl (pc' := 31) rfl ?_
      refine y_iand X4.here hx (hb hby d1_31) rfl (pc' := 32) rfl ?_
      refine y_ior X4.here hx (hb hby d1_32) rfl (pc' := 33) rfl ?_
      refine y_istoreN X4.here hx (hb hby d1_33) (l' := #[rv pr0, iv (3 : Int32), iv (2 : Int32), iv ((x8 <<< ((6 : Int32) &&& 31)) ||| (y4 &&& (63 : Int32))), iv (1 : Int32)]) rfl (pc' := 34) rfl ?_
      exact kt)
  have pre14 : ∀ t, Steps p.tables e below (T4.setTop (mkF m 41 #[rv pr0, iv (3 : Int32), iv (2 : Int32), iv x12, iv (2 : Int32)] [(.int x12)])) t → Go t := fun t kt => pre13 t (by
      refine y_iinc X4.here hx (hb hby d1_34) rfl (l' := #[rv pr0, iv (3 : Int32), iv (2 : Int32), iv x12, iv (2 : Int32)]) rfl (pc' := 37) rfl ?_
      refine y_goto X4.here hx (hb hby d1_37) (pc' := 13) (by decide) rfl ?_
      refine y_iload X4.here hx (hb hby d1_13) rfl (pc' := 15) rfl ?_
      refine y_iloadN X4.here hx (hb hby d1_15) rfl (pc' := 16) rfl ?_
      refine y_icmpYes X4.here hx (hb hby d1_16) (flt (by decide : ¬ ((2 : Int32) < (2 : Int32)))).2.1 (pc' := 40) (by decide) rfl ?_
      refine y_iloadN X4.here hx (hb hby d1_40) rfl (pc' := 41) rfl ?_
      exact kt)
  obtain ⟨fs, hr, hrun, hended, hW, hsame⟩ := X4.leave (v := some (.int x12)) (fun h => by rw [Bd.returns] at h; cases h)
  refine ⟨_, _, (hGo _).mp (pre14 _ ?_), hrun, hended, _, _, rfl, ?_, ⟨_, rfl⟩, hW, hsame.mono (by decide) (by decide)⟩
  · exact retOut X4 hx Bd.returns rfl (Or.inl ⟨rfl, Or.inl rfl, _, rfl⟩) (hb hby d1_41) hr
  · show Q1a3l2 Z pr0 w_LEAD_PAYLOAD kk_pr0 y0 y1 y2 y3 y4 y5 y6 y7 cc_w_LEAD_PAYLOAD h0 n0 _ T4.heap _
    rw [e4]
    subst hx8 hx12
    exact ⟨rfl, N0, rfl⟩
theorem ef_1a0l3 (m : MethodId) (x0 : Addr) : entryFrame m #[(.ref x0), (.int (0 : Int32)), (.int (3 : Int32))] 5 = mkF m 0 #[rv x0, iv (0 : Int32), iv (3 : Int32), .unset, .unset] [] := by first | (simp [entryFrame, mkF, argsToLocals, Value.category]; done) | rfl
def Q1a0l3 (Z : State) (pr0 : Addr) (w_LEAD_PAYLOAD : Addr) (kk_pr0 : ClassId) (y0 : Int32) (y1 : Int32) (y2 : Int32) (y3 : Int32) (y4 : Int32) (y5 : Int32) (y6 : Int32) (y7 : Int32) (cc_w_LEAD_PAYLOAD : Cell) (h0 : Heap) (n0 : Nat) (v : Option Value) (h : Heap) (L : List Loc) : Prop := v = some (.int (((((y0 &&& (15 : Int32)) <<< ((6 : Int32) &&& 31)) ||| (y1 &&& (63 : Int32))) <<< ((6 : Int32) &&& 31)) ||| (y2 &&& (63 : Int32)))) ∧ Fr n0 L ∧ h = h0
set_option maxRecDepth 65536 in
set_option maxHeartbeats 40000000 in
theorem rm1a0l3 (l : Launch) (Z : State) (a0 : Array Value) (hw : ∀ d ∈ tables_1, d.before a0 Z = true) (ws : List Jvm.Cond) (pr0 : Addr) (w_LEAD_PAYLOAD : Addr) (kk_pr0 : ClassId) (y0 : Int32) (y1 : Int32) (y2 : Int32) (y3 : Int32) (y4 : Int32) (y5 : Int32) (y6 : Int32) (y7 : Int32) (cc_w_LEAD_PAYLOAD : Cell) (h0 : Heap) (n0 : Nat) (O0 : Old Z n0 h0) (S_LEAD_PAYLOAD : Sta Z Z.heap "com/example/strict_codec/strictcodec/Utf8Grammar" "LEAD_PAYLOAD" "[I" (.ref w_LEAD_PAYLOAD)) (V_pr0 : Arv Z h0 pr0 kk_pr0 .byte (8 : Int32) [(.int y0), (.int y1), (.int y2), (.int y3), (.int y4), (.int y5), (.int y6), (.int y7)] (.int (0 : Int32))) (AR_w_LEAD_PAYLOAD : Arr Z Z.heap w_LEAD_PAYLOAD cc_w_LEAD_PAYLOAD .int) (IN3_w_LEAD_PAYLOAD : ¬ ((3 : Int32) < 0 ∨ cc_w_LEAD_PAYLOAD.slots.size ≤ (3 : Int32).toNatClampNeg)) (AT3_w_LEAD_PAYLOAD : cc_w_LEAD_PAYLOAD.slots[(3 : Int32).toNatClampNeg]? = some (.int (15 : Int32))) :
    MetFree l (⟨"com/example/strict_codec/strictcodec/Utf8Grammar", "scalarValue", "([BII)I"⟩ : MethodName) (head1 (Jvm.Cond.code (⟨"com/example/strict_codec/strictcodec/Utf8Grammar", "scalarValue", "([BII)I"⟩ : MethodName) prog_19_method_14_code 5 (some .int) :: ws) ({ frames := 0, cells := 0, slots := 0, locals := 0 } : Room)) (fun a U => a = #[(.ref pr0), (.int (0 : Int32)), (.int (3 : Int32))] ∧ Z.Warmed39 U.vm ∧ U.heap = h0) (fun _ _ _ _ _ => True) (fun _ U o U' => ∃ v L, o = .returned v ∧ Q1a0l3 Z pr0 w_LEAD_PAYLOAD kk_pr0 y0 y1 y2 y3 y4 y5 y6 y7 cc_w_LEAD_PAYLOAD h0 n0 v U'.heap L ∧ FrameEnd U o U' L ({ frames := 0, cells := 0, slots := 0, locals := 0 } : Room).cells ({ frames := 0, cells := 0, slots := 0, locals := 0 } : Room).slots) := by
  refine MetFree.of_bodySF (plainFor_of_name pn_com_example_strict_codec_strictcodec_Utf8Grammar) hisR ?_
  intro p e s m args below meth c s₁ Bd hml0 hP hK
  obtain ⟨rfl, hZ, hh⟩ := hP
  have hx := Bd.exec
  have hby := Bd.bytes
  have hml : c.maxLocals = 5 := hml0
  have hown : s.vm.findClass "com/example/strict_codec/strictcodec/Utf8Grammar" = some m.cls := findClass_of_methodNamed Bd.named
  have hnm := (name_of_methodNamed Bd.named Bd.method).1
  have X0 : Stand p l e ({ frames := 0, cells := 0, slots := 0, locals := 0 } : Room) s m #[(.ref pr0), (.int (0 : Int32)), (.int (3 : Int32))] below meth c s₁ [] 0 0 := Stand.of_body Bd
  have e0 : s₁.heap = h0 := by rw [← hh, Bd.state]; rfl
  have N0 := Fr.nil n0
  obtain ⟨Go, hGo⟩ : ∃ P : State → Prop, ∀ t, P t ↔ Steps p.tables e below (s₁.setTop (entryFrame m #[(.ref pr0), (.int (0 : Int32)), (.int (3 : Int32))] 5)) t := ⟨_, fun _ => Iff.rfl⟩
  have pre0 : ∀ t, Steps p.tables e below (s₁.setTop (mkF m 0 #[rv pr0, iv (0 : Int32), iv (3 : Int32), .unset, .unset] [])) t → Go t := fun t k => (hGo t).mpr (castTop (ef_1a0l3 m pr0) k)
  have pre1 : ∀ t, Steps p.tables e below (s₁.setTop (mkF m 2 #[rv pr0, iv (0 : Int32), iv (3 : Int32), .unset, .unset] [(.int (0 : Int32)), (.ref pr0)])) t → Go t := fun t kt => pre0 t (by
      refine y_aloadN X0.here hx (hb hby d1_0) rfl rfl (pc' := 1) rfl ?_
      refine y_iloadN X0.here hx (hb hby d1_1) rfl (pc' := 2) rfl ?_
      exact kt)
  obtain ⟨c2, Ar2, q2, S2, M2, H2, G2⟩ := id V_pr0
  have hin2 : ¬ ((0 : Int32) < 0 ∨ c2.slots.size ≤ ((0 : Int32)).toNatClampNeg) := inb_of S2 ⟨by decide, by decide⟩
  have hat2 : c2.slots[((0 : Int32)).toNatClampNeg]? = some (.int y0) := Has.at H2 hin2 rfl
  have pre3 : ∀ t, Steps p.tables e below (s₁.setTop (mkF m 3 #[rv pr0, iv (0 : Int32), iv (3 : Int32), .unset, .unset] [(.int y0)])) t → Go t := fun t kt => pre1 t (by
      refine X0.baloadBytes hx (j := (0 : Int32)) (v := (.int y0)) (by rw [e0]; exact Ar2.1) (State.isArrayOf_alike hZ.alike Ar2.2.1) Ar2.2.2 hin2 hat2 (g := (mkF m 2 #[rv pr0, iv (0 : Int32), iv (3 : Int32), .unset, .unset] [(.int (0 : Int32)), (.ref pr0)])) rfl rfl (hb hby d1_2) _ ?_
      show Steps p.tables e below (s₁.setTop (mkF m 3 #[rv pr0, iv (0 : Int32), iv (3 : Int32), .unset, .unset] [(.int y0)])) _
      exact kt)
  obtain ⟨T4, X4, e4, st4⟩ := getS2 X0 hx hZ hown (host := "") (Or.inl (hw _ (List.mem_of_getElem? (i := 6) rfl))) Via.refl e0 (S_LEAD_PAYLOAD.ext O0.2) (g := (mkF m 3 #[rv pr0, iv (0 : Int32), iv (3 : Int32), .unset, .unset] [(.int y0)])) rfl (hb hby d1_3)
  have pre5 : ∀ t, Steps p.tables e below (T4.setTop (mkF m 6 #[rv pr0, iv (0 : Int32), iv (3 : Int32), .unset, .unset] [(.ref w_LEAD_PAYLOAD), (.int y0)])) t → Go t := fun t kt => pre3 t (st4 t kt)
  have pre6 : ∀ t, Steps p.tables e below (T4.setTop (mkF m 7 #[rv pr0, iv (0 : Int32), iv (3 : Int32), .unset, .unset] [(.int (3 : Int32)), (.ref w_LEAD_PAYLOAD), (.int y0)])) t → Go t := fun t kt => pre5 t (by
      refine y_iloadN X4.here hx (hb hby d1_6) rfl (pc' := 7) rfl ?_
      exact kt)
  have A7 := AR_w_LEAD_PAYLOAD.ext O0.2
  obtain ⟨x8, hx8⟩ : ∃ z : Int32, z = (y0 &&& (15 : Int32)) := ⟨_, rfl⟩
  have pre9 : ∀ t, Steps p.tables e below (T4.setTop (mkF m 10 #[rv pr0, iv (0 : Int32), iv (3 : Int32), iv x8, .unset] [])) t → Go t := fun t kt => pre6 t (by
      subst hx8
      refine X4.iaload hx (j := (3 : Int32)) (v := (.int (15 : Int32))) (by rw [e4]; exact A7.1) (State.isArrayOf_alike hZ.alike A7.2.1) A7.2.2 IN3_w_LEAD_PAYLOAD AT3_w_LEAD_PAYLOAD (g := (mkF m 7 #[rv pr0, iv (0 : Int32), iv (3 : Int32), .unset, .unset] [(.int (3 : Int32)), (.ref w_LEAD_PAYLOAD), (.int y0)])) rfl rfl (hb hby d1_7) _ ?_
      show Steps p.tables e below (T4.setTop (mkF m 8 #[rv pr0, iv (0 : Int32), iv (3 : Int32), .unset, .unset] [(.int (15 : Int32)), (.int y0)])) _
      refine y_iand X4.here hx (hb hby d1_8) rfl (pc' := 9) rfl ?_
      refine y_istoreN X4.here hx (hb hby d1_9) (l' := #[rv pr0, iv (0 : Int32), iv (3 : Int32), iv (y0 &&& (15 : Int32)), .unset]) rfl (pc' := 10) rfl ?_
      exact kt)
  have pre10 : ∀ t, Steps p.tables e below (T4.setTop (mkF m 28 #[rv pr0, iv (0 : Int32), iv (3 : Int32), iv x8, iv (1 : Int32)] [(.int (1 : Int32)), (.ref pr0), (.int (x8 <<< ((6 : Int32) &&& 31)))])) t → Go t := fun t kt => pre9 t (by
      refine y_iconst X4.here hx (hb hby d1_10) (v := (1 : Int32)) rfl (pc' := 11) rfl ?_
      refine y_istore X4.here hx (hb hby d1_11) (l' := #[rv pr0, iv (0 : Int32), iv (3 : Int32), iv x8, iv (1 : Int32)]) rfl (pc' := 13) rfl ?_
      refine y_iload X4.here hx (hb hby d1_13) rfl (pc' := 15) rfl ?_
      refine y_iloadN X4.here hx (hb hby d1_15) rfl (pc' := 16) rfl ?_
      refine y_icmpNo X4.here hx (hb hby d1_16) (tlt (by decide : (1 : Int32) < (3 : Int32))).2.1 (pc' := 19) rfl ?_
      refine y_iloadN X4.here hx (hb hby d1_19) rfl (pc' := 20) rfl ?_
      refine y_bipush X4.here hx (hb hby d1_20) (v := (6 : Int32)) rfl (pc' := 22) rfl ?_
      refine y_ishl X4.here hx (hb hby d1_22) (z := (x8 <<< ((6 : Int32) &&& 31))) rfl (pc' := 23) rfl ?_
      refine y_aloadN X4.here hx (hb hby d1_23) rfl rfl (pc' := 24) rfl ?_
      refine y_iloadN X4.here hx (hb hby d1_24) rfl (pc' := 25) rfl ?_
      refine y_iload X4.here hx (hb hby d1_25) rfl (pc' := 27) rfl ?_
      refine y_iadd X4.here hx (hb hby d1_27) (z := (1 : Int32)) rfl (pc' := 28) rfl ?_
      exact kt)
  obtain ⟨c11, Ar11, q11, S11, M11, H11, G11⟩ := id V_pr0
  have hin11 : ¬ ((1 : Int32) < 0 ∨ c11.slots.size ≤ ((1 : Int32)).toNatClampNeg) := inb_of S11 ⟨by decide, by decide⟩
  have hat11 : c11.slots[((1 : Int32)).toNatClampNeg]? = some (.int y1) := Has.at H11 hin11 rfl
  obtain ⟨x12, hx12⟩ : ∃ z : Int32, z = ((x8 <<< ((6 : Int32) &&& 31)) ||| (y1 &&& (63 : Int32))) := ⟨_, rfl⟩
  have pre13 : ∀ t, Steps p.tables e below (T4.setTop (mkF m 34 #[rv pr0, iv (0 : Int32), iv (3 : Int32), iv x12, iv (1 : Int32)] [])) t → Go t := fun t kt => pre10 t (by
      subst hx12
      refine X4.baloadBytes hx (j := (1 : Int32)) (v := (.int y1)) (by rw [e4]; exact Ar11.1) (State.isArrayOf_alike hZ.alike Ar11.2.1) Ar11.2.2 hin11 hat11 (g := (mkF m 28 #[rv pr0, iv (0 : Int32), iv (3 : Int32), iv x8, iv (1 : Int32)] [(.int (1 : Int32)), (.ref pr0), (.int (x8 <<< ((6 : Int32) &&& 31)))])) rfl rfl (hb hby d1_28) _ ?_
      show Steps p.tables e below (T4.setTop (mkF m 29 #[rv pr0, iv (0 : Int32), iv (3 : Int32), iv x8, iv (1 : Int32)] [(.int y1), (.int (x8 <<< ((6 : Int32) &&& 31)))])) _
      refine y_bipush X4.here hx (hb hby d1_29) (v := (63 : Int32)) rfl (pc' := 31) rfl ?_
      refine y_iand X4.here hx (hb hby d1_31) rfl (pc' := 32) rfl ?_
      refine y_ior X4.here hx (hb hby d1_32) rfl (pc' := 33) rfl ?_
      refine y_istoreN X4.here hx (hb hby d1_33) (l' := #[rv pr0, iv (0 : Int32), iv (3 : Int32), iv ((x8 <<< ((6 : Int32) &&& 31)) ||| (y1 &&& (63 : Int32))), iv (1 : Int32)]) rfl (pc' := 34) rfl ?_
      exact kt)
  have pre14 : ∀ t, Steps p.tables e below (T4.setTop (mkF m 28 #[rv pr0, iv (0 : Int32), iv (3 : Int32), iv x12, iv (2 : Int32)] [(.int (2 : Int32)), (.ref pr0), (.int (x12 <<< ((6 : Int32) &&& 31)))])) t → Go t := fun t kt => pre13 t (by
      refine y_iinc X4.here hx (hb hby d1_34) rfl (l' := #[rv pr0, iv (0 : Int32), iv (3 : Int32), iv x12, iv (2 : Int32)]) rfl (pc' := 37) rfl ?_
      refine y_goto X4.here hx (hb hby d1_37) (pc' := 13) (by decide) rfl ?_
      refine y_iload X4.here hx (hb hby d1_13) rfl (pc' := 15) rfl ?_
      refine y_iloadN X4.here hx (hb hby d1_15) rfl (pc' := 16) rfl ?_
      refine y_icmpNo X4.here hx (hb hby d1_16) (tlt (by decide : (2 : Int32) < (3 : Int32))).2.1 (pc' := 19) rfl ?_
      refine y_iloadN X4.here hx (hb hby d1_19) rfl (pc' := 20) rfl ?_
      refine y_bipush X4.here hx (hb hby d1_20) (v := (6 : Int32)) rfl (pc' := 22) rfl ?_
      refine y_ishl X4.here hx (hb hby d1_22) (z := (x12 <<< ((6 : Int32) &&& 31))) rfl (pc' := 23) rfl ?_
      refine y_aloadN X4.here hx (hb hby d1_23) rfl rfl (pc' := 24) rfl ?_
      refine y_iloadN X4.here hx (hb hby d1_24) rfl (pc' := 25) rfl ?_
      refine y_iload X4.here hx (hb hby d1_25) rfl (pc' := 27) rfl ?_
      refine y_iadd X4.here hx (hb hby d1_27) (z := (2 : Int32)) rfl (pc' := 28) rfl ?_
      exact kt)
  obtain ⟨c15, Ar15, q15, S15, M15, H15, G15⟩ := id V_pr0
  have hin15 : ¬ ((2 : Int32) < 0 ∨ c15.slots.size ≤ ((2 : Int32)).toNatClampNeg) := inb_of S15 ⟨by decide, by decide⟩
  have hat15 : c15.slots[((2 : Int32)).toNatClampNeg]? = some (.int y2) := Has.at H15 hin15 rfl
  obtain ⟨x16, hx16⟩ : ∃ z : Int32, z = ((x12 <<< ((6 : Int32) &&& 31)) ||| (y2 &&& (63 : Int32))) := ⟨_, rfl⟩
  have pre17 : ∀ t, Steps p.tables e below (T4.setTop (mkF m 34 #[rv pr0, iv (0 : Int32), iv (3 : Int32), iv x16, iv (2 : Int32)] [])) t → Go t := fun t kt => pre14 t (by
      subst hx16
      refine X4.baloadBytes hx (j := (2 : Int32)) (v := (.int y2)) (by rw [e4]; exact Ar15.1) (State.isArrayOf_alike hZ.alike Ar15.2.1) Ar15.2.2 hin15 hat15 (g := (mkF m 28 #[rv pr0, iv (0 : Int32), iv (3 : Int32), iv x12, iv (2 : Int32)] [(.int (2 : Int32)), (.ref pr0), (.int (x12 <<< ((6 : Int32) &&& 31)))])) rfl rfl (hb hby d1_28) _ ?_
      show Steps p.tables e below (T4.setTop (mkF m 29 #[rv pr0, iv (0 : Int32), iv (3 : Int32), iv x12, iv (2 : Int32)] [(.int y2), (.int (x12 <<< ((6 : Int32) &&& 31)))])) _
      refine y_bipush X4.here hx (hb hby d1_29) (v := (63 : Int32)) rfl (pc' := 31) rfl ?_
      refine y_iand X4.here hx (hb hby d1_31) rfl (pc' := 32) rfl ?_
      refine y_ior X4.here hx (hb hby d1_32) rfl (pc' := 33) rfl ?_
      refine y_istoreN X4.here hx (hb hby d1_33) (l' := #[rv pr0, iv (0 : Int32), iv (3 : Int32), iv ((x12 <<< ((6 : Int32) &&& 31)) ||| (y2 &&& (63 : Int32))), iv (2 : Int32)]) rfl (pc' := 34) rfl ?_
      exact kt)
  have pre18 : ∀ t, Steps p.tables e below (T4.setTop (mkF m 41 #[rv pr0, iv (0 : Int32), iv (3 : Int32), iv x16, iv (3 : Int32)] [(.int x16)])) t → Go t := fun t kt => pre17 t (by
      refine y_iinc X4.here hx (hb hby d1_34) rfl (l' := #[rv pr0, iv (0 : Int32), iv (3 : Int32), iv x16, iv (3 : Int32)]) rfl (pc' := 37) rfl ?_
      refine y_goto X4.here hx (hb hby d1_37) (pc' := 13) (by decide) rfl ?_
      refine y_iload X4.here hx (hb hby d1_13) rfl (pc' := 15) rfl ?_
      refine y_iloadN X4.here hx (hb hby d1_15) rfl (pc' := 16) rfl ?_
      refine y_icmpYes X4.here hx (hb hby d1_16) (flt (by decide : ¬ ((3 : Int32) < (3 : Int32)))).2.1 (pc' := 40) (by decide) rfl ?_
      refine y_iloadN X4.here hx (hb hby d1_40) rfl (pc' := 41) rfl ?_
      exact kt)
  obtain ⟨fs, hr, hrun, hended, hW, hsame⟩ := X4.leave (v := some (.int x16)) (fun h => by rw [Bd.returns] at h; cases h)
  refine ⟨_, _, (hGo _).mp (pre18 _ ?_), hrun, hended, _, _, rfl, ?_, ⟨_, rfl⟩, hW, hsame.mono (by decide) (by decide)⟩
  · exact retOut X4 hx Bd.returns rfl (Or.inl ⟨rfl, Or.inl rfl, _, rfl⟩) (hb hby d1_41) hr
  · show Q1a0l3 Z pr0 w_LEAD_PAYLOAD kk_pr0 y0 y1 y2 y3 y4 y5 y6 y7 cc_w_LEAD_PAYLOAD h0 n0 _ T4.heap _
    rw [e4]
    subst hx8 hx12 hx16
    exact ⟨rfl, N0, rfl⟩
theorem ef_1a1l3 (m : MethodId) (x0 : Addr) : entryFrame m #[(.ref x0), (.int (1 : Int32)), (.int (3 : Int32))] 5 = mkF m 0 #[rv x0, iv (1 : Int32), iv (3 : Int32), .unset, .unset] [] := by first | (simp [entryFrame, mkF, argsToLocals, Value.category]; done) | rfl
def Q1a1l3 (Z : State) (pr0 : Addr) (w_LEAD_PAYLOAD : Addr) (kk_pr0 : ClassId) (y0 : Int32) (y1 : Int32) (y2 : Int32) (y3 : Int32) (y4 : Int32) (y5 : Int32) (y6 : Int32) (y7 : Int32) (cc_w_LEAD_PAYLOAD : Cell) (h0 : Heap) (n0 : Nat) (v : Option Value) (h : Heap) (L : List Loc) : Prop := v = some (.int (((((y1 &&& (15 : Int32)) <<< ((6 : Int32) &&& 31)) ||| (y2 &&& (63 : Int32))) <<< ((6 : Int32) &&& 31)) ||| (y3 &&& (63 : Int32)))) ∧ Fr n0 L ∧ h = h0
set_option maxRecDepth 65536 in
set_option maxHeartbeats 40000000 in
theorem rm1a1l3 (l : Launch) (Z : State) (a0 : Array Value) (hw : ∀ d ∈ tables_1, d.before a0 Z = true) (ws : List Jvm.Cond) (pr0 : Addr) (w_LEAD_PAYLOAD : Addr) (kk_pr0 : ClassId) (y0 : Int32) (y1 : Int32) (y2 : Int32) (y3 : Int32) (y4 : Int32) (y5 : Int32) (y6 : Int32) (y7 : Int32) (cc_w_LEAD_PAYLOAD : Cell) (h0 : Heap) (n0 : Nat) (O0 : Old Z n0 h0) (S_LEAD_PAYLOAD : Sta Z Z.heap "com/example/strict_codec/strictcodec/Utf8Grammar" "LEAD_PAYLOAD" "[I" (.ref w_LEAD_PAYLOAD)) (V_pr0 : Arv Z h0 pr0 kk_pr0 .byte (8 : Int32) [(.int y0), (.int y1), (.int y2), (.int y3), (.int y4), (.int y5), (.int y6), (.int y7)] (.int (0 : Int32))) (AR_w_LEAD_PAYLOAD : Arr Z Z.heap w_LEAD_PAYLOAD cc_w_LEAD_PAYLOAD .int) (IN3_w_LEAD_PAYLOAD : ¬ ((3 : Int32) < 0 ∨ cc_w_LEAD_PAYLOAD.slots.size ≤ (3 : Int32).toNatClampNeg)) (AT3_w_LEAD_PAYLOAD : cc_w_LEAD_PAYLOAD.slots[(3 : Int32).toNatClampNeg]? = some (.int (15 : Int32))) :
    MetFree l (⟨"com/example/strict_codec/strictcodec/Utf8Grammar", "scalarValue", "([BII)I"⟩ : MethodName) (head1 (Jvm.Cond.code (⟨"com/example/strict_codec/strictcodec/Utf8Grammar", "scalarValue", "([BII)I"⟩ : MethodName) prog_19_method_14_code 5 (some .int) :: ws) ({ frames := 0, cells := 0, slots := 0, locals := 0 } : Room)) (fun a U => a = #[(.ref pr0), (.int (1 : Int32)), (.int (3 : Int32))] ∧ Z.Warmed39 U.vm ∧ U.heap = h0) (fun _ _ _ _ _ => True) (fun _ U o U' => ∃ v L, o = .returned v ∧ Q1a1l3 Z pr0 w_LEAD_PAYLOAD kk_pr0 y0 y1 y2 y3 y4 y5 y6 y7 cc_w_LEAD_PAYLOAD h0 n0 v U'.heap L ∧ FrameEnd U o U' L ({ frames := 0, cells := 0, slots := 0, locals := 0 } : Room).cells ({ frames := 0, cells := 0, slots := 0, locals := 0 } : Room).slots) := by
  refine MetFree.of_bodySF (plainFor_of_name pn_com_example_strict_codec_strictcodec_Utf8Grammar) hisR ?_
  intro p e s m args below meth c s₁ Bd hml0 hP hK
  obtain ⟨rfl, hZ, hh⟩ := hP
  have hx := Bd.exec
  have hby := Bd.bytes
  have hml : c.maxLocals = 5 := hml0
  have hown : s.vm.findClass "com/example/strict_codec/strictcodec/Utf8Grammar" = some m.cls := findClass_of_methodNamed Bd.named
  have hnm := (name_of_methodNamed Bd.named Bd.method).1
  have X0 : Stand p l e ({ frames := 0, cells := 0, slots := 0, locals := 0 } : Room) s m #[(.ref pr0), (.int (1 : Int32)), (.int (3 : Int32))] below meth c s₁ [] 0 0 := Stand.of_body Bd
  have e0 : s₁.heap = h0 := by rw [← hh, Bd.state]; rfl
  have N0 := Fr.nil n0
  obtain ⟨Go, hGo⟩ : ∃ P : State → Prop, ∀ t, P t ↔ Steps p.tables e below (s₁.setTop (entryFrame m #[(.ref pr0), (.int (1 : Int32)), (.int (3 : Int32))] 5)) t := ⟨_, fun _ => Iff.rfl⟩
  have pre0 : ∀ t, Steps p.tables e below (s₁.setTop (mkF m 0 #[rv pr0, iv (1 : Int32), iv (3 : Int32), .unset, .unset] [])) t → Go t := fun t k => (hGo t).mpr (castTop (ef_1a1l3 m pr0) k)
  have pre1 : ∀ t, Steps p.tables e below (s₁.setTop (mkF m 2 #[rv pr0, iv (1 : Int32), iv (3 : Int32), .unset, .unset] [(.int (1 : Int32)), (.ref pr0)])) t → Go t := fun t kt => pre0 t (by
      refine y_aloadN X0.here hx (hb hby d1_0) rfl rfl (pc' := 1) rfl ?_
      refine y_iloadN X0.here hx (hb hby d1_1) rfl (pc' := 2) rfl ?_
      exact kt)
  obtain ⟨c2, Ar2, q2, S2, M2, H2, G2⟩ := id V_pr0
  have hin2 : ¬ ((1 : Int32) < 0 ∨ c2.slots.size ≤ ((1 : Int32)).toNatClampNeg) := inb_of S2 ⟨by decide, by decide⟩
  have hat2 : c2.slots[((1 : Int32)).toNatClampNeg]? = some (.int y1) := Has.at H2 hin2 rfl
  have pre3 : ∀ t, Steps p.tables e below (s₁.setTop (mkF m 3 #[rv pr0, iv (1 : Int32), iv (3 : Int32), .unset, .unset] [(.int y1)])) t → Go t := fun t kt => pre1 t (by
      refine X0.baloadBytes hx (j := (1 : Int32)) (v := (.int y1)) (by rw [e0]; exact Ar2.1) (State.isArrayOf_alike hZ.alike Ar2.2.1) Ar2.2.2 hin2 hat2 (g := (mkF m 2 #[rv pr0, iv (1 : Int32), iv (3 : Int32), .unset, .unset] [(.int (1 : Int32)), (.ref pr0)])) rfl rfl (hb hby d1_2) _ ?_
      show Steps p.tables e below (s₁.setTop (mkF m 3 #[rv pr0, iv (1 : Int32), iv (3 : Int32), .unset, .unset] [(.int y1)])) _
      exact kt)
  obtain ⟨T4, X4, e4, st4⟩ := getS2 X0 hx hZ hown (host := "") (Or.inl (hw _ (List.mem_of_getElem? (i := 6) rfl))) Via.refl e0 (S_LEAD_PAYLOAD.ext O0.2) (g := (mkF m 3 #[rv pr0, iv (1 : Int32), iv (3 : Int32), .unset, .unset] [(.int y1)])) rfl (hb hby d1_3)
  have pre5 : ∀ t, Steps p.tables e below (T4.setTop (mkF m 6 #[rv pr0, iv (1 : Int32), iv (3 : Int32), .unset, .unset] [(.ref w_LEAD_PAYLOAD), (.int y1)])) t → Go t := fun t kt => pre3 t (st4 t kt)
  have pre6 : ∀ t, Steps p.tables e below (T4.setTop (mkF m 7 #[rv pr0, iv (1 : Int32), iv (3 : Int32), .unset, .unset] [(.int (3 : Int32)), (.ref w_LEAD_PAYLOAD), (.int y1)])) t → Go t := fun t kt => pre5 t (by
      refine y_iloadN X4.here hx (hb hby d1_6) rfl (pc' := 7) rfl ?_
      exact kt)
  have A7 := AR_w_LEAD_PAYLOAD.ext O0.2
  obtain ⟨x8, hx8⟩ : ∃ z : Int32, z = (y1 &&& (15 : Int32)) := ⟨_, rfl⟩
  have pre9 : ∀ t, Steps p.tables e below (T4.setTop (mkF m 10 #[rv pr0, iv (1 : Int32), iv (3 : Int32), iv x8, .unset] [])) t → Go t := fun t kt => pre6 t (by
      subst hx8
      refine X4.iaload hx (j := (3 : Int32)) (v := (.int (15 : Int32))) (by rw [e4]; exact A7.1) (State.isArrayOf_alike hZ.alike A7.2.1) A7.2.2 IN3_w_LEAD_PAYLOAD AT3_w_LEAD_PAYLOAD (g := (mkF m 7 #[rv pr0, iv (1 : Int32), iv (3 : Int32), .unset, .unset] [(.int (3 : Int32)), (.ref w_LEAD_PAYLOAD), (.int y1)])) rfl rfl (hb hby d1_7) _ ?_
      show Steps p.tables e below (T4.setTop (mkF m 8 #[rv pr0, iv (1 : Int32), iv (3 : Int32), .unset, .unset] [(.int (15 : Int32)), (.int y1)])) _
      refine y_iand X4.here hx (hb hby d1_8) rfl (pc' := 9) rfl ?_
      refine y_istoreN X4.here hx (hb hby d1_9) (l' := #[rv pr0, iv (1 : Int32), iv (3 : Int32), iv (y1 &&& (15 : Int32)), .unset]) rfl (pc' := 10) rfl ?_
      exact kt)
  have pre10 : ∀ t, Steps p.tables e below (T4.setTop (mkF m 28 #[rv pr0, iv (1 : Int32), iv (3 : Int32), iv x8, iv (1 : Int32)] [(.int (2 : Int32)), (.ref pr0), (.int (x8 <<< ((6 : Int32) &&& 31)))])) t → Go t := fun t kt => pre9 t (by
      refine y_iconst X4.here hx (hb hby d1_10) (v := (1 : Int32)) rfl (pc' := 11) rfl ?_
      refine y_istore X4.here hx (hb hby d1_11) (l' := #[rv pr0, iv (1 : Int32), iv (3 : Int32), iv x8, iv (1 : Int32)]) rfl (pc' := 13) rfl ?_
      refine y_iload X4.here hx (hb hby d1_13) rfl (pc' := 15) rfl ?_
      refine y_iloadN X4.here hx (hb hby d1_15) rfl (pc' := 16) rfl ?_
      refine y_icmpNo X4.here hx (hb hby d1_16) (tlt (by decide : (1 : Int32) < (3 : Int32))).2.1 (pc' := 19) rfl ?_
      refine y_iloadN X4.here hx (hb hby d1_19) rfl (pc' := 20) rfl ?_
      refine y_bipush X4.here hx (hb hby d1_20) (v := (6 : Int32)) rfl (pc' := 22) rfl ?_
      refine y_ishl X4.here hx (hb hby d1_22) (z := (x8 <<< ((6 : Int32) &&& 31))) rfl (pc' := 23) rfl ?_
      refine y_aloadN X4.here hx (hb hby d1_23) rfl rfl (pc' := 24) rfl ?_
      refine y_iloadN X4.here hx (hb hby d1_24) rfl (pc' := 25) rfl ?_
      refine y_iload X4.here hx (hb hby d1_25) rfl (pc' := 27) rfl ?_
      refine y_iadd X4.here hx (hb hby d1_27) (z := (2 : Int32)) rfl (pc' := 28) rfl ?_
      exact kt)
  obtain ⟨c11, Ar11, q11, S11, M11, H11, G11⟩ := id V_pr0
  have hin11 : ¬ ((2 : Int32) < 0 ∨ c11.slots.size ≤ ((2 : Int32)).toNatClampNeg) := inb_of S11 ⟨by decide, by decide⟩
  have hat11 : c11.slots[((2 : Int32)).toNatClampNeg]? = some (.int y2) := Has.at H11 hin11 rfl
  obtain ⟨x12, hx12⟩ : ∃ z : Int32, z = ((x8 <<< ((6 : Int32) &&& 31)) ||| (y2 &&& (63 : Int32))) := ⟨_, rfl⟩
  have pre13 : ∀ t, Steps p.tables e below (T4.setTop (mkF m 34 #[rv pr0, iv (1 : Int32), iv (3 : Int32), iv x12, iv (1 : Int32)] [])) t → Go t := fun t kt => pre10 t (by
      subst hx12
      refine X4.baloadBytes hx (j := (2 : Int32)) (v := (.int y2)) (by rw [e4]; exact Ar11.1) (State.isArrayOf_alike hZ.alike Ar11.2.1) Ar11.2.2 hin11 hat11 (g := (mkF m 28 #[rv pr0, iv (1 : Int32), iv (3 : Int32), iv x8, iv (1 : Int32)] [(.int (2 : Int32)), (.ref pr0), (.int (x8 <<< ((6 : Int32) &&& 31)))])) rfl rfl (hb hby d1_28) _ ?_
      show Steps p.tables e below (T4.setTop (mkF m 29 #[rv pr0, iv (1 : Int32), iv (3 : Int32), iv x8, iv (1 : Int32)] [(.int y2), (.int (x8 <<< ((6 : Int32) &&& 31)))])) _
      refine y_bipush X4.here hx (hb hby d1_29) (v := (63 : Int32)) rfl (pc' := 31) rfl ?_
      refine y_iand X4.here hx (hb hby d1_31) rfl (pc' := 32) rfl ?_
      refine y_ior X4.here hx (hb hby d1_32) rfl (pc' := 33) rfl ?_
      refine y_istoreN X4.here hx (hb hby d1_33) (l' := #[rv pr0, iv (1 : Int32), iv (3 : Int32), iv ((x8 <<< ((6 : Int32) &&& 31)) ||| (y2 &&& (63 : Int32))), iv (1 : Int32)]) rfl (pc' := 34) rfl ?_
      exact kt)
  have pre14 : ∀ t, Steps p.tables e below (T4.setTop (mkF m 28 #[rv pr0, iv (1 : Int32), iv (3 : Int32), iv x12, iv (2 : Int32)] [(.int (3 : Int32)), (.ref pr0), (.int (x12 <<< ((6 : Int32) &&& 31)))])) t → Go t := fun t kt => pre13 t (by
      refine y_iinc X4.here hx (hb hby d1_34) rfl (l' := #[rv pr0, iv (1 : Int32), iv (3 : Int32), iv x12, iv (2 : Int32)]) rfl (pc' := 37) rfl ?_
      refine y_goto X4.here hx (hb hby d1_37) (pc' := 13) (by decide) rfl ?_
      refine y_iload X4.here hx (hb hby d1_13) rfl (pc' := 15) rfl ?_
      refine y_iloadN X4.here hx (hb hby d1_15) rfl (pc' := 16) rfl ?_
      refine y_icmpNo X4.here hx (hb hby d1_16) (tlt (by decide : (2 : Int32) < (3 : Int32))).2.1 (pc' := 19) rfl ?_
      refine y_iloadN X4.here hx (hb hby d1_19) rfl (pc' := 20) rfl ?_
      refine y_bipush X4.here hx (hb hby d1_20) (v := (6 : Int32)) rfl (pc' := 22) rfl ?_
      refine y_ishl X4.here hx (hb hby d1_22) (z := (x12 <<< ((6 : Int32) &&& 31))) rfl (pc' := 23) rfl ?_
      refine y_aloadN X4.here hx (hb hby d1_23) rfl rfl (pc' := 24) rfl ?_
      refine y_iloadN X4.here hx (hb hby d1_24) rfl (pc' := 25) rfl ?_
      refine y_iload X4.here hx (hb hby d1_25) rfl (pc' := 27) rfl ?_
      refine y_iadd X4.here hx (hb hby d1_27) (z := (3 : Int32)) rfl (pc' := 28) rfl ?_
      exact kt)
  obtain ⟨c15, Ar15, q15, S15, M15, H15, G15⟩ := id V_pr0
  have hin15 : ¬ ((3 : Int32) < 0 ∨ c15.slots.size ≤ ((3 : Int32)).toNatClampNeg) := inb_of S15 ⟨by decide, by decide⟩
  have hat15 : c15.slots[((3 : Int32)).toNatClampNeg]? = some (.int y3) := Has.at H15 hin15 rfl
  obtain ⟨x16, hx16⟩ : ∃ z : Int32, z = ((x12 <<< ((6 : Int32) &&& 31)) ||| (y3 &&& (63 : Int32))) := ⟨_, rfl⟩
  have pre17 : ∀ t, Steps p.tables e below (T4.setTop (mkF m 34 #[rv pr0, iv (1 : Int32), iv (3 : Int32), iv x16, iv (2 : Int32)] [])) t → Go t := fun t kt => pre14 t (by
      subst hx16
      refine X4.baloadBytes hx (j := (3 : Int32)) (v := (.int y3)) (by rw [e4]; exact Ar15.1) (State.isArrayOf_alike hZ.alike Ar15.2.1) Ar15.2.2 hin15 hat15 (g := (mkF m 28 #[rv pr0, iv (1 : Int32), iv (3 : Int32), iv x12, iv (2 : Int32)] [(.int (3 : Int32)), (.ref pr0), (.int (x12 <<< ((6 : Int32) &&& 31)))])) rfl rfl (hb hby d1_28) _ ?_
      show Steps p.tables e below (T4.setTop (mkF m 29 #[rv pr0, iv (1 : Int32), iv (3 : Int32), iv x12, iv (2 : Int32)] [(.int y3), (.int (x12 <<< ((6 : Int32) &&& 31)))])) _
      refine y_bipush X4.here hx (hb hby d1_29) (v := (63 : Int32)) rfl (pc' := 31) rfl ?_
      refine y_iand X4.here hx (hb hby d1_31) rfl (pc' := 32) rfl ?_
      refine y_ior X4.here hx (hb hby d1_32) rfl (pc' := 33) rfl ?_
      refine y_istoreN X4.here hx (hb hby d1_33) (l' := #[rv pr0, iv (1 : Int32), iv (3 : Int32), iv ((x12 <<< ((6 : Int32) &&& 31)) ||| (y3 &&& (63 : Int32))), iv (2 : Int32)]) rfl (pc' := 34) rfl ?_
      exact kt)
  have pre18 : ∀ t, Steps p.tables e below (T4.setTop (mkF m 41 #[rv pr0, iv (1 : Int32), iv (3 : Int32), iv x16, iv (3 : Int32)] [(.int x16)])) t → Go t := fun t kt => pre17 t (by
      refine y_iinc X4.here hx (hb hby d1_34) rfl (l' := #[rv pr0, iv (1 : Int32), iv (3 : Int32), iv x16, iv (3 : Int32)]) rfl (pc' := 37) rfl ?_
      refine y_goto X4.here hx (hb hby d1_37) (pc' := 13) (by decide) rfl ?_
      refine y_iload X4.here hx (hb hby d1_13) rfl (pc' := 15) rfl ?_
      refine y_iloadN X4.here hx (hb hby d1_15) rfl (pc' := 16) rfl ?_
      refine y_icmpYes X4.here hx (hb hby d1_16) (flt (by decide : ¬ ((3 : Int32) < (3 : Int32)))).2.1 (pc' := 40) (by decide) rfl ?_
      refine y_iloadN X4.here hx (hb hby d1_40) rfl (pc' := 41) rfl ?_
      exact kt)
  obtain ⟨fs, hr, hrun, hended, hW, hsame⟩ := X4.leave (v := some (.int x16)) (fun h => by rw [Bd.returns] at h; cases h)
  refine ⟨_, _, (hGo _).mp (pre18 _ ?_), hrun, hended, _, _, rfl, ?_, ⟨_, rfl⟩, hW, hsame.mono (by decide) (by decide)⟩
  · exact retOut X4 hx Bd.returns rfl (Or.inl ⟨rfl, Or.inl rfl, _, rfl⟩) (hb hby d1_41) hr
  · show Q1a1l3 Z pr0 w_LEAD_PAYLOAD kk_pr0 y0 y1 y2 y3 y4 y5 y6 y7 cc_w_LEAD_PAYLOAD h0 n0 _ T4.heap _
    rw [e4]
    subst hx8 hx12 hx16
    exact ⟨rfl, N0, rfl⟩
theorem ef_1a2l3 (m : MethodId) (x0 : Addr) : entryFrame m #[(.ref x0), (.int (2 : Int32)), (.int (3 : Int32))] 5 = mkF m 0 #[rv x0, iv (2 : Int32), iv (3 : Int32), .unset, .unset] [] := by first | (simp [entryFrame, mkF, argsToLocals, Value.category]; done) | rfl
def Q1a2l3 (Z : State) (pr0 : Addr) (w_LEAD_PAYLOAD : Addr) (kk_pr0 : ClassId) (y0 : Int32) (y1 : Int32) (y2 : Int32) (y3 : Int32) (y4 : Int32) (y5 : Int32) (y6 : Int32) (y7 : Int32) (cc_w_LEAD_PAYLOAD : Cell) (h0 : Heap) (n0 : Nat) (v : Option Value) (h : Heap) (L : List Loc) : Prop := v = some (.int (((((y2 &&& (15 : Int32)) <<< ((6 : Int32) &&& 31)) ||| (y3 &&& (63 : Int32))) <<< ((6 : Int32) &&& 31)) ||| (y4 &&& (63 : Int32)))) ∧ Fr n0 L ∧ h = h0
set_option maxRecDepth 65536 in
set_option maxHeartbeats 40000000 in
theorem rm1a2l3 (l : Launch) (Z : State) (a0 : Array Value) (hw : ∀ d ∈ tables_1, d.before a0 Z = true) (ws : List Jvm.Cond) (pr0 : Addr) (w_LEAD_PAYLOAD : Addr) (kk_pr0 : ClassId) (y0 : Int32) (y1 : Int32) (y2 : Int32) (y3 : Int32) (y4 : Int32) (y5 : Int32) (y6 : Int32) (y7 : Int32) (cc_w_LEAD_PAYLOAD : Cell) (h0 : Heap) (n0 : Nat) (O0 : Old Z n0 h0) (S_LEAD_PAYLOAD : Sta Z Z.heap "com/example/strict_codec/strictcodec/Utf8Grammar" "LEAD_PAYLOAD" "[I" (.ref w_LEAD_PAYLOAD)) (V_pr0 : Arv Z h0 pr0 kk_pr0 .byte (8 : Int32) [(.int y0), (.int y1), (.int y2), (.int y3), (.int y4), (.int y5), (.int y6), (.int y7)] (.int (0 : Int32))) (AR_w_LEAD_PAYLOAD : Arr Z Z.heap w_LEAD_PAYLOAD cc_w_LEAD_PAYLOAD .int) (IN3_w_LEAD_PAYLOAD : ¬ ((3 : Int32) < 0 ∨ cc_w_LEAD_PAYLOAD.slots.size ≤ (3 : Int32).toNatClampNeg)) (AT3_w_LEAD_PAYLOAD : cc_w_LEAD_PAYLOAD.slots[(3 : Int32).toNatClampNeg]? = some (.int (15 : Int32))) :
    MetFree l (⟨"com/example/strict_codec/strictcodec/Utf8Grammar", "scalarValue", "([BII)I"⟩ : MethodName) (head1 (Jvm.Cond.code (⟨"com/example/strict_codec/strictcodec/Utf8Grammar", "scalarValue", "([BII)I"⟩ : MethodName) prog_19_method_14_code 5 (some .int) :: ws) ({ frames := 0, cells := 0, slots := 0, locals := 0 } : Room)) (fun a U => a = #[(.ref pr0), (.int (2 : Int32)), (.int (3 : Int32))] ∧ Z.Warmed39 U.vm ∧ U.heap = h0) (fun _ _ _ _ _ => True) (fun _ U o U' => ∃ v L, o = .returned v ∧ Q1a2l3 Z pr0 w_LEAD_PAYLOAD kk_pr0 y0 y1 y2 y3 y4 y5 y6 y7 cc_w_LEAD_PAYLOAD h0 n0 v U'.heap L ∧ FrameEnd U o U' L ({ frames := 0, cells := 0, slots := 0, locals := 0 } : Room).cells ({ frames := 0, cells := 0, slots := 0, locals := 0 } : Room).slots) := by
  refine MetFree.of_bodySF (plainFor_of_name pn_com_example_strict_codec_strictcodec_Utf8Grammar) hisR ?_
  intro p e s m args below meth c s₁ Bd hml0 hP hK
  obtain ⟨rfl, hZ, hh⟩ := hP
  have hx := Bd.exec
  have hby := Bd.bytes
  have hml : c.maxLocals = 5 := hml0
  have hown : s.vm.findClass "com/example/strict_codec/strictcodec/Utf8Grammar" = some m.cls := findClass_of_methodNamed Bd.named
  have hnm := (name_of_methodNamed Bd.named Bd.method).1
  have X0 : Stand p l e ({ frames := 0, cells := 0, slots := 0, locals := 0 } : Room) s m #[(.ref pr0), (.int (2 : Int32)), (.int (3 : Int32))] below meth c s₁ [] 0 0 := Stand.of_body Bd
  have e0 : s₁.heap = h0 := by rw [← hh, Bd.state]; rfl
  have N0 := Fr.nil n0
  obtain ⟨Go, hGo⟩ : ∃ P : State → Prop, ∀ t, P t ↔ Steps p.tables e below (s₁.setTop (entryFrame m #[(.ref pr0), (.int (2 : Int32)), (.int (3 : Int32))] 5)) t := ⟨_, fun _ => Iff.rfl⟩
  have pre0 : ∀ t, Steps p.tables e below (s₁.setTop (mkF m 0 #[rv pr0, iv (2 : Int32), iv (3 : Int32), .unset, .unset] [])) t → Go t := fun t k => (hGo t).mpr (castTop (ef_1a2l3 m pr0) k)
  have pre1 : ∀ t, Steps p.tables e below (s₁.setTop (mkF m 2 #[rv pr0, iv (2 : Int32), iv (3 : Int32), .unset, .unset] [(.int (2 : Int32)), (.ref pr0)])) t → Go t := fun t kt => pre0 t (by
      refine y_aloadN X0.here hx (hb hby d1_0) rfl rfl (pc' := 1) rfl ?_
      refine y_iloadN X0.here hx (hb hby d1_1) rfl (pc' := 2) rfl ?_
      exact kt)
  obtain ⟨c2, Ar2, q2, S2, M2, H2, G2⟩ := id V_pr0
  have hin2 : ¬ ((2 : Int32) < 0 ∨ c2.slots.size ≤ ((2 : Int32)).toNatClampNeg) := inb_of S2 ⟨by decide, by decide⟩
  have hat2 : c2.slots[((2 : Int32)).toNatClampNeg]? = some (.int y2) := Has.at H2 hin2 rfl
  have pre3 : ∀ t, Steps p.tables e below (s₁.setTop (mkF m 3 #[rv pr0, iv (2 : Int32), iv (3 : Int32), .unset, .unset] [(.int y2)])) t → Go t := fun t kt => pre1 t (by
      refine X0.baloadBytes hx (j := (2 : Int32)) (v := (.int y2)) (by rw [e0]; exact Ar2.1) (State.isArrayOf_alike hZ.alike Ar2.2.1) Ar2.2.2 hin2 hat2 (g := (mkF m 2 #[rv pr0, iv (2 : Int32), iv (3 : Int32), .unset, .unset] [(.int (2 : Int32)), (.ref pr0)])) rfl rfl (hb hby d1_2) _ ?_
      show Steps p.tables e below (s₁.setTop (mkF m 3 #[rv pr0, iv (2 : Int32), iv (3 : Int32), .unset, .unset] [(.int y2)])) _
      exact kt)
  obtain ⟨T4, X4, e4, st4⟩ := getS2 X0 hx hZ hown (host := "") (Or.inl (hw _ (List.mem_of_getElem? (i := 6) rfl))) Via.refl e0 (S_LEAD_PAYLOAD.ext O0.2) (g := (mkF m 3 #[rv pr0, iv (2 : Int32), iv (3 : Int32), .unset, .unset] [(.int y2)])) rfl (hb hby d1_3)
  have pre5 : ∀ t, Steps p.tables e below (T4.setTop (mkF m 6 #[rv pr0, iv (2 : Int32), iv (3 : Int32), .unset, .unset] [(.ref w_LEAD_PAYLOAD), (.int y2)])) t → Go t := fun t kt => pre3 t (st4 t kt)
  have pre6 : ∀ t, Steps p.tables e below (T4.setTop (mkF m 7 #[rv pr0, iv (2 : Int32), iv (3 : Int32), .unset, .unset] [(.int (3 : Int32)), (.ref w_LEAD_PAYLOAD), (.int y2)])) t → Go t := fun t kt => pre5 t (by
      refine y_iloadN X4.here hx (hb hby d1_6) rfl (pc' := 7) rfl ?_
      exact kt)
  have A7 := AR_w_LEAD_PAYLOAD.ext O0.2
  obtain ⟨x8, hx8⟩ : ∃ z : Int32, z = (y2 &&& (15 : Int32)) := ⟨_, rfl⟩
  have pre9 : ∀ t, Steps p.tables e below (T4.setTop (mkF m 10 #[rv pr0, iv (2 : Int32), iv (3 : Int32), iv x8, .unset] [])) t → Go t := fun t kt => pre6 t (by
      subst hx8
      refine X4.iaload hx (j := (3 : Int32)) (v := (.int (15 : Int32))) (by rw [e4]; exact A7.1) (State.isArrayOf_alike hZ.alike A7.2.1) A7.2.2 IN3_w_LEAD_PAYLOAD AT3_w_LEAD_PAYLOAD (g := (mkF m 7 #[rv pr0, iv (2 : Int32), iv (3 : Int32), .unset, .unset] [(.int (3 : Int32)), (.ref w_LEAD_PAYLOAD), (.int y2)])) rfl rfl (hb hby d1_7) _ ?_
      show Steps p.tables e below (T4.setTop (mkF m 8 #[rv pr0, iv (2 : Int32), iv (3 : Int32), .unset, .unset] [(.int (15 : Int32)), (.int y2)])) _
      refine y_iand X4.here hx (hb hby d1_8) rfl (pc' := 9) rfl ?_
      refine y_istoreN X4.here hx (hb hby d1_9) (l' := #[rv pr0, iv (2 : Int32), iv (3 : Int32), iv (y2 &&& (15 : Int32)), .unset]) rfl (pc' := 10) rfl ?_
      exact kt)
  have pre10 : ∀ t, Steps p.tables e below (T4.setTop (mkF m 28 #[rv pr0, iv (2 : Int32), iv (3 : Int32), iv x8, iv (1 : Int32)] [(.int (3 : Int32)), (.ref pr0), (.int (x8 <<< ((6 : Int32) &&& 31)))])) t → Go t := fun t kt => pre9 t (by
      refine y_iconst X4.here hx (hb hby d1_10) (v := (1 : Int32)) rfl (pc' := 11) rfl ?_
      refine y_istore X4.here hx (hb hby d1_11) (l' := #[rv pr0, iv (2 : Int32), iv (3 : Int32), iv x8, iv (1 : Int32)]) rfl (pc' := 13) rfl ?_
      refine y_iload X4.here hx (hb hby d1_13) rfl (pc' := 15) rfl ?_
      refine y_iloadN X4.here hx (hb hby d1_15) rfl (pc' := 16) rfl ?_
      refine y_icmpNo X4.here hx (hb hby d1_16) (tlt (by decide : (1 : Int32) < (3 : Int32))).2.1 (pc' := 19) rfl ?_
      refine y_iloadN X4.here hx (hb hby d1_19) rfl (pc' := 20) rfl ?_
      refine y_bipush X4.here hx (hb hby d1_20) (v := (6 : Int32)) rfl (pc' := 22) rfl ?_
      refine y_ishl X4.here hx (hb hby d1_22) (z := (x8 <<< ((6 : Int32) &&& 31))) rfl (pc' := 23) rfl ?_
      refine y_aloadN X4.here hx (hb hby d1_23) rfl rfl (pc' := 24) rfl ?_
      refine y_iloadN X4.here hx (hb hby d1_24) rfl (pc' := 25) rfl ?_
      refine y_iload X4.here hx (hb hby d1_25) rfl (pc' := 27) rfl ?_
      refine y_iadd X4.here hx (hb hby d1_27) (z := (3 : Int32)) rfl (pc' := 28) rfl ?_
      exact kt)
  obtain ⟨c11, Ar11, q11, S11, M11, H11, G11⟩ := id V_pr0
  have hin11 : ¬ ((3 : Int32) < 0 ∨ c11.slots.size ≤ ((3 : Int32)).toNatClampNeg) := inb_of S11 ⟨by decide, by decide⟩
  have hat11 : c11.slots[((3 : Int32)).toNatClampNeg]? = some (.int y3) := Has.at H11 hin11 rfl
  obtain ⟨x12, hx12⟩ : ∃ z : Int32, z = ((x8 <<< ((6 : Int32) &&& 31)) ||| (y3 &&& (63 : Int32))) := ⟨_, rfl⟩
  have pre13 : ∀ t, Steps p.tables e below (T4.setTop (mkF m 34 #[rv pr0, iv (2 : Int32), iv (3 : Int32), iv x12, iv (1 : Int32)] [])) t → Go t := fun t kt => pre10 t (by
      subst hx12
      refine X4.baloadBytes hx (j := (3 : Int32)) (v := (.int y3)) (by rw [e4]; exact Ar11.1) (State.isArrayOf_alike hZ.alike Ar11.2.1) Ar11.2.2 hin11 hat11 (g := (mkF m 28 #[rv pr0, iv (2 : Int32), iv (3 : Int32), iv x8, iv (1 : Int32)] [(.int (3 : Int32)), (.ref pr0), (.int (x8 <<< ((6 : Int32) &&& 31)))])) rfl rfl (hb hby d1_28) _ ?_
      show Steps p.tables e below (T4.setTop (mkF m 29 #[rv pr0, iv (2 : Int32), iv (3 : Int32), iv x8, iv (1 : Int32)] [(.int y3), (.int (x8 <<< ((6 : Int32) &&& 31)))])) _
      refine y_bipush X4.here hx (hb hby d1_29) (v := (63 : Int32)) rfl (pc' := 31) rfl ?_
      refine y_iand X4.here hx (hb hby d1_31) rfl (pc' := 32) rfl ?_
      refine y_ior X4.here hx (hb hby d1_32) rfl (pc' := 33) rfl ?_
      refine y_istoreN X4.here hx (hb hby d1_33) (l' := #[rv pr0, iv (2 : Int32), iv (3 : Int32), iv ((x8 <<< ((6 : Int32) &&& 31)) ||| (y3 &&& (63 : Int32))), iv (1 : Int32)]) rfl (pc' := 34) rfl ?_
      exact kt)
  have pre14 : ∀ t, Steps p.tables e below (T4.setTop (mkF m 28 #[rv pr0, iv (2 : Int32), iv (3 : Int32), iv x12, iv (2 : Int32)] [(.int (4 : Int32)), (.ref pr0), (.int (x12 <<< ((6 : Int32) &&& 31)))])) t → Go t := fun t kt => pre13 t (by
      refine y_iinc X4.here hx (hb hby d1_34) rfl (l' := #[rv pr0, iv (2 : Int32), iv (3 : Int32), iv x12, iv (2 : Int32)]) rfl (pc' := 37) rfl ?_
      refine y_goto X4.here hx (hb hby d1_37) (pc' := 13) (by decide) rfl ?_
      refine y_iload X4.here hx (hb hby d1_13) rfl (pc' := 15) rfl ?_
      refine y_iloadN X4.here hx (hb hby d1_15) rfl (pc' := 16) rfl ?_
      refine y_icmpNo X4.here hx (hb hby d1_16) (tlt (by decide : (2 : Int32) < (3 : Int32))).2.1 (pc' := 19) rfl ?_
      refine y_iloadN X4.here hx (hb hby d1_19) rfl (pc' := 20) rfl ?_
      refine y_bipush X4.here hx (hb hby d1_20) (v := (6 : Int32)) rfl (pc' := 22) rfl ?_
      refine y_ishl X4.here hx (hb hby d1_22) (z := (x12 <<< ((6 : Int32) &&& 31))) rfl (pc' := 23) rfl ?_
      refine y_aloadN X4.here hx (hb hby d1_23) rfl rfl (pc' := 24) rfl ?_
      refine y_iloadN X4.here hx (hb hby d1_24) rfl (pc' := 25) rfl ?_
      refine y_iload X4.here hx (hb hby d1_25) rfl (pc' := 27) rfl ?_
      refine y_iadd X4.here hx (hb hby d1_27) (z := (4 : Int32)) rfl (pc' := 28) rfl ?_
      exact kt)
  obtain ⟨c15, Ar15, q15, S15, M15, H15, G15⟩ := id V_pr0
  have hin15 : ¬ ((4 : Int32) < 0 ∨ c15.slots.size ≤ ((4 : Int32)).toNatClampNeg) := inb_of S15 ⟨by decide, by decide⟩
  have hat15 : c15.slots[((4 : Int32)).toNatClampNeg]? = some (.int y4) := Has.at H15 hin15 rfl
  obtain ⟨x16, hx16⟩ : ∃ z : Int32, z = ((x12 <<< ((6 : Int32) &&& 31)) ||| (y4 &&& (63 : Int32))) := ⟨_, rfl⟩
  have pre17 : ∀ t, Steps p.tables e below (T4.setTop (mkF m 34 #[rv pr0, iv (2 : Int32), iv (3 : Int32), iv x16, iv (2 : Int32)] [])) t → Go t := fun t kt => pre14 t (by
      subst hx16
      refine X4.baloadBytes hx (j := (4 : Int32)) (v := (.int y4)) (by rw [e4]; exact Ar15.1) (State.isArrayOf_alike hZ.alike Ar15.2.1) Ar15.2.2 hin15 hat15 (g := (mkF m 28 #[rv pr0, iv (2 : Int32), iv (3 : Int32), iv x12, iv (2 : Int32)] [(.int (4 : Int32)), (.ref pr0), (.int (x12 <<< ((6 : Int32) &&& 31)))])) rfl rfl (hb hby d1_28) _ ?_
      show Steps p.tables e below (T4.setTop (mkF m 29 #[rv pr0, iv (2 : Int32), iv (3 : Int32), iv x12, iv (2 : Int32)] [(.int y4), (.int (x12 <<< ((6 : Int32) &&& 31)))])) _
      refine y_bipush X4.here hx (hb hby d1_29) (v := (63 : Int32)) rfl (pc' := 31) rfl ?_
      refine y_iand X4.here hx (hb hby d1_31) rfl (pc' := 32) rfl ?_
      refine y_ior X4.here hx (hb hby d1_32) rfl (pc' := 33) rfl ?_
      refine y_istoreN X4.here hx (hb hby d1_33) (l' := #[rv pr0, iv (2 : Int32), iv (3 : Int32), iv ((x12 <<< ((6 : Int32) &&& 31)) ||| (y4 &&& (63 : Int32))), iv (2 : Int32)]) rfl (pc' := 34) rfl ?_
      exact kt)
  have pre18 : ∀ t, Steps p.tables e below (T4.setTop (mkF m 41 #[rv pr0, iv (2 : Int32), iv (3 : Int32), iv x16, iv (3 : Int32)] [(.int x16)])) t → Go t := fun t kt => pre17 t (by
      refine y_iinc X4.here hx (hb hby d1_34) rfl (l' := #[rv pr0, iv (2 : Int32), iv (3 : Int32), iv x16, iv (3 : Int32)]) rfl (pc' := 37) rfl ?_
      refine y_goto X4.here hx (hb hby d1_37) (pc' := 13) (by decide) rfl ?_
      refine y_iload X4.here hx (hb hby d1_13) rfl (pc' := 15) rfl ?_
      refine y_iloadN X4.here hx (hb hby d1_15) rfl (pc' := 16) rfl ?_
      refine y_icmpYes X4.here hx (hb hby d1_16) (flt (by decide : ¬ ((3 : Int32) < (3 : Int32)))).2.1 (pc' := 40) (by decide) rfl ?_
      refine y_iloadN X4.here hx (hb hby d1_40) rfl (pc' := 41) rfl ?_
      exact kt)
  obtain ⟨fs, hr, hrun, hended, hW, hsame⟩ := X4.leave (v := some (.int x16)) (fun h => by rw [Bd.returns] at h; cases h)
  refine ⟨_, _, (hGo _).mp (pre18 _ ?_), hrun, hended, _, _, rfl, ?_, ⟨_, rfl⟩, hW, hsame.mono (by decide) (by decide)⟩
  · exact retOut X4 hx Bd.returns rfl (Or.inl ⟨rfl, Or.inl rfl, _, rfl⟩) (hb hby d1_41) hr
  · show Q1a2l3 Z pr0 w_LEAD_PAYLOAD kk_pr0 y0 y1 y2 y3 y4 y5 y6 y7 cc_w_LEAD_PAYLOAD h0 n0 _ T4.heap _
    rw [e4]
    subst hx8 hx12 hx16
    exact ⟨rfl, N0, rfl⟩
theorem ef_1a3l3 (m : MethodId) (x0 : Addr) : entryFrame m #[(.ref x0), (.int (3 : Int32)), (.int (3 : Int32))] 5 = mkF m 0 #[rv x0, iv (3 : Int32), iv (3 : Int32), .unset, .unset] [] := by first | (simp [entryFrame, mkF, argsToLocals, Value.category]; done) | rfl
def Q1a3l3 (Z : State) (pr0 : Addr) (w_LEAD_PAYLOAD : Addr) (kk_pr0 : ClassId) (y0 : Int32) (y1 : Int32) (y2 : Int32) (y3 : Int32) (y4 : Int32) (y5 : Int32) (y6 : Int32) (y7 : Int32) (cc_w_LEAD_PAYLOAD : Cell) (h0 : Heap) (n0 : Nat) (v : Option Value) (h : Heap) (L : List Loc) : Prop := v = some (.int (((((y3 &&& (15 : Int32)) <<< ((6 : Int32) &&& 31)) ||| (y4 &&& (63 : Int32))) <<< ((6 : Int32) &&& 31)) ||| (y5 &&& (63 : Int32)))) ∧ Fr n0 L ∧ h = h0
set_option maxRecDepth 65536 in
set_option maxHeartbeats 40000000 in
theorem rm1a3l3 (l : Launch) (Z : State) (a0 : Array Value) (hw : ∀ d ∈ tables_1, d.before a0 Z = true) (ws : List Jvm.Cond) (pr0 : Addr) (w_LEAD_PAYLOAD : Addr) (kk_pr0 : ClassId) (y0 : Int32) (y1 : Int32) (y2 : Int32) (y3 : Int32) (y4 : Int32) (y5 : Int32) (y6 : Int32) (y7 : Int32) (cc_w_LEAD_PAYLOAD : Cell) (h0 : Heap) (n0 : Nat) (O0 : Old Z n0 h0) (S_LEAD_PAYLOAD : Sta Z Z.heap "com/example/strict_codec/strictcodec/Utf8Grammar" "LEAD_PAYLOAD" "[I" (.ref w_LEAD_PAYLOAD)) (V_pr0 : Arv Z h0 pr0 kk_pr0 .byte (8 : Int32) [(.int y0), (.int y1), (.int y2), (.int y3), (.int y4), (.int y5), (.int y6), (.int y7)] (.int (0 : Int32))) (AR_w_LEAD_PAYLOAD : Arr Z Z.heap w_LEAD_PAYLOAD cc_w_LEAD_PAYLOAD .int) (IN3_w_LEAD_PAYLOAD : ¬ ((3 : Int32) < 0 ∨ cc_w_LEAD_PAYLOAD.slots.size ≤ (3 : Int32).toNatClampNeg)) (AT3_w_LEAD_PAYLOAD : cc_w_LEAD_PAYLOAD.slots[(3 : Int32).toNatClampNeg]? = some (.int (15 : Int32))) :
    MetFree l (⟨"com/example/strict_codec/strictcodec/Utf8Grammar", "scalarValue", "([BII)I"⟩ : MethodName) (head1 (Jvm.Cond.code (⟨"com/example/strict_codec/strictcodec/Utf8Grammar", "scalarValue", "([BII)I"⟩ : MethodName) prog_19_method_14_code 5 (some .int) :: ws) ({ frames := 0, cells := 0, slots := 0, locals := 0 } : Room)) (fun a U => a = #[(.ref pr0), (.int (3 : Int32)), (.int (3 : Int32))] ∧ Z.Warmed39 U.vm ∧ U.heap = h0) (fun _ _ _ _ _ => True) (fun _ U o U' => ∃ v L, o = .returned v ∧ Q1a3l3 Z pr0 w_LEAD_PAYLOAD kk_pr0 y0 y1 y2 y3 y4 y5 y6 y7 cc_w_LEAD_PAYLOAD h0 n0 v U'.heap L ∧ FrameEnd U o U' L ({ frames := 0, cells := 0, slots := 0, locals := 0 } : Room).cells ({ frames := 0, cells := 0, slots := 0, locals := 0 } : Room).slots) := by
  refine MetFree.of_bodySF (plainFor_of_name pn_com_example_strict_codec_strictcodec_Utf8Grammar) hisR ?_
  intro p e s m args below meth c s₁ Bd hml0 hP hK
  obtain ⟨rfl, hZ, hh⟩ := hP
  have hx := Bd.exec
  have hby := Bd.bytes
  have hml : c.maxLocals = 5 := hml0
  have hown : s.vm.findClass "com/example/strict_codec/strictcodec/Utf8Grammar" = some m.cls := findClass_of_methodNamed Bd.named
  have hnm := (name_of_methodNamed Bd.named Bd.method).1
  have X0 : Stand p l e ({ frames := 0, cells := 0, slots := 0, locals := 0 } : Room) s m #[(.ref pr0), (.int (3 : Int32)), (.int (3 : Int32))] below meth c s₁ [] 0 0 := Stand.of_body Bd
  have e0 : s₁.heap = h0 := by rw [← hh, Bd.state]; rfl
  have N0 := Fr.nil n0
  obtain ⟨Go, hGo⟩ : ∃ P : State → Prop, ∀ t, P t ↔ Steps p.tables e below (s₁.setTop (entryFrame m #[(.ref pr0), (.int (3 : Int32)), (.int (3 : Int32))] 5)) t := ⟨_, fun _ => Iff.rfl⟩
  have pre0 : ∀ t, Steps p.tables e below (s₁.setTop (mkF m 0 #[rv pr0, iv (3 : Int32), iv (3 : Int32), .unset, .unset] [])) t → Go t := fun t k => (hGo t).mpr (castTop (ef_1a3l3 m pr0) k)
  have pre1 : ∀ t, Steps p.tables e below (s₁.setTop (mkF m 2 #[rv pr0, iv (3 : Int32), iv (3 : Int32), .unset, .unset] [(.int (3 : Int32)), (.ref pr0)])) t → Go t := fun t kt => pre0 t (by
      refine y_aloadN X0.here hx (hb hby d1_0) rfl rfl (pc' := 1) rfl ?_
      refine y_iloadN X0.here hx (hb hby d1_1) rfl (pc' := 2) rfl ?_
      exact kt)
  obtain ⟨c2, Ar2, q2, S2, M2, H2, G2⟩ := id V_pr0
  have hin2 : ¬ ((3 : Int32) < 0 ∨ c2.slots.size ≤ ((3 : Int32)).toNatClampNeg) := inb_of S2 ⟨by decide, by decide⟩
  have hat2 : c2.slots[((3 : Int32)).toNatClampNeg]? = some (.int y3) := Has.at H2 hin2 rfl
  have pre3 : ∀ t, Steps p.tables e below (s₁.setTop (mkF m 3 #[rv pr0, iv (3 : Int32), iv (3 : Int32), .unset, .unset] [(.int y3)])) t → Go t := fun t kt => pre1 t (by
      refine X0.baloadBytes hx (j := (3 : Int32)) (v := (.int y3)) (by rw [e0]; exact Ar2.1) (State.isArrayOf_alike hZ.alike Ar2.2.1) Ar2.2.2 hin2 hat2 (g := (mkF m 2 #[rv pr0, iv (3 : Int32), iv (3 : Int32), .unset, .unset] [(.int (3 : Int32)), (.ref pr0)])) rfl rfl (hb hby d1_2) _ ?_
      show Steps p.tables e below (s₁.setTop (mkF m 3 #[rv pr0, iv (3 : Int32), iv (3 : Int32), .unset, .unset] [(.int y3)])) _
      exact kt)
  obtain ⟨T4, X4, e4, st4⟩ := getS2 X0 hx hZ hown (host := "") (Or.inl (hw _ (List.mem_of_getElem? (i := 6) rfl))) Via.refl e0 (S_LEAD_PAYLOAD.ext O0.2) (g := (mkF m 3 #[rv pr0, iv (3 : Int32), iv (3 : Int32), .unset, .unset] [(.int y3)])) rfl (hb hby d1_3)
  have pre5 : ∀ t, Steps p.tables e below (T4.setTop (mkF m 6 #[rv pr0, iv (3 : Int32), iv (3 : Int32), .unset, .unset] [(.ref w_LEAD_PAYLOAD), (.int y3)])) t → Go t := fun t kt => pre3 t (st4 t kt)
  have pre6 : ∀ t, Steps p.tables e below (T4.setTop (mkF m 7 #[rv pr0, iv (3 : Int32), iv (3 : Int32), .unset, .unset] [(.int (3 : Int32)), (.ref w_LEAD_PAYLOAD), (.int y3)])) t → Go t := fun t kt => pre5 t (by
      refine y_iloadN X4.here hx (hb hby d1_6) rfl (pc' := 7) rfl ?_
      exact kt)
  have A7 := AR_w_LEAD_PAYLOAD.ext O0.2
  obtain ⟨x8, hx8⟩ : ∃ z : Int32, z = (y3 &&& (15 : Int32)) := ⟨_, rfl⟩
  have pre9 : ∀ t, Steps p.tables e below (T4.setTop (mkF m 10 #[rv pr0, iv (3 : Int32), iv (3 : Int32), iv x8, .unset] [])) t → Go t := fun t kt => pre6 t (by
      subst hx8
      refine X4.iaload hx (j := (3 : Int32)) (v := (.int (15 : Int32))) (by rw [e4]; exact A7.1) (State.isArrayOf_alike hZ.alike A7.2.1) A7.2.2 IN3_w_LEAD_PAYLOAD AT3_w_LEAD_PAYLOAD (g := (mkF m 7 #[rv pr0, iv (3 : Int32), iv (3 : Int32), .unset, .unset] [(.int (3 : Int32)), (.ref w_LEAD_PAYLOAD), (.int y3)])) rfl rfl (hb hby d1_7) _ ?_
      show Steps p.tables e below (T4.setTop (mkF m 8 #[rv pr0, iv (3 : Int32), iv (3 : Int32), .unset, .unset] [(.int (15 : Int32)), (.int y3)])) _
      refine y_iand X4.here hx (hb hby d1_8) rfl (pc' := 9) rfl ?_
      refine y_istoreN X4.here hx (hb hby d1_9) (l' := #[rv pr0, iv (3 : Int32), iv (3 : Int32), iv (y3 &&& (15 : Int32)), .unset]) rfl (pc' := 10) rfl ?_
      exact kt)
  have pre10 : ∀ t, Steps p.tables e below (T4.setTop (mkF m 28 #[rv pr0, iv (3 : Int32), iv (3 : Int32), iv x8, iv (1 : Int32)] [(.int (4 : Int32)), (.ref pr0), (.int (x8 <<< ((6 : Int32) &&& 31)))])) t → Go t := fun t kt => pre9 t (by
      refine y_iconst X4.here hx (hb hby d1_10) (v := (1 : Int32)) rfl (pc' := 11) rfl ?_
      refine y_istore X4.here hx (hb hby d1_11) (l' := #[rv pr0, iv (3 : Int32), iv (3 : Int32), iv x8, iv (1 : Int32)]) rfl (pc' := 13) rfl ?_
      refine y_iload X4.here hx (hb hby d1_13) rfl (pc' := 15) rfl ?_
      refine y_iloadN X4.here hx (hb hby d1_15) rfl (pc' := 16) rfl ?_
      refine y_icmpNo X4.here hx (hb hby d1_16) (tlt (by decide : (1 : Int32) < (3 : Int32))).2.1 (pc' := 19) rfl ?_
      refine y_iloadN X4.here hx (hb hby d1_19) rfl (pc' := 20) rfl ?_
      refine y_bipush X4.here hx (hb hby d1_20) (v := (6 : Int32)) rfl (pc' := 22) rfl ?_
      refine y_ishl X4.here hx (hb hby d1_22) (z := (x8 <<< ((6 : Int32) &&& 31))) rfl (pc' := 23) rfl ?_
      refine y_aloadN X4.here hx (hb hby d1_23) rfl rfl (pc' := 24) rfl ?_
      refine y_iloadN X4.here hx (hb hby d1_24) rfl (pc' := 25) rfl ?_
      refine y_iload X4.here hx (hb hby d1_25) rfl (pc' := 27) rfl ?_
      refine y_iadd X4.here hx (hb hby d1_27) (z := (4 : Int32)) rfl (pc' := 28) rfl ?_
      exact kt)
  obtain ⟨c11, Ar11, q11, S11, M11, H11, G11⟩ := id V_pr0
  have hin11 : ¬ ((4 : Int32) < 0 ∨ c11.slots.size ≤ ((4 : Int32)).toNatClampNeg) := inb_of S11 ⟨by decide, by decide⟩
  have hat11 : c11.slots[((4 : Int32)).toNatClampNeg]? = some (.int y4) := Has.at H11 hin11 rfl
  obtain ⟨x12, hx12⟩ : ∃ z : Int32, z = ((x8 <<< ((6 : Int32) &&& 31)) ||| (y4 &&& (63 : Int32))) := ⟨_, rfl⟩
  have pre13 : ∀ t, Steps p.tables e below (T4.setTop (mkF m 34 #[rv pr0, iv (3 : Int32), iv (3 : Int32), iv x12, iv (1 : Int32)] [])) t → Go t := fun t kt => pre10 t (by
      subst hx12
      refine X4.baloadBytes hx (j := (4 : Int32)) (v := (.int y4)) (by rw [e4]; exact Ar11.1) (State.isArrayOf_alike hZ.alike Ar11.2.1) Ar11.2.2 hin11 hat11 (g := (mkF m 28 #[rv pr0, iv (3 : Int32), iv (3 : Int32), iv x8, iv (1 : Int32)] [(.int (4 : Int32)), (.ref pr0), (.int (x8 <<< ((6 : Int32) &&& 31)))])) rfl rfl (hb hby d1_28) _ ?_
      show Steps p.tables e below (T4.setTop (mkF m 29 #[rv pr0, iv (3 : Int32), iv (3 : Int32), iv x8, iv (1 : Int32)] [(.int y4), (.int (x8 <<< ((6 : Int32) &&& 31)))])) _
      refine y_bipush X4.here hx (hb hby d1_29) (v := (63 : Int32)) rfl (pc' := 31) rfl ?_
      refine y_iand X4.here hx (hb hby d1_31) rfl (pc' := 32) rfl ?_
      refine y_ior X4.here hx (hb hby d1_32) rfl (pc' := 33) rfl ?_
      refine y_istoreN X4.here hx (hb hby d1_33) (l' := #[rv pr0, iv (3 : Int32), iv (3 : Int32), iv ((x8 <<< ((6 : Int32) &&& 31)) ||| (y4 &&& (63 : Int32))), iv (1 : Int32)]) rfl (pc' := 34) rfl ?_
      exact kt)
  have pre14 : ∀ t, Steps p.tables e below (T4.setTop (mkF m 28 #[rv pr0, iv (3 : Int32), iv (3 : Int32), iv x12, iv (2 : Int32)] [(.int (5 : Int32)), (.ref pr0), (.int (x12 <<< ((6 : Int32) &&& 31)))])) t → Go t := fun t kt => pre13 t (by
      refine y_iinc X4.here hx (hb hby d1_34) rfl (l' := #[rv pr0, iv (3 : Int32), iv (3 : Int32), iv x12, iv (2 : Int32)]) rfl (pc' := 37) rfl ?_
      refine y_goto X4.here hx (hb hby d1_37) (pc' := 13) (by decide) rfl ?_
      refine y_iload X4.here hx (hb hby d1_13) rfl (pc' := 15) rfl ?_
      refine y_iloadN X4.here hx (hb hby d1_15) rfl (pc' := 16) rfl ?_
      refine y_icmpNo X4.here hx (hb hby d1_16) (tlt (by decide : (2 : Int32) < (3 : Int32))).2.1 (pc' := 19) rfl ?_
      refine y_iloadN X4.here hx (hb hby d1_19) rfl (pc' := 20) rfl ?_
      refine y_bipush X4.here hx (hb hby d1_20) (v := (6 : Int32)) rfl (pc' := 22) rfl ?_
      refine y_ishl X4.here hx (hb hby d1_22) (z := (x12 <<< ((6 : Int32) &&& 31))) rfl (pc' := 23) rfl ?_
      refine y_aloadN X4.here hx (hb hby d1_23) rfl rfl (pc' := 24) rfl ?_
      refine y_iloadN X4.here hx (hb hby d1_24) rfl (pc' := 25) rfl ?_
      refine y_iload X4.here hx (hb hby d1_25) rfl (pc' := 27) rfl ?_
      refine y_iadd X4.here hx (hb hby d1_27) (z := (5 : Int32)) rfl (pc' := 28) rfl ?_
      exact kt)
  obtain ⟨c15, Ar15, q15, S15, M15, H15, G15⟩ := id V_pr0
  have hin15 : ¬ ((5 : Int32) < 0 ∨ c15.slots.size ≤ ((5 : Int32)).toNatClampNeg) := inb_of S15 ⟨by decide, by decide⟩
  have hat15 : c15.slots[((5 : Int32)).toNatClampNeg]? = some (.int y5) := Has.at H15 hin15 rfl
  obtain ⟨x16, hx16⟩ : ∃ z : Int32, z = ((x12 <<< ((6 : Int32) &&& 31)) ||| (y5 &&& (63 : Int32))) := ⟨_, rfl⟩
  have pre17 : ∀ t, Steps p.tables e below (T4.setTop (mkF m 34 #[rv pr0, iv (3 : Int32), iv (3 : Int32), iv x16, iv (2 : Int32)] [])) t → Go t := fun t kt => pre14 t (by
      subst hx16
      refine X4.baloadBytes hx (j := (5 : Int32)) (v := (.int y5)) (by rw [e4]; exact Ar15.1) (State.isArrayOf_alike hZ.alike Ar15.2.1) Ar15.2.2 hin15 hat15 (g := (mkF m 28 #[rv pr0, iv (3 : Int32), iv (3 : Int32), iv x12, iv (2 : Int32)] [(.int (5 : Int32)), (.ref pr0), (.int (x12 <<< ((6 : Int32) &&& 31)))])) rfl rfl (hb hby d1_28) _ ?_
      show Steps p.tables e below (T4.setTop (mkF m 29 #[rv pr0, iv (3 : Int32), iv (3 : Int32), iv x12, iv (2 : Int32)] [(.int y5), (.int (x12 <<< ((6 : Int32) &&& 31)))])) _
      refine y_bipush X4.here hx (hb hby d1_29) (v := (63 : Int32)) rfl (pc' := 31) rfl ?_
      refine y_iand X4.here hx (hb hby d1_31) rfl (pc' := 32) rfl ?_
      refine y_ior X4.here hx (hb hby d1_32) rfl (pc' := 33) rfl ?_
      refine y_istoreN X4.here hx (hb hby d1_33) (l' := #[rv pr0, iv (3 : Int32), iv (3 : Int32), iv ((x12 <<< ((6 : Int32) &&& 31)) ||| (y5 &&& (63 : Int32))), iv (2 : Int32)]) rfl (pc' := 34) rfl ?_
      exact kt)
  have pre18 : ∀ t, Steps p.tables e below (T4.setTop (mkF m 41 #[rv pr0, iv (3 : Int32), iv (3 : Int32), iv x16, iv (3 : Int32)] [(.int x16)])) t → Go t := fun t kt => pre17 t (by
      refine y_iinc X4.here hx (hb hby d1_34) rfl (l' := #[rv pr0, iv (3 : Int32), iv (3 : Int32), iv x16, iv (3 : Int32)]) rfl (pc' := 37) rfl ?_
      refine y_goto X4.here hx (hb hby d1_37) (pc' := 13) (by decide) rfl ?_
      refine y_iload X4.here hx (hb hby d1_13) rfl (pc' := 15) rfl ?_
      refine y_iloadN X4.here hx (hb hby d1_15) rfl (pc' := 16) rfl ?_
      refine y_icmpYes X4.here hx (hb hby d1_16) (flt (by decide : ¬ ((3 : Int32) < (3 : Int32)))).2.1 (pc' := 40) (by decide) rfl ?_
      refine y_iloadN X4.here hx (hb hby d1_40) rfl (pc' := 41) rfl ?_
      exact kt)
  obtain ⟨fs, hr, hrun, hended, hW, hsame⟩ := X4.leave (v := some (.int x16)) (fun h => by rw [Bd.returns] at h; cases h)
  refine ⟨_, _, (hGo _).mp (pre18 _ ?_), hrun, hended, _, _, rfl, ?_, ⟨_, rfl⟩, hW, hsame.mono (by decide) (by decide)⟩
  · exact retOut X4 hx Bd.returns rfl (Or.inl ⟨rfl, Or.inl rfl, _, rfl⟩) (hb hby d1_41) hr
  · show Q1a3l3 Z pr0 w_LEAD_PAYLOAD kk_pr0 y0 y1 y2 y3 y4 y5 y6 y7 cc_w_LEAD_PAYLOAD h0 n0 _ T4.heap _
    rw [e4]
    subst hx8 hx12 hx16
    exact ⟨rfl, N0, rfl⟩
theorem ef_1a0l4 (m : MethodId) (x0 : Addr) : entryFrame m #[(.ref x0), (.int (0 : Int32)), (.int (4 : Int32))] 5 = mkF m 0 #[rv x0, iv (0 : Int32), iv (4 : Int32), .unset, .unset] [] := by first | (simp [entryFrame, mkF, argsToLocals, Value.category]; done) | rfl
def Q1a0l4 (Z : State) (pr0 : Addr) (w_LEAD_PAYLOAD : Addr) (kk_pr0 : ClassId) (y0 : Int32) (y1 : Int32) (y2 : Int32) (y3 : Int32) (y4 : Int32) (y5 : Int32) (y6 : Int32) (y7 : Int32) (cc_w_LEAD_PAYLOAD : Cell) (h0 : Heap) (n0 : Nat) (v : Option Value) (h : Heap) (L : List Loc) : Prop := v = some (.int (((((((y0 &&& (7 : Int32)) <<< ((6 : Int32) &&& 31)) ||| (y1 &&& (63 : Int32))) <<< ((6 : Int32) &&& 31)) ||| (y2 &&& (63 : Int32))) <<< ((6 : Int32) &&& 31)) ||| (y3 &&& (63 : Int32)))) ∧ Fr n0 L ∧ h = h0
set_option maxRecDepth 65536 in
set_option maxHeartbeats 40000000 in
theorem rm1a0l4 (l : Launch) (Z : State) (a0 : Array Value) (hw : ∀ d ∈ tables_1, d.before a0 Z = true) (ws : List Jvm.Cond) (pr0 : Addr) (w_LEAD_PAYLOAD : Addr) (kk_pr0 : ClassId) (y0 : Int32) (y1 : Int32) (y2 : Int32) (y3 : Int32) (y4 : Int32) (y5 : Int32) (y6 : Int32) (y7 : Int32) (cc_w_LEAD_PAYLOAD : Cell) (h0 : Heap) (n0 : Nat) (O0 : Old Z n0 h0) (S_LEAD_PAYLOAD : Sta Z Z.heap "com/example/strict_codec/strictcodec/Utf8Grammar" "LEAD_PAYLOAD" "[I" (.ref w_LEAD_PAYLOAD)) (V_pr0 : Arv Z h0 pr0 kk_pr0 .byte (8 : Int32) [(.int y0), (.int y1), (.int y2), (.int y3), (.int y4), (.int y5), (.int y6), (.int y7)] (.int (0 : Int32))) (AR_w_LEAD_PAYLOAD : Arr Z Z.heap w_LEAD_PAYLOAD cc_w_LEAD_PAYLOAD .int) (IN4_w_LEAD_PAYLOAD : ¬ ((4 : Int32) < 0 ∨ cc_w_LEAD_PAYLOAD.slots.size ≤ (4 : Int32).toNatClampNeg)) (AT4_w_LEAD_PAYLOAD : cc_w_LEAD_PAYLOAD.slots[(4 : Int32).toNatClampNeg]? = some (.int (7 : Int32))) :
    MetFree l (⟨"com/example/strict_codec/strictcodec/Utf8Grammar", "scalarValue", "([BII)I"⟩ : MethodName) (head1 (Jvm.Cond.code (⟨"com/example/strict_codec/strictcodec/Utf8Grammar", "scalarValue", "([BII)I"⟩ : MethodName) prog_19_method_14_code 5 (some .int) :: ws) ({ frames := 0, cells := 0, slots := 0, locals := 0 } : Room)) (fun a U => a = #[(.ref pr0), (.int (0 : Int32)), (.int (4 : Int32))] ∧ Z.Warmed39 U.vm ∧ U.heap = h0) (fun _ _ _ _ _ => True) (fun _ U o U' => ∃ v L, o = .returned v ∧ Q1a0l4 Z pr0 w_LEAD_PAYLOAD kk_pr0 y0 y1 y2 y3 y4 y5 y6 y7 cc_w_LEAD_PAYLOAD h0 n0 v U'.heap L ∧ FrameEnd U o U' L ({ frames := 0, cells := 0, slots := 0, locals := 0 } : Room).cells ({ frames := 0, cells := 0, slots := 0, locals := 0 } : Room).slots) := by
  refine MetFree.of_bodySF (plainFor_of_name pn_com_example_strict_codec_strictcodec_Utf8Grammar) hisR ?_
  intro p e s m args below meth c s₁ Bd hml0 hP hK
  obtain ⟨rfl, hZ, hh⟩ := hP
  have hx := Bd.exec
  have hby := Bd.bytes
  have hml : c.maxLocals = 5 := hml0
  have hown : s.vm.findClass "com/example/strict_codec/strictcodec/Utf8Grammar" = some m.cls := findClass_of_methodNamed Bd.named
  have hnm := (name_of_methodNamed Bd.named Bd.method).1
  have X0 : Stand p l e ({ frames := 0, cells := 0, slots := 0, locals := 0 } : Room) s m #[(.ref pr0), (.int (0 : Int32)), (.int (4 : Int32))] below meth c s₁ [] 0 0 := Stand.of_body Bd
  have e0 : s₁.heap = h0 := by rw [← hh, Bd.state]; rfl
  have N0 := Fr.nil n0
  obtain ⟨Go, hGo⟩ : ∃ P : State → Prop, ∀ t, P t ↔ Steps p.tables e below (s₁.setTop (entryFrame m #[(.ref pr0), (.int (0 : Int32)), (.int (4 : Int32))] 5)) t := ⟨_, fun _ => Iff.rfl⟩
  have pre0 : ∀ t, Steps p.tables e below (s₁.setTop (mkF m 0 #[rv pr0, iv (0 : Int32), iv (4 : Int32), .unset, .unset] [])) t → Go t := fun t k => (hGo t).mpr (castTop (ef_1a0l4 m pr0) k)
  have pre1 : ∀ t, Steps p.tables e below (s₁.setTop (mkF m 2 #[rv pr0, iv (0 : Int32), iv (4 : Int32), .unset, .unset] [(.int (0 : Int32)), (.ref pr0)])) t → Go t := fun t kt => pre0 t (by
      refine y_aloadN X0.here hx (hb hby d1_0) rfl rfl (pc' := 1) rfl ?_
      refine y_iloadN X0.here hx (hb hby d1_1) rfl (pc' := 2) rfl ?_
      exact kt)
  obtain ⟨c2, Ar2, q2, S2, M2, H2, G2⟩ := id V_pr0
  have hin2 : ¬ ((0 : Int32) < 0 ∨ c2.slots.size ≤ ((0 : Int32)).toNatClampNeg) := inb_of S2 ⟨by decide, by decide⟩
  have hat2 : c2.slots[((0 : Int32)).toNatClampNeg]? = some (.int y0) := Has.at H2 hin2 rfl
  have pre3 : ∀ t, Steps p.tables e below (s₁.setTop (mkF m 3 #[rv pr0, iv (0 : Int32), iv (4 : Int32), .unset, .unset] [(.int y0)])) t → Go t := fun t kt => pre1 t (by
      refine X0.baloadBytes hx (j := (0 : Int32)) (v := (.int y0)) (by rw [e0]; exact Ar2.1) (State.isArrayOf_alike hZ.alike Ar2.2.1) Ar2.2.2 hin2 hat2 (g := (mkF m 2 #[rv pr0, iv (0 : Int32), iv (4 : Int32), .unset, .unset] [(.int (0 : Int32)), (.ref pr0)])) rfl rfl (hb hby d1_2) _ ?_
      show Steps p.tables e below (s₁.setTop (mkF m 3 #[rv pr0, iv (0 : Int32), iv (4 : Int32), .unset, .unset] [(.int y0)])) _
      exact kt)
  obtain ⟨T4, X4, e4, st4⟩ := getS2 X0 hx hZ hown (host := "") (Or.inl (hw _ (List.mem_of_getElem? (i := 6) rfl))) Via.refl e0 (S_LEAD_PAYLOAD.ext O0.2) (g := (mkF m 3 #[rv pr0, iv (0 : Int32), iv (4 : Int32), .unset, .unset] [(.int y0)])) rfl (hb hby d1_3)
  have pre5 : ∀ t, Steps p.tables e below (T4.setTop (mkF m 6 #[rv pr0, iv (0 : Int32), iv (4 : Int32), .unset, .unset] [(.ref w_LEAD_PAYLOAD), (.int y0)])) t → Go t := fun t kt => pre3 t (st4 t kt)
  have pre6 : ∀ t, Steps p.tables e below (T4.setTop (mkF m 7 #[rv pr0, iv (0 : Int32), iv (4 : Int32), .unset, .unset] [(.int (4 : Int32)), (.ref w_LEAD_PAYLOAD), (.int y0)])) t → Go t := fun t kt => pre5 t (by
      refine y_iloadN X4.here hx (hb hby d1_6) rfl (pc' := 7) rfl ?_
      exact kt)
  have A7 := AR_w_LEAD_PAYLOAD.ext O0.2
  obtain ⟨x8, hx8⟩ : ∃ z : Int32, z = (y0 &&& (7 : Int32)) := ⟨_, rfl⟩
  have pre9 : ∀ t, Steps p.tables e below (T4.setTop (mkF m 10 #[rv pr0, iv (0 : Int32), iv (4 : Int32), iv x8, .unset] [])) t → Go t := fun t kt => pre6 t (by
      subst hx8
      refine X4.iaload hx (j := (4 : Int32)) (v := (.int (7 : Int32))) (by rw [e4]; exact A7.1) (State.isArrayOf_alike hZ.alike A7.2.1) A7.2.2 IN4_w_LEAD_PAYLOAD AT4_w_LEAD_PAYLOAD (g := (mkF m 7 #[rv pr0, iv (0 : Int32), iv (4 : Int32), .unset, .unset] [(.int (4 : Int32)), (.ref w_LEAD_PAYLOAD), (.int y0)])) rfl rfl (hb hby d1_7) _ ?_
      show Steps p.tables e below (T4.setTop (mkF m 8 #[rv pr0, iv (0 : Int32), iv (4 : Int32), .unset, .unset] [(.int (7 : Int32)), (.int y0)])) _
      refine y_iand X4.here hx (hb hby d1_8) rfl (pc' := 9) rfl ?_
      refine y_istoreN X4.here hx (hb hby d1_9) (l' := #[rv pr0, iv (0 : Int32), iv (4 : Int32), iv (y0 &&& (7 : Int32)), .unset]) rfl (pc' := 10) rfl ?_
      exact kt)
  have pre10 : ∀ t, Steps p.tables e below (T4.setTop (mkF m 28 #[rv pr0, iv (0 : Int32), iv (4 : Int32), iv x8, iv (1 : Int32)] [(.int (1 : Int32)), (.ref pr0), (.int (x8 <<< ((6 : Int32) &&& 31)))])) t → Go t := fun t kt => pre9 t (by
      refine y_iconst X4.here hx (hb hby d1_10) (v := (1 : Int32)) rfl (pc' := 11) rfl ?_
      refine y_istore X4.here hx (hb hby d1_11) (l' := #[rv pr0, iv (0 : Int32), iv (4 : Int32), iv x8, iv (1 : Int32)]) rfl (pc' := 13) rfl ?_
      refine y_iload X4.here hx (hb hby d1_13) rfl (pc' := 15) rfl ?_
      refine y_iloadN X4.here hx (hb hby d1_15) rfl (pc' := 16) rfl ?_
      refine y_icmpNo X4.here hx (hb hby d1_16) (tlt (by decide : (1 : Int32) < (4 : Int32))).2.1 (pc' := 19) rfl ?_
      refine y_iloadN X4.here hx (hb hby d1_19) rfl (pc' := 20) rfl ?_
      refine y_bipush X4.here hx (hb hby d1_20) (v := (6 : Int32)) rfl (pc' := 22) rfl ?_
      refine y_ishl X4.here hx (hb hby d1_22) (z := (x8 <<< ((6 : Int32) &&& 31))) rfl (pc' := 23) rfl ?_
      refine y_aloadN X4.here hx (hb hby d1_23) rfl rfl (pc' := 24) rfl ?_
      refine y_iloadN X4.here hx (hb hby d1_24) rfl (pc' := 25) rfl ?_
      refine y_iload X4.here hx (hb hby d1_25) rfl (pc' := 27) rfl ?_
      refine y_iadd X4.here hx (hb hby d1_27) (z := (1 : Int32)) rfl (pc' := 28) rfl ?_
      exact kt)
  obtain ⟨c11, Ar11, q11, S11, M11, H11, G11⟩ := id V_pr0
  have hin11 : ¬ ((1 : Int32) < 0 ∨ c11.slots.size ≤ ((1 : Int32)).toNatClampNeg) := inb_of S11 ⟨by decide, by decide⟩
  have hat11 : c11.slots[((1 : Int32)).toNatClampNeg]? = some (.int y1) := Has.at H11 hin11 rfl
  obtain ⟨x12, hx12⟩ : ∃ z : Int32, z = ((x8 <<< ((6 : Int32) &&& 31)) ||| (y1 &&& (63 : Int32))) := ⟨_, rfl⟩
  have pre13 : ∀ t, Steps p.tables e below (T4.setTop (mkF m 34 #[rv pr0, iv (0 : Int32), iv (4 : Int32), iv x12, iv (1 : Int32)] [])) t → Go t := fun t kt => pre10 t (by
      subst hx12
      refine X4.baloadBytes hx (j := (1 : Int32)) (v := (.int y1)) (by rw [e4]; exact Ar11.1) (State.isArrayOf_alike hZ.alike Ar11.2.1) Ar11.2.2 hin11 hat11 (g := (mkF m 28 #[rv pr0, iv (0 : Int32), iv (4 : Int32), iv x8, iv (1 : Int32)] [(.int (1 : Int32)), (.ref pr0), (.int (x8 <<< ((6 : Int32) &&& 31)))])) rfl rfl (hb hby d1_28) _ ?_
      show Steps p.tables e below (T4.setTop (mkF m 29 #[rv pr0, iv (0 : Int32), iv (4 : Int32), iv x8, iv (1 : Int32)] [(.int y1), (.int (x8 <<< ((6 : Int32) &&& 31)))])) _
      refine y_bipush X4.here hx (hb hby d1_29) (v := (63 : Int32)) rfl (pc' := 31) rfl ?_
      refine y_iand X4.here hx (hb hby d1_31) rfl (pc' := 32) rfl ?_
      refine y_ior X4.here hx (hb hby d1_32) rfl (pc' := 33) rfl ?_
      refine y_istoreN X4.here hx (hb hby d1_33) (l' := #[rv pr0, iv (0 : Int32), iv (4 : Int32), iv ((x8 <<< ((6 : Int32) &&& 31)) ||| (y1 &&& (63 : Int32))), iv (1 : Int32)]) rfl (pc' := 34) rfl ?_
      exact kt)
  have pre14 : ∀ t, Steps p.tables e below (T4.setTop (mkF m 28 #[rv pr0, iv (0 : Int32), iv (4 : Int32), iv x12, iv (2 : Int32)] [(.int (2 : Int32)), (.ref pr0), (.int (x12 <<< ((6 : Int32) &&& 31)))])) t → Go t := fun t kt => pre13 t (by
      refine y_iinc X4.here hx (hb hby d1_34) rfl (l' := #[rv pr0, iv (0 : Int32), iv (4 : Int32), iv x12, iv (2 : Int32)]) rfl (pc' := 37) rfl ?_
      refine y_goto X4.here hx (hb hby d1_37) (pc' := 13) (by decide) rfl ?_
      refine y_iload X4.here hx (hb hby d1_13) rfl (pc' := 15) rfl ?_
      refine y_iloadN X4.here hx (hb hby d1_15) rfl (pc' := 16) rfl ?_
      refine y_icmpNo X4.here hx (hb hby d1_16) (tlt (by decide : (2 : Int32) < (4 : Int32))).2.1 (pc' := 19) rfl ?_
      refine y_iloadN X4.here hx (hb hby d1_19) rfl (pc' := 20) rfl ?_
      refine y_bipush X4.here hx (hb hby d1_20) (v := (6 : Int32)) rfl (pc' := 22) rfl ?_
      refine y_ishl X4.here hx (hb hby d1_22) (z := (x12 <<< ((6 : Int32) &&& 31))) rfl (pc' := 23) rfl ?_
      refine y_aloadN X4.here hx (hb hby d1_23) rfl rfl (pc' := 24) rfl ?_
      refine y_iloadN X4.here hx (hb hby d1_24) rfl (pc' := 25) rfl ?_
      refine y_iload X4.here hx (hb hby d1_25) rfl (pc' := 27) rfl ?_
      refine y_iadd X4.here hx (hb hby d1_27) (z := (2 : Int32)) rfl (pc' := 28) rfl ?_
      exact kt)
  obtain ⟨c15, Ar15, q15, S15, M15, H15, G15⟩ := id V_pr0
  have hin15 : ¬ ((2 : Int32) < 0 ∨ c15.slots.size ≤ ((2 : Int32)).toNatClampNeg) := inb_of S15 ⟨by decide, by decide⟩
  have hat15 : c15.slots[((2 : Int32)).toNatClampNeg]? = some (.int y2) := Has.at H15 hin15 rfl
  obtain ⟨x16, hx16⟩ : ∃ z : Int32, z = ((x12 <<< ((6 : Int32) &&& 31)) ||| (y2 &&& (63 : Int32))) := ⟨_, rfl⟩
  have pre17 : ∀ t, Steps p.tables e below (T4.setTop (mkF m 34 #[rv pr0, iv (0 : Int32), iv (4 : Int32), iv x16, iv (2 : Int32)] [])) t → Go t := fun t kt => pre14 t (by
      subst hx16
      refine X4.baloadBytes hx (j := (2 : Int32)) (v := (.int y2)) (by rw [e4]; exact Ar15.1) (State.isArrayOf_alike hZ.alike Ar15.2.1) Ar15.2.2 hin15 hat15 (g := (mkF m 28 #[rv pr0, iv (0 : Int32), iv (4 : Int32), iv x12, iv (2 : Int32)] [(.int (2 : Int32)), (.ref pr0), (.int (x12 <<< ((6 : Int32) &&& 31)))])) rfl rfl (hb hby d1_28) _ ?_
      show Steps p.tables e below (T4.setTop (mkF m 29 #[rv pr0, iv (0 : Int32), iv (4 : Int32), iv x12, iv (2 : Int32)] [(.int y2), (.int (x12 <<< ((6 : Int32) &&& 31)))])) _
      refine y_bipush X4.here hx (hb hby d1_29) (v := (63 : Int32)) rfl (pc' := 31) rfl ?_
      refine y_iand X4.here hx (hb hby d1_31) rfl (pc' := 32) rfl ?_
      refine y_ior X4.here hx (hb hby d1_32) rfl (pc' := 33) rfl ?_
      refine y_istoreN X4.here hx (hb hby d1_33) (l' := #[rv pr0, iv (0 : Int32), iv (4 : Int32), iv ((x12 <<< ((6 : Int32) &&& 31)) ||| (y2 &&& (63 : Int32))), iv (2 : Int32)]) rfl (pc' := 34) rfl ?_
      exact kt)
  have pre18 : ∀ t, Steps p.tables e below (T4.setTop (mkF m 28 #[rv pr0, iv (0 : Int32), iv (4 : Int32), iv x16, iv (3 : Int32)] [(.int (3 : Int32)), (.ref pr0), (.int (x16 <<< ((6 : Int32) &&& 31)))])) t → Go t := fun t kt => pre17 t (by
      refine y_iinc X4.here hx (hb hby d1_34) rfl (l' := #[rv pr0, iv (0 : Int32), iv (4 : Int32), iv x16, iv (3 : Int32)]) rfl (pc' := 37) rfl ?_
      refine y_goto X4.here hx (hb hby d1_37) (pc' := 13) (by decide) rfl ?_
      refine y_iload X4.here hx (hb hby d1_13) rfl (pc' := 15) rfl ?_
      refine y_iloadN X4.here hx (hb hby d1_15) rfl (pc' := 16) rfl ?_
      refine y_icmpNo X4.here hx (hb hby d1_16) (tlt (by decide : (3 : Int32) < (4 : Int32))).2.1 (pc' := 19) rfl ?_
      refine y_iloadN X4.here hx (hb hby d1_19) rfl (pc' := 20) rfl ?_
      refine y_bipush X4.here hx (hb hby d1_20) (v := (6 : Int32)) rfl (pc' := 22) rfl ?_
      refine y_ishl X4.here hx (hb hby d1_22) (z := (x16 <<< ((6 : Int32) &&& 31))) rfl (pc' := 23) rfl ?_
      refine y_aloadN X4.here hx (hb hby d1_23) rfl rfl (pc' := 24) rfl ?_
      refine y_iloadN X4.here hx (hb hby d1_24) rfl (pc' := 25) rfl ?_
      refine y_iload X4.here hx (hb hby d1_25) rfl (pc' := 27) rfl ?_
      refine y_iadd X4.here hx (hb hby d1_27) (z := (3 : Int32)) rfl (pc' := 28) rfl ?_
      exact kt)
  obtain ⟨c19, Ar19, q19, S19, M19, H19, G19⟩ := id V_pr0
  have hin19 : ¬ ((3 : Int32) < 0 ∨ c19.slots.size ≤ ((3 : Int32)).toNatClampNeg) := inb_of S19 ⟨by decide, by decide⟩
  have hat19 : c19.slots[((3 : Int32)).toNatClampNeg]? = some (.int y3) := Has.at H19 hin19 rfl
  obtain ⟨x20, hx20⟩ : ∃ z : Int32, z = ((x16 <<< ((6 : Int32) &&& 31)) ||| (y3 &&& (63 : Int32))) := ⟨_, rfl⟩
  have pre21 : ∀ t, Steps p.tables e below (T4.setTop (mkF m 34 #[rv pr0, iv (0 : Int32), iv (4 : Int32), iv x20, iv (3 : Int32)] [])) t → Go t := fun t kt => pre18 t (by
      subst hx20
      refine X4.baloadBytes hx (j := (3 : Int32)) (v := (.int y3)) (by rw [e4]; exact Ar19.1) (State.isArrayOf_alike hZ.alike Ar19.2.1) Ar19.2.2 hin19 hat19 (g := (mkF m 28 #[rv pr0, iv (0 : Int32), iv (4 : Int32), iv x16, iv (3 : Int32)] [(.int (3 : Int32)), (.ref pr0), (.int (x16 <<< ((6 : Int32) &&& 31)))])) rfl rfl (hb hby d1_28) _ ?_
      show Steps p.tables e below (T4.setTop (mkF m 29 #[rv pr0, iv (0 : Int32), iv (4 : Int32), iv x16, iv (3 : Int32)] [(.int y3), (.int (x16 <<< ((6 : Int32) &&& 31)))])) _
      refine y_bipush X4.here hx (hb hby d1_29) (v := (63 : Int32)) rfl (pc' := 31) rfl ?_
      refine y_iand X4.here hx (hb hby d1_31) rfl (pc' := 32) rfl ?_
      refine y_ior X4.here hx (hb hby d1_32) rfl (pc' := 33) rfl ?_
      refine y_istoreN X4.here hx (hb hby d1_33) (l' := #[rv pr0, iv (0 : Int32), iv (4 : Int32), iv ((x16 <<< ((6 : Int32) &&& 31)) ||| (y3 &&& (63 : Int32))), iv (3 : Int32)]) rfl (pc' := 34) rfl ?_
      exact kt)
  have pre22 : ∀ t, Steps p.tables e below (T4.setTop (mkF m 41 #[rv pr0, iv (0 : Int32), iv (4 : Int32), iv x20, iv (4 : Int32)] [(.int x20)])) t → Go t := fun t kt => pre21 t (by
      refine y_iinc X4.here hx (hb hby d1_34) rfl (l' := #[rv pr0, iv (0 : Int32), iv (4 : Int32), iv x20, iv (4 : Int32)]) rfl (pc' := 37) rfl ?_
      refine y_goto X4.here hx (hb hby d1_37) (pc' := 13) (by decide) rfl ?_
      refine y_iload X4.here hx (hb hby d1_13) rfl (pc' := 15) rfl ?_
      refine y_iloadN X4.here hx (hb hby d1_15) rfl (pc' := 16) rfl ?_
      refine y_icmpYes X4.here hx (hb hby d1_16) (flt (by decide : ¬ ((4 : Int32) < (4 : Int32)))).2.1 (pc' := 40) (by decide) rfl ?_
      refine y_iloadN X4.here hx (hb hby d1_40) rfl (pc' := 41) rfl ?_
      exact kt)
  obtain ⟨fs, hr, hrun, hended, hW, hsame⟩ := X4.leave (v := some (.int x20)) (fun h => by rw [Bd.returns] at h; cases h)
  refine ⟨_, _, (hGo _).mp (pre22 _ ?_), hrun, hended, _, _, rfl, ?_, ⟨_, rfl⟩, hW, hsame.mono (by decide) (by decide)⟩
  · exact retOut X4 hx Bd.returns rfl (Or.inl ⟨rfl, Or.inl rfl, _, rfl⟩) (hb hby d1_41) hr
  · show Q1a0l4 Z pr0 w_LEAD_PAYLOAD kk_pr0 y0 y1 y2 y3 y4 y5 y6 y7 cc_w_LEAD_PAYLOAD h0 n0 _ T4.heap _
    rw [e4]
    subst hx8 hx12 hx16 hx20
    exact ⟨rfl, N0, rfl⟩
theorem ef_1a1l4 (m : MethodId) (x0 : Addr) : entryFrame m #[(.ref x0), (.int (1 : Int32)), (.int (4 : Int32))] 5 = mkF m 0 #[rv x0, iv (1 : Int32), iv (4 : Int32), .unset, .unset] [] := by first | (simp [entryFrame, mkF, argsToLocals, Value.category]; done) | rfl
def Q1a1l4 (Z : State) (pr0 : Addr) (w_LEAD_PAYLOAD : Addr) (kk_pr0 : ClassId) (y0 : Int32) (y1 : Int32) (y2 : Int32) (y3 : Int32) (y4 : Int32) (y5 : Int32) (y6 : Int32) (y7 : Int32) (cc_w_LEAD_PAYLOAD : Cell) (h0 : Heap) (n0 : Nat) (v : Option Value) (h : Heap) (L : List Loc) : Prop := v = some (.int (((((((y1 &&& (7 : Int32)) <<< ((6 : Int32) &&& 31)) ||| (y2 &&& (63 : Int32))) <<< ((6 : Int32) &&& 31)) ||| (y3 &&& (63 : Int32))) <<< ((6 : Int32) &&& 31)) ||| (y4 &&& (63 : Int32)))) ∧ Fr n0 L ∧ h = h0
set_option maxRecDepth 65536 in
set_option maxHeartbeats 40000000 in
theorem rm1a1l4 (l : Launch) (Z : State) (a0 : Array Value) (hw : ∀ d ∈ tables_1, d.before a0 Z = true) (ws : List Jvm.Cond) (pr0 : Addr) (w_LEAD_PAYLOAD : Addr) (kk_pr0 : ClassId) (y0 : Int32) (y1 : Int32) (y2 : Int32) (y3 : Int32) (y4 : Int32) (y5 : Int32) (y6 : Int32) (y7 : Int32) (cc_w_LEAD_PAYLOAD : Cell) (h0 : Heap) (n0 : Nat) (O0 : Old Z n0 h0) (S_LEAD_PAYLOAD : Sta Z Z.heap "com/example/strict_codec/strictcodec/Utf8Grammar" "LEAD_PAYLOAD" "[I" (.ref w_LEAD_PAYLOAD)) (V_pr0 : Arv Z h0 pr0 kk_pr0 .byte (8 : Int32) [(.int y0), (.int y1), (.int y2), (.int y3), (.int y4), (.int y5), (.int y6), (.int y7)] (.int (0 : Int32))) (AR_w_LEAD_PAYLOAD : Arr Z Z.heap w_LEAD_PAYLOAD cc_w_LEAD_PAYLOAD .int) (IN4_w_LEAD_PAYLOAD : ¬ ((4 : Int32) < 0 ∨ cc_w_LEAD_PAYLOAD.slots.size ≤ (4 : Int32).toNatClampNeg)) (AT4_w_LEAD_PAYLOAD : cc_w_LEAD_PAYLOAD.slots[(4 : Int32).toNatClampNeg]? = some (.int (7 : Int32))) :
    MetFree l (⟨"com/example/strict_codec/strictcodec/Utf8Grammar", "scalarValue", "([BII)I"⟩ : MethodName) (head1 (Jvm.Cond.code (⟨"com/example/strict_codec/strictcodec/Utf8Grammar", "scalarValue", "([BII)I"⟩ : MethodName) prog_19_method_14_code 5 (some .int) :: ws) ({ frames := 0, cells := 0, slots := 0, locals := 0 } : Room)) (fun a U => a = #[(.ref pr0), (.int (1 : Int32)), (.int (4 : Int32))] ∧ Z.Warmed39 U.vm ∧ U.heap = h0) (fun _ _ _ _ _ => True) (fun _ U o U' => ∃ v L, o = .returned v ∧ Q1a1l4 Z pr0 w_LEAD_PAYLOAD kk_pr0 y0 y1 y2 y3 y4 y5 y6 y7 cc_w_LEAD_PAYLOAD h0 n0 v U'.heap L ∧ FrameEnd U o U' L ({ frames := 0, cells := 0, slots := 0, locals := 0 } : Room).cells ({ frames := 0, cells := 0, slots := 0, locals := 0 } : Room).slots) := by
  refine MetFree.of_bodySF (plainFor_of_name pn_com_example_strict_codec_strictcodec_Utf8Grammar) hisR ?_
  intro p e s m args below meth c s₁ Bd hml0 hP hK
  obtain ⟨rfl, hZ, hh⟩ := hP
  have hx := Bd.exec
  have hby := Bd.bytes
  have hml : c.maxLocals = 5 := hml0
  have hown : s.vm.findClass "com/example/strict_codec/strictcodec/Utf8Grammar" = some m.cls := findClass_of_methodNamed Bd.named
  have hnm := (name_of_methodNamed Bd.named Bd.method).1
  have X0 : Stand p l e ({ frames := 0, cells := 0, slots := 0, locals := 0 } : Room) s m #[(.ref pr0), (.int (1 : Int32)), (.int (4 : Int32))] below meth c s₁ [] 0 0 := Stand.of_body Bd
  have e0 : s₁.heap = h0 := by rw [← hh, Bd.state]; rfl
  have N0 := Fr.nil n0
  obtain ⟨Go, hGo⟩ : ∃ P : State → Prop, ∀ t, P t ↔ Steps p.tables e below (s₁.setTop (entryFrame m #[(.ref pr0), (.int (1 : Int32)), (.int (4 : Int32))] 5)) t := ⟨_, fun _ => Iff.rfl⟩
  have pre0 : ∀ t, Steps p.tables e below (s₁.setTop (mkF m 0 #[rv pr0, iv (1 : Int32), iv (4 : Int32), .unset, .unset] [])) t → Go t := fun t k => (hGo t).mpr (castTop (ef_1a1l4 m pr0) k)
  have pre1 : ∀ t, Steps p.tables e below (s₁.setTop (mkF m 2 #[rv pr0, iv (1 : Int32), iv (4 : Int32), .unset, .unset] [(.int (1 : Int32)), (.ref pr0)])) t → Go t := fun t kt => pre0 t (by
      refine y_aloadN X0.here hx (hb hby d1_0) rfl rfl (pc' := 1) rfl ?_
      refine y_iloadN X0.here hx (hb hby d1_1) rfl (pc' := 2) rfl ?_
      exact kt)
  obtain ⟨c2, Ar2, q2, S2, M2, H2, G2⟩ := id V_pr0
  have hin2 : ¬ ((1 : Int32) < 0 ∨ c2.slots.size ≤ ((1 : Int32)).toNatClampNeg) := inb_of S2 ⟨by decide, by decide⟩
  have hat2 : c2.slots[((1 : Int32)).toNatClampNeg]? = some (.int y1) := Has.at H2 hin2 rfl
  have pre3 : ∀ t, Steps p.tables e below (s₁.setTop (mkF m 3 #[rv pr0, iv (1 : Int32), iv (4 : Int32), .unset, .unset] [(.int y1)])) t → Go t := fun t kt => pre1 t (by
      refine X0.baloadBytes hx (j := (1 : Int32)) (v := (.int y1)) (by rw [e0]; exact Ar2.1) (State.isArrayOf_alike hZ.alike Ar2.2.1) Ar2.2.2 hin2 hat2 (g := (mkF m 2 #[rv pr0, iv (1 : Int32), iv (4 : Int32), .unset, .unset] [(.int (1 : Int32)), (.ref pr0)])) rfl rfl (hb hby d1_2) _ ?_
      show Steps p.tables e below (s₁.setTop (mkF m 3 #[rv pr0, iv (1 : Int32), iv (4 : Int32), .unset, .unset] [(.int y1)])) _
      exact kt)
  obtain ⟨T4, X4, e4, st4⟩ := getS2 X0 hx hZ hown (host := "") (Or.inl (hw _ (List.mem_of_getElem? (i := 6) rfl))) Via.refl e0 (S_LEAD_PAYLOAD.ext O0.2) (g := (mkF m 3 #[rv pr0, iv (1 : Int32), iv (4 : Int32), .unset, .unset] [(.int y1)])) rfl (hb hby d1_3)
  have pre5 : ∀ t, Steps p.tables e below (T4.setTop (mkF m 6 #[rv pr0, iv (1 : Int32), iv (4 : Int32), .unset, .unset] [(.ref w_LEAD_PAYLOAD), (.int y1)])) t → Go t := fun t kt => pre3 t (st4 t kt)
  have pre6 : ∀ t, Steps p.tables e below (T4.setTop (mkF m 7 #[rv pr0, iv (1 : Int32), iv (4 : Int32), .unset, .unset] [(.int (4 : Int32)), (.ref w_LEAD_PAYLOAD), (.int y1)])) t → Go t := fun t kt => pre5 t (by
      refine y_iloadN X4.here hx (hb hby d1_6) rfl (pc' := 7) rfl ?_
      exact kt)
  have A7 := AR_w_LEAD_PAYLOAD.ext O0.2
  obtain ⟨x8, hx8⟩ : ∃ z : Int32, z = (y1 &&& (7 : Int32)) := ⟨_, rfl⟩
  have pre9 : ∀ t, Steps p.tables e below (T4.setTop (mkF m 10 #[rv pr0, iv (1 : Int32), iv (4 : Int32), iv x8, .unset] [])) t → Go t := fun t kt => pre6 t (by
      subst hx8
      refine X4.iaload hx (j := (4 : Int32)) (v := (.int (7 : Int32))) (by rw [e4]; exact A7.1) (State.isArrayOf_alike hZ.alike A7.2.1) A7.2.2 IN4_w_LEAD_PAYLOAD AT4_w_LEAD_PAYLOAD (g := (mkF m 7 #[rv pr0, iv (1 : Int32), iv (4 : Int32), .unset, .unset] [(.int (4 : Int32)), (.ref w_LEAD_PAYLOAD), (.int y1)])) rfl rfl (hb hby d1_7) _ ?_
      show Steps p.tables e below (T4.setTop (mkF m 8 #[rv pr0, iv (1 : Int32), iv (4 : Int32), .unset, .unset] [(.int (7 : Int32)), (.int y1)])) _
      refine y_iand X4.here hx (hb hby d1_8) rfl (pc' := 9) rfl ?_
      refine y_istoreN X4.here hx (hb hby d1_9) (l' := #[rv pr0, iv (1 : Int32), iv (4 : Int32), iv (y1 &&& (7 : Int32)), .unset]) rfl (pc' := 10) rfl ?_
      exact kt)
  have pre10 : ∀ t, Steps p.tables e below (T4.setTop (mkF m 28 #[rv pr0, iv (1 : Int32), iv (4 : Int32), iv x8, iv (1 : Int32)] [(.int (2 : Int32)), (.ref pr0), (.int (x8 <<< ((6 : Int32) &&& 31)))])) t → Go t := fun t kt => pre9 t (by
      refine y_iconst X4.here hx (hb hby d1_10) (v := (1 : Int32)) rfl (pc' := 11) rfl ?_
      refine y_istore X4.here hx (hb hby d1_11) (l' := #[rv pr0, iv (1 : Int32), iv (4 : Int32), iv x8, iv (1 : Int32)]) rfl (pc' := 13) rfl ?_
      refine y_iload X4.here hx (hb hby d1_13) rfl (pc' := 15) rfl ?_
      refine y_iloadN X4.here hx (hb hby d1_15) rfl (pc' := 16) rfl ?_
      refine y_icmpNo X4.here hx (hb hby d1_16) (tlt (by decide : (1 : Int32) < (4 : Int32))).2.1 (pc' := 19) rfl ?_
      refine y_iloadN X4.here hx (hb hby d1_19) rfl (pc' := 20) rfl ?_
      refine y_bipush X4.here hx (hb hby d1_20) (v := (6 : Int32)) rfl (pc' := 22) rfl ?_
      refine y_ishl X4.here hx (hb hby d1_22) (z := (x8 <<< ((6 : Int32) &&& 31))) rfl (pc' := 23) rfl ?_
      refine y_aloadN X4.here hx (hb hby d1_23) rfl rfl (pc' := 24) rfl ?_
      refine y_iloadN X4.here hx (hb hby d1_24) rfl (pc' := 25) rfl ?_
      refine y_iload X4.here hx (hb hby d1_25) rfl (pc' := 27) rfl ?_
      refine y_iadd X4.here hx (hb hby d1_27) (z := (2 : Int32)) rfl (pc' := 28) rfl ?_
      exact kt)
  obtain ⟨c11, Ar11, q11, S11, M11, H11, G11⟩ := id V_pr0
  have hin11 : ¬ ((2 : Int32) < 0 ∨ c11.slots.size ≤ ((2 : Int32)).toNatClampNeg) := inb_of S11 ⟨by decide, by decide⟩
  have hat11 : c11.slots[((2 : Int32)).toNatClampNeg]? = some (.int y2) := Has.at H11 hin11 rfl
  obtain ⟨x12, hx12⟩ : ∃ z : Int32, z = ((x8 <<< ((6 : Int32) &&& 31)) ||| (y2 &&& (63 : Int32))) := ⟨_, rfl⟩
  have pre13 : ∀ t, Steps p.tables e below (T4.setTop (mkF m 34 #[rv pr0, iv (1 : Int32), iv (4 : Int32), iv x12, iv (1 : Int32)] [])) t → Go t := fun t kt => pre10 t (by
      subst hx12
      refine X4.baloadBytes hx (j := (2 : Int32)) (v := (.int y2)) (by rw [e4]; exact Ar11.1) (State.isArrayOf_alike hZ.alike Ar11.2.1) Ar11.2.2 hin11 hat11 (g := (mkF m 28 #[rv pr0, iv (1 : Int32), iv (4 : Int32), iv x8, iv (1 : Int32)] [(.int (2 : Int32)), (.ref pr0), (.int (x8 <<< ((6 : Int32) &&& 31)))])) rfl rfl (hb hby d1_28) _ ?_
      show Steps p.tables e below (T4.setTop (mkF m 29 #[rv pr0, iv (1 : Int32), iv (4 : Int32), iv x8, iv (1 : Int32)] [(.int y2), (.int (x8 <<< ((6 : Int32) &&& 31)))])) _
      refine y_bipush X4.here hx (hb hby d1_29) (v := (63 : Int32)) rfl (pc' := 31) rfl ?_
      refine y_iand X4.here hx (hb hby d1_31) rfl (pc' := 32) rfl ?_
      refine y_ior X4.here hx (hb hby d1_32) rfl (pc' := 33) rfl ?_
      refine y_istoreN X4.here hx (hb hby d1_33) (l' := #[rv pr0, iv (1 : Int32), iv (4 : Int32), iv ((x8 <<< ((6 : Int32) &&& 31)) ||| (y2 &&& (63 : Int32))), iv (1 : Int32)]) rfl (pc' := 34) rfl ?_
      exact kt)
  have pre14 : ∀ t, Steps p.tables e below (T4.setTop (mkF m 28 #[rv pr0, iv (1 : Int32), iv (4 : Int32), iv x12, iv (2 : Int32)] [(.int (3 : Int32)), (.ref pr0), (.int (x12 <<< ((6 : Int32) &&& 31)))])) t → Go t := fun t kt => pre13 t (by
      refine y_iinc X4.here hx (hb hby d1_34) rfl (l' := #[rv pr0, iv (1 : Int32), iv (4 : Int32), iv x12, iv (2 : Int32)]) rfl (pc' := 37) rfl ?_
      refine y_goto X4.here hx (hb hby d1_37) (pc' := 13) (by decide) rfl ?_
      refine y_iload X4.here hx (hb hby d1_13) rfl (pc' := 15) rfl ?_
      refine y_iloadN X4.here hx (hb hby d1_15) rfl (pc' := 16) rfl ?_
      refine y_icmpNo X4.here hx (hb hby d1_16) (tlt (by decide : (2 : Int32) < (4 : Int32))).2.1 (pc' := 19) rfl ?_
      refine y_iloadN X4.here hx (hb hby d1_19) rfl (pc' := 20) rfl ?_
      refine y_bipush X4.here hx (hb hby d1_20) (v := (6 : Int32)) rfl (pc' := 22) rfl ?_
      refine y_ishl X4.here hx (hb hby d1_22) (z := (x12 <<< ((6 : Int32) &&& 31))) rfl (pc' := 23) rfl ?_
      refine y_aloadN X4.here hx (hb hby d1_23) rfl rfl (pc' := 24) rfl ?_
      refine y_iloadN X4.here hx (hb hby d1_24) rfl (pc' := 25) rfl ?_
      refine y_iload X4.here hx (hb hby d1_25) rfl (pc' := 27) rfl ?_
      refine y_iadd X4.here hx (hb hby d1_27) (z := (3 : Int32)) rfl (pc' := 28) rfl ?_
      exact kt)
  obtain ⟨c15, Ar15, q15, S15, M15, H15, G15⟩ := id V_pr0
  have hin15 : ¬ ((3 : Int32) < 0 ∨ c15.slots.size ≤ ((3 : Int32)).toNatClampNeg) := inb_of S15 ⟨by decide, by decide⟩
  have hat15 : c15.slots[((3 : Int32)).toNatClampNeg]? = some (.int y3) := Has.at H15 hin15 rfl
  obtain ⟨x16, hx16⟩ : ∃ z : Int32, z = ((x12 <<< ((6 : Int32) &&& 31)) ||| (y3 &&& (63 : Int32))) := ⟨_, rfl⟩
  have pre17 : ∀ t, Steps p.tables e below (T4.setTop (mkF m 34 #[rv pr0, iv (1 : Int32), iv (4 : Int32), iv x16, iv (2 : Int32)] [])) t → Go t := fun t kt => pre14 t (by
      subst hx16
      refine X4.baloadBytes hx (j := (3 : Int32)) (v := (.int y3)) (by rw [e4]; exact Ar15.1) (State.isArrayOf_alike hZ.alike Ar15.2.1) Ar15.2.2 hin15 hat15 (g := (mkF m 28 #[rv pr0, iv (1 : Int32), iv (4 : Int32), iv x12, iv (2 : Int32)] [(.int (3 : Int32)), (.ref pr0), (.int (x12 <<< ((6 : Int32) &&& 31)))])) rfl rfl (hb hby d1_28) _ ?_
      show Steps p.tables e below (T4.setTop (mkF m 29 #[rv pr0, iv (1 : Int32), iv (4 : Int32), iv x12, iv (2 : Int32)] [(.int y3), (.int (x12 <<< ((6 : Int32) &&& 31)))])) _
      refine y_bipush X4.here hx (hb hby d1_29) (v := (63 : Int32)) rfl (pc' := 31) rfl ?_
      refine y_iand X4.here hx (hb hby d1_31) rfl (pc' := 32) rfl ?_
      refine y_ior X4.here hx (hb hby d1_32) rfl (pc' := 33) rfl ?_
      refine y_istoreN X4.here hx (hb hby d1_33) (l' := #[rv pr0, iv (1 : Int32), iv (4 : Int32), iv ((x12 <<< ((6 : Int32) &&& 31)) ||| (y3 &&& (63 : Int32))), iv (2 : Int32)]) rfl (pc' := 34) rfl ?_
      exact kt)
  have pre18 : ∀ t, Steps p.tables e below (T4.setTop (mkF m 28 #[rv pr0, iv (1 : Int32), iv (4 : Int32), iv x16, iv (3 : Int32)] [(.int (4 : Int32)), (.ref pr0), (.int (x16 <<< ((6 : Int32) &&& 31)))])) t → Go t := fun t kt => pre17 t (by
      refine y_iinc X4.here hx (hb hby d1_34) rfl (l' := #[rv pr0, iv (1 : Int32), iv (4 : Int32), iv x16, iv (3 : Int32)]) rfl (pc' := 37) rfl ?_
      refine y_goto X4.here hx (hb hby d1_37) (pc' := 13) (by decide) rfl ?_
      refine y_iload X4.here hx (hb hby d1_13) rfl (pc' := 15) rfl ?_
      refine y_iloadN X4.here hx (hb hby d1_15) rfl (pc' := 16) rfl ?_
      refine y_icmpNo X4.here hx (hb hby d1_16) (tlt (by decide : (3 : Int32) < (4 : Int32))).2.1 (pc' := 19) rfl ?_
      refine y_iloadN X4.here hx (hb hby d1_19) rfl (pc' := 20) rfl ?_
      refine y_bipush X4.here hx (hb hby d1_20) (v := (6 : Int32)) rfl (pc' := 22) rfl ?_
      refine y_ishl X4.here hx (hb hby d1_22) (z := (x16 <<< ((6 : Int32) &&& 31))) rfl (pc' := 23) rfl ?_
      refine y_aloadN X4.here hx (hb hby d1_23) rfl rfl (pc' := 24) rfl ?_
      refine y_iloadN X4.here hx (hb hby d1_24) rfl (pc' := 25) rfl ?_
      refine y_iload X4.here hx (hb hby d1_25) rfl (pc' := 27) rfl ?_
      refine y_iadd X4.here hx (hb hby d1_27) (z := (4 : Int32)) rfl (pc' := 28) rfl ?_
      exact kt)
  obtain ⟨c19, Ar19, q19, S19, M19, H19, G19⟩ := id V_pr0
  have hin19 : ¬ ((4 : Int32) < 0 ∨ c19.slots.size ≤ ((4 : Int32)).toNatClampNeg) := inb_of S19 ⟨by decide, by decide⟩
  have hat19 : c19.slots[((4 : Int32)).toNatClampNeg]? = some (.int y4) := Has.at H19 hin19 rfl
  obtain ⟨x20, hx20⟩ : ∃ z : Int32, z = ((x16 <<< ((6 : Int32) &&& 31)) ||| (y4 &&& (63 : Int32))) := ⟨_, rfl⟩
  have pre21 : ∀ t, Steps p.tables e below (T4.setTop (mkF m 34 #[rv pr0, iv (1 : Int32), iv (4 : Int32), iv x20, iv (3 : Int32)] [])) t → Go t := fun t kt => pre18 t (by
      subst hx20
      refine X4.baloadBytes hx (j := (4 : Int32)) (v := (.int y4)) (by rw [e4]; exact Ar19.1) (State.isArrayOf_alike hZ.alike Ar19.2.1) Ar19.2.2 hin19 hat19 (g := (mkF m 28 #[rv pr0, iv (1 : Int32), iv (4 : Int32), iv x16, iv (3 : Int32)] [(.int (4 : Int32)), (.ref pr0), (.int (x16 <<< ((6 : Int32) &&& 31)))])) rfl rfl (hb hby d1_28) _ ?_
      show Steps p.tables e below (T4.setTop (mkF m 29 #[rv pr0, iv (1 : Int32), iv (4 : Int32), iv x16, iv (3 : Int32)] [(.int y4), (.int (x16 <<< ((6 : Int32) &&& 31)))])) _
      refine y_bipush X4.here hx (hb hby d1_29) (v := (63 : Int32)) rfl (pc' := 31) rfl ?_
      refine y_iand X4.here hx (hb hby d1_31) rfl (pc' := 32) rfl ?_
      refine y_ior X4.here hx (hb hby d1_32) rfl (pc' := 33) rfl ?_
      refine y_istoreN X4.here hx (hb hby d1_33) (l' := #[rv pr0, iv (1 : Int32), iv (4 : Int32), iv ((x16 <<< ((6 : Int32) &&& 31)) ||| (y4 &&& (63 : Int32))), iv (3 : Int32)]) rfl (pc' := 34) rfl ?_
      exact kt)
  have pre22 : ∀ t, Steps p.tables e below (T4.setTop (mkF m 41 #[rv pr0, iv (1 : Int32), iv (4 : Int32), iv x20, iv (4 : Int32)] [(.int x20)])) t → Go t := fun t kt => pre21 t (by
      refine y_iinc X4.here hx (hb hby d1_34) rfl (l' := #[rv pr0, iv (1 : Int32), iv (4 : Int32), iv x20, iv (4 : Int32)]) rfl (pc' := 37) rfl ?_
      refine y_goto X4.here hx (hb hby d1_37) (pc' := 13) (by decide) rfl ?_
      refine y_iload X4.here hx (hb hby d1_13) rfl (pc' := 15) rfl ?_
      refine y_iloadN X4.here hx (hb hby d1_15) rfl (pc' := 16) rfl ?_
      refine y_icmpYes X4.here hx (hb hby d1_16) (flt (by decide : ¬ ((4 : Int32) < (4 : Int32)))).2.1 (pc' := 40) (by decide) rfl ?_
      refine y_iloadN X4.here hx (hb hby d1_40) rfl (pc' := 41) rfl ?_
      exact kt)
  obtain ⟨fs, hr, hrun, hended, hW, hsame⟩ := X4.leave (v := some (.int x20)) (fun h => by rw [Bd.returns] at h; cases h)
  refine ⟨_, _, (hGo _).mp (pre22 _ ?_), hrun, hended, _, _, rfl, ?_, ⟨_, rfl⟩, hW, hsame.mono (by decide) (by decide)⟩
  · exact retOut X4 hx Bd.returns rfl (Or.inl ⟨rfl, Or.inl rfl, _, rfl⟩) (hb hby d1_41) hr
  · show Q1a1l4 Z pr0 w_LEAD_PAYLOAD kk_pr0 y0 y1 y2 y3 y4 y5 y6 y7 cc_w_LEAD_PAYLOAD h0 n0 _ T4.heap _
    rw [e4]
    subst hx8 hx12 hx16 hx20
    exact ⟨rfl, N0, rfl⟩
theorem ef_1a2l4 (m : MethodId) (x0 : Addr) : entryFrame m #[(.ref x0), (.int (2 : Int32)), (.int (4 : Int32))] 5 = mkF m 0 #[rv x0, iv (2 : Int32), iv (4 : Int32), .unset, .unset] [] := by first | (simp [entryFrame, mkF, argsToLocals, Value.category]; done) | rfl
def Q1a2l4 (Z : State) (pr0 : Addr) (w_LEAD_PAYLOAD : Addr) (kk_pr0 : ClassId) (y0 : Int32) (y1 : Int32) (y2 : Int32) (y3 : Int32) (y4 : Int32) (y5 : Int32) (y6 : Int32) (y7 : Int32) (cc_w_LEAD_PAYLOAD : Cell) (h0 : Heap) (n0 : Nat) (v : Option Value) (h : Heap) (L : List Loc) : Prop := v = some (.int (((((((y2 &&& (7 : Int32)) <<< ((6 : Int32) &&& 31)) ||| (y3 &&& (63 : Int32))) <<< ((6 : Int32) &&& 31)) ||| (y4 &&& (63 : Int32))) <<< ((6 : Int32) &&& 31)) ||| (y5 &&& (63 : Int32)))) ∧ Fr n0 L ∧ h = h0
set_option maxRecDepth 65536 in
set_option maxHeartbeats 40000000 in
theorem rm1a2l4 (l : Launch) (Z : State) (a0 : Array Value) (hw : ∀ d ∈ tables_1, d.before a0 Z = true) (ws : List Jvm.Cond) (pr0 : Addr) (w_LEAD_PAYLOAD : Addr) (kk_pr0 : ClassId) (y0 : Int32) (y1 : Int32) (y2 : Int32) (y3 : Int32) (y4 : Int32) (y5 : Int32) (y6 : Int32) (y7 : Int32) (cc_w_LEAD_PAYLOAD : Cell) (h0 : Heap) (n0 : Nat) (O0 : Old Z n0 h0) (S_LEAD_PAYLOAD : Sta Z Z.heap "com/example/strict_codec/strictcodec/Utf8Grammar" "LEAD_PAYLOAD" "[I" (.ref w_LEAD_PAYLOAD)) (V_pr0 : Arv Z h0 pr0 kk_pr0 .byte (8 : Int32) [(.int y0), (.int y1), (.int y2), (.int y3), (.int y4), (.int y5), (.int y6), (.int y7)] (.int (0 : Int32))) (AR_w_LEAD_PAYLOAD : Arr Z Z.heap w_LEAD_PAYLOAD cc_w_LEAD_PAYLOAD .int) (IN4_w_LEAD_PAYLOAD : ¬ ((4 : Int32) < 0 ∨ cc_w_LEAD_PAYLOAD.slots.size ≤ (4 : Int32).toNatClampNeg)) (AT4_w_LEAD_PAYLOAD : cc_w_LEAD_PAYLOAD.slots[(4 : Int32).toNatClampNeg]? = some (.int (7 : Int32))) :
    MetFree l (⟨"com/example/strict_codec/strictcodec/Utf8Grammar", "scalarValue", "([BII)I"⟩ : MethodName) (head1 (Jvm.Cond.code (⟨"com/example/strict_codec/strictcodec/Utf8Grammar", "scalarValue", "([BII)I"⟩ : MethodName) prog_19_method_14_code 5 (some .int) :: ws) ({ frames := 0, cells := 0, slots := 0, locals := 0 } : Room)) (fun a U => a = #[(.ref pr0), (.int (2 : Int32)), (.int (4 : Int32))] ∧ Z.Warmed39 U.vm ∧ U.heap = h0) (fun _ _ _ _ _ => True) (fun _ U o U' => ∃ v L, o = .returned v ∧ Q1a2l4 Z pr0 w_LEAD_PAYLOAD kk_pr0 y0 y1 y2 y3 y4 y5 y6 y7 cc_w_LEAD_PAYLOAD h0 n0 v U'.heap L ∧ FrameEnd U o U' L ({ frames := 0, cells := 0, slots := 0, locals := 0 } : Room).cells ({ frames := 0, cells := 0, slots := 0, locals := 0 } : Room).slots) := by
  refine MetFree.of_bodySF (plainFor_of_name pn_com_example_strict_codec_strictcodec_Utf8Grammar) hisR ?_
  intro p e s m args below meth c s₁ Bd hml0 hP hK
  obtain ⟨rfl, hZ, hh⟩ := hP
  have hx := Bd.exec
  have hby := Bd.bytes
  have hml : c.maxLocals = 5 := hml0
  have hown : s.vm.findClass "com/example/strict_codec/strictcodec/Utf8Grammar" = some m.cls := findClass_of_methodNamed Bd.named
  have hnm := (name_of_methodNamed Bd.named Bd.method).1
  have X0 : Stand p l e ({ frames := 0, cells := 0, slots := 0, locals := 0 } : Room) s m #[(.ref pr0), (.int (2 : Int32)), (.int (4 : Int32))] below meth c s₁ [] 0 0 := Stand.of_body Bd
  have e0 : s₁.heap = h0 := by rw [← hh, Bd.state]; rfl
  have N0 := Fr.nil n0
  obtain ⟨Go, hGo⟩ : ∃ P : State → Prop, ∀ t, P t ↔ Steps p.tables e below (s₁.setTop (entryFrame m #[(.ref pr0), (.int (2 : Int32)), (.int (4 : Int32))] 5)) t := ⟨_, fun _ => Iff.rfl⟩
  have pre0 : ∀ t, Steps p.tables e below (s₁.setTop (mkF m 0 #[rv pr0, iv (2 : Int32), iv (4 : Int32), .unset, .unset] [])) t → Go t := fun t k => (hGo t).mpr (castTop (ef_1a2l4 m pr0) k)
  have pre1 : ∀ t, Steps p.tables e below (s₁.setTop (mkF m 2 #[rv pr0, iv (2 : Int32), iv (4 : Int32), .unset, .unset] [(.int (2 : Int32)), (.ref pr0)])) t → Go t := fun t kt => pre0 t (by
      refine y_aloadN X0.here hx (hb hby d1_0) rfl rfl (pc' := 1) rfl ?_
      refine y_iloadN X0.here hx (hb hby d1_1) rfl (pc' := 2) rfl ?_
      exact kt)
  obtain ⟨c2, Ar2, q2, S2, M2, H2, G2⟩ := id V_pr0
  have hin2 : ¬ ((2 : Int32) < 0 ∨ c2.slots.size ≤ ((2 : Int32)).toNatClampNeg) := inb_of S2 ⟨by decide, by decide⟩
  have hat2 : c2.slots[((2 : Int32)).toNatClampNeg]? = some (.int y2) := Has.at H2 hin2 rfl
  have pre3 : ∀ t, Steps p.tables e below (s₁.setTop (mkF m 3 #[rv pr0, iv (2 : Int32), iv (4 : Int32), .unset, .unset] [(.int y2)])) t → Go t := fun t kt => pre1 t (by
      refine X0.baloadBytes hx (j := (2 : Int32)) (v := (.int y2)) (by rw [e0]; exact Ar2.1) (State.isArrayOf_alike hZ.alike Ar2.2.1) Ar2.2.2 hin2 hat2 (g := (mkF m 2 #[rv pr0, iv (2 : Int32), iv (4 : Int32), .unset, .unset] [(.int (2 : Int32)), (.ref pr0)])) rfl rfl (hb hby d1_2) _ ?_
      show Steps p.tables e below (s₁.setTop (mkF m 3 #[rv pr0, iv (2 : Int32), iv (4 : Int32), .unset, .unset] [(.int y2)])) _
      exact kt)
  obtain ⟨T4, X4, e4, st4⟩ := getS2 X0 hx hZ hown (host := "") (Or.inl (hw _ (List.mem_of_getElem? (i := 6) rfl))) Via.refl e0 (S_LEAD_PAYLOAD.ext O0.2) (g := (mkF m 3 #[rv pr0, iv (2 : Int32), iv (4 : Int32), .unset, .unset] [(.int y2)])) rfl (hb hby d1_3)
  have pre5 : ∀ t, Steps p.tables e below (T4.setTop (mkF m 6 #[rv pr0, iv (2 : Int32), iv (4 : Int32), .unset, .unset] [(.ref w_LEAD_PAYLOAD), (.int y2)])) t → Go t := fun t kt => pre3 t (st4 t kt)
  have pre6 : ∀ t, Steps p.tables e below (T4.setTop (mkF m 7 #[rv pr0, iv (2 : Int32), iv (4 : Int32), .unset, .unset] [(.int (4 : Int32)), (.ref w_LEAD_PAYLOAD), (.int y2)])) t → Go t := fun t kt => pre5 t (by
      refine y_iloadN X4.here hx (hb hby d1_6) rfl (pc' := 7) rfl ?_
      exact kt)
  have A7 := AR_w_LEAD_PAYLOAD.ext O0.2
  obtain ⟨x8, hx8⟩ : ∃ z : Int32, z = (y2 &&& (7 : Int32)) := ⟨_, rfl⟩
  have pre9 : ∀ t, Steps p.tables e below (T4.setTop (mkF m 10 #[rv pr0, iv (2 : Int32), iv (4 : Int32), iv x8, .unset] [])) t → Go t := fun t kt => pre6 t (by
      subst hx8
      refine X4.iaload hx (j := (4 : Int32)) (v := (.int (7 : Int32))) (by rw [e4]; exact A7.1) (State.isArrayOf_alike hZ.alike A7.2.1) A7.2.2 IN4_w_LEAD_PAYLOAD AT4_w_LEAD_PAYLOAD (g := (mkF m 7 #[rv pr0, iv (2 : Int32), iv (4 : Int32), .unset, .unset] [(.int (4 : Int32)), (.ref w_LEAD_PAYLOAD), (.int y2)])) rfl rfl (hb hby d1_7) _ ?_
      show Steps p.tables e below (T4.setTop (mkF m 8 #[rv pr0, iv (2 : Int32), iv (4 : Int32), .unset, .unset] [(.int (7 : Int32)), (.int y2)])) _
      refine y_iand X4.here hx (hb hby d1_8) rfl (pc' := 9) rfl ?_
      refine y_istoreN X4.here hx (hb hby d1_9) (l' := #[rv pr0, iv (2 : Int32), iv (4 : Int32), iv (y2 &&& (7 : Int32)), .unset]) rfl (pc' := 10) rfl ?_
      exact kt)
  have pre10 : ∀ t, Steps p.tables e below (T4.setTop (mkF m 28 #[rv pr0, iv (2 : Int32), iv (4 : Int32), iv x8, iv (1 : Int32)] [(.int (3 : Int32)), (.ref pr0), (.int (x8 <<< ((6 : Int32) &&& 31)))])) t → Go t := fun t kt => pre9 t (by
      refine y_iconst X4.here hx (hb hby d1_10) (v := (1 : Int32)) rfl (pc' := 11) rfl ?_
      refine y_istore X4.here hx (hb hby d1_11) (l' := #[rv pr0, iv (2 : Int32), iv (4 : Int32), iv x8, iv (1 : Int32)]) rfl (pc' := 13) rfl ?_
      refine y_iload X4.here hx (hb hby d1_13) rfl (pc' := 15) rfl ?_
      refine y_iloadN X4.here hx (hb hby d1_15) rfl (pc' := 16) rfl ?_
      refine y_icmpNo X4.here hx (hb hby d1_16) (tlt (by decide : (1 : Int32) < (4 : Int32))).2.1 (pc' := 19) rfl ?_
      refine y_iloadN X4.here hx (hb hby d1_19) rfl (pc' := 20) rfl ?_
      refine y_bipush X4.here hx (hb hby d1_20) (v := (6 : Int32)) rfl (pc' := 22) rfl ?_
      refine y_ishl X4.here hx (hb hby d1_22) (z := (x8 <<< ((6 : Int32) &&& 31))) rfl (pc' := 23) rfl ?_
      refine y_aloadN X4.here hx (hb hby d1_23) rfl rfl (pc' := 24) rfl ?_
      refine y_iloadN X4.here hx (hb hby d1_24) rfl (pc' := 25) rfl ?_
      refine y_iload X4.here hx (hb hby d1_25) rfl (pc' := 27) rfl ?_
      refine y_iadd X4.here hx (hb hby d1_27) (z := (3 : Int32)) rfl (pc' := 28) rfl ?_
      exact kt)
  obtain ⟨c11, Ar11, q11, S11, M11, H11, G11⟩ := id V_pr0
  have hin11 : ¬ ((3 : Int32) < 0 ∨ c11.slots.size ≤ ((3 : Int32)).toNatClampNeg) := inb_of S11 ⟨by decide, by decide⟩
  have hat11 : c11.slots[((3 : Int32)).toNatClampNeg]? = some (.int y3) := Has.at H11 hin11 rfl
  obtain ⟨x12, hx12⟩ : ∃ z : Int32, z = ((x8 <<< ((6 : Int32) &&& 31)) ||| (y3 &&& (63 : Int32))) := ⟨_, rfl⟩
  have pre13 : ∀ t, Steps p.tables e below (T4.setTop (mkF m 34 #[rv pr0, iv (2 : Int32), iv (4 : Int32), iv x12, iv (1 : Int32)] [])) t → Go t := fun t kt => pre10 t (by
      subst hx12
      refine X4.baloadBytes hx (j := (3 : Int32)) (v := (.int y3)) (by rw [e4]; exact Ar11.1) (State.isArrayOf_alike hZ.alike Ar11.2.1) Ar11.2.2 hin11 hat11 (g := (mkF m 28 #[rv pr0, iv (2 : Int32), iv (4 : Int32), iv x8, iv (1 : Int32)] [(.int (3 : Int32)), (.ref pr0), (.int (x8 <<< ((6 : Int32) &&& 31)))])) rfl rfl (hb hby d1_28) _ ?_
      show Steps p.tables e below (T4.setTop (mkF m 29 #[rv pr0, iv (2 : Int32), iv (4 : Int32), iv x8, iv (1 : Int32)] [(.int y3), (.int (x8 <<< ((6 : Int32) &&& 31)))])) _
      refine y_bipush X4.here hx (hb hby d1_29) (v := (63 : Int32)) rfl (pc' := 31) rfl ?_
      refine y_iand X4.here hx (hb hby d1_31) rfl (pc' := 32) rfl ?_
      refine y_ior X4.here hx (hb hby d1_32) rfl (pc' := 33) rfl ?_
      refine y_istoreN X4.here hx (hb hby d1_33) (l' := #[rv pr0, iv (2 : Int32), iv (4 : Int32), iv ((x8 <<< ((6 : Int32) &&& 31)) ||| (y3 &&& (63 : Int32))), iv (1 : Int32)]) rfl (pc' := 34) rfl ?_
      exact kt)
  have pre14 : ∀ t, Steps p.tables e below (T4.setTop (mkF m 28 #[rv pr0, iv (2 : Int32), iv (4 : Int32), iv x12, iv (2 : Int32)] [(.int (4 : Int32)), (.ref pr0), (.int (x12 <<< ((6 : Int32) &&& 31)))])) t → Go t := fun t kt => pre13 t (by
      refine y_iinc X4.here hx (hb hby d1_34) rfl (l' := #[rv pr0, iv (2 : Int32), iv (4 : Int32), iv x12, iv (2 : Int32)]) rfl (pc' := 37) rfl ?_
      refine y_goto X4.here hx (hb hby d1_37) (pc' := 13) (by decide) rfl ?_
      refine y_iload X4.here hx (hb hby d1_13) rfl (pc' := 15) rfl ?_
      refine y_iloadN X4.here hx (hb hby d1_15) rfl (pc' := 16) rfl ?_
      refine y_icmpNo X4.here hx (hb hby d1_16) (tlt (by decide : (2 : Int32) < (4 : Int32))).2.1 (pc' := 19) rfl ?_
      refine y_iloadN X4.here hx (hb hby d1_19) rfl (pc' := 20) rfl ?_
      refine y_bipush X4.here hx (hb hby d1_20) (v := (6 : Int32)) rfl (pc' := 22) rfl ?_
      refine y_ishl X4.here hx (hb hby d1_22) (z := (x12 <<< ((6 : Int32) &&& 31))) rfl (pc' := 23) rfl ?_
      refine y_aloadN X4.here hx (hb hby d1_23) rfl rfl (pc' := 24) rfl ?_
      refine y_iloadN X4.here hx (hb hby d1_24) rfl (pc' := 25) rfl ?_
      refine y_iload X4.here hx (hb hby d1_25) rfl (pc' := 27) rfl ?_
      refine y_iadd X4.here hx (hb hby d1_27) (z := (4 : Int32)) rfl (pc' := 28) rfl ?_
      exact kt)
  obtain ⟨c15, Ar15, q15, S15, M15, H15, G15⟩ := id V_pr0
  have hin15 : ¬ ((4 : Int32) < 0 ∨ c15.slots.size ≤ ((4 : Int32)).toNatClampNeg) := inb_of S15 ⟨by decide, by decide⟩
  have hat15 : c15.slots[((4 : Int32)).toNatClampNeg]? = some (.int y4) := Has.at H15 hin15 rfl
  obtain ⟨x16, hx16⟩ : ∃ z : Int32, z = ((x12 <<< ((6 : Int32) &&& 31)) ||| (y4 &&& (63 : Int32))) := ⟨_, rfl⟩
  have pre17 : ∀ t, Steps p.tables e below (T4.setTop (mkF m 34 #[rv pr0, iv (2 : Int32), iv (4 : Int32), iv x16, iv (2 : Int32)] [])) t → Go t := fun t kt => pre14 t (by
      subst hx16
      refine X4.baloadBytes hx (j := (4 : Int32)) (v := (.int y4)) (by rw [e4]; exact Ar15.1) (State.isArrayOf_alike hZ.alike Ar15.2.1) Ar15.2.2 hin15 hat15 (g := (mkF m 28 #[rv pr0, iv (2 : Int32), iv (4 : Int32), iv x12, iv (2 : Int32)] [(.int (4 : Int32)), (.ref pr0), (.int (x12 <<< ((6 : Int32) &&& 31)))])) rfl rfl (hb hby d1_28) _ ?_
      show Steps p.tables e below (T4.setTop (mkF m 29 #[rv pr0, iv (2 : Int32), iv (4 : Int32), iv x12, iv (2 : Int32)] [(.int y4), (.int (x12 <<< ((6 : Int32) &&& 31)))])) _
      refine y_bipush X4.here hx (hb hby d1_29) (v := (63 : Int32)) rfl (pc' := 31) rfl ?_
      refine y_iand X4.here hx (hb hby d1_31) rfl (pc' := 32) rfl ?_
      refine y_ior X4.here hx (hb hby d1_32) rfl (pc' := 33) rfl ?_
      refine y_istoreN X4.here hx (hb hby d1_33) (l' := #[rv pr0, iv (2 : Int32), iv (4 : Int32), iv ((x12 <<< ((6 : Int32) &&& 31)) ||| (y4 &&& (63 : Int32))), iv (2 : Int32)]) rfl (pc' := 34) rfl ?_
      exact kt)
  have pre18 : ∀ t, Steps p.tables e below (T4.setTop (mkF m 28 #[rv pr0, iv (2 : Int32), iv (4 : Int32), iv x16, iv (3 : Int32)] [(.int (5 : Int32)), (.ref pr0), (.int (x16 <<< ((6 : Int32) &&& 31)))])) t → Go t := fun t kt => pre17 t (by
      refine y_iinc X4.here hx (hb hby d1_34) rfl (l' := #[rv pr0, iv (2 : Int32), iv (4 : Int32), iv x16, iv (3 : Int32)]) rfl (pc' := 37) rfl ?_
      refine y_goto X4.here hx (hb hby d1_37) (pc' := 13) (by decide) rfl ?_
      refine y_iload X4.here hx (hb hby d1_13) rfl (pc' := 15) rfl ?_
      refine y_iloadN X4.here hx (hb hby d1_15) rfl (pc' := 16) rfl ?_
      refine y_icmpNo X4.here hx (hb hby d1_16) (tlt (by decide : (3 : Int32) < (4 : Int32))).2.1 (pc' := 19) rfl ?_
      refine y_iloadN X4.here hx (hb hby d1_19) rfl (pc' := 20) rfl ?_
      refine y_bipush X4.here hx (hb hby d1_20) (v := (6 : Int32)) rfl (pc' := 22) rfl ?_
      refine y_ishl X4.here hx (hb hby d1_22) (z := (x16 <<< ((6 : Int32) &&& 31))) rfl (pc' := 23) rfl ?_
      refine y_aloadN X4.here hx (hb hby d1_23) rfl rfl (pc' := 24) rfl ?_
      refine y_iloadN X4.here hx (hb hby d1_24) rfl (pc' := 25) rfl ?_
      refine y_iload X4.here hx (hb hby d1_25) rfl (pc' := 27) rfl ?_
      refine y_iadd X4.here hx (hb hby d1_27) (z := (5 : Int32)) rfl (pc' := 28) rfl ?_
      exact kt)
  obtain ⟨c19, Ar19, q19, S19, M19, H19, G19⟩ := id V_pr0
  have hin19 : ¬ ((5 : Int32) < 0 ∨ c19.slots.size ≤ ((5 : Int32)).toNatClampNeg) := inb_of S19 ⟨by decide, by decide⟩
  have hat19 : c19.slots[((5 : Int32)).toNatClampNeg]? = some (.int y5) := Has.at H19 hin19 rfl
  obtain ⟨x20, hx20⟩ : ∃ z : Int32, z = ((x16 <<< ((6 : Int32) &&& 31)) ||| (y5 &&& (63 : Int32))) := ⟨_, rfl⟩
  have pre21 : ∀ t, Steps p.tables e below (T4.setTop (mkF m 34 #[rv pr0, iv (2 : Int32), iv (4 : Int32), iv x20, iv (3 : Int32)] [])) t → Go t := fun t kt => pre18 t (by
      subst hx20
      refine X4.baloadBytes hx (j := (5 : Int32)) (v := (.int y5)) (by rw [e4]; exact Ar19.1) (State.isArrayOf_alike hZ.alike Ar19.2.1) Ar19.2.2 hin19 hat19 (g := (mkF m 28 #[rv pr0, iv (2 : Int32), iv (4 : Int32), iv x16, iv (3 : Int32)] [(.int (5 : Int32)), (.ref pr0), (.int (x16 <<< ((6 : Int32) &&& 31)))])) rfl rfl (hb hby d1_28) _ ?_
      show Steps p.tables e below (T4.setTop (mkF m 29 #[rv pr0, iv (2 : Int32), iv (4 : Int32), iv x16, iv (3 : Int32)] [(.int y5), (.int (x16 <<< ((6 : Int32) &&& 31)))])) _
      refine y_bipush X4.here hx (hb hby d1_29) (v := (63 : Int32)) rfl (pc' := 31) rfl ?_
      refine y_iand X4.here hx (hb hby d1_31) rfl (pc' := 32) rfl ?_
      refine y_ior X4.here hx (hb hby d1_32) rfl (pc' := 33) rfl ?_
      refine y_istoreN X4.here hx (hb hby d1_33) (l' := #[rv pr0, iv (2 : Int32), iv (4 : Int32), iv ((x16 <<< ((6 : Int32) &&& 31)) ||| (y5 &&& (63 : Int32))), iv (3 : Int32)]) rfl (pc' := 34) rfl ?_
      exact kt)
  have pre22 : ∀ t, Steps p.tables e below (T4.setTop (mkF m 41 #[rv pr0, iv (2 : Int32), iv (4 : Int32), iv x20, iv (4 : Int32)] [(.int x20)])) t → Go t := fun t kt => pre21 t (by
      refine y_iinc X4.here hx (hb hby d1_34) rfl (l' := #[rv pr0, iv (2 : Int32), iv (4 : Int32), iv x20, iv (4 : Int32)]) rfl (pc' := 37) rfl ?_
      refine y_goto X4.here hx (hb hby d1_37) (pc' := 13) (by decide) rfl ?_
      refine y_iload X4.here hx (hb hby d1_13) rfl (pc' := 15) rfl ?_
      refine y_iloadN X4.here hx (hb hby d1_15) rfl (pc' := 16) rfl ?_
      refine y_icmpYes X4.here hx (hb hby d1_16) (flt (by decide : ¬ ((4 : Int32) < (4 : Int32)))).2.1 (pc' := 40) (by decide) rfl ?_
      refine y_iloadN X4.here hx (hb hby d1_40) rfl (pc' := 41) rfl ?_
      exact kt)
  obtain ⟨fs, hr, hrun, hended, hW, hsame⟩ := X4.leave (v := some (.int x20)) (fun h => by rw [Bd.returns] at h; cases h)
  refine ⟨_, _, (hGo _).mp (pre22 _ ?_), hrun, hended, _, _, rfl, ?_, ⟨_, rfl⟩, hW, hsame.mono (by decide) (by decide)⟩
  · exact retOut X4 hx Bd.returns rfl (Or.inl ⟨rfl, Or.inl rfl, _, rfl⟩) (hb hby d1_41) hr
  · show Q1a2l4 Z pr0 w_LEAD_PAYLOAD kk_pr0 y0 y1 y2 y3 y4 y5 y6 y7 cc_w_LEAD_PAYLOAD h0 n0 _ T4.heap _
    rw [e4]
    subst hx8 hx12 hx16 hx20
    exact ⟨rfl, N0, rfl⟩
theorem ef_1a3l4 (m : MethodId) (x0 : Addr) : entryFrame m #[(.ref x0), (.int (3 : Int32)), (.int (4 : Int32))] 5 = mkF m 0 #[rv x0, iv (3 : Int32), iv (4 : Int32), .unset, .unset] [] := by first | (simp [entryFrame, mkF, argsToLocals, Value.category]; done) | rfl
def Q1a3l4 (Z : State) (pr0 : Addr) (w_LEAD_PAYLOAD : Addr) (kk_pr0 : ClassId) (y0 : Int32) (y1 : Int32) (y2 : Int32) (y3 : Int32) (y4 : Int32) (y5 : Int32) (y6 : Int32) (y7 : Int32) (cc_w_LEAD_PAYLOAD : Cell) (h0 : Heap) (n0 : Nat) (v : Option Value) (h : Heap) (L : List Loc) : Prop := v = some (.int (((((((y3 &&& (7 : Int32)) <<< ((6 : Int32) &&& 31)) ||| (y4 &&& (63 : Int32))) <<< ((6 : Int32) &&& 31)) ||| (y5 &&& (63 : Int32))) <<< ((6 : Int32) &&& 31)) ||| (y6 &&& (63 : Int32)))) ∧ Fr n0 L ∧ h = h0
set_option maxRecDepth 65536 in
set_option maxHeartbeats 40000000 in
theorem rm1a3l4 (l : Launch) (Z : State) (a0 : Array Value) (hw : ∀ d ∈ tables_1, d.before a0 Z = true) (ws : List Jvm.Cond) (pr0 : Addr) (w_LEAD_PAYLOAD : Addr) (kk_pr0 : ClassId) (y0 : Int32) (y1 : Int32) (y2 : Int32) (y3 : Int32) (y4 : Int32) (y5 : Int32) (y6 : Int32) (y7 : Int32) (cc_w_LEAD_PAYLOAD : Cell) (h0 : Heap) (n0 : Nat) (O0 : Old Z n0 h0) (S_LEAD_PAYLOAD : Sta Z Z.heap "com/example/strict_codec/strictcodec/Utf8Grammar" "LEAD_PAYLOAD" "[I" (.ref w_LEAD_PAYLOAD)) (V_pr0 : Arv Z h0 pr0 kk_pr0 .byte (8 : Int32) [(.int y0), (.int y1), (.int y2), (.int y3), (.int y4), (.int y5), (.int y6), (.int y7)] (.int (0 : Int32))) (AR_w_LEAD_PAYLOAD : Arr Z Z.heap w_LEAD_PAYLOAD cc_w_LEAD_PAYLOAD .int) (IN4_w_LEAD_PAYLOAD : ¬ ((4 : Int32) < 0 ∨ cc_w_LEAD_PAYLOAD.slots.size ≤ (4 : Int32).toNatClampNeg)) (AT4_w_LEAD_PAYLOAD : cc_w_LEAD_PAYLOAD.slots[(4 : Int32).toNatClampNeg]? = some (.int (7 : Int32))) :
    MetFree l (⟨"com/example/strict_codec/strictcodec/Utf8Grammar", "scalarValue", "([BII)I"⟩ : MethodName) (head1 (Jvm.Cond.code (⟨"com/example/strict_codec/strictcodec/Utf8Grammar", "scalarValue", "([BII)I"⟩ : MethodName) prog_19_method_14_code 5 (some .int) :: ws) ({ frames := 0, cells := 0, slots := 0, locals := 0 } : Room)) (fun a U => a = #[(.ref pr0), (.int (3 : Int32)), (.int (4 : Int32))] ∧ Z.Warmed39 U.vm ∧ U.heap = h0) (fun _ _ _ _ _ => True) (fun _ U o U' => ∃ v L, o = .returned v ∧ Q1a3l4 Z pr0 w_LEAD_PAYLOAD kk_pr0 y0 y1 y2 y3 y4 y5 y6 y7 cc_w_LEAD_PAYLOAD h0 n0 v U'.heap L ∧ FrameEnd U o U' L ({ frames := 0, cells := 0, slots := 0, locals := 0 } : Room).cells ({ frames := 0, cells := 0, slots := 0, locals := 0 } : Room).slots) := by
  refine MetFree.of_bodySF (plainFor_of_name pn_com_example_strict_codec_strictcodec_Utf8Grammar) hisR ?_
  intro p e s m args below meth c s₁ Bd hml0 hP hK
  obtain ⟨rfl, hZ, hh⟩ := hP
  have hx := Bd.exec
  have hby := Bd.bytes
  have hml : c.maxLocals = 5 := hml0
  have hown : s.vm.findClass "com/example/strict_codec/strictcodec/Utf8Grammar" = some m.cls := findClass_of_methodNamed Bd.named
  have hnm := (name_of_methodNamed Bd.named Bd.method).1
  have X0 : Stand p l e ({ frames := 0, cells := 0, slots := 0, locals := 0 } : Room) s m #[(.ref pr0), (.int (3 : Int32)), (.int (4 : Int32))] below meth c s₁ [] 0 0 := Stand.of_body Bd
  have e0 : s₁.heap = h0 := by rw [← hh, Bd.state]; rfl
  have N0 := Fr.nil n0
  obtain ⟨Go, hGo⟩ : ∃ P : State → Prop, ∀ t, P t ↔ Steps p.tables e below (s₁.setTop (entryFrame m #[(.ref pr0), (.int (3 : Int32)), (.int (4 : Int32))] 5)) t := ⟨_, fun _ => Iff.rfl⟩
  have pre0 : ∀ t, Steps p.tables e below (s₁.setTop (mkF m 0 #[rv pr0, iv (3 : Int32), iv (4 : Int32), .unset, .unset] [])) t → Go t := fun t k => (hGo t).mpr (castTop (ef_1a3l4 m pr0) k)
  have pre1 : ∀ t, Steps p.tables e below (s₁.setTop (mkF m 2 #[rv pr0, iv (3 : Int32), iv (4 : Int32), .unset, .unset] [(.int (3 : Int32)), (.ref pr0)])) t → Go t := fun t kt => pre0 t (by
      refine y_aloadN X0.here hx (hb hby d1_0) rfl rfl (pc' := 1) rfl ?_
      refine y_iloadN X0.here hx (hb hby d1_1) rfl (pc' := 2) rfl ?_
      exact kt)
  obtain ⟨c2, Ar2, q2, S2, M2, H2, G2⟩ := id V_pr0
  have hin2 : ¬ ((3 : Int32) < 0 ∨ c2.slots.size ≤ ((3 : Int32)).toNatClampNeg) := inb_of S2 ⟨by decide, by decide⟩
  have hat2 : c2.slots[((3 : Int32)).toNatClampNeg]? = some (.int y3) := Has.at H2 hin2 rfl
  have pre3 : ∀ t, Steps p.tables e below (s₁.setTop (mkF m 3 #[rv pr0, iv (3 : Int32), iv (4 : Int32), .unset, .unset] [(.int y3)])) t → Go t := fun t kt => pre1 t (by
      refine X0.baloadBytes hx (j := (3 : Int32)) (v := (.int y3)) (by rw [e0]; exact Ar2.1) (State.isArrayOf_alike hZ.alike Ar2.2.1) Ar2.2.2 hin2 hat2 (g := (mkF m 2 #[rv pr0, iv (3 : Int32), iv (4 : Int32), .unset, .unset] [(.int (3 : Int32)), (.ref pr0)])) rfl rfl (hb hby d1_2) _ ?_
      show Steps p.tables e below (s₁.setTop (mkF m 3 #[rv pr0, iv (3 : Int32), iv (4 : Int32), .unset, .unset] [(.int y3)])) _
      exact kt)
  obtain ⟨T4, X4, e4, st4⟩ := getS2 X0 hx hZ hown (host := "") (Or.inl (hw _ (List.mem_of_getElem? (i := 6) rfl))) Via.refl e0 (S_LEAD_PAYLOAD.ext O0.2) (g := (mkF m 3 #[rv pr0, iv (3 : Int32), iv (4 : Int32), .unset, .unset] [(.int y3)])) rfl (hb hby d1_3)
  have pre5 : ∀ t, Steps p.tables e below (T4.setTop (mkF m 6 #[rv pr0, iv (3 : Int32), iv (4 : Int32), .unset, .unset] [(.ref w_LEAD_PAYLOAD), (.int y3)])) t → Go t := fun t kt => pre3 t (st4 t kt)
  have pre6 : ∀ t, Steps p.tables e below (T4.setTop (mkF m 7 #[rv pr0, iv (3 : Int32), iv (4 : Int32), .unset, .unset] [(.int (4 : Int32)), (.ref w_LEAD_PAYLOAD), (.int y3)])) t → Go t := fun t kt => pre5 t (by
      refine y_iloadN X4.here hx (hb hby d1_6) rfl (pc' := 7) rfl ?_
      exact kt)
  have A7 := AR_w_LEAD_PAYLOAD.ext O0.2
  obtain ⟨x8, hx8⟩ : ∃ z : Int32, z = (y3 &&& (7 : Int32)) := ⟨_, rfl⟩
  have pre9 : ∀ t, Steps p.tables e below (T4.setTop (mkF m 10 #[rv pr0, iv (3 : Int32), iv (4 : Int32), iv x8, .unset] [])) t → Go t := fun t kt => pre6 t (by
      subst hx8
      refine X4.iaload hx (j := (4 : Int32)) (v := (.int (7 : Int32))) (by rw [e4]; exact A7.1) (State.isArrayOf_alike hZ.alike A7.2.1) A7.2.2 IN4_w_LEAD_PAYLOAD AT4_w_LEAD_PAYLOAD (g := (mkF m 7 #[rv pr0, iv (3 : Int32), iv (4 : Int32), .unset, .unset] [(.int (4 : Int32)), (.ref w_LEAD_PAYLOAD), (.int y3)])) rfl rfl (hb hby d1_7) _ ?_
      show Steps p.tables e below (T4.setTop (mkF m 8 #[rv pr0, iv (3 : Int32), iv (4 : Int32), .unset, .unset] [(.int (7 : Int32)), (.int y3)])) _
      refine y_iand X4.here hx (hb hby d1_8) rfl (pc' := 9) rfl ?_
      refine y_istoreN X4.here hx (hb hby d1_9) (l' := #[rv pr0, iv (3 : Int32), iv (4 : Int32), iv (y3 &&& (7 : Int32)), .unset]) rfl (pc' := 10) rfl ?_
      exact kt)
  have pre10 : ∀ t, Steps p.tables e below (T4.setTop (mkF m 28 #[rv pr0, iv (3 : Int32), iv (4 : Int32), iv x8, iv (1 : Int32)] [(.int (4 : Int32)), (.ref pr0), (.int (x8 <<< ((6 : Int32) &&& 31)))])) t → Go t := fun t kt => pre9 t (by
      refine y_iconst X4.here hx (hb hby d1_10) (v := (1 : Int32)) rfl (pc' := 11) rfl ?_
      refine y_istore X4.here hx (hb hby d1_11) (l' := #[rv pr0, iv (3 : Int32), iv (4 : Int32), iv x8, iv (1 : Int32)]) rfl (pc' := 13) rfl ?_
      refine y_iload X4.here hx (hb hby d1_13) rfl (pc' := 15) rfl ?_
      refine y_iloadN X4.here hx (hb hby d1_15) rfl (pc' := 16) rfl ?_
      refine y_icmpNo X4.here hx (hb hby d1_16) (tlt (by decide : (1 : Int32) < (4 : Int32))).2.1 (pc' := 19) rfl ?_
      refine y_iloadN X4.here hx (hb hby d1_19) rfl (pc' := 20) rfl ?_
      refine y_bipush X4.here hx (hb hby d1_20) (v := (6 : Int32)) rfl (pc' := 22) rfl ?_
      refine y_ishl X4.here hx (hb hby d1_22) (z := (x8 <<< ((6 : Int32) &&& 31))) rfl (pc' := 23) rfl ?_
      refine y_aloadN X4.here hx (hb hby d1_23) rfl rfl (pc' := 24) rfl ?_
      refine y_iloadN X4.here hx (hb hby d1_24) rfl (pc' := 25) rfl ?_
      refine y_iload X4.here hx (hb hby d1_25) rfl (pc' := 27) rfl ?_
      refine y_iadd X4.here hx (hb hby d1_27) (z := (4 : Int32)) rfl (pc' := 28) rfl ?_
      exact kt)
  obtain ⟨c11, Ar11, q11, S11, M11, H11, G11⟩ := id V_pr0
  have hin11 : ¬ ((4 : Int32) < 0 ∨ c11.slots.size ≤ ((4 : Int32)).toNatClampNeg) := inb_of S11 ⟨by decide, by decide⟩
  have hat11 : c11.slots[((4 : Int32)).toNatClampNeg]? = some (.int y4) := Has.at H11 hin11 rfl
  obtain ⟨x12, hx12⟩ : ∃ z : Int32, z = ((x8 <<< ((6 : Int32) &&& 31)) ||| (y4 &&& (63 : Int32))) := ⟨_, rfl⟩
  have pre13 : ∀ t, Steps p.tables e below (T4.setTop (mkF m 34 #[rv pr0, iv (3 : Int32), iv (4 : Int32), iv x12, iv (1 : Int32)] [])) t → Go t := fun t kt => pre10 t (by
      subst hx12
      refine X4.baloadBytes hx (j := (4 : Int32)) (v := (.int y4)) (by rw [e4]; exact Ar11.1) (State.isArrayOf_alike hZ.alike Ar11.2.1) Ar11.2.2 hin11 hat11 (g := (mkF m 28 #[rv pr0, iv (3 : Int32), iv (4 : Int32), iv x8, iv (1 : Int32)] [(.int (4 : Int32)), (.ref pr0), (.int (x8 <<< ((6 : Int32) &&& 31)))])) rfl rfl (hb hby d1_28) _ ?_
      show Steps p.tables e below (T4.setTop (mkF m 29 #[rv pr0, iv (3 : Int32), iv (4 : Int32), iv x8, iv (1 : Int32)] [(.int y4), (.int (x8 <<< ((6 : Int32) &&& 31)))])) _
      refine y_bipush X4.here hx (hb hby d1_29) (v := (63 : Int32)) rfl (pc' := 31) rfl ?_
      refine y_iand X4.here hx (hb hby d1_31) rfl (pc' := 32) rfl ?_
      refine y_ior X4.here hx (hb hby d1_32) rfl (pc' := 33) rfl ?_
      refine y_istoreN X4.here hx (hb hby d1_33) (l' := #[rv pr0, iv (3 : Int32), iv (4 : Int32), iv ((x8 <<< ((6 : Int32) &&& 31)) ||| (y4 &&& (63 : Int32))), iv (1 : Int32)]) rfl (pc' := 34) rfl ?_
      exact kt)
  have pre14 : ∀ t, Steps p.tables e below (T4.setTop (mkF m 28 #[rv pr0, iv (3 : Int32), iv (4 : Int32), iv x12, iv (2 : Int32)] [(.int (5 : Int32)), (.ref pr0), (.int (x12 <<< ((6 : Int32) &&& 31)))])) t → Go t := fun t kt => pre13 t (by
      refine y_iinc X4.here hx (hb hby d1_34) rfl (l' := #[rv pr0, iv (3 : Int32), iv (4 : Int32), iv x12, iv (2 : Int32)]) rfl (pc' := 37) rfl ?_
      refine y_goto X4.here hx (hb hby d1_37) (pc' := 13) (by decide) rfl ?_
      refine y_iload X4.here hx (hb hby d1_13) rfl (pc' := 15) rfl ?_
      refine y_iloadN X4.here hx (hb hby d1_15) rfl (pc' := 16) rfl ?_
      refine y_icmpNo X4.here hx (hb hby d1_16) (tlt (by decide : (2 : Int32) < (4 : Int32))).2.1 (pc' := 19) rfl ?_
      refine y_iloadN X4.here hx (hb hby d1_19) rfl (pc' := 20) rfl ?_
      refine y_bipush X4.here hx (hb hby d1_20) (v := (6 : Int32)) rfl (pc' := 22) rfl ?_
      refine y_ishl X4.here hx (hb hby d1_22) (z := (x12 <<< ((6 : Int32) &&& 31))) rfl (pc' := 23) rfl ?_
      refine y_aloadN X4.here hx (hb hby d1_23) rfl rfl (pc' := 24) rfl ?_
      refine y_iloadN X4.here hx (hb hby d1_24) rfl (pc' := 25) rfl ?_
      refine y_iload X4.here hx (hb hby d1_25) rfl (pc' := 27) rfl ?_
      refine y_iadd X4.here hx (hb hby d1_27) (z := (5 : Int32)) rfl (pc' := 28) rfl ?_
      exact kt)
  obtain ⟨c15, Ar15, q15, S15, M15, H15, G15⟩ := id V_pr0
  have hin15 : ¬ ((5 : Int32) < 0 ∨ c15.slots.size ≤ ((5 : Int32)).toNatClampNeg) := inb_of S15 ⟨by decide, by decide⟩
  have hat15 : c15.slots[((5 : Int32)).toNatClampNeg]? = some (.int y5) := Has.at H15 hin15 rfl
  obtain ⟨x16, hx16⟩ : ∃ z : Int32, z = ((x12 <<< ((6 : Int32) &&& 31)) ||| (y5 &&& (63 : Int32))) := ⟨_, rfl⟩
  have pre17 : ∀ t, Steps p.tables e below (T4.setTop (mkF m 34 #[rv pr0, iv (3 : Int32), iv (4 : Int32), iv x16, iv (2 : Int32)] [])) t → Go t := fun t kt => pre14 t (by
      subst hx16
      refine X4.baloadBytes hx (j := (5 : Int32)) (v := (.int y5)) (by rw [e4]; exact Ar15.1) (State.isArrayOf_alike hZ.alike Ar15.2.1) Ar15.2.2 hin15 hat15 (g := (mkF m 28 #[rv pr0, iv (3 : Int32), iv (4 : Int32), iv x12, iv (2 : Int32)] [(.int (5 : Int32)), (.ref pr0), (.int (x12 <<< ((6 : Int32) &&& 31)))])) rfl rfl (hb hby d1_28) _ ?_
      show Steps p.tables e below (T4.setTop (mkF m 29 #[rv pr0, iv (3 : Int32), iv (4 : Int32), iv x12, iv (2 : Int32)] [(.int y5), (.int (x12 <<< ((6 : Int32) &&& 31)))])) _
      refine y_bipush X4.here hx (hb hby d1_29) (v := (63 : Int32)) rfl (pc' := 31) rfl ?_
      refine y_iand X4.here hx (hb hby d1_31) rfl (pc' := 32) rfl ?_
      refine y_ior X4.here hx (hb hby d1_32) rfl (pc' := 33) rfl ?_
      refine y_istoreN X4.here hx (hb hby d1_33) (l' := #[rv pr0, iv (3 : Int32), iv (4 : Int32), iv ((x12 <<< ((6 : Int32) &&& 31)) ||| (y5 &&& (63 : Int32))), iv (2 : Int32)]) rfl (pc' := 34) rfl ?_
      exact kt)
  have pre18 : ∀ t, Steps p.tables e below (T4.setTop (mkF m 28 #[rv pr0, iv (3 : Int32), iv (4 : Int32), iv x16, iv (3 : Int32)] [(.int (6 : Int32)), (.ref pr0), (.int (x16 <<< ((6 : Int32) &&& 31)))])) t → Go t := fun t kt => pre17 t (by
      refine y_iinc X4.here hx (hb hby d1_34) rfl (l' := #[rv pr0, iv (3 : Int32), iv (4 : Int32), iv x16, iv (3 : Int32)]) rfl (pc' := 37) rfl ?_
      refine y_goto X4.here hx (hb hby d1_37) (pc' := 13) (by decide) rfl ?_
      refine y_iload X4.here hx (hb hby d1_13) rfl (pc' := 15) rfl ?_
      refine y_iloadN X4.here hx (hb hby d1_15) rfl (pc' := 16) rfl ?_
      refine y_icmpNo X4.here hx (hb hby d1_16) (tlt (by decide : (3 : Int32) < (4 : Int32))).2.1 (pc' := 19) rfl ?_
      refine y_iloadN X4.here hx (hb hby d1_19) rfl (pc' := 20) rfl ?_
      refine y_bipush X4.here hx (hb hby d1_20) (v := (6 : Int32)) rfl (pc' := 22) rfl ?_
      refine y_ishl X4.here hx (hb hby d1_22) (z := (x16 <<< ((6 : Int32) &&& 31))) rfl (pc' := 23) rfl ?_
      refine y_aloadN X4.here hx (hb hby d1_23) rfl rfl (pc' := 24) rfl ?_
      refine y_iloadN X4.here hx (hb hby d1_24) rfl (pc' := 25) rfl ?_
      refine y_iload X4.here hx (hb hby d1_25) rfl (pc' := 27) rfl ?_
      refine y_iadd X4.here hx (hb hby d1_27) (z := (6 : Int32)) rfl (pc' := 28) rfl ?_
      exact kt)
  obtain ⟨c19, Ar19, q19, S19, M19, H19, G19⟩ := id V_pr0
  have hin19 : ¬ ((6 : Int32) < 0 ∨ c19.slots.size ≤ ((6 : Int32)).toNatClampNeg) := inb_of S19 ⟨by decide, by decide⟩
  have hat19 : c19.slots[((6 : Int32)).toNatClampNeg]? = some (.int y6) := Has.at H19 hin19 rfl
  obtain ⟨x20, hx20⟩ : ∃ z : Int32, z = ((x16 <<< ((6 : Int32) &&& 31)) ||| (y6 &&& (63 : Int32))) := ⟨_, rfl⟩
  have pre21 : ∀ t, Steps p.tables e below (T4.setTop (mkF m 34 #[rv pr0, iv (3 : Int32), iv (4 : Int32), iv x20, iv (3 : Int32)] [])) t → Go t := fun t kt => pre18 t (by
      subst hx20
      refine X4.baloadBytes hx (j := (6 : Int32)) (v := (.int y6)) (by rw [e4]; exact Ar19.1) (State.isArrayOf_alike hZ.alike Ar19.2.1) Ar19.2.2 hin19 hat19 (g := (mkF m 28 #[rv pr0, iv (3 : Int32), iv (4 : Int32), iv x16, iv (3 : Int32)] [(.int (6 : Int32)), (.ref pr0), (.int (x16 <<< ((6 : Int32) &&& 31)))])) rfl rfl (hb hby d1_28) _ ?_
      show Steps p.tables e below (T4.setTop (mkF m 29 #[rv pr0, iv (3 : Int32), iv (4 : Int32), iv x16, iv (3 : Int32)] [(.int y6), (.int (x16 <<< ((6 : Int32) &&& 31)))])) _
      refine y_bipush X4.here hx (hb hby d1_29) (v := (63 : Int32)) rfl (pc' := 31) rfl ?_
      refine y_iand X4.here hx (hb hby d1_31) rfl (pc' := 32) rfl ?_
      refine y_ior X4.here hx (hb hby d1_32) rfl (pc' := 33) rfl ?_
      refine y_istoreN X4.here hx (hb hby d1_33) (l' := #[rv pr0, iv (3 : Int32), iv (4 : Int32), iv ((x16 <<< ((6 : Int32) &&& 31)) ||| (y6 &&& (63 : Int32))), iv (3 : Int32)]) rfl (pc' := 34) rfl ?_
      exact kt)
  have pre22 : ∀ t, Steps p.tables e below (T4.setTop (mkF m 41 #[rv pr0, iv (3 : Int32), iv (4 : Int32), iv x20, iv (4 : Int32)] [(.int x20)])) t → Go t := fun t kt => pre21 t (by
      refine y_iinc X4.here hx (hb hby d1_34) rfl (l' := #[rv pr0, iv (3 : Int32), iv (4 : Int32), iv x20, iv (4 : Int32)]) rfl (pc' := 37) rfl ?_
      refine y_goto X4.here hx (hb hby d1_37) (pc' := 13) (by decide) rfl ?_
      refine y_iload X4.here hx (hb hby d1_13) rfl (pc' := 15) rfl ?_
      refine y_iloadN X4.here hx (hb hby d1_15) rfl (pc' := 16) rfl ?_
      refine y_icmpYes X4.here hx (hb hby d1_16) (flt (by decide : ¬ ((4 : Int32) < (4 : Int32)))).2.1 (pc' := 40) (by decide) rfl ?_
      refine y_iloadN X4.here hx (hb hby d1_40) rfl (pc' := 41) rfl ?_
      exact kt)
  obtain ⟨fs, hr, hrun, hended, hW, hsame⟩ := X4.leave (v := some (.int x20)) (fun h => by rw [Bd.returns] at h; cases h)
  refine ⟨_, _, (hGo _).mp (pre22 _ ?_), hrun, hended, _, _, rfl, ?_, ⟨_, rfl⟩, hW, hsame.mono (by decide) (by decide)⟩
  · exact retOut X4 hx Bd.returns rfl (Or.inl ⟨rfl, Or.inl rfl, _, rfl⟩) (hb hby d1_41) hr
  · show Q1a3l4 Z pr0 w_LEAD_PAYLOAD kk_pr0 y0 y1 y2 y3 y4 y5 y6 y7 cc_w_LEAD_PAYLOAD h0 n0 _ T4.heap _
    rw [e4]
    subst hx8 hx12 hx16 hx20
    exact ⟨rfl, N0, rfl⟩
theorem law0_118 (pi0 : Int32) (pi1 : Int32) (pi2 : Int32) (x3 : Int32) (x6 : Int32) (x103 : Int32) (x114 : Int32) (hx3 : x3 = (pi1 &&& (2147483647 : Int32))) (hx6 : x6 = (if (1 : Int32) = (1 : Int32) then (x3 &&& (127 : Int32)) else (if (1 : Int32) = (2 : Int32) then ((128 : Int32) + (x3 % (1920 : Int32))) else (if (1 : Int32) = (3 : Int32) then (if ((2048 : Int32) + (x3 % (61440 : Int32))) < (55296 : Int32) then ((2048 : Int32) + (x3 % (61440 : Int32))) else (((2048 : Int32) + (x3 % (61440 : Int32))) + (2048 : Int32))) else ((65536 : Int32) + (x3 % (1048576 : Int32))))))) (hx103 : x103 = (x6.toInt8.toInt32)) (hx114 : x114 = ((nar .byte x103) &&& (127 : Int32))) (hx1 : (1 : Int32) = ((pi0 &&& (3 : Int32)) + (1 : Int32))) (hx21 : (0 : Int32) = (pi2 &&& (3 : Int32))) : x114 = x6 := by
  subst hx3
  rw [if_pos rfl] at hx6
  have g := own_s1 (pi1 &&& (2147483647 : Int32))
  rw [← hx6] at g
  clear hx6
  subst hx103 hx114
  exact own_v1 x6 g
theorem law0_136 (pi0 : Int32) (pi1 : Int32) (pi2 : Int32) (x3 : Int32) (x6 : Int32) (x121 : Int32) (x132 : Int32) (hx3 : x3 = (pi1 &&& (2147483647 : Int32))) (hx6 : x6 = (if (1 : Int32) = (1 : Int32) then (x3 &&& (127 : Int32)) else (if (1 : Int32) = (2 : Int32) then ((128 : Int32) + (x3 % (1920 : Int32))) else (if (1 : Int32) = (3 : Int32) then (if ((2048 : Int32) + (x3 % (61440 : Int32))) < (55296 : Int32) then ((2048 : Int32) + (x3 % (61440 : Int32))) else (((2048 : Int32) + (x3 % (61440 : Int32))) + (2048 : Int32))) else ((65536 : Int32) + (x3 % (1048576 : Int32))))))) (hx121 : x121 = (x6.toInt8.toInt32)) (hx132 : x132 = ((nar .byte x121) &&& (127 : Int32))) (hx1 : (1 : Int32) = ((pi0 &&& (3 : Int32)) + (1 : Int32))) (hx21 : (1 : Int32) = (pi2 &&& (3 : Int32))) : x132 = x6 := by
  subst hx3
  rw [if_pos rfl] at hx6
  have g := own_s1 (pi1 &&& (2147483647 : Int32))
  rw [← hx6] at g
  clear hx6
  subst hx121 hx132
  exact own_v1 x6 g
theorem law0_154 (pi0 : Int32) (pi1 : Int32) (pi2 : Int32) (x3 : Int32) (x6 : Int32) (x139 : Int32) (x150 : Int32) (hx3 : x3 = (pi1 &&& (2147483647 : Int32))) (hx6 : x6 = (if (1 : Int32) = (1 : Int32) then (x3 &&& (127 : Int32)) else (if (1 : Int32) = (2 : Int32) then ((128 : Int32) + (x3 % (1920 : Int32))) else (if (1 : Int32) = (3 : Int32) then (if ((2048 : Int32) + (x3 % (61440 : Int32))) < (55296 : Int32) then ((2048 : Int32) + (x3 % (61440 : Int32))) else (((2048 : Int32) + (x3 % (61440 : Int32))) + (2048 : Int32))) else ((65536 : Int32) + (x3 % (1048576 : Int32))))))) (hx139 : x139 = (x6.toInt8.toInt32)) (hx150 : x150 = ((nar .byte x139) &&& (127 : Int32))) (hx1 : (1 : Int32) = ((pi0 &&& (3 : Int32)) + (1 : Int32))) (hx21 : (2 : Int32) = (pi2 &&& (3 : Int32))) : x150 = x6 := by
  subst hx3
  rw [if_pos rfl] at hx6
  have g := own_s1 (pi1 &&& (2147483647 : Int32))
  rw [← hx6] at g
  clear hx6
  subst hx139 hx150
  exact own_v1 x6 g
theorem law0_172 (pi0 : Int32) (pi1 : Int32) (pi2 : Int32) (x3 : Int32) (x6 : Int32) (x157 : Int32) (x168 : Int32) (hx3 : x3 = (pi1 &&& (2147483647 : Int32))) (hx6 : x6 = (if (1 : Int32) = (1 : Int32) then (x3 &&& (127 : Int32)) else (if (1 : Int32) = (2 : Int32) then ((128 : Int32) + (x3 % (1920 : Int32))) else (if (1 : Int32) = (3 : Int32) then (if ((2048 : Int32) + (x3 % (61440 : Int32))) < (55296 : Int32) then ((2048 : Int32) + (x3 % (61440 : Int32))) else (((2048 : Int32) + (x3 % (61440 : Int32))) + (2048 : Int32))) else ((65536 : Int32) + (x3 % (1048576 : Int32))))))) (hx157 : x157 = (x6.toInt8.toInt32)) (hx168 : x168 = ((nar .byte x157) &&& (127 : Int32))) (hx1 : (1 : Int32) = ((pi0 &&& (3 : Int32)) + (1 : Int32))) (hx21 : (3 : Int32) = (pi2 &&& (3 : Int32))) : x168 = x6 := by
  subst hx3
  rw [if_pos rfl] at hx6
  have g := own_s1 (pi1 &&& (2147483647 : Int32))
  rw [← hx6] at g
  clear hx6
  subst hx157 hx168
  exact own_v1 x6 g
theorem law0_200 (pi0 : Int32) (pi1 : Int32) (pi2 : Int32) (x3 : Int32) (x6 : Int32) (x176 : Int32) (x185 : Int32) (x196 : Int32) (hx3 : x3 = (pi1 &&& (2147483647 : Int32))) (hx6 : x6 = (if (2 : Int32) = (1 : Int32) then (x3 &&& (127 : Int32)) else (if (2 : Int32) = (2 : Int32) then ((128 : Int32) + (x3 % (1920 : Int32))) else (if (2 : Int32) = (3 : Int32) then (if ((2048 : Int32) + (x3 % (61440 : Int32))) < (55296 : Int32) then ((2048 : Int32) + (x3 % (61440 : Int32))) else (((2048 : Int32) + (x3 % (61440 : Int32))) + (2048 : Int32))) else ((65536 : Int32) + (x3 % (1048576 : Int32))))))) (hx176 : x176 = (((192 : Int32) ||| (x6 >>> ((6 : Int32) &&& 31))).toInt8.toInt32)) (hx185 : x185 = (((128 : Int32) ||| (x6 &&& (63 : Int32))).toInt8.toInt32)) (hx196 : x196 = ((((nar .byte x176) &&& (31 : Int32)) <<< ((6 : Int32) &&& 31)) ||| ((nar .byte x185) &&& (63 : Int32)))) (hx1 : (2 : Int32) = ((pi0 &&& (3 : Int32)) + (1 : Int32))) (hx21 : (0 : Int32) = (pi2 &&& (3 : Int32))) : x196 = x6 := by
  subst hx3
  rw [if_neg (by decide), if_pos rfl] at hx6
  have g := own_s2 pi1
  rw [← hx6] at g
  clear hx6
  subst hx176 hx185 hx196
  exact own_w2 x6 _ ⟨g.1, by omega⟩ (c_ishr x6 6 6 (by decide))
theorem law0_227 (pi0 : Int32) (pi1 : Int32) (pi2 : Int32) (x3 : Int32) (x6 : Int32) (x203 : Int32) (x212 : Int32) (x223 : Int32) (hx3 : x3 = (pi1 &&& (2147483647 : Int32))) (hx6 : x6 = (if (2 : Int32) = (1 : Int32) then (x3 &&& (127 : Int32)) else (if (2 : Int32) = (2 : Int32) then ((128 : Int32) + (x3 % (1920 : Int32))) else (if (2 : Int32) = (3 : Int32) then (if ((2048 : Int32) + (x3 % (61440 : Int32))) < (55296 : Int32) then ((2048 : Int32) + (x3 % (61440 : Int32))) else (((2048 : Int32) + (x3 % (61440 : Int32))) + (2048 : Int32))) else ((65536 : Int32) + (x3 % (1048576 : Int32))))))) (hx203 : x203 = (((192 : Int32) ||| (x6 >>> ((6 : Int32) &&& 31))).toInt8.toInt32)) (hx212 : x212 = (((128 : Int32) ||| (x6 &&& (63 : Int32))).toInt8.toInt32)) (hx223 : x223 = ((((nar .byte x203) &&& (31 : Int32)) <<< ((6 : Int32) &&& 31)) ||| ((nar .byte x212) &&& (63 : Int32)))) (hx1 : (2 : Int32) = ((pi0 &&& (3 : Int32)) + (1 : Int32))) (hx21 : (1 : Int32) = (pi2 &&& (3 : Int32))) : x223 = x6 := by
  subst hx3
  rw [if_neg (by decide), if_pos rfl] at hx6
  have g := own_s2 pi1
  rw [← hx6] at g
  clear hx6
  subst hx203 hx212 hx223
  exact own_w2 x6 _ ⟨g.1, by omega⟩ (c_ishr x6 6 6 (by decide))
theorem law0_254 (pi0 : Int32) (pi1 : Int32) (pi2 : Int32) (x3 : Int32) (x6 : Int32) (x230 : Int32) (x239 : Int32) (x250 : Int32) (hx3 : x3 = (pi1 &&& (2147483647 : Int32))) (hx6 : x6 = (if (2 : Int32) = (1 : Int32) then (x3 &&& (127 : Int32)) else (if (2 : Int32) = (2 : Int32) then ((128 : Int32) + (x3 % (1920 : Int32))) else (if (2 : Int32) = (3 : Int32) then (if ((2048 : Int32) + (x3 % (61440 : Int32))) < (55296 : Int32) then ((2048 : Int32) + (x3 % (61440 : Int32))) else (((2048 : Int32) + (x3 % (61440 : Int32))) + (2048 : Int32))) else ((65536 : Int32) + (x3 % (1048576 : Int32))))))) (hx230 : x230 = (((192 : Int32) ||| (x6 >>> ((6 : Int32) &&& 31))).toInt8.toInt32)) (hx239 : x239 = (((128 : Int32) ||| (x6 &&& (63 : Int32))).toInt8.toInt32)) (hx250 : x250 = ((((nar .byte x230) &&& (31 : Int32)) <<< ((6 : Int32) &&& 31)) ||| ((nar .byte x239) &&& (63 : Int32)))) (hx1 : (2 : Int32) = ((pi0 &&& (3 : Int32)) + (1 : Int32))) (hx21 : (2 : Int32) = (pi2 &&& (3 : Int32))) : x250 = x6 := by
  subst hx3
  rw [if_neg (by decide), if_pos rfl] at hx6
  have g := own_s2 pi1
  rw [← hx6] at g
  clear hx6
  subst hx230 hx239 hx250
  exact own_w2 x6 _ ⟨g.1, by omega⟩ (c_ishr x6 6 6 (by decide))
theorem law0_281 (pi0 : Int32) (pi1 : Int32) (pi2 : Int32) (x3 : Int32) (x6 : Int32) (x257 : Int32) (x266 : Int32) (x277 : Int32) (hx3 : x3 = (pi1 &&& (2147483647 : Int32))) (hx6 : x6 = (if (2 : Int32) = (1 : Int32) then (x3 &&& (127 : Int32)) else (if (2 : Int32) = (2 : Int32) then ((128 : Int32) + (x3 % (1920 : Int32))) else (if (2 : Int32) = (3 : Int32) then (if ((2048 : Int32) + (x3 % (61440 : Int32))) < (55296 : Int32) then ((2048 : Int32) + (x3 % (61440 : Int32))) else (((2048 : Int32) + (x3 % (61440 : Int32))) + (2048 : Int32))) else ((65536 : Int32) + (x3 % (1048576 : Int32))))))) (hx257 : x257 = (((192 : Int32) ||| (x6 >>> ((6 : Int32) &&& 31))).toInt8.toInt32)) (hx266 : x266 = (((128 : Int32) ||| (x6 &&& (63 : Int32))).toInt8.toInt32)) (hx277 : x277 = ((((nar .byte x257) &&& (31 : Int32)) <<< ((6 : Int32) &&& 31)) ||| ((nar .byte x266) &&& (63 : Int32)))) (hx1 : (2 : Int32) = ((pi0 &&& (3 : Int32)) + (1 : Int32))) (hx21 : (3 : Int32) = (pi2 &&& (3 : Int32))) : x277 = x6 := by
  subst hx3
  rw [if_neg (by decide), if_pos rfl] at hx6
  have g := own_s2 pi1
  rw [← hx6] at g
  clear hx6
  subst hx257 hx266 hx277
  exact own_w2 x6 _ ⟨g.1, by omega⟩ (c_ishr x6 6 6 (by decide))
theorem law0_318 (pi0 : Int32) (pi1 : Int32) (pi2 : Int32) (x3 : Int32) (x6 : Int32) (x285 : Int32) (x294 : Int32) (x303 : Int32) (x314 : Int32) (hx3 : x3 = (pi1 &&& (2147483647 : Int32))) (hx6 : x6 = (if (3 : Int32) = (1 : Int32) then (x3 &&& (127 : Int32)) else (if (3 : Int32) = (2 : Int32) then ((128 : Int32) + (x3 % (1920 : Int32))) else (if (3 : Int32) = (3 : Int32) then (if ((2048 : Int32) + (x3 % (61440 : Int32))) < (55296 : Int32) then ((2048 : Int32) + (x3 % (61440 : Int32))) else (((2048 : Int32) + (x3 % (61440 : Int32))) + (2048 : Int32))) else ((65536 : Int32) + (x3 % (1048576 : Int32))))))) (hx285 : x285 = (((224 : Int32) ||| (x6 >>> ((12 : Int32) &&& 31))).toInt8.toInt32)) (hx294 : x294 = (((128 : Int32) ||| ((x6 >>> ((6 : Int32) &&& 31)) &&& (63 : Int32))).toInt8.toInt32)) (hx303 : x303 = (((128 : Int32) ||| (x6 &&& (63 : Int32))).toInt8.toInt32)) (hx314 : x314 = ((((((nar .byte x285) &&& (15 : Int32)) <<< ((6 : Int32) &&& 31)) ||| ((nar .byte x294) &&& (63 : Int32))) <<< ((6 : Int32) &&& 31)) ||| ((nar .byte x303) &&& (63 : Int32)))) (hx1 : (3 : Int32) = ((pi0 &&& (3 : Int32)) + (1 : Int32))) (hx21 : (0 : Int32) = (pi2 &&& (3 : Int32))) : x314 = x6 := by
  subst hx3
  rw [if_neg (by decide), if_neg (by decide), if_pos rfl] at hx6
  have g := own_s3 (own_s3a pi1)
  rw [← hx6] at g
  clear hx6
  subst hx285 hx294 hx303 hx314
  exact own_w3 x6 _ _ ⟨g.1, by omega⟩ (c_ishr x6 6 6 (by decide)) (c_ishr x6 12 12 (by decide))
theorem law0_354 (pi0 : Int32) (pi1 : Int32) (pi2 : Int32) (x3 : Int32) (x6 : Int32) (x321 : Int32) (x330 : Int32) (x339 : Int32) (x350 : Int32) (hx3 : x3 = (pi1 &&& (2147483647 : Int32))) (hx6 : x6 = (if (3 : Int32) = (1 : Int32) then (x3 &&& (127 : Int32)) else (if (3 : Int32) = (2 : Int32) then ((128 : Int32) + (x3 % (1920 : Int32))) else (if (3 : Int32) = (3 : Int32) then (if ((2048 : Int32) + (x3 % (61440 : Int32))) < (55296 : Int32) then ((2048 : Int32) + (x3 % (61440 : Int32))) else (((2048 : Int32) + (x3 % (61440 : Int32))) + (2048 : Int32))) else ((65536 : Int32) + (x3 % (1048576 : Int32))))))) (hx321 : x321 = (((224 : Int32) ||| (x6 >>> ((12 : Int32) &&& 31))).toInt8.toInt32)) (hx330 : x330 = (((128 : Int32) ||| ((x6 >>> ((6 : Int32) &&& 31)) &&& (63 : Int32))).toInt8.toInt32)) (hx339 : x339 = (((128 : Int32) ||| (x6 &&& (63 : Int32))).toInt8.toInt32)) (hx350 : x350 = ((((((nar .byte x321) &&& (15 : Int32)) <<< ((6 : Int32) &&& 31)) ||| ((nar .byte x330) &&& (63 : Int32))) <<< ((6 : Int32) &&& 31)) ||| ((nar .byte x339) &&& (63 : Int32)))) (hx1 : (3 : Int32) = ((pi0 &&& (3 : Int32)) + (1 : Int32))) (hx21 : (1 : Int32) = (pi2 &&& (3 : Int32))) : x350 = x6 := by
  subst hx3
  rw [if_neg (by decide), if_neg (by decide), if_pos rfl] at hx6
  have g := own_s3 (own_s3a pi1)
  rw [← hx6] at g
  clear hx6
  subst hx321 hx330 hx339 hx350
  exact own_w3 x6 _ _ ⟨g.1, by omega⟩ (c_ishr x6 6 6 (by decide)) (c_ishr x6 12 12 (by decide))
theorem law0_390 (pi0 : Int32) (pi1 : Int32) (pi2 : Int32) (x3 : Int32) (x6 : Int32) (x357 : Int32) (x366 : Int32) (x375 : Int32) (x386 : Int32) (hx3 : x3 = (pi1 &&& (2147483647 : Int32))) (hx6 : x6 = (if (3 : Int32) = (1 : Int32) then (x3 &&& (127 : Int32)) else (if (3 : Int32) = (2 : Int32) then ((128 : Int32) + (x3 % (1920 : Int32))) else (if (3 : Int32) = (3 : Int32) then (if ((2048 : Int32) + (x3 % (61440 : Int32))) < (55296 : Int32) then ((2048 : Int32) + (x3 % (61440 : Int32))) else (((2048 : Int32) + (x3 % (61440 : Int32))) + (2048 : Int32))) else ((65536 : Int32) + (x3 % (1048576 : Int32))))))) (hx357 : x357 = (((224 : Int32) ||| (x6 >>> ((12 : Int32) &&& 31))).toInt8.toInt32)) (hx366 : x366 = (((128 : Int32) ||| ((x6 >>> ((6 : Int32) &&& 31)) &&& (63 : Int32))).toInt8.toInt32)) (hx375 : x375 = (((128 : Int32) ||| (x6 &&& (63 : Int32))).toInt8.toInt32)) (hx386 : x386 = ((((((nar .byte x357) &&& (15 : Int32)) <<< ((6 : Int32) &&& 31)) ||| ((nar .byte x366) &&& (63 : Int32))) <<< ((6 : Int32) &&& 31)) ||| ((nar .byte x375) &&& (63 : Int32)))) (hx1 : (3 : Int32) = ((pi0 &&& (3 : Int32)) + (1 : Int32))) (hx21 : (2 : Int32) = (pi2 &&& (3 : Int32))) : x386 = x6 := by
  subst hx3
  rw [if_neg (by decide), if_neg (by decide), if_pos rfl] at hx6
  have g := own_s3 (own_s3a pi1)
  rw [← hx6] at g
  clear hx6
  subst hx357 hx366 hx375 hx386
  exact own_w3 x6 _ _ ⟨g.1, by omega⟩ (c_ishr x6 6 6 (by decide)) (c_ishr x6 12 12 (by decide))
theorem law0_426 (pi0 : Int32) (pi1 : Int32) (pi2 : Int32) (x3 : Int32) (x6 : Int32) (x393 : Int32) (x402 : Int32) (x411 : Int32) (x422 : Int32) (hx3 : x3 = (pi1 &&& (2147483647 : Int32))) (hx6 : x6 = (if (3 : Int32) = (1 : Int32) then (x3 &&& (127 : Int32)) else (if (3 : Int32) = (2 : Int32) then ((128 : Int32) + (x3 % (1920 : Int32))) else (if (3 : Int32) = (3 : Int32) then (if ((2048 : Int32) + (x3 % (61440 : Int32))) < (55296 : Int32) then ((2048 : Int32) + (x3 % (61440 : Int32))) else (((2048 : Int32) + (x3 % (61440 : Int32))) + (2048 : Int32))) else ((65536 : Int32) + (x3 % (1048576 : Int32))))))) (hx393 : x393 = (((224 : Int32) ||| (x6 >>> ((12 : Int32) &&& 31))).toInt8.toInt32)) (hx402 : x402 = (((128 : Int32) ||| ((x6 >>> ((6 : Int32) &&& 31)) &&& (63 : Int32))).toInt8.toInt32)) (hx411 : x411 = (((128 : Int32) ||| (x6 &&& (63 : Int32))).toInt8.toInt32)) (hx422 : x422 = ((((((nar .byte x393) &&& (15 : Int32)) <<< ((6 : Int32) &&& 31)) ||| ((nar .byte x402) &&& (63 : Int32))) <<< ((6 : Int32) &&& 31)) ||| ((nar .byte x411) &&& (63 : Int32)))) (hx1 : (3 : Int32) = ((pi0 &&& (3 : Int32)) + (1 : Int32))) (hx21 : (3 : Int32) = (pi2 &&& (3 : Int32))) : x422 = x6 := by
  subst hx3
  rw [if_neg (by decide), if_neg (by decide), if_pos rfl] at hx6
  have g := own_s3 (own_s3a pi1)
  rw [← hx6] at g
  clear hx6
  subst hx393 hx402 hx411 hx422
  exact own_w3 x6 _ _ ⟨g.1, by omega⟩ (c_ishr x6 6 6 (by decide)) (c_ishr x6 12 12 (by decide))
theorem law0_472 (pi0 : Int32) (pi1 : Int32) (pi2 : Int32) (x3 : Int32) (x6 : Int32) (x430 : Int32) (x439 : Int32) (x448 : Int32) (x457 : Int32) (x468 : Int32) (hx3 : x3 = (pi1 &&& (2147483647 : Int32))) (hx6 : x6 = (if (4 : Int32) = (1 : Int32) then (x3 &&& (127 : Int32)) else (if (4 : Int32) = (2 : Int32) then ((128 : Int32) + (x3 % (1920 : Int32))) else (if (4 : Int32) = (3 : Int32) then (if ((2048 : Int32) + (x3 % (61440 : Int32))) < (55296 : Int32) then ((2048 : Int32) + (x3 % (61440 : Int32))) else (((2048 : Int32) + (x3 % (61440 : Int32))) + (2048 : Int32))) else ((65536 : Int32) + (x3 % (1048576 : Int32))))))) (hx430 : x430 = (((240 : Int32) ||| (x6 >>> ((18 : Int32) &&& 31))).toInt8.toInt32)) (hx439 : x439 = (((128 : Int32) ||| ((x6 >>> ((12 : Int32) &&& 31)) &&& (63 : Int32))).toInt8.toInt32)) (hx448 : x448 = (((128 : Int32) ||| ((x6 >>> ((6 : Int32) &&& 31)) &&& (63 : Int32))).toInt8.toInt32)) (hx457 : x457 = (((128 : Int32) ||| (x6 &&& (63 : Int32))).toInt8.toInt32)) (hx468 : x468 = ((((((((nar .byte x430) &&& (7 : Int32)) <<< ((6 : Int32) &&& 31)) ||| ((nar .byte x439) &&& (63 : Int32))) <<< ((6 : Int32) &&& 31)) ||| ((nar .byte x448) &&& (63 : Int32))) <<< ((6 : Int32) &&& 31)) ||| ((nar .byte x457) &&& (63 : Int32)))) (hx1 : (4 : Int32) = ((pi0 &&& (3 : Int32)) + (1 : Int32))) (hx21 : (0 : Int32) = (pi2 &&& (3 : Int32))) : x468 = x6 := by
  subst hx3
  rw [if_neg (by decide), if_neg (by decide), if_neg (by decide)] at hx6
  have g := own_s4 pi1
  rw [← hx6] at g
  clear hx6
  subst hx430 hx439 hx448 hx457 hx468
  exact own_w4 x6 _ _ _ ⟨g.1, by omega⟩ (c_ishr x6 6 6 (by decide)) (c_ishr x6 12 12 (by decide)) (c_ishr x6 18 18 (by decide))
theorem law0_517 (pi0 : Int32) (pi1 : Int32) (pi2 : Int32) (x3 : Int32) (x6 : Int32) (x475 : Int32) (x484 : Int32) (x493 : Int32) (x502 : Int32) (x513 : Int32) (hx3 : x3 = (pi1 &&& (2147483647 : Int32))) (hx6 : x6 = (if (4 : Int32) = (1 : Int32) then (x3 &&& (127 : Int32)) else (if (4 : Int32) = (2 : Int32) then ((128 : Int32) + (x3 % (1920 : Int32))) else (if (4 : Int32) = (3 : Int32) then (if ((2048 : Int32) + (x3 % (61440 : Int32))) < (55296 : Int32) then ((2048 : Int32) + (x3 % (61440 : Int32))) else (((2048 : Int32) + (x3 % (61440 : Int32))) + (2048 : Int32))) else ((65536 : Int32) + (x3 % (1048576 : Int32))))))) (hx475 : x475 = (((240 : Int32) ||| (x6 >>> ((18 : Int32) &&& 31))).toInt8.toInt32)) (hx484 : x484 = (((128 : Int32) ||| ((x6 >>> ((12 : Int32) &&& 31)) &&& (63 : Int32))).toInt8.toInt32)) (hx493 : x493 = (((128 : Int32) ||| ((x6 >>> ((6 : Int32) &&& 31)) &&& (63 : Int32))).toInt8.toInt32)) (hx502 : x502 = (((128 : Int32) ||| (x6 &&& (63 : Int32))).toInt8.toInt32)) (hx513 : x513 = ((((((((nar .byte x475) &&& (7 : Int32)) <<< ((6 : Int32) &&& 31)) ||| ((nar .byte x484) &&& (63 : Int32))) <<< ((6 : Int32) &&& 31)) ||| ((nar .byte x493) &&& (63 : Int32))) <<< ((6 : Int32) &&& 31)) ||| ((nar .byte x502) &&& (63 : Int32)))) (hx1 : (4 : Int32) = ((pi0 &&& (3 : Int32)) + (1 : Int32))) (hx21 : (1 : Int32) = (pi2 &&& (3 : Int32))) : x513 = x6 := by
  subst hx3
  rw [if_neg (by decide), if_neg (by decide), if_neg (by decide)] at hx6
  have g := own_s4 pi1
  rw [← hx6] at g
  clear hx6
  subst hx475 hx484 hx493 hx502 hx513
  exact own_w4 x6 _ _ _ ⟨g.1, by omega⟩ (c_ishr x6 6 6 (by decide)) (c_ishr x6 12 12 (by decide)) (c_ishr x6 18 18 (by decide))
theorem law0_562 (pi0 : Int32) (pi1 : Int32) (pi2 : Int32) (x3 : Int32) (x6 : Int32) (x520 : Int32) (x529 : Int32) (x538 : Int32) (x547 : Int32) (x558 : Int32) (hx3 : x3 = (pi1 &&& (2147483647 : Int32))) (hx6 : x6 = (if (4 : Int32) = (1 : Int32) then (x3 &&& (127 : Int32)) else (if (4 : Int32) = (2 : Int32) then ((128 : Int32) + (x3 % (1920 : Int32))) else (if (4 : Int32) = (3 : Int32) then (if ((2048 : Int32) + (x3 % (61440 : Int32))) < (55296 : Int32) then ((2048 : Int32) + (x3 % (61440 : Int32))) else (((2048 : Int32) + (x3 % (61440 : Int32))) + (2048 : Int32))) else ((65536 : Int32) + (x3 % (1048576 : Int32))))))) (hx520 : x520 = (((240 : Int32) ||| (x6 >>> ((18 : Int32) &&& 31))).toInt8.toInt32)) (hx529 : x529 = (((128 : Int32) ||| ((x6 >>> ((12 : Int32) &&& 31)) &&& (63 : Int32))).toInt8.toInt32)) (hx538 : x538 = (((128 : Int32) ||| ((x6 >>> ((6 : Int32) &&& 31)) &&& (63 : Int32))).toInt8.toInt32)) (hx547 : x547 = (((128 : Int32) ||| (x6 &&& (63 : Int32))).toInt8.toInt32)) (hx558 : x558 = ((((((((nar .byte x520) &&& (7 : Int32)) <<< ((6 : Int32) &&& 31)) ||| ((nar .byte x529) &&& (63 : Int32))) <<< ((6 : Int32) &&& 31)) ||| ((nar .byte x538) &&& (63 : Int32))) <<< ((6 : Int32) &&& 31)) ||| ((nar .byte x547) &&& (63 : Int32)))) (hx1 : (4 : Int32) = ((pi0 &&& (3 : Int32)) + (1 : Int32))) (hx21 : (2 : Int32) = (pi2 &&& (3 : Int32))) : x558 = x6 := by
  subst hx3
  rw [if_neg (by decide), if_neg (by decide), if_neg (by decide)] at hx6
  have g := own_s4 pi1
  rw [← hx6] at g
  clear hx6
  subst hx520 hx529 hx538 hx547 hx558
  exact own_w4 x6 _ _ _ ⟨g.1, by omega⟩ (c_ishr x6 6 6 (by decide)) (c_ishr x6 12 12 (by decide)) (c_ishr x6 18 18 (by decide))
theorem law0_607 (pi0 : Int32) (pi1 : Int32) (pi2 : Int32) (x3 : Int32) (x6 : Int32) (x565 : Int32) (x574 : Int32) (x583 : Int32) (x592 : Int32) (x603 : Int32) (hx3 : x3 = (pi1 &&& (2147483647 : Int32))) (hx6 : x6 = (if (4 : Int32) = (1 : Int32) then (x3 &&& (127 : Int32)) else (if (4 : Int32) = (2 : Int32) then ((128 : Int32) + (x3 % (1920 : Int32))) else (if (4 : Int32) = (3 : Int32) then (if ((2048 : Int32) + (x3 % (61440 : Int32))) < (55296 : Int32) then ((2048 : Int32) + (x3 % (61440 : Int32))) else (((2048 : Int32) + (x3 % (61440 : Int32))) + (2048 : Int32))) else ((65536 : Int32) + (x3 % (1048576 : Int32))))))) (hx565 : x565 = (((240 : Int32) ||| (x6 >>> ((18 : Int32) &&& 31))).toInt8.toInt32)) (hx574 : x574 = (((128 : Int32) ||| ((x6 >>> ((12 : Int32) &&& 31)) &&& (63 : Int32))).toInt8.toInt32)) (hx583 : x583 = (((128 : Int32) ||| ((x6 >>> ((6 : Int32) &&& 31)) &&& (63 : Int32))).toInt8.toInt32)) (hx592 : x592 = (((128 : Int32) ||| (x6 &&& (63 : Int32))).toInt8.toInt32)) (hx603 : x603 = ((((((((nar .byte x565) &&& (7 : Int32)) <<< ((6 : Int32) &&& 31)) ||| ((nar .byte x574) &&& (63 : Int32))) <<< ((6 : Int32) &&& 31)) ||| ((nar .byte x583) &&& (63 : Int32))) <<< ((6 : Int32) &&& 31)) ||| ((nar .byte x592) &&& (63 : Int32)))) (hx1 : (4 : Int32) = ((pi0 &&& (3 : Int32)) + (1 : Int32))) (hx21 : (3 : Int32) = (pi2 &&& (3 : Int32))) : x603 = x6 := by
  subst hx3
  rw [if_neg (by decide), if_neg (by decide), if_neg (by decide)] at hx6
  have g := own_s4 pi1
  rw [← hx6] at g
  clear hx6
  subst hx565 hx574 hx583 hx592 hx603
  exact own_w4 x6 _ _ _ ⟨g.1, by omega⟩ (c_ishr x6 6 6 (by decide)) (c_ishr x6 12 12 (by decide)) (c_ishr x6 18 18 (by decide))
theorem pn_com_example_strict_codec_strictcodec_Utf8GrammarScalarValuePinLaw : plainName "com/example/strict_codec/strictcodec/Utf8GrammarScalarValuePinLaw" = true := by first | (simp [plainName, overriddenIn]; done) | decide +kernel
theorem pd___BII_I : parseMethodDescriptor "([BII)I" = some ⟨[(.array .byte), .int, .int], some .int⟩ := by decide +kernel
theorem ef_0 (m : MethodId) (x0 : Int32) (x1 : Int32) (x2 : Int32) (x3 : Int64) : entryFrame m #[(.int x0), (.int x1), (.int x2), (.long x3)] maxLocals = mkF m 0 #[iv x0, iv x1, iv x2, jv x3, .second, .unset, .unset, .unset, .unset, .unset] [] := by first | (simp [entryFrame, mkF, argsToLocals, Value.category, maxLocals]; done) | rfl
def Q0 (Z : State) (pi0 : Int32) (pi1 : Int32) (pi2 : Int32) (pj3 : Int64) (w_LEAD_PAYLOAD : Addr) (cc_w_LEAD_PAYLOAD : Cell) (h0 : Heap) (n0 : Nat) (v : Option Value) (h : Heap) (L : List Loc) : Prop := v = some (.int (1 : Int32)) ∧ Fr n0 L
set_option maxRecDepth 65536 in
set_option maxHeartbeats 40000000 in
theorem rm0 (l : Launch) (Z : State) (a0 : Array Value) (hw : ∀ d ∈ tables_1, d.before a0 Z = true) (ws : List Jvm.Cond) (pi0 : Int32) (pi1 : Int32) (pi2 : Int32) (pj3 : Int64) (w_LEAD_PAYLOAD : Addr) (cc_w_LEAD_PAYLOAD : Cell) (h0 : Heap) (n0 : Nat) (O0 : Old Z n0 h0) (S_LEAD_PAYLOAD : Sta Z Z.heap "com/example/strict_codec/strictcodec/Utf8Grammar" "LEAD_PAYLOAD" "[I" (.ref w_LEAD_PAYLOAD)) (AR_w_LEAD_PAYLOAD : Arr Z Z.heap w_LEAD_PAYLOAD cc_w_LEAD_PAYLOAD .int) (IN1_w_LEAD_PAYLOAD : ¬ ((1 : Int32) < 0 ∨ cc_w_LEAD_PAYLOAD.slots.size ≤ (1 : Int32).toNatClampNeg)) (AT1_w_LEAD_PAYLOAD : cc_w_LEAD_PAYLOAD.slots[(1 : Int32).toNatClampNeg]? = some (.int (127 : Int32))) (IN2_w_LEAD_PAYLOAD : ¬ ((2 : Int32) < 0 ∨ cc_w_LEAD_PAYLOAD.slots.size ≤ (2 : Int32).toNatClampNeg)) (AT2_w_LEAD_PAYLOAD : cc_w_LEAD_PAYLOAD.slots[(2 : Int32).toNatClampNeg]? = some (.int (31 : Int32))) (IN3_w_LEAD_PAYLOAD : ¬ ((3 : Int32) < 0 ∨ cc_w_LEAD_PAYLOAD.slots.size ≤ (3 : Int32).toNatClampNeg)) (AT3_w_LEAD_PAYLOAD : cc_w_LEAD_PAYLOAD.slots[(3 : Int32).toNatClampNeg]? = some (.int (15 : Int32))) (IN4_w_LEAD_PAYLOAD : ¬ ((4 : Int32) < 0 ∨ cc_w_LEAD_PAYLOAD.slots.size ≤ (4 : Int32).toNatClampNeg)) (AT4_w_LEAD_PAYLOAD : cc_w_LEAD_PAYLOAD.slots[(4 : Int32).toNatClampNeg]? = some (.int (7 : Int32))) :
    MetFree l x (head1 (Jvm.Cond.code x code maxLocals ret :: ws) room_1) (fun a U => a = #[(.int pi0), (.int pi1), (.int pi2), (.long pj3)] ∧ Z.Warmed39 U.vm ∧ U.heap = h0) (fun _ _ _ _ _ => True) (fun _ U o U' => ∃ v L, o = .returned v ∧ Q0 Z pi0 pi1 pi2 pj3 w_LEAD_PAYLOAD cc_w_LEAD_PAYLOAD h0 n0 v U'.heap L ∧ FrameEnd U o U' L room_1.cells room_1.slots) := by
  refine MetFree.of_bodySF (plainFor_of_name pn_com_example_strict_codec_strictcodec_Utf8GrammarScalarValuePinLaw) hisR ?_
  intro p e s m args below meth c s₁ Bd hml0 hP hK
  obtain ⟨rfl, hZ, hh⟩ := hP
  have hx := Bd.exec
  have hby := Bd.bytes
  have hml : c.maxLocals = 10 := hml0
  have hown : s.vm.findClass "com/example/strict_codec/strictcodec/Utf8GrammarScalarValuePinLaw" = some m.cls := findClass_of_methodNamed Bd.named
  have hnm := (name_of_methodNamed Bd.named Bd.method).1
  have X0 : Stand p l e room_1 s m #[(.int pi0), (.int pi1), (.int pi2), (.long pj3)] below meth c s₁ [] 0 0 := Stand.of_body Bd
  have e0 : s₁.heap = h0 := by rw [← hh, Bd.state]; rfl
  have N0 := Fr.nil n0
  obtain ⟨Go, hGo⟩ : ∃ P : State → Prop, ∀ t, P t ↔ Steps p.tables e below (s₁.setTop (entryFrame m #[(.int pi0), (.int pi1), (.int pi2), (.long pj3)] maxLocals)) t := ⟨_, fun _ => Iff.rfl⟩
  have pre0 : ∀ t, Steps p.tables e below (s₁.setTop (mkF m 0 #[iv pi0, iv pi1, iv pi2, jv pj3, .second, .unset, .unset, .unset, .unset, .unset] [])) t → Go t := fun t k => (hGo t).mpr (castTop (ef_0 m pi0 pi1 pi2 pj3) k)
  obtain ⟨x1, hx1⟩ : ∃ z : Int32, z = ((pi0 &&& (3 : Int32)) + (1 : Int32)) := ⟨_, rfl⟩
  have pre2 : ∀ t, Steps p.tables e below (s₁.setTop (mkF m 7 #[iv pi0, iv pi1, iv pi2, jv pj3, .second, iv x1, .unset, .unset, .unset, .unset] [])) t → Go t := fun t kt => pre0 t (by
      subst hx1
      refine y_iloadN X0.here hx (hb hby at_0) rfl (pc' := 1) rfl ?_
      refine y_iconst X0.here hx (hb hby at_1) (v := (3 : Int32)) rfl (pc' := 2) rfl ?_
      refine y_iand X0.here hx (hb hby at_2) rfl (pc' := 3) rfl ?_
      refine y_iconst X0.here hx (hb hby at_3) (v := (1 : Int32)) rfl (pc' := 4) rfl ?_
      refine y_iadd X0.here hx (hb hby at_4) rfl (pc' := 5) rfl ?_
      refine y_istore X0.here hx (hb hby at_5) (l' := #[iv pi0, iv pi1, iv pi2, jv pj3, .second, iv ((pi0 &&& (3 : Int32)) + (1 : Int32)), .unset, .unset, .unset, .unset]) rfl (pc' := 7) rfl ?_
      exact kt)
  obtain ⟨x3, hx3⟩ : ∃ z : Int32, z = (pi1 &&& (2147483647 : Int32)) := ⟨_, rfl⟩
  have pre4 : ∀ t, Steps p.tables e below (s₁.setTop (mkF m 13 #[iv pi0, iv pi1, iv pi2, jv pj3, .second, iv x1, iv x3, .unset, .unset, .unset] [])) t → Go t := fun t kt => pre2 t (by
      subst hx3
      refine y_iloadN X0.here hx (hb hby at_7) rfl (pc' := 8) rfl ?_
      refine X0.ldcInt hx hown (mvT hZ (hw _ (List.mem_of_getElem? (i := 0) rfl))) (g := (mkF m 8 #[iv pi0, iv pi1, iv pi2, jv pj3, .second, iv x1, .unset, .unset, .unset, .unset] [(.int pi1)])) rfl (hb hby at_8) _ ?_
      show Steps p.tables e below (s₁.setTop (mkF m 10 #[iv pi0, iv pi1, iv pi2, jv pj3, .second, iv x1, .unset, .unset, .unset, .unset] [(.int (2147483647 : Int32)), (.int pi1)])) _
      refine y_iand X0.here hx (hb hby at_10) rfl (pc' := 11) rfl ?_
      refine y_istore X0.here hx (hb hby at_11) (l' := #[iv pi0, iv pi1, iv pi2, jv pj3, .second, iv x1, iv (pi1 &&& (2147483647 : Int32)), .unset, .unset, .unset]) rfl (pc' := 13) rfl ?_
      exact kt)
  have pre5 : ∀ t, Steps p.tables e below (s₁.setTop (mkF m 16 #[iv pi0, iv pi1, iv pi2, jv pj3, .second, iv x1, iv x3, .unset, .unset, .unset] [(.int (1 : Int32)), (.int x1)])) t → Go t := fun t kt => pre4 t (by
      refine y_iload X0.here hx (hb hby at_13) rfl (pc' := 15) rfl ?_
      refine y_iconst X0.here hx (hb hby at_15) (v := (1 : Int32)) rfl (pc' := 16) rfl ?_
      exact kt)
  obtain ⟨x6, hx6⟩ : ∃ z : Int32, z = (if x1 = (1 : Int32) then (x3 &&& (127 : Int32)) else (if x1 = (2 : Int32) then ((128 : Int32) + (x3 % (1920 : Int32))) else (if x1 = (3 : Int32) then (if ((2048 : Int32) + (x3 % (61440 : Int32))) < (55296 : Int32) then ((2048 : Int32) + (x3 % (61440 : Int32))) else (((2048 : Int32) + (x3 % (61440 : Int32))) + (2048 : Int32))) else ((65536 : Int32) + (x3 % (1048576 : Int32)))))) := ⟨_, rfl⟩
  obtain ⟨T7, ⟨X7, q7⟩, st7⟩ : ∃ T', Nx X0 T' ∧ ∀ t, Steps p.tables e below (T'.setTop (mkF m 95 #[iv pi0, iv pi1, iv pi2, jv pj3, .second, iv x1, iv x3, iv x6, .unset, .unset] [])) t → Steps p.tables e below (s₁.setTop (mkF m 16 #[iv pi0, iv pi1, iv pi2, jv pj3, .second, iv x1, iv x3, .unset, .unset, .unset] [(.int (1 : Int32)), (.int x1)])) t := by
    have pre7_ : ∀ t, Steps p.tables e below (s₁.setTop (mkF m 16 #[iv pi0, iv pi1, iv pi2, jv pj3, .second, iv x1, iv x3, .unset, .unset, .unset] [(.int (1 : Int32)), (.int x1)])) t → Steps p.tables e below (s₁.setTop (mkF m 16 #[iv pi0, iv pi1, iv pi2, jv pj3, .second, iv x1, iv x3, .unset, .unset, .unset] [(.int (1 : Int32)), (.int x1)])) t := fun t kt => kt
    subst hx6
    by_cases hm16_8 : x1 = (1 : Int32)
    · have pre9 : ∀ t, Steps p.tables e below (s₁.setTop (mkF m 95 #[iv pi0, iv pi1, iv pi2, jv pj3, .second, iv x1, iv x3, iv (x3 &&& (127 : Int32)), .unset, .unset] [])) t → Steps p.tables e below (s₁.setTop (mkF m 16 #[iv pi0, iv pi1, iv pi2, jv pj3, .second, iv x1, iv x3, .unset, .unset, .unset] [(.int (1 : Int32)), (.int x1)])) t := fun t kt => pre7_ t (by
          refine y_icmpNo X0.here hx (hb hby at_16) (teq hm16_8).2 (pc' := 19) rfl ?_
          refine y_iload X0.here hx (hb hby at_19) rfl (pc' := 21) rfl ?_
          refine y_bipush X0.here hx (hb hby at_21) (v := (127 : Int32)) rfl (pc' := 23) rfl ?_
          refine y_iand X0.here hx (hb hby at_23) rfl (pc' := 24) rfl ?_
          refine y_istore X0.here hx (hb hby at_24) (l' := #[iv pi0, iv pi1, iv pi2, jv pj3, .second, iv x1, iv x3, iv (x3 &&& (127 : Int32)), .unset, .unset]) rfl (pc' := 26) rfl ?_
          refine y_goto X0.here hx (hb hby at_26) (pc' := 95) (by decide) rfl ?_
          exact kt)
      refine ⟨s₁, ⟨X0, e0.trans e0.symm⟩, fun t kt => pre9 t ?_⟩
      (try simp only [if_pos hm16_8] at kt)
      exact kt
    · have pre10 : ∀ t, Steps p.tables e below (s₁.setTop (mkF m 32 #[iv pi0, iv pi1, iv pi2, jv pj3, .second, iv x1, iv x3, .unset, .unset, .unset] [(.int (2 : Int32)), (.int x1)])) t → Steps p.tables e below (s₁.setTop (mkF m 16 #[iv pi0, iv pi1, iv pi2, jv pj3, .second, iv x1, iv x3, .unset, .unset, .unset] [(.int (1 : Int32)), (.int x1)])) t := fun t kt => pre7_ t (by
          refine y_icmpYes X0.here hx (hb hby at_16) (feq hm16_8).2 (pc' := 29) (by decide) rfl ?_
          refine y_iload X0.here hx (hb hby at_29) rfl (pc' := 31) rfl ?_
          refine y_iconst X0.here hx (hb hby at_31) (v := (2 : Int32)) rfl (pc' := 32) rfl ?_
          exact kt)
      by_cases hm32_11 : x1 = (2 : Int32)
      · have pre12 : ∀ t, Steps p.tables e below (s₁.setTop (mkF m 95 #[iv pi0, iv pi1, iv pi2, jv pj3, .second, iv x1, iv x3, iv ((128 : Int32) + (x3 % (1920 : Int32))), .unset, .unset] [])) t → Steps p.tables e below (s₁.setTop (mkF m 16 #[iv pi0, iv pi1, iv pi2, jv pj3, .second, iv x1, iv x3, .unset, .unset, .unset] [(.int (1 : Int32)), (.int x1)])) t := fun t kt => pre10 t (by
            refine y_icmpNo X0.here hx (hb hby at_32) (teq hm32_11).2 (pc' := 35) rfl ?_
            refine y_sipush X0.here hx (hb hby at_35) (v := (128 : Int32)) rfl (pc' := 38) rfl ?_
            refine y_iload X0.here hx (hb hby at_38) rfl (pc' := 40) rfl ?_
            refine y_sipush X0.here hx (hb hby at_40) (v := (1920 : Int32)) rfl (pc' := 43) rfl ?_
            refine iremM (g := (mkF m 43 #[iv pi0, iv pi1, iv pi2, jv pj3, .second, iv x1, iv x3, .unset, .unset, .unset] [(.int (1920 : Int32)), (.int x3), (.int (128 : Int32))])) X0 hx rfl (hb hby at_43) rfl (by decide) ?_
            show Steps p.tables e below (s₁.setTop (mkF m 44 #[iv pi0, iv pi1, iv pi2, jv pj3, .second, iv x1, iv x3, .unset, .unset, .unset] [(.int (x3 % (1920 : Int32))), (.int (128 : Int32))])) _
            refine y_iadd X0.here hx (hb hby at_44) rfl (pc' := 45) rfl ?_
            refine y_istore X0.here hx (hb hby at_45) (l' := #[iv pi0, iv pi1, iv pi2, jv pj3, .second, iv x1, iv x3, iv ((128 : Int32) + (x3 % (1920 : Int32))), .unset, .unset]) rfl (pc' := 47) rfl ?_
            refine y_goto X0.here hx (hb hby at_47) (pc' := 95) (by decide) rfl ?_
            exact kt)
        refine ⟨s₁, ⟨X0, e0.trans e0.symm⟩, fun t kt => pre12 t ?_⟩
        (try simp only [if_neg hm16_8, if_pos hm32_11] at kt)
        exact kt
      · have pre13 : ∀ t, Steps p.tables e below (s₁.setTop (mkF m 53 #[iv pi0, iv pi1, iv pi2, jv pj3, .second, iv x1, iv x3, .unset, .unset, .unset] [(.int (3 : Int32)), (.int x1)])) t → Steps p.tables e below (s₁.setTop (mkF m 16 #[iv pi0, iv pi1, iv pi2, jv pj3, .second, iv x1, iv x3, .unset, .unset, .unset] [(.int (1 : Int32)), (.int x1)])) t := fun t kt => pre10 t (by
            refine y_icmpYes X0.here hx (hb hby at_32) (feq hm32_11).2 (pc' := 50) (by decide) rfl ?_
            refine y_iload X0.here hx (hb hby at_50) rfl (pc' := 52) rfl ?_
            refine y_iconst X0.here hx (hb hby at_52) (v := (3 : Int32)) rfl (pc' := 53) rfl ?_
            exact kt)
        by_cases hm53_14 : x1 = (3 : Int32)
        · have pre15 : ∀ t, Steps p.tables e below (s₁.setTop (mkF m 71 #[iv pi0, iv pi1, iv pi2, jv pj3, .second, iv x1, iv x3, iv ((2048 : Int32) + (x3 % (61440 : Int32))), .unset, .unset] [(.int (55296 : Int32)), (.int ((2048 : Int32) + (x3 % (61440 : Int32))))])) t → Steps p.tables e below (s₁.setTop (mkF m 16 #[iv pi0, iv pi1, iv pi2, jv pj3, .second, iv x1, iv x3, .unset, .unset, .unset] [(.int (1 : Int32)), (.int x1)])) t := fun t kt => pre13 t (by
              refine y_icmpNo X0.here hx (hb hby at_53) (teq hm53_14).2 (pc' := 56) rfl ?_
              refine y_sipush X0.here hx (hb hby at_56) (v := (2048 : Int32)) rfl (pc' := 59) rfl ?_
              refine y_iload X0.here hx (hb hby at_59) rfl (pc' := 61) rfl ?_
              refine X0.ldcInt hx hown (mvT hZ (hw _ (List.mem_of_getElem? (i := 8) rfl))) (g := (mkF m 61 #[iv pi0, iv pi1, iv pi2, jv pj3, .second, iv x1, iv x3, .unset, .unset, .unset] [(.int x3), (.int (2048 : Int32))])) rfl (hb hby at_61) _ ?_
              show Steps p.tables e below (s₁.setTop (mkF m 63 #[iv pi0, iv pi1, iv pi2, jv pj3, .second, iv x1, iv x3, .unset, .unset, .unset] [(.int (61440 : Int32)), (.int x3), (.int (2048 : Int32))])) _
              refine iremM (g := (mkF m 63 #[iv pi0, iv pi1, iv pi2, jv pj3, .second, iv x1, iv x3, .unset, .unset, .unset] [(.int (61440 : Int32)), (.int x3), (.int (2048 : Int32))])) X0 hx rfl (hb hby at_63) rfl (by decide) ?_
              show Steps p.tables e below (s₁.setTop (mkF m 64 #[iv pi0, iv pi1, iv pi2, jv pj3, .second, iv x1, iv x3, .unset, .unset, .unset] [(.int (x3 % (61440 : Int32))), (.int (2048 : Int32))])) _
              refine y_iadd X0.here hx (hb hby at_64) rfl (pc' := 65) rfl ?_
              refine y_istore X0.here hx (hb hby at_65) (l' := #[iv pi0, iv pi1, iv pi2, jv pj3, .second, iv x1, iv x3, iv ((2048 : Int32) + (x3 % (61440 : Int32))), .unset, .unset]) rfl (pc' := 67) rfl ?_
              refine y_iload X0.here hx (hb hby at_67) rfl (pc' := 69) rfl ?_
              refine X0.ldcInt hx hown (mvT hZ (hw _ (List.mem_of_getElem? (i := 9) rfl))) (g := (mkF m 69 #[iv pi0, iv pi1, iv pi2, jv pj3, .second, iv x1, iv x3, iv ((2048 : Int32) + (x3 % (61440 : Int32))), .unset, .unset] [(.int ((2048 : Int32) + (x3 % (61440 : Int32))))])) rfl (hb hby at_69) _ ?_
              show Steps p.tables e below (s₁.setTop (mkF m 71 #[iv pi0, iv pi1, iv pi2, jv pj3, .second, iv x1, iv x3, iv ((2048 : Int32) + (x3 % (61440 : Int32))), .unset, .unset] [(.int (55296 : Int32)), (.int ((2048 : Int32) + (x3 % (61440 : Int32))))])) _
              exact kt)
          by_cases hm71_16 : ((2048 : Int32) + (x3 % (61440 : Int32))) < (55296 : Int32)
          · have pre17 : ∀ t, Steps p.tables e below (s₁.setTop (mkF m 95 #[iv pi0, iv pi1, iv pi2, jv pj3, .second, iv x1, iv x3, iv ((2048 : Int32) + (x3 % (61440 : Int32))), .unset, .unset] [])) t → Steps p.tables e below (s₁.setTop (mkF m 16 #[iv pi0, iv pi1, iv pi2, jv pj3, .second, iv x1, iv x3, .unset, .unset, .unset] [(.int (1 : Int32)), (.int x1)])) t := fun t kt => pre15 t (by
                refine y_icmpYes X0.here hx (hb hby at_71) (tlt hm71_16).1 (pc' := 95) (by decide) rfl ?_
                exact kt)
            refine ⟨s₁, ⟨X0, e0.trans e0.symm⟩, fun t kt => pre17 t ?_⟩
            (try simp only [if_neg hm16_8, if_neg hm32_11, if_pos hm53_14, if_pos hm71_16] at kt)
            exact kt
          · have pre18 : ∀ t, Steps p.tables e below (s₁.setTop (mkF m 95 #[iv pi0, iv pi1, iv pi2, jv pj3, .second, iv x1, iv x3, iv (((2048 : Int32) + (x3 % (61440 : Int32))) + (2048 : Int32)), .unset, .unset] [])) t → Steps p.tables e below (s₁.setTop (mkF m 16 #[iv pi0, iv pi1, iv pi2, jv pj3, .second, iv x1, iv x3, .unset, .unset, .unset] [(.int (1 : Int32)), (.int x1)])) t := fun t kt => pre15 t (by
                refine y_icmpNo X0.here hx (hb hby at_71) (flt hm71_16).1 (pc' := 74) rfl ?_
                refine y_iload X0.here hx (hb hby at_74) rfl (pc' := 76) rfl ?_
                refine y_sipush X0.here hx (hb hby at_76) (v := (2048 : Int32)) rfl (pc' := 79) rfl ?_
                refine y_iadd X0.here hx (hb hby at_79) rfl (pc' := 80) rfl ?_
                refine y_istore X0.here hx (hb hby at_80) (l' := #[iv pi0, iv pi1, iv pi2, jv pj3, .second, iv x1, iv x3, iv (((2048 : Int32) + (x3 % (61440 : Int32))) + (2048 : Int32)), .unset, .unset]) rfl (pc' := 82) rfl ?_
                refine y_goto X0.here hx (hb hby at_82) (pc' := 95) (by decide) rfl ?_
                exact kt)
            refine ⟨s₁, ⟨X0, e0.trans e0.symm⟩, fun t kt => pre18 t ?_⟩
            (try simp only [if_neg hm16_8, if_neg hm32_11, if_pos hm53_14, if_neg hm71_16] at kt)
            exact kt
        · have pre19 : ∀ t, Steps p.tables e below (s₁.setTop (mkF m 95 #[iv pi0, iv pi1, iv pi2, jv pj3, .second, iv x1, iv x3, iv ((65536 : Int32) + (x3 % (1048576 : Int32))), .unset, .unset] [])) t → Steps p.tables e below (s₁.setTop (mkF m 16 #[iv pi0, iv pi1, iv pi2, jv pj3, .second, iv x1, iv x3, .unset, .unset, .unset] [(.int (1 : Int32)), (.int x1)])) t := fun t kt => pre13 t (by
              refine y_icmpYes X0.here hx (hb hby at_53) (feq hm53_14).2 (pc' := 85) (by decide) rfl ?_
              refine X0.ldcInt hx hown (mvT hZ (hw _ (List.mem_of_getElem? (i := 10) rfl))) (g := (mkF m 85 #[iv pi0, iv pi1, iv pi2, jv pj3, .second, iv x1, iv x3, .unset, .unset, .unset] [])) rfl (hb hby at_85) _ ?_
              show Steps p.tables e below (s₁.setTop (mkF m 87 #[iv pi0, iv pi1, iv pi2, jv pj3, .second, iv x1, iv x3, .unset, .unset, .unset] [(.int (65536 : Int32))])) _
              refine y_iload X0.here hx (hb hby at_87) rfl (pc' := 89) rfl ?_
              refine X0.ldcInt hx hown (mvT hZ (hw _ (List.mem_of_getElem? (i := 11) rfl))) (g := (mkF m 89 #[iv pi0, iv pi1, iv pi2, jv pj3, .second, iv x1, iv x3, .unset, .unset, .unset] [(.int x3), (.int (65536 : Int32))])) rfl (hb hby at_89) _ ?_
              show Steps p.tables e below (s₁.setTop (mkF m 91 #[iv pi0, iv pi1, iv pi2, jv pj3, .second, iv x1, iv x3, .unset, .unset, .unset] [(.int (1048576 : Int32)), (.int x3), (.int (65536 : Int32))])) _
              refine iremM (g := (mkF m 91 #[iv pi0, iv pi1, iv pi2, jv pj3, .second, iv x1, iv x3, .unset, .unset, .unset] [(.int (1048576 : Int32)), (.int x3), (.int (65536 : Int32))])) X0 hx rfl (hb hby at_91) rfl (by decide) ?_
              show Steps p.tables e below (s₁.setTop (mkF m 92 #[iv pi0, iv pi1, iv pi2, jv pj3, .second, iv x1, iv x3, .unset, .unset, .unset] [(.int (x3 % (1048576 : Int32))), (.int (65536 : Int32))])) _
              refine y_iadd X0.here hx (hb hby at_92) rfl (pc' := 93) rfl ?_
              refine y_istore X0.here hx (hb hby at_93) (l' := #[iv pi0, iv pi1, iv pi2, jv pj3, .second, iv x1, iv x3, iv ((65536 : Int32) + (x3 % (1048576 : Int32))), .unset, .unset]) rfl (pc' := 95) rfl ?_
              exact kt)
          refine ⟨s₁, ⟨X0, e0.trans e0.symm⟩, fun t kt => pre19 t ?_⟩
          (try simp only [if_neg hm16_8, if_neg hm32_11, if_neg hm53_14] at kt)
          exact kt
  have e7 : T7.heap = h0 := q7.trans e0
  have pre20 : ∀ t, Steps p.tables e below (T7.setTop (mkF m 95 #[iv pi0, iv pi1, iv pi2, jv pj3, .second, iv x1, iv x3, iv x6, .unset, .unset] [])) t → Go t := fun t kt => pre5 t (st7 t kt)
  obtain ⟨x21, hx21⟩ : ∃ z : Int32, z = (pi2 &&& (3 : Int32)) := ⟨_, rfl⟩
  have pre22 : ∀ t, Steps p.tables e below (T7.setTop (mkF m 100 #[iv pi0, iv pi1, iv pi2, jv pj3, .second, iv x1, iv x3, iv x6, iv x21, .unset] [])) t → Go t := fun t kt => pre20 t (by
      subst hx21
      refine y_iloadN X7.here hx (hb hby at_95) rfl (pc' := 96) rfl ?_
      refine y_iconst X7.here hx (hb hby at_96) (v := (3 : Int32)) rfl (pc' := 97) rfl ?_
      refine y_iand X7.here hx (hb hby at_97) rfl (pc' := 98) rfl ?_
      refine y_istore X7.here hx (hb hby at_98) (l' := #[iv pi0, iv pi1, iv pi2, jv pj3, .second, iv x1, iv x3, iv x6, iv (pi2 &&& (3 : Int32)), .unset]) rfl (pc' := 100) rfl ?_
      exact kt)
  have pre23 : ∀ t, Steps p.tables e below (T7.setTop (mkF m 102 #[iv pi0, iv pi1, iv pi2, jv pj3, .second, iv x1, iv x3, iv x6, iv x21, .unset] [(.int (8 : Int32))])) t → Go t := fun t kt => pre22 t (by
      refine y_bipush X7.here hx (hb hby at_100) (v := (8 : Int32)) rfl (pc' := 102) rfl ?_
      exact kt)
  obtain ⟨T24, h24, k24, X24, e24, E24, A24, st24⟩ := newP X7 hx hZ (hw _ (List.mem_of_getElem? (i := 1) rfl)) e7 (g := (mkF m 102 #[iv pi0, iv pi1, iv pi2, jv pj3, .second, iv x1, iv x3, iv x6, iv x21, .unset] [(.int (8 : Int32))])) rfl (hb hby at_102) rfl (by decide) (cap := 8) (by decide) (by decide) (by decide) (by decide)
  obtain ⟨b24, g24⟩ : ∃ z, z = h0.size := ⟨_, rfl⟩
  rw [← g24] at A24 st24
  have pre25 : ∀ t, Steps p.tables e below (T24.setTop (mkF m 104 #[iv pi0, iv pi1, iv pi2, jv pj3, .second, iv x1, iv x3, iv x6, iv x21, .unset] [(.ref b24)])) t → Go t := fun t kt => pre23 t (st24 t kt)
  have G26 : n0 ≤ b24 := Nat.le_trans (O0.1 ▸ O0.2.1) (Nat.le_of_eq g24.symm)
  have O26 := O0.ext E24
  have f27 : Arv Z h24 b24 k24 .byte (8 : Int32) [(.int (0 : Int32)), (.int (0 : Int32)), (.int (0 : Int32)), (.int (0 : Int32)), (.int (0 : Int32)), (.int (0 : Int32)), (.int (0 : Int32)), (.int (0 : Int32))] (.int (0 : Int32)) := (Arv.new A24 (by decide)).pad (pad_rep [] (.int (0 : Int32)) 8)
  have pre28 : ∀ t, Steps p.tables e below (T24.setTop (mkF m 112 #[iv pi0, iv pi1, iv pi2, jv pj3, .second, iv x1, iv x3, iv x6, iv x21, rv b24] [(.int ((pj3.toInt32).toInt8.toInt32)), (.int (0 : Int32)), (.ref b24)])) t → Go t := fun t kt => pre25 t (by
      refine y_astore X24.here hx (hb hby at_104) rfl (l' := #[iv pi0, iv pi1, iv pi2, jv pj3, .second, iv x1, iv x3, iv x6, iv x21, rv b24]) rfl (pc' := 106) rfl ?_
      refine y_aload X24.here hx (hb hby at_106) rfl rfl (pc' := 108) rfl ?_
      refine y_iconst X24.here hx (hb hby at_108) (v := (0 : Int32)) rfl (pc' := 109) rfl ?_
      refine y_lloadN X24.here hx (hb hby at_109) rfl (pc' := 110) rfl ?_
      refine y_l2i X24.here hx (hb hby at_110) (z := (pj3.toInt32)) rfl (pc' := 111) rfl ?_
      refine y_i2b X24.here hx (hb hby at_111) (z := ((pj3.toInt32).toInt8.toInt32)) rfl (pc' := 112) rfl ?_
      exact kt)
  obtain ⟨x29, hx29⟩ : ∃ z : Int32, z = ((pj3.toInt32).toInt8.toInt32) := ⟨_, rfl⟩
  have pre30 : ∀ t, Steps p.tables e below (T24.setTop (mkF m 112 #[iv pi0, iv pi1, iv pi2, jv pj3, .second, iv x1, iv x3, iv x6, iv x21, rv b24] [(.int x29), (.int (0 : Int32)), (.ref b24)])) t → Go t := by subst hx29; exact pre28
  obtain ⟨c31, Ar31, q31, S31, M31, H31, G31⟩ := id f27
  have hin31 : ¬ ((0 : Int32) < 0 ∨ c31.slots.size ≤ ((0 : Int32)).toNatClampNeg) := inb_of S31 ⟨by decide, by decide⟩
  obtain ⟨T32, h32, X32, e32, W32, st32⟩ := stB X24 hx hZ e24 Ar31 (j := (0 : Int32)) hin31 (g := (mkF m 112 #[iv pi0, iv pi1, iv pi2, jv pj3, .second, iv x1, iv x3, iv x6, iv x21, rv b24] [(.int x29), (.int (0 : Int32)), (.ref b24)])) rfl rfl (hb hby at_112)
  have pre33 : ∀ t, Steps p.tables e below (T32.setTop (mkF m 113 #[iv pi0, iv pi1, iv pi2, jv pj3, .second, iv x1, iv x3, iv x6, iv x21, rv b24] [])) t → Go t := fun t kt => pre30 t (st32 t kt)
  have N35 := Fr.snoc X32 N0 G26
  have O35 := O26.wr W32 G26
  have f36 : Arv Z h32 b24 k24 .byte (8 : Int32) [(.int (nar .byte x29)), (.int (0 : Int32)), (.int (0 : Int32)), (.int (0 : Int32)), (.int (0 : Int32)), (.int (0 : Int32)), (.int (0 : Int32)), (.int (0 : Int32))] (.int (0 : Int32)) := Arv.set Ar31 q31 S31 M31 H31 G31 (fits_nar_byte _) W32 0 rfl (Nat.le_of_ble_eq_true rfl)
  have pre37 : ∀ t, Steps p.tables e below (T32.setTop (mkF m 122 #[iv pi0, iv pi1, iv pi2, jv pj3, .second, iv x1, iv x3, iv x6, iv x21, rv b24] [(.int ((((pj3.toUInt64 >>> ((8 : Int32) &&& 0x3f).toInt64.toUInt64).toInt64).toInt32).toInt8.toInt32)), (.int (1 : Int32)), (.ref b24)])) t → Go t := fun t kt => pre33 t (by
      refine y_aload X32.here hx (hb hby at_113) rfl rfl (pc' := 115) rfl ?_
      refine y_iconst X32.here hx (hb hby at_115) (v := (1 : Int32)) rfl (pc' := 116) rfl ?_
      refine y_lloadN X32.here hx (hb hby at_116) rfl (pc' := 117) rfl ?_
      refine y_bipush X32.here hx (hb hby at_117) (v := (8 : Int32)) rfl (pc' := 119) rfl ?_
      refine y_lushr X32.here hx (hb hby at_119) (z := ((pj3.toUInt64 >>> ((8 : Int32) &&& 0x3f).toInt64.toUInt64).toInt64)) rfl (pc' := 120) rfl ?_
      refine y_l2i X32.here hx (hb hby at_120) (z := (((pj3.toUInt64 >>> ((8 : Int32) &&& 0x3f).toInt64.toUInt64).toInt64).toInt32)) rfl (pc' := 121) rfl ?_
      refine y_i2b X32.here hx (hb hby at_121) (z := ((((pj3.toUInt64 >>> ((8 : Int32) &&& 0x3f).toInt64.toUInt64).toInt64).toInt32).toInt8.toInt32)) rfl (pc' := 122) rfl ?_
      exact kt)
  obtain ⟨x38, hx38⟩ : ∃ z : Int32, z = ((((pj3.toUInt64 >>> ((8 : Int32) &&& 0x3f).toInt64.toUInt64).toInt64).toInt32).toInt8.toInt32) := ⟨_, rfl⟩
  have pre39 : ∀ t, Steps p.tables e below (T32.setTop (mkF m 122 #[iv pi0, iv pi1, iv pi2, jv pj3, .second, iv x1, iv x3, iv x6, iv x21, rv b24] [(.int x38), (.int (1 : Int32)), (.ref b24)])) t → Go t := by subst hx38; exact pre37
  obtain ⟨c40, Ar40, q40, S40, M40, H40, G40⟩ := id f36
  have hin40 : ¬ ((1 : Int32) < 0 ∨ c40.slots.size ≤ ((1 : Int32)).toNatClampNeg) := inb_of S40 ⟨by decide, by decide⟩
  obtain ⟨T41, h41, X41, e41, W41, st41⟩ := stB X32 hx hZ e32 Ar40 (j := (1 : Int32)) hin40 (g := (mkF m 122 #[iv pi0, iv pi1, iv pi2, jv pj3, .second, iv x1, iv x3, iv x6, iv x21, rv b24] [(.int x38), (.int (1 : Int32)), (.ref b24)])) rfl rfl (hb hby at_122)
  have pre42 : ∀ t, Steps p.tables e below (T41.setTop (mkF m 123 #[iv pi0, iv pi1, iv pi2, jv pj3, .second, iv x1, iv x3, iv x6, iv x21, rv b24] [])) t → Go t := fun t kt => pre39 t (st41 t kt)
  have N44 := Fr.snoc X41 N35 G26
  have O44 := O35.wr W41 G26
  have f45 : Arv Z h41 b24 k24 .byte (8 : Int32) [(.int (nar .byte x29)), (.int (nar .byte x38)), (.int (0 : Int32)), (.int (0 : Int32)), (.int (0 : Int32)), (.int (0 : Int32)), (.int (0 : Int32)), (.int (0 : Int32))] (.int (0 : Int32)) := Arv.set Ar40 q40 S40 M40 H40 G40 (fits_nar_byte _) W41 1 rfl (Nat.le_of_ble_eq_true rfl)
  have pre46 : ∀ t, Steps p.tables e below (T41.setTop (mkF m 132 #[iv pi0, iv pi1, iv pi2, jv pj3, .second, iv x1, iv x3, iv x6, iv x21, rv b24] [(.int ((((pj3.toUInt64 >>> ((16 : Int32) &&& 0x3f).toInt64.toUInt64).toInt64).toInt32).toInt8.toInt32)), (.int (2 : Int32)), (.ref b24)])) t → Go t := fun t kt => pre42 t (by
      refine y_aload X41.here hx (hb hby at_123) rfl rfl (pc' := 125) rfl ?_
      refine y_iconst X41.here hx (hb hby at_125) (v := (2 : Int32)) rfl (pc' := 126) rfl ?_
      refine y_lloadN X41.here hx (hb hby at_126) rfl (pc' := 127) rfl ?_
      refine y_bipush X41.here hx (hb hby at_127) (v := (16 : Int32)) rfl (pc' := 129) rfl ?_
      refine y_lushr X41.here hx (hb hby at_129) (z := ((pj3.toUInt64 >>> ((16 : Int32) &&& 0x3f).toInt64.toUInt64).toInt64)) rfl (pc' := 130) rfl ?_
      refine y_l2i X41.here hx (hb hby at_130) (z := (((pj3.toUInt64 >>> ((16 : Int32) &&& 0x3f).toInt64.toUInt64).toInt64).toInt32)) rfl (pc' := 131) rfl ?_
      refine y_i2b X41.here hx (hb hby at_131) (z := ((((pj3.toUInt64 >>> ((16 : Int32) &&& 0x3f).toInt64.toUInt64).toInt64).toInt32).toInt8.toInt32)) rfl (pc' := 132) rfl ?_
      exact kt)
  obtain ⟨x47, hx47⟩ : ∃ z : Int32, z = ((((pj3.toUInt64 >>> ((16 : Int32) &&& 0x3f).toInt64.toUInt64).toInt64).toInt32).toInt8.toInt32) := ⟨_, rfl⟩
  have pre48 : ∀ t, Steps p.tables e below (T41.setTop (mkF m 132 #[iv pi0, iv pi1, iv pi2, jv pj3, .second, iv x1, iv x3, iv x6, iv x21, rv b24] [(.int x47), (.int (2 : Int32)), (.ref b24)])) t → Go t := by subst hx47; exact pre46
  obtain ⟨c49, Ar49, q49, S49, M49, H49, G49⟩ := id f45
  have hin49 : ¬ ((2 : Int32) < 0 ∨ c49.slots.size ≤ ((2 : Int32)).toNatClampNeg) := inb_of S49 ⟨by decide, by decide⟩
  obtain ⟨T50, h50, X50, e50, W50, st50⟩ := stB X41 hx hZ e41 Ar49 (j := (2 : Int32)) hin49 (g := (mkF m 132 #[iv pi0, iv pi1, iv pi2, jv pj3, .second, iv x1, iv x3, iv x6, iv x21, rv b24] [(.int x47), (.int (2 : Int32)), (.ref b24)])) rfl rfl (hb hby at_132)
  have pre51 : ∀ t, Steps p.tables e below (T50.setTop (mkF m 133 #[iv pi0, iv pi1, iv pi2, jv pj3, .second, iv x1, iv x3, iv x6, iv x21, rv b24] [])) t → Go t := fun t kt => pre48 t (st50 t kt)
  have N53 := Fr.snoc X50 N44 G26
  have O53 := O44.wr W50 G26
  have f54 : Arv Z h50 b24 k24 .byte (8 : Int32) [(.int (nar .byte x29)), (.int (nar .byte x38)), (.int (nar .byte x47)), (.int (0 : Int32)), (.int (0 : Int32)), (.int (0 : Int32)), (.int (0 : Int32)), (.int (0 : Int32))] (.int (0 : Int32)) := Arv.set Ar49 q49 S49 M49 H49 G49 (fits_nar_byte _) W50 2 rfl (Nat.le_of_ble_eq_true rfl)
  have pre55 : ∀ t, Steps p.tables e below (T50.setTop (mkF m 142 #[iv pi0, iv pi1, iv pi2, jv pj3, .second, iv x1, iv x3, iv x6, iv x21, rv b24] [(.int ((((pj3.toUInt64 >>> ((24 : Int32) &&& 0x3f).toInt64.toUInt64).toInt64).toInt32).toInt8.toInt32)), (.int (3 : Int32)), (.ref b24)])) t → Go t := fun t kt => pre51 t (by
      refine y_aload X50.here hx (hb hby at_133) rfl rfl (pc' := 135) rfl ?_
      refine y_iconst X50.here hx (hb hby at_135) (v := (3 : Int32)) rfl (pc' := 136) rfl ?_
      refine y_lloadN X50.here hx (hb hby at_136) rfl (pc' := 137) rfl ?_
      refine y_bipush X50.here hx (hb hby at_137) (v := (24 : Int32)) rfl (pc' := 139) rfl ?_
      refine y_lushr X50.here hx (hb hby at_139) (z := ((pj3.toUInt64 >>> ((24 : Int32) &&& 0x3f).toInt64.toUInt64).toInt64)) rfl (pc' := 140) rfl ?_
      refine y_l2i X50.here hx (hb hby at_140) (z := (((pj3.toUInt64 >>> ((24 : Int32) &&& 0x3f).toInt64.toUInt64).toInt64).toInt32)) rfl (pc' := 141) rfl ?_
      refine y_i2b X50.here hx (hb hby at_141) (z := ((((pj3.toUInt64 >>> ((24 : Int32) &&& 0x3f).toInt64.toUInt64).toInt64).toInt32).toInt8.toInt32)) rfl (pc' := 142) rfl ?_
      exact kt)
  obtain ⟨x56, hx56⟩ : ∃ z : Int32, z = ((((pj3.toUInt64 >>> ((24 : Int32) &&& 0x3f).toInt64.toUInt64).toInt64).toInt32).toInt8.toInt32) := ⟨_, rfl⟩
  have pre57 : ∀ t, Steps p.tables e below (T50.setTop (mkF m 142 #[iv pi0, iv pi1, iv pi2, jv pj3, .second, iv x1, iv x3, iv x6, iv x21, rv b24] [(.int x56), (.int (3 : Int32)), (.ref b24)])) t → Go t := by subst hx56; exact pre55
  obtain ⟨c58, Ar58, q58, S58, M58, H58, G58⟩ := id f54
  have hin58 : ¬ ((3 : Int32) < 0 ∨ c58.slots.size ≤ ((3 : Int32)).toNatClampNeg) := inb_of S58 ⟨by decide, by decide⟩
  obtain ⟨T59, h59, X59, e59, W59, st59⟩ := stB X50 hx hZ e50 Ar58 (j := (3 : Int32)) hin58 (g := (mkF m 142 #[iv pi0, iv pi1, iv pi2, jv pj3, .second, iv x1, iv x3, iv x6, iv x21, rv b24] [(.int x56), (.int (3 : Int32)), (.ref b24)])) rfl rfl (hb hby at_142)
  have pre60 : ∀ t, Steps p.tables e below (T59.setTop (mkF m 143 #[iv pi0, iv pi1, iv pi2, jv pj3, .second, iv x1, iv x3, iv x6, iv x21, rv b24] [])) t → Go t := fun t kt => pre57 t (st59 t kt)
  have N62 := Fr.snoc X59 N53 G26
  have O62 := O53.wr W59 G26
  have f63 : Arv Z h59 b24 k24 .byte (8 : Int32) [(.int (nar .byte x29)), (.int (nar .byte x38)), (.int (nar .byte x47)), (.int (nar .byte x56)), (.int (0 : Int32)), (.int (0 : Int32)), (.int (0 : Int32)), (.int (0 : Int32))] (.int (0 : Int32)) := Arv.set Ar58 q58 S58 M58 H58 G58 (fits_nar_byte _) W59 3 rfl (Nat.le_of_ble_eq_true rfl)
  have pre64 : ∀ t, Steps p.tables e below (T59.setTop (mkF m 152 #[iv pi0, iv pi1, iv pi2, jv pj3, .second, iv x1, iv x3, iv x6, iv x21, rv b24] [(.int ((((pj3.toUInt64 >>> ((32 : Int32) &&& 0x3f).toInt64.toUInt64).toInt64).toInt32).toInt8.toInt32)), (.int (4 : Int32)), (.ref b24)])) t → Go t := fun t kt => pre60 t (by
      refine y_aload X59.here hx (hb hby at_143) rfl rfl (pc' := 145) rfl ?_
      refine y_iconst X59.here hx (hb hby at_145) (v := (4 : Int32)) rfl (pc' := 146) rfl ?_
      refine y_lloadN X59.here hx (hb hby at_146) rfl (pc' := 147) rfl ?_
      refine y_bipush X59.here hx (hb hby at_147) (v := (32 : Int32)) rfl (pc' := 149) rfl ?_
      refine y_lushr X59.here hx (hb hby at_149) (z := ((pj3.toUInt64 >>> ((32 : Int32) &&& 0x3f).toInt64.toUInt64).toInt64)) rfl (pc' := 150) rfl ?_
      refine y_l2i X59.here hx (hb hby at_150) (z := (((pj3.toUInt64 >>> ((32 : Int32) &&& 0x3f).toInt64.toUInt64).toInt64).toInt32)) rfl (pc' := 151) rfl ?_
      refine y_i2b X59.here hx (hb hby at_151) (z := ((((pj3.toUInt64 >>> ((32 : Int32) &&& 0x3f).toInt64.toUInt64).toInt64).toInt32).toInt8.toInt32)) rfl (pc' := 152) rfl ?_
      exact kt)
  obtain ⟨x65, hx65⟩ : ∃ z : Int32, z = ((((pj3.toUInt64 >>> ((32 : Int32) &&& 0x3f).toInt64.toUInt64).toInt64).toInt32).toInt8.toInt32) := ⟨_, rfl⟩
  have pre66 : ∀ t, Steps p.tables e below (T59.setTop (mkF m 152 #[iv pi0, iv pi1, iv pi2, jv pj3, .second, iv x1, iv x3, iv x6, iv x21, rv b24] [(.int x65), (.int (4 : Int32)), (.ref b24)])) t → Go t := by subst hx65; exact pre64
  obtain ⟨c67, Ar67, q67, S67, M67, H67, G67⟩ := id f63
  have hin67 : ¬ ((4 : Int32) < 0 ∨ c67.slots.size ≤ ((4 : Int32)).toNatClampNeg) := inb_of S67 ⟨by decide, by decide⟩
  obtain ⟨T68, h68, X68, e68, W68, st68⟩ := stB X59 hx hZ e59 Ar67 (j := (4 : Int32)) hin67 (g := (mkF m 152 #[iv pi0, iv pi1, iv pi2, jv pj3, .second, iv x1, iv x3, iv x6, iv x21, rv b24] [(.int x65), (.int (4 : Int32)), (.ref b24)])) rfl rfl (hb hby at_152)
  have pre69 : ∀ t, Steps p.tables e below (T68.setTop (mkF m 153 #[iv pi0, iv pi1, iv pi2, jv pj3, .second, iv x1, iv x3, iv x6, iv x21, rv b24] [])) t → Go t := fun t kt => pre66 t (st68 t kt)
  have N71 := Fr.snoc X68 N62 G26
  have O71 := O62.wr W68 G26
  have f72 : Arv Z h68 b24 k24 .byte (8 : Int32) [(.int (nar .byte x29)), (.int (nar .byte x38)), (.int (nar .byte x47)), (.int (nar .byte x56)), (.int (nar .byte x65)), (.int (0 : Int32)), (.int (0 : Int32)), (.int (0 : Int32))] (.int (0 : Int32)) := Arv.set Ar67 q67 S67 M67 H67 G67 (fits_nar_byte _) W68 4 rfl (Nat.le_of_ble_eq_true rfl)
  have pre73 : ∀ t, Steps p.tables e below (T68.setTop (mkF m 162 #[iv pi0, iv pi1, iv pi2, jv pj3, .second, iv x1, iv x3, iv x6, iv x21, rv b24] [(.int ((((pj3.toUInt64 >>> ((40 : Int32) &&& 0x3f).toInt64.toUInt64).toInt64).toInt32).toInt8.toInt32)), (.int (5 : Int32)), (.ref b24)])) t → Go t := fun t kt => pre69 t (by
      refine y_aload X68.here hx (hb hby at_153) rfl rfl (pc' := 155) rfl ?_
      refine y_iconst X68.here hx (hb hby at_155) (v := (5 : Int32)) rfl (pc' := 156) rfl ?_
      refine y_lloadN X68.here hx (hb hby at_156) rfl (pc' := 157) rfl ?_
      refine y_bipush X68.here hx (hb hby at_157) (v := (40 : Int32)) rfl (pc' := 159) rfl ?_
      refine y_lushr X68.here hx (hb hby at_159) (z := ((pj3.toUInt64 >>> ((40 : Int32) &&& 0x3f).toInt64.toUInt64).toInt64)) rfl (pc' := 160) rfl ?_
      refine y_l2i X68.here hx (hb hby at_160) (z := (((pj3.toUInt64 >>> ((40 : Int32) &&& 0x3f).toInt64.toUInt64).toInt64).toInt32)) rfl (pc' := 161) rfl ?_
      refine y_i2b X68.here hx (hb hby at_161) (z := ((((pj3.toUInt64 >>> ((40 : Int32) &&& 0x3f).toInt64.toUInt64).toInt64).toInt32).toInt8.toInt32)) rfl (pc' := 162) rfl ?_
      exact kt)
  obtain ⟨x74, hx74⟩ : ∃ z : Int32, z = ((((pj3.toUInt64 >>> ((40 : Int32) &&& 0x3f).toInt64.toUInt64).toInt64).toInt32).toInt8.toInt32) := ⟨_, rfl⟩
  have pre75 : ∀ t, Steps p.tables e below (T68.setTop (mkF m 162 #[iv pi0, iv pi1, iv pi2, jv pj3, .second, iv x1, iv x3, iv x6, iv x21, rv b24] [(.int x74), (.int (5 : Int32)), (.ref b24)])) t → Go t := by subst hx74; exact pre73
  obtain ⟨c76, Ar76, q76, S76, M76, H76, G76⟩ := id f72
  have hin76 : ¬ ((5 : Int32) < 0 ∨ c76.slots.size ≤ ((5 : Int32)).toNatClampNeg) := inb_of S76 ⟨by decide, by decide⟩
  obtain ⟨T77, h77, X77, e77, W77, st77⟩ := stB X68 hx hZ e68 Ar76 (j := (5 : Int32)) hin76 (g := (mkF m 162 #[iv pi0, iv pi1, iv pi2, jv pj3, .second, iv x1, iv x3, iv x6, iv x21, rv b24] [(.int x74), (.int (5 : Int32)), (.ref b24)])) rfl rfl (hb hby at_162)
  have pre78 : ∀ t, Steps p.tables e below (T77.setTop (mkF m 163 #[iv pi0, iv pi1, iv pi2, jv pj3, .second, iv x1, iv x3, iv x6, iv x21, rv b24] [])) t → Go t := fun t kt => pre75 t (st77 t kt)
  have N80 := Fr.snoc X77 N71 G26
  have O80 := O71.wr W77 G26
  have f81 : Arv Z h77 b24 k24 .byte (8 : Int32) [(.int (nar .byte x29)), (.int (nar .byte x38)), (.int (nar .byte x47)), (.int (nar .byte x56)), (.int (nar .byte x65)), (.int (nar .byte x74)), (.int (0 : Int32)), (.int (0 : Int32))] (.int (0 : Int32)) := Arv.set Ar76 q76 S76 M76 H76 G76 (fits_nar_byte _) W77 5 rfl (Nat.le_of_ble_eq_true rfl)
  have pre82 : ∀ t, Steps p.tables e below (T77.setTop (mkF m 173 #[iv pi0, iv pi1, iv pi2, jv pj3, .second, iv x1, iv x3, iv x6, iv x21, rv b24] [(.int ((((pj3.toUInt64 >>> ((48 : Int32) &&& 0x3f).toInt64.toUInt64).toInt64).toInt32).toInt8.toInt32)), (.int (6 : Int32)), (.ref b24)])) t → Go t := fun t kt => pre78 t (by
      refine y_aload X77.here hx (hb hby at_163) rfl rfl (pc' := 165) rfl ?_
      refine y_bipush X77.here hx (hb hby at_165) (v := (6 : Int32)) rfl (pc' := 167) rfl ?_
      refine y_lloadN X77.here hx (hb hby at_167) rfl (pc' := 168) rfl ?_
      refine y_bipush X77.here hx (hb hby at_168) (v := (48 : Int32)) rfl (pc' := 170) rfl ?_
      refine y_lushr X77.here hx (hb hby at_170) (z := ((pj3.toUInt64 >>> ((48 : Int32) &&& 0x3f).toInt64.toUInt64).toInt64)) rfl (pc' := 171) rfl ?_
      refine y_l2i X77.here hx (hb hby at_171) (z := (((pj3.toUInt64 >>> ((48 : Int32) &&& 0x3f).toInt64.toUInt64).toInt64).toInt32)) rfl (pc' := 172) rfl ?_
      refine y_i2b X77.here hx (hb hby at_172) (z := ((((pj3.toUInt64 >>> ((48 : Int32) &&& 0x3f).toInt64.toUInt64).toInt64).toInt32).toInt8.toInt32)) rfl (pc' := 173) rfl ?_
      exact kt)
  obtain ⟨x83, hx83⟩ : ∃ z : Int32, z = ((((pj3.toUInt64 >>> ((48 : Int32) &&& 0x3f).toInt64.toUInt64).toInt64).toInt32).toInt8.toInt32) := ⟨_, rfl⟩
  have pre84 : ∀ t, Steps p.tables e below (T77.setTop (mkF m 173 #[iv pi0, iv pi1, iv pi2, jv pj3, .second, iv x1, iv x3, iv x6, iv x21, rv b24] [(.int x83), (.int (6 : Int32)), (.ref b24)])) t → Go t := by subst hx83; exact pre82
  obtain ⟨c85, Ar85, q85, S85, M85, H85, G85⟩ := id f81
  have hin85 : ¬ ((6 : Int32) < 0 ∨ c85.slots.size ≤ ((6 : Int32)).toNatClampNeg) := inb_of S85 ⟨by decide, by decide⟩
  obtain ⟨T86, h86, X86, e86, W86, st86⟩ := stB X77 hx hZ e77 Ar85 (j := (6 : Int32)) hin85 (g := (mkF m 173 #[iv pi0, iv pi1, iv pi2, jv pj3, .second, iv x1, iv x3, iv x6, iv x21, rv b24] [(.int x83), (.int (6 : Int32)), (.ref b24)])) rfl rfl (hb hby at_173)
  have pre87 : ∀ t, Steps p.tables e below (T86.setTop (mkF m 174 #[iv pi0, iv pi1, iv pi2, jv pj3, .second, iv x1, iv x3, iv x6, iv x21, rv b24] [])) t → Go t := fun t kt => pre84 t (st86 t kt)
  have N89 := Fr.snoc X86 N80 G26
  have O89 := O80.wr W86 G26
  have f90 : Arv Z h86 b24 k24 .byte (8 : Int32) [(.int (nar .byte x29)), (.int (nar .byte x38)), (.int (nar .byte x47)), (.int (nar .byte x56)), (.int (nar .byte x65)), (.int (nar .byte x74)), (.int (nar .byte x83)), (.int (0 : Int32))] (.int (0 : Int32)) := Arv.set Ar85 q85 S85 M85 H85 G85 (fits_nar_byte _) W86 6 rfl (Nat.le_of_ble_eq_true rfl)
  have pre91 : ∀ t, Steps p.tables e below (T86.setTop (mkF m 184 #[iv pi0, iv pi1, iv pi2, jv pj3, .second, iv x1, iv x3, iv x6, iv x21, rv b24] [(.int ((((pj3.toUInt64 >>> ((56 : Int32) &&& 0x3f).toInt64.toUInt64).toInt64).toInt32).toInt8.toInt32)), (.int (7 : Int32)), (.ref b24)])) t → Go t := fun t kt => pre87 t (by
      refine y_aload X86.here hx (hb hby at_174) rfl rfl (pc' := 176) rfl ?_
      refine y_bipush X86.here hx (hb hby at_176) (v := (7 : Int32)) rfl (pc' := 178) rfl ?_
      refine y_lloadN X86.here hx (hb hby at_178) rfl (pc' := 179) rfl ?_
      refine y_bipush X86.here hx (hb hby at_179) (v := (56 : Int32)) rfl (pc' := 181) rfl ?_
      refine y_lushr X86.here hx (hb hby at_181) (z := ((pj3.toUInt64 >>> ((56 : Int32) &&& 0x3f).toInt64.toUInt64).toInt64)) rfl (pc' := 182) rfl ?_
      refine y_l2i X86.here hx (hb hby at_182) (z := (((pj3.toUInt64 >>> ((56 : Int32) &&& 0x3f).toInt64.toUInt64).toInt64).toInt32)) rfl (pc' := 183) rfl ?_
      refine y_i2b X86.here hx (hb hby at_183) (z := ((((pj3.toUInt64 >>> ((56 : Int32) &&& 0x3f).toInt64.toUInt64).toInt64).toInt32).toInt8.toInt32)) rfl (pc' := 184) rfl ?_
      exact kt)
  obtain ⟨x92, hx92⟩ : ∃ z : Int32, z = ((((pj3.toUInt64 >>> ((56 : Int32) &&& 0x3f).toInt64.toUInt64).toInt64).toInt32).toInt8.toInt32) := ⟨_, rfl⟩
  have pre93 : ∀ t, Steps p.tables e below (T86.setTop (mkF m 184 #[iv pi0, iv pi1, iv pi2, jv pj3, .second, iv x1, iv x3, iv x6, iv x21, rv b24] [(.int x92), (.int (7 : Int32)), (.ref b24)])) t → Go t := by subst hx92; exact pre91
  obtain ⟨c94, Ar94, q94, S94, M94, H94, G94⟩ := id f90
  have hin94 : ¬ ((7 : Int32) < 0 ∨ c94.slots.size ≤ ((7 : Int32)).toNatClampNeg) := inb_of S94 ⟨by decide, by decide⟩
  obtain ⟨T95, h95, X95, e95, W95, st95⟩ := stB X86 hx hZ e86 Ar94 (j := (7 : Int32)) hin94 (g := (mkF m 184 #[iv pi0, iv pi1, iv pi2, jv pj3, .second, iv x1, iv x3, iv x6, iv x21, rv b24] [(.int x92), (.int (7 : Int32)), (.ref b24)])) rfl rfl (hb hby at_184)
  have pre96 : ∀ t, Steps p.tables e below (T95.setTop (mkF m 185 #[iv pi0, iv pi1, iv pi2, jv pj3, .second, iv x1, iv x3, iv x6, iv x21, rv b24] [])) t → Go t := fun t kt => pre93 t (st95 t kt)
  have N98 := Fr.snoc X95 N89 G26
  have O98 := O89.wr W95 G26
  have f99 : Arv Z h95 b24 k24 .byte (8 : Int32) [(.int (nar .byte x29)), (.int (nar .byte x38)), (.int (nar .byte x47)), (.int (nar .byte x56)), (.int (nar .byte x65)), (.int (nar .byte x74)), (.int (nar .byte x83)), (.int (nar .byte x92))] (.int (0 : Int32)) := Arv.set Ar94 q94 S94 M94 H94 G94 (fits_nar_byte _) W95 7 rfl (Nat.le_of_ble_eq_true rfl)
  (try clear pre2)
  (try clear pre4)
  (try clear pre5)
  (try clear q7)
  (try clear st7)
  (try clear e7)
  (try clear pre20)
  (try clear pre22)
  (try clear pre23)
  (try clear e24)
  (try clear E24)
  (try clear A24)
  (try clear st24)
  (try clear g24)
  (try clear pre25)
  (try clear O26)
  (try clear f27)
  (try clear pre28)
  (try clear pre30)
  (try clear q31)
  (try clear S31)
  (try clear M31)
  (try clear H31)
  (try clear G31)
  (try clear hin31)
  (try clear e32)
  (try clear W32)
  (try clear st32)
  (try clear pre33)
  (try clear N35)
  (try clear O35)
  (try clear f36)
  (try clear pre37)
  (try clear pre39)
  (try clear q40)
  (try clear S40)
  (try clear M40)
  (try clear H40)
  (try clear G40)
  (try clear hin40)
  (try clear e41)
  (try clear W41)
  (try clear st41)
  (try clear pre42)
  (try clear N44)
  (try clear O44)
  (try clear f45)
  (try clear pre46)
  (try clear pre48)
  (try clear q49)
  (try clear S49)
  (try clear M49)
  (try clear H49)
  (try clear G49)
  (try clear hin49)
  (try clear e50)
  (try clear W50)
  (try clear st50)
  (try clear pre51)
  (try clear N53)
  (try clear O53)
  (try clear f54)
  (try clear pre55)
  (try clear pre57)
  (try clear q58)
  (try clear S58)
  (try clear M58)
  (try clear H58)
  (try clear G58)
  (try clear hin58)
  (try clear e59)
  (try clear W59)
  (try clear st59)
  (try clear pre60)
  (try clear N62)
  (try clear O62)
  (try clear f63)
  (try clear pre64)
  (try clear pre66)
  (try clear q67)
  (try clear S67)
  (try clear M67)
  (try clear H67)
  (try clear G67)
  (try clear hin67)
  (try clear e68)
  (try clear W68)
  (try clear st68)
  (try clear pre69)
  (try clear N71)
  (try clear O71)
  (try clear f72)
  (try clear pre73)
  (try clear pre75)
  (try clear q76)
  (try clear S76)
  (try clear M76)
  (try clear H76)
  (try clear G76)
  (try clear hin76)
  (try clear e77)
  (try clear W77)
  (try clear st77)
  (try clear pre78)
  (try clear N80)
  (try clear O80)
  (try clear f81)
  (try clear pre82)
  (try clear pre84)
  (try clear q85)
  (try clear S85)
  (try clear M85)
  (try clear H85)
  (try clear G85)
  (try clear hin85)
  (try clear e86)
  (try clear W86)
  (try clear st86)
  (try clear pre87)
  (try clear N89)
  (try clear O89)
  (try clear f90)
  (try clear pre91)
  (try clear pre93)
  (try clear q94)
  (try clear S94)
  (try clear M94)
  (try clear H94)
  (try clear G94)
  (try clear hin94)
  (try clear W95)
  (try clear st95)
  have hs185_100 : x1 = (1 : Int32) ∨ x1 = (2 : Int32) ∨ x1 = (3 : Int32) ∨ x1 = (4 : Int32) := by
      have q : (pi0 &&& (3 : Int32)).toInt = pi0.toInt % 4 := c_mask pi0 3 2 (by decide) (by decide)
      have q1 := c_iadd (pi0 &&& (3 : Int32)) 1
      have q2 := ((pi0 &&& (3 : Int32)) + 1).le_toInt
      have q3 := ((pi0 &&& (3 : Int32)) + 1).toInt_lt
      have e1 : (1 : Int32).toInt = 1 := rfl
      rw [← hx1] at q1 q2 q3
      have h : x1.toInt = 1 ∨ x1.toInt = 2 ∨ x1.toInt = 3 ∨ x1.toInt = 4 := by omega
      rcases h with h | h | h | h
      · exact Or.inl (own_of h)
      · exact Or.inr (Or.inl (own_of h))
      · exact Or.inr (Or.inr (Or.inl (own_of h)))
      · exact Or.inr (Or.inr (Or.inr (own_of h)))
  rcases hs185_100 with rfl | rfl | rfl | rfl
  · skip
    have hs185_101 : x21 = (0 : Int32) ∨ x21 = (1 : Int32) ∨ x21 = (2 : Int32) ∨ x21 = (3 : Int32) := by
        have q : (pi2 &&& (3 : Int32)).toInt = pi2.toInt % 4 := c_mask pi2 3 2 (by decide) (by decide)
        rw [← hx21] at q
        have h : x21.toInt = 0 ∨ x21.toInt = 1 ∨ x21.toInt = 2 ∨ x21.toInt = 3 := by omega
        rcases h with h | h | h | h
        · exact Or.inl (own_of h)
        · exact Or.inr (Or.inl (own_of h))
        · exact Or.inr (Or.inr (Or.inl (own_of h)))
        · exact Or.inr (Or.inr (Or.inr (own_of h)))
    rcases hs185_101 with rfl | rfl | rfl | rfl
    · skip
      have pre102 : ∀ t, Steps p.tables e below (T95.setTop (mkF m 198 #[iv pi0, iv pi1, iv pi2, jv pj3, .second, iv (1 : Int32), iv x3, iv x6, iv (0 : Int32), rv b24] [(.int (x6.toInt8.toInt32)), (.int (0 : Int32)), (.ref b24)])) t → Go t := fun t kt => pre96 t (by
          refine y_iload X95.here hx (hb hby at_185) rfl (pc' := 187) rfl ?_
          refine y_iconst X95.here hx (hb hby at_187) (v := (1 : Int32)) rfl (pc' := 188) rfl ?_
          refine y_icmpNo X95.here hx (hb hby at_188) (teq (rfl : (1 : Int32) = (1 : Int32))).2 (pc' := 191) rfl ?_
          refine y_aload X95.here hx (hb hby at_191) rfl rfl (pc' := 193) rfl ?_
          refine y_iload X95.here hx (hb hby at_193) rfl (pc' := 195) rfl ?_
          refine y_iload X95.here hx (hb hby at_195) rfl (pc' := 197) rfl ?_
          refine y_i2b X95.here hx (hb hby at_197) (z := (x6.toInt8.toInt32)) rfl (pc' := 198) rfl ?_
          exact kt)
      obtain ⟨x103, hx103⟩ : ∃ z : Int32, z = (x6.toInt8.toInt32) := ⟨_, rfl⟩
      have pre104 : ∀ t, Steps p.tables e below (T95.setTop (mkF m 198 #[iv pi0, iv pi1, iv pi2, jv pj3, .second, iv (1 : Int32), iv x3, iv x6, iv (0 : Int32), rv b24] [(.int x103), (.int (0 : Int32)), (.ref b24)])) t → Go t := by subst hx103; exact pre102
      obtain ⟨c105, Ar105, q105, S105, M105, H105, G105⟩ := id f99
      have hin105 : ¬ ((0 : Int32) < 0 ∨ c105.slots.size ≤ ((0 : Int32)).toNatClampNeg) := inb_of S105 ⟨by decide, by decide⟩
      obtain ⟨T106, h106, X106, e106, W106, st106⟩ := stB X95 hx hZ e95 Ar105 (j := (0 : Int32)) hin105 (g := (mkF m 198 #[iv pi0, iv pi1, iv pi2, jv pj3, .second, iv (1 : Int32), iv x3, iv x6, iv (0 : Int32), rv b24] [(.int x103), (.int (0 : Int32)), (.ref b24)])) rfl rfl (hb hby at_198)
      have pre107 : ∀ t, Steps p.tables e below (T106.setTop (mkF m 199 #[iv pi0, iv pi1, iv pi2, jv pj3, .second, iv (1 : Int32), iv x3, iv x6, iv (0 : Int32), rv b24] [])) t → Go t := fun t kt => pre104 t (st106 t kt)
      have N109 := Fr.snoc X106 N98 G26
      have O109 := O98.wr W106 G26
      have f110 : Arv Z h106 b24 k24 .byte (8 : Int32) [(.int (nar .byte x103)), (.int (nar .byte x38)), (.int (nar .byte x47)), (.int (nar .byte x56)), (.int (nar .byte x65)), (.int (nar .byte x74)), (.int (nar .byte x83)), (.int (nar .byte x92))] (.int (0 : Int32)) := Arv.set Ar105 q105 S105 M105 H105 G105 (fits_nar_byte _) W106 0 rfl (Nat.le_of_ble_eq_true rfl)
      have pre111 : ∀ t, Steps p.tables e below (T106.setTop (mkF m 382 #[iv pi0, iv pi1, iv pi2, jv pj3, .second, iv (1 : Int32), iv x3, iv x6, iv (0 : Int32), rv b24] [(.int (1 : Int32)), (.int (0 : Int32)), (.ref b24)])) t → Go t := fun t kt => pre107 t (by
          refine y_goto X106.here hx (hb hby at_199) (pc' := 376) (by decide) rfl ?_
          refine y_aload X106.here hx (hb hby at_376) rfl rfl (pc' := 378) rfl ?_
          refine y_iload X106.here hx (hb hby at_378) rfl (pc' := 380) rfl ?_
          refine y_iload X106.here hx (hb hby at_380) rfl (pc' := 382) rfl ?_
          exact kt)
      obtain ⟨v112, _, ⟨T112, L112, k112, n112⟩, -, X112, ⟨Lc112, hQ112, l112, y112, z112⟩, st112⟩ := Jvm.LawKit.callS X106 hx (y := (⟨"com/example/strict_codec/strictcodec/Utf8Grammar", "scalarValue", "([BII)I"⟩ : MethodName)) hown (mvT hZ (hw _ (List.mem_of_getElem? (i := 2) rfl))) (mvT hZ (hw _ (List.mem_of_getElem? (i := 3) rfl))) (mvT hZ (hw _ (List.mem_of_getElem? (i := 4) rfl))) (mvT hZ (hw _ (List.mem_of_getElem? (i := 5) rfl))) (by decide) (backOf (W := 0) (rm1a0l1 l Z a0 hw [] b24 w_LEAD_PAYLOAD k24 (nar .byte x103) (nar .byte x38) (nar .byte x47) (nar .byte x56) (nar .byte x65) (nar .byte x74) (nar .byte x83) (nar .byte x92) cc_w_LEAD_PAYLOAD h106 n0 O109 S_LEAD_PAYLOAD f110 AR_w_LEAD_PAYLOAD IN1_w_LEAD_PAYLOAD AT1_w_LEAD_PAYLOAD) hZ (hw _ (List.mem_of_getElem? (i := 5) rfl)) (hw _ (List.mem_of_getElem? (i := 4) rfl)) (by decide) (by decide)) (g := (mkF m 382 #[iv pi0, iv pi1, iv pi2, jv pj3, .second, iv (1 : Int32), iv x3, iv x6, iv (0 : Int32), rv b24] [(.int (1 : Int32)), (.int (0 : Int32)), (.ref b24)])) rfl (by rw [hml]; rfl) (argsL := [(.ref b24), (.int (0 : Int32)), (.int (1 : Int32))]) (rest := []) (lenOf pd___BII_I rfl) rfl (by show 2 * 0 + _ ≤ _; exact Nat.le_of_eq rfl) (hb hby at_382) (fun _ _ => ⟨rfl, e106, (by decide : 1 + 0 ≤ _), (by decide : 8 + 0 ≤ _)⟩)
      dsimp only [Pt.U, Pt.locs, Pt.cells, Pt.slots] at X112 l112 y112 z112 st112 hQ112
      subst l112 y112 z112
      obtain ⟨hv112, N112q, e112q⟩ := hQ112
      have N113 := Fr.app N109 N112q
      have hw112 := hv112
      obtain ⟨x114, hx114⟩ : ∃ z : Int32, z = ((nar .byte x103) &&& (127 : Int32)) := ⟨_, rfl⟩
      rw [← hx114] at hw112
      subst hw112
      have pre115 : ∀ t, Steps p.tables e below (T112.setTop (mkF m 385 #[iv pi0, iv pi1, iv pi2, jv pj3, .second, iv (1 : Int32), iv x3, iv x6, iv (0 : Int32), rv b24] [(.int x114)])) t → Go t := fun t kt => pre111 t (st112 t kt)
      have pre117 : ∀ t, Steps p.tables e below (T112.setTop (mkF m 387 #[iv pi0, iv pi1, iv pi2, jv pj3, .second, iv (1 : Int32), iv x3, iv x6, iv (0 : Int32), rv b24] [(.int x6), (.int x114)])) t → Go t := fun t kt => pre115 t (by
          refine y_iload X112.here hx (hb hby at_385) rfl (pc' := 387) rfl ?_
          exact kt)
      have hf387_116 : x114 = x6 := by
          exact law0_118 pi0 pi1 pi2 x3 x6 x103 x114 hx3 hx6 hx103 hx114 hx1 hx21
      have pre119 : ∀ t, Steps p.tables e below (T112.setTop (mkF m 395 #[iv pi0, iv pi1, iv pi2, jv pj3, .second, iv (1 : Int32), iv x3, iv x6, iv (0 : Int32), rv b24] [(.int (1 : Int32))])) t → Go t := fun t kt => pre117 t (by
          refine y_icmpNo X112.here hx (hb hby at_387) (teq hf387_116).2 (pc' := 390) rfl ?_
          refine y_iconst X112.here hx (hb hby at_390) (v := (1 : Int32)) rfl (pc' := 391) rfl ?_
          refine y_goto X112.here hx (hb hby at_391) (pc' := 395) (by decide) rfl ?_
          exact kt)
      obtain ⟨fs, hr, hrun, hended, hW, hsame⟩ := X112.leave (v := some (.int (1 : Int32))) (fun h => by rw [Bd.returns] at h; cases h)
      refine ⟨_, _, (hGo _).mp (pre119 _ ?_), hrun, hended, _, _, rfl, ?_, ⟨_, rfl⟩, hW, hsame.mono (by decide) (by decide)⟩
      · exact retN X112 hx (t := .boolean) Bd.returns (by simp) (hb hby at_395) hr
      · show Q0 Z pi0 pi1 pi2 pj3 w_LEAD_PAYLOAD cc_w_LEAD_PAYLOAD h0 n0 _ T112.heap _
        rw [e112q]
        exact ⟨rfl, N113⟩
    · skip
      have pre120 : ∀ t, Steps p.tables e below (T95.setTop (mkF m 198 #[iv pi0, iv pi1, iv pi2, jv pj3, .second, iv (1 : Int32), iv x3, iv x6, iv (1 : Int32), rv b24] [(.int (x6.toInt8.toInt32)), (.int (1 : Int32)), (.ref b24)])) t → Go t := fun t kt => pre96 t (by
          refine y_iload X95.here hx (hb hby at_185) rfl (pc' := 187) rfl ?_
          refine y_iconst X95.here hx (hb hby at_187) (v := (1 : Int32)) rfl (pc' := 188) rfl ?_
          refine y_icmpNo X95.here hx (hb hby at_188) (teq (rfl : (1 : Int32) = (1 : Int32))).2 (pc' := 191) rfl ?_
          refine y_aload X95.here hx (hb hby at_191) rfl rfl (pc' := 193) rfl ?_
          refine y_iload X95.here hx (hb hby at_193) rfl (pc' := 195) rfl ?_
          refine y_iload X95.here hx (hb hby at_195) rfl (pc' := 197) rfl ?_
          refine y_i2b X95.here hx (hb hby at_197) (z := (x6.toInt8.toInt32)) rfl (pc' := 198) rfl ?_
          exact kt)
      obtain ⟨x121, hx121⟩ : ∃ z : Int32, z = (x6.toInt8.toInt32) := ⟨_, rfl⟩
      have pre122 : ∀ t, Steps p.tables e below (T95.setTop (mkF m 198 #[iv pi0, iv pi1, iv pi2, jv pj3, .second, iv (1 : Int32), iv x3, iv x6, iv (1 : Int32), rv b24] [(.int x121), (.int (1 : Int32)), (.ref b24)])) t → Go t := by subst hx121; exact pre120
      obtain ⟨c123, Ar123, q123, S123, M123, H123, G123⟩ := id f99
      have hin123 : ¬ ((1 : Int32) < 0 ∨ c123.slots.size ≤ ((1 : Int32)).toNatClampNeg) := inb_of S123 ⟨by decide, by decide⟩
      obtain ⟨T124, h124, X124, e124, W124, st124⟩ := stB X95 hx hZ e95 Ar123 (j := (1 : Int32)) hin123 (g := (mkF m 198 #[iv pi0, iv pi1, iv pi2, jv pj3, .second, iv (1 : Int32), iv x3, iv x6, iv (1 : Int32), rv b24] [(.int x121), (.int (1 : Int32)), (.ref b24)])) rfl rfl (hb hby at_198)
      have pre125 : ∀ t, Steps p.tables e below (T124.setTop (mkF m 199 #[iv pi0, iv pi1, iv pi2, jv pj3, .second, iv (1 : Int32), iv x3, iv x6, iv (1 : Int32), rv b24] [])) t → Go t := fun t kt => pre122 t (st124 t kt)
      have N127 := Fr.snoc X124 N98 G26
      have O127 := O98.wr W124 G26
      have f128 : Arv Z h124 b24 k24 .byte (8 : Int32) [(.int (nar .byte x29)), (.int (nar .byte x121)), (.int (nar .byte x47)), (.int (nar .byte x56)), (.int (nar .byte x65)), (.int (nar .byte x74)), (.int (nar .byte x83)), (.int (nar .byte x92))] (.int (0 : Int32)) := Arv.set Ar123 q123 S123 M123 H123 G123 (fits_nar_byte _) W124 1 rfl (Nat.le_of_ble_eq_true rfl)
      have pre129 : ∀ t, Steps p.tables e below (T124.setTop (mkF m 382 #[iv pi0, iv pi1, iv pi2, jv pj3, .second, iv (1 : Int32), iv x3, iv x6, iv (1 : Int32), rv b24] [(.int (1 : Int32)), (.int (1 : Int32)), (.ref b24)])) t → Go t := fun t kt => pre125 t (by
          refine y_goto X124.here hx (hb hby at_199) (pc' := 376) (by decide) rfl ?_
          refine y_aload X124.here hx (hb hby at_376) rfl rfl (pc' := 378) rfl ?_
          refine y_iload X124.here hx (hb hby at_378) rfl (pc' := 380) rfl ?_
          refine y_iload X124.here hx (hb hby at_380) rfl (pc' := 382) rfl ?_
          exact kt)
      obtain ⟨v130, _, ⟨T130, L130, k130, n130⟩, -, X130, ⟨Lc130, hQ130, l130, y130, z130⟩, st130⟩ := Jvm.LawKit.callS X124 hx (y := (⟨"com/example/strict_codec/strictcodec/Utf8Grammar", "scalarValue", "([BII)I"⟩ : MethodName)) hown (mvT hZ (hw _ (List.mem_of_getElem? (i := 2) rfl))) (mvT hZ (hw _ (List.mem_of_getElem? (i := 3) rfl))) (mvT hZ (hw _ (List.mem_of_getElem? (i := 4) rfl))) (mvT hZ (hw _ (List.mem_of_getElem? (i := 5) rfl))) (by decide) (backOf (W := 0) (rm1a1l1 l Z a0 hw [] b24 w_LEAD_PAYLOAD k24 (nar .byte x29) (nar .byte x121) (nar .byte x47) (nar .byte x56) (nar .byte x65) (nar .byte x74) (nar .byte x83) (nar .byte x92) cc_w_LEAD_PAYLOAD h124 n0 O127 S_LEAD_PAYLOAD f128 AR_w_LEAD_PAYLOAD IN1_w_LEAD_PAYLOAD AT1_w_LEAD_PAYLOAD) hZ (hw _ (List.mem_of_getElem? (i := 5) rfl)) (hw _ (List.mem_of_getElem? (i := 4) rfl)) (by decide) (by decide)) (g := (mkF m 382 #[iv pi0, iv pi1, iv pi2, jv pj3, .second, iv (1 : Int32), iv x3, iv x6, iv (1 : Int32), rv b24] [(.int (1 : Int32)), (.int (1 : Int32)), (.ref b24)])) rfl (by rw [hml]; rfl) (argsL := [(.ref b24), (.int (1 : Int32)), (.int (1 : Int32))]) (rest := []) (lenOf pd___BII_I rfl) rfl (by show 2 * 0 + _ ≤ _; exact Nat.le_of_eq rfl) (hb hby at_382) (fun _ _ => ⟨rfl, e124, (by decide : 1 + 0 ≤ _), (by decide : 8 + 0 ≤ _)⟩)
      dsimp only [Pt.U, Pt.locs, Pt.cells, Pt.slots] at X130 l130 y130 z130 st130 hQ130
      subst l130 y130 z130
      obtain ⟨hv130, N130q, e130q⟩ := hQ130
      have N131 := Fr.app N127 N130q
      have hw130 := hv130
      obtain ⟨x132, hx132⟩ : ∃ z : Int32, z = ((nar .byte x121) &&& (127 : Int32)) := ⟨_, rfl⟩
      rw [← hx132] at hw130
      subst hw130
      have pre133 : ∀ t, Steps p.tables e below (T130.setTop (mkF m 385 #[iv pi0, iv pi1, iv pi2, jv pj3, .second, iv (1 : Int32), iv x3, iv x6, iv (1 : Int32), rv b24] [(.int x132)])) t → Go t := fun t kt => pre129 t (st130 t kt)
      have pre135 : ∀ t, Steps p.tables e below (T130.setTop (mkF m 387 #[iv pi0, iv pi1, iv pi2, jv pj3, .second, iv (1 : Int32), iv x3, iv x6, iv (1 : Int32), rv b24] [(.int x6), (.int x132)])) t → Go t := fun t kt => pre133 t (by
          refine y_iload X130.here hx (hb hby at_385) rfl (pc' := 387) rfl ?_
          exact kt)
      have hf387_134 : x132 = x6 := by
          exact law0_136 pi0 pi1 pi2 x3 x6 x121 x132 hx3 hx6 hx121 hx132 hx1 hx21
      have pre137 : ∀ t, Steps p.tables e below (T130.setTop (mkF m 395 #[iv pi0, iv pi1, iv pi2, jv pj3, .second, iv (1 : Int32), iv x3, iv x6, iv (1 : Int32), rv b24] [(.int (1 : Int32))])) t → Go t := fun t kt => pre135 t (by
          refine y_icmpNo X130.here hx (hb hby at_387) (teq hf387_134).2 (pc' := 390) rfl ?_
          refine y_iconst X130.here hx (hb hby at_390) (v := (1 : Int32)) rfl (pc' := 391) rfl ?_
          refine y_goto X130.here hx (hb hby at_391) (pc' := 395) (by decide) rfl ?_
          exact kt)
      obtain ⟨fs, hr, hrun, hended, hW, hsame⟩ := X130.leave (v := some (.int (1 : Int32))) (fun h => by rw [Bd.returns] at h; cases h)
      refine ⟨_, _, (hGo _).mp (pre137 _ ?_), hrun, hended, _, _, rfl, ?_, ⟨_, rfl⟩, hW, hsame.mono (by decide) (by decide)⟩
      · exact retN X130 hx (t := .boolean) Bd.returns (by simp) (hb hby at_395) hr
      · show Q0 Z pi0 pi1 pi2 pj3 w_LEAD_PAYLOAD cc_w_LEAD_PAYLOAD h0 n0 _ T130.heap _
        rw [e130q]
        exact ⟨rfl, N131⟩
    · skip
      have pre138 : ∀ t, Steps p.tables e below (T95.setTop (mkF m 198 #[iv pi0, iv pi1, iv pi2, jv pj3, .second, iv (1 : Int32), iv x3, iv x6, iv (2 : Int32), rv b24] [(.int (x6.toInt8.toInt32)), (.int (2 : Int32)), (.ref b24)])) t → Go t := fun t kt => pre96 t (by
          refine y_iload X95.here hx (hb hby at_185) rfl (pc' := 187) rfl ?_
          refine y_iconst X95.here hx (hb hby at_187) (v := (1 : Int32)) rfl (pc' := 188) rfl ?_
          refine y_icmpNo X95.here hx (hb hby at_188) (teq (rfl : (1 : Int32) = (1 : Int32))).2 (pc' := 191) rfl ?_
          refine y_aload X95.here hx (hb hby at_191) rfl rfl (pc' := 193) rfl ?_
          refine y_iload X95.here hx (hb hby at_193) rfl (pc' := 195) rfl ?_
          refine y_iload X95.here hx (hb hby at_195) rfl (pc' := 197) rfl ?_
          refine y_i2b X95.here hx (hb hby at_197) (z := (x6.toInt8.toInt32)) rfl (pc' := 198) rfl ?_
          exact kt)
      obtain ⟨x139, hx139⟩ : ∃ z : Int32, z = (x6.toInt8.toInt32) := ⟨_, rfl⟩
      have pre140 : ∀ t, Steps p.tables e below (T95.setTop (mkF m 198 #[iv pi0, iv pi1, iv pi2, jv pj3, .second, iv (1 : Int32), iv x3, iv x6, iv (2 : Int32), rv b24] [(.int x139), (.int (2 : Int32)), (.ref b24)])) t → Go t := by subst hx139; exact pre138
      obtain ⟨c141, Ar141, q141, S141, M141, H141, G141⟩ := id f99
      have hin141 : ¬ ((2 : Int32) < 0 ∨ c141.slots.size ≤ ((2 : Int32)).toNatClampNeg) := inb_of S141 ⟨by decide, by decide⟩
      obtain ⟨T142, h142, X142, e142, W142, st142⟩ := stB X95 hx hZ e95 Ar141 (j := (2 : Int32)) hin141 (g := (mkF m 198 #[iv pi0, iv pi1, iv pi2, jv pj3, .second, iv (1 : Int32), iv x3, iv x6, iv (2 : Int32), rv b24] [(.int x139), (.int (2 : Int32)), (.ref b24)])) rfl rfl (hb hby at_198)
      have pre143 : ∀ t, Steps p.tables e below (T142.setTop (mkF m 199 #[iv pi0, iv pi1, iv pi2, jv pj3, .second, iv (1 : Int32), iv x3, iv x6, iv (2 : Int32), rv b24] [])) t → Go t := fun t kt => pre140 t (st142 t kt)
      have N145 := Fr.snoc X142 N98 G26
      have O145 := O98.wr W142 G26
      have f146 : Arv Z h142 b24 k24 .byte (8 : Int32) [(.int (nar .byte x29)), (.int (nar .byte x38)), (.int (nar .byte x139)), (.int (nar .byte x56)), (.int (nar .byte x65)), (.int (nar .byte x74)), (.int (nar .byte x83)), (.int (nar .byte x92))] (.int (0 : Int32)) := Arv.set Ar141 q141 S141 M141 H141 G141 (fits_nar_byte _) W142 2 rfl (Nat.le_of_ble_eq_true rfl)
      have pre147 : ∀ t, Steps p.tables e below (T142.setTop (mkF m 382 #[iv pi0, iv pi1, iv pi2, jv pj3, .second, iv (1 : Int32), iv x3, iv x6, iv (2 : Int32), rv b24] [(.int (1 : Int32)), (.int (2 : Int32)), (.ref b24)])) t → Go t := fun t kt => pre143 t (by
          refine y_goto X142.here hx (hb hby at_199) (pc' := 376) (by decide) rfl ?_
          refine y_aload X142.here hx (hb hby at_376) rfl rfl (pc' := 378) rfl ?_
          refine y_iload X142.here hx (hb hby at_378) rfl (pc' := 380) rfl ?_
          refine y_iload X142.here hx (hb hby at_380) rfl (pc' := 382) rfl ?_
          exact kt)
      obtain ⟨v148, _, ⟨T148, L148, k148, n148⟩, -, X148, ⟨Lc148, hQ148, l148, y148, z148⟩, st148⟩ := Jvm.LawKit.callS X142 hx (y := (⟨"com/example/strict_codec/strictcodec/Utf8Grammar", "scalarValue", "([BII)I"⟩ : MethodName)) hown (mvT hZ (hw _ (List.mem_of_getElem? (i := 2) rfl))) (mvT hZ (hw _ (List.mem_of_getElem? (i := 3) rfl))) (mvT hZ (hw _ (List.mem_of_getElem? (i := 4) rfl))) (mvT hZ (hw _ (List.mem_of_getElem? (i := 5) rfl))) (by decide) (backOf (W := 0) (rm1a2l1 l Z a0 hw [] b24 w_LEAD_PAYLOAD k24 (nar .byte x29) (nar .byte x38) (nar .byte x139) (nar .byte x56) (nar .byte x65) (nar .byte x74) (nar .byte x83) (nar .byte x92) cc_w_LEAD_PAYLOAD h142 n0 O145 S_LEAD_PAYLOAD f146 AR_w_LEAD_PAYLOAD IN1_w_LEAD_PAYLOAD AT1_w_LEAD_PAYLOAD) hZ (hw _ (List.mem_of_getElem? (i := 5) rfl)) (hw _ (List.mem_of_getElem? (i := 4) rfl)) (by decide) (by decide)) (g := (mkF m 382 #[iv pi0, iv pi1, iv pi2, jv pj3, .second, iv (1 : Int32), iv x3, iv x6, iv (2 : Int32), rv b24] [(.int (1 : Int32)), (.int (2 : Int32)), (.ref b24)])) rfl (by rw [hml]; rfl) (argsL := [(.ref b24), (.int (2 : Int32)), (.int (1 : Int32))]) (rest := []) (lenOf pd___BII_I rfl) rfl (by show 2 * 0 + _ ≤ _; exact Nat.le_of_eq rfl) (hb hby at_382) (fun _ _ => ⟨rfl, e142, (by decide : 1 + 0 ≤ _), (by decide : 8 + 0 ≤ _)⟩)
      dsimp only [Pt.U, Pt.locs, Pt.cells, Pt.slots] at X148 l148 y148 z148 st148 hQ148
      subst l148 y148 z148
      obtain ⟨hv148, N148q, e148q⟩ := hQ148
      have N149 := Fr.app N145 N148q
      have hw148 := hv148
      obtain ⟨x150, hx150⟩ : ∃ z : Int32, z = ((nar .byte x139) &&& (127 : Int32)) := ⟨_, rfl⟩
      rw [← hx150] at hw148
      subst hw148
      have pre151 : ∀ t, Steps p.tables e below (T148.setTop (mkF m 385 #[iv pi0, iv pi1, iv pi2, jv pj3, .second, iv (1 : Int32), iv x3, iv x6, iv (2 : Int32), rv b24] [(.int x150)])) t → Go t := fun t kt => pre147 t (st148 t kt)
      have pre153 : ∀ t, Steps p.tables e below (T148.setTop (mkF m 387 #[iv pi0, iv pi1, iv pi2, jv pj3, .second, iv (1 : Int32), iv x3, iv x6, iv (2 : Int32), rv b24] [(.int x6), (.int x150)])) t → Go t := fun t kt => pre151 t (by
          refine y_iload X148.here hx (hb hby at_385) rfl (pc' := 387) rfl ?_
          exact kt)
      have hf387_152 : x150 = x6 := by
          exact law0_154 pi0 pi1 pi2 x3 x6 x139 x150 hx3 hx6 hx139 hx150 hx1 hx21
      have pre155 : ∀ t, Steps p.tables e below (T148.setTop (mkF m 395 #[iv pi0, iv pi1, iv pi2, jv pj3, .second, iv (1 : Int32), iv x3, iv x6, iv (2 : Int32), rv b24] [(.int (1 : Int32))])) t → Go t := fun t kt => pre153 t (by
          refine y_icmpNo X148.here hx (hb hby at_387) (teq hf387_152).2 (pc' := 390) rfl ?_
          refine y_iconst X148.here hx (hb hby at_390) (v := (1 : Int32)) rfl (pc' := 391) rfl ?_
          refine y_goto X148.here hx (hb hby at_391) (pc' := 395) (by decide) rfl ?_
          exact kt)
      obtain ⟨fs, hr, hrun, hended, hW, hsame⟩ := X148.leave (v := some (.int (1 : Int32))) (fun h => by rw [Bd.returns] at h; cases h)
      refine ⟨_, _, (hGo _).mp (pre155 _ ?_), hrun, hended, _, _, rfl, ?_, ⟨_, rfl⟩, hW, hsame.mono (by decide) (by decide)⟩
      · exact retN X148 hx (t := .boolean) Bd.returns (by simp) (hb hby at_395) hr
      · show Q0 Z pi0 pi1 pi2 pj3 w_LEAD_PAYLOAD cc_w_LEAD_PAYLOAD h0 n0 _ T148.heap _
        rw [e148q]
        exact ⟨rfl, N149⟩
    · skip
      have pre156 : ∀ t, Steps p.tables e below (T95.setTop (mkF m 198 #[iv pi0, iv pi1, iv pi2, jv pj3, .second, iv (1 : Int32), iv x3, iv x6, iv (3 : Int32), rv b24] [(.int (x6.toInt8.toInt32)), (.int (3 : Int32)), (.ref b24)])) t → Go t := fun t kt => pre96 t (by
          refine y_iload X95.here hx (hb hby at_185) rfl (pc' := 187) rfl ?_
          refine y_iconst X95.here hx (hb hby at_187) (v := (1 : Int32)) rfl (pc' := 188) rfl ?_
          refine y_icmpNo X95.here hx (hb hby at_188) (teq (rfl : (1 : Int32) = (1 : Int32))).2 (pc' := 191) rfl ?_
          refine y_aload X95.here hx (hb hby at_191) rfl rfl (pc' := 193) rfl ?_
          refine y_iload X95.here hx (hb hby at_193) rfl (pc' := 195) rfl ?_
          refine y_iload X95.here hx (hb hby at_195) rfl (pc' := 197) rfl ?_
          refine y_i2b X95.here hx (hb hby at_197) (z := (x6.toInt8.toInt32)) rfl (pc' := 198) rfl ?_
          exact kt)
      obtain ⟨x157, hx157⟩ : ∃ z : Int32, z = (x6.toInt8.toInt32) := ⟨_, rfl⟩
      have pre158 : ∀ t, Steps p.tables e below (T95.setTop (mkF m 198 #[iv pi0, iv pi1, iv pi2, jv pj3, .second, iv (1 : Int32), iv x3, iv x6, iv (3 : Int32), rv b24] [(.int x157), (.int (3 : Int32)), (.ref b24)])) t → Go t := by subst hx157; exact pre156
      obtain ⟨c159, Ar159, q159, S159, M159, H159, G159⟩ := id f99
      have hin159 : ¬ ((3 : Int32) < 0 ∨ c159.slots.size ≤ ((3 : Int32)).toNatClampNeg) := inb_of S159 ⟨by decide, by decide⟩
      obtain ⟨T160, h160, X160, e160, W160, st160⟩ := stB X95 hx hZ e95 Ar159 (j := (3 : Int32)) hin159 (g := (mkF m 198 #[iv pi0, iv pi1, iv pi2, jv pj3, .second, iv (1 : Int32), iv x3, iv x6, iv (3 : Int32), rv b24] [(.int x157), (.int (3 : Int32)), (.ref b24)])) rfl rfl (hb hby at_198)
      have pre161 : ∀ t, Steps p.tables e below (T160.setTop (mkF m 199 #[iv pi0, iv pi1, iv pi2, jv pj3, .second, iv (1 : Int32), iv x3, iv x6, iv (3 : Int32), rv b24] [])) t → Go t := fun t kt => pre158 t (st160 t kt)
      have N163 := Fr.snoc X160 N98 G26
      have O163 := O98.wr W160 G26
      have f164 : Arv Z h160 b24 k24 .byte (8 : Int32) [(.int (nar .byte x29)), (.int (nar .byte x38)), (.int (nar .byte x47)), (.int (nar .byte x157)), (.int (nar .byte x65)), (.int (nar .byte x74)), (.int (nar .byte x83)), (.int (nar .byte x92))] (.int (0 : Int32)) := Arv.set Ar159 q159 S159 M159 H159 G159 (fits_nar_byte _) W160 3 rfl (Nat.le_of_ble_eq_true rfl)
      have pre165 : ∀ t, Steps p.tables e below (T160.setTop (mkF m 382 #[iv pi0, iv pi1, iv pi2, jv pj3, .second, iv (1 : Int32), iv x3, iv x6, iv (3 : Int32), rv b24] [(.int (1 : Int32)), (.int (3 : Int32)), (.ref b24)])) t → Go t := fun t kt => pre161 t (by
          refine y_goto X160.here hx (hb hby at_199) (pc' := 376) (by decide) rfl ?_
          refine y_aload X160.here hx (hb hby at_376) rfl rfl (pc' := 378) rfl ?_
          refine y_iload X160.here hx (hb hby at_378) rfl (pc' := 380) rfl ?_
          refine y_iload X160.here hx (hb hby at_380) rfl (pc' := 382) rfl ?_
          exact kt)
      obtain ⟨v166, _, ⟨T166, L166, k166, n166⟩, -, X166, ⟨Lc166, hQ166, l166, y166, z166⟩, st166⟩ := Jvm.LawKit.callS X160 hx (y := (⟨"com/example/strict_codec/strictcodec/Utf8Grammar", "scalarValue", "([BII)I"⟩ : MethodName)) hown (mvT hZ (hw _ (List.mem_of_getElem? (i := 2) rfl))) (mvT hZ (hw _ (List.mem_of_getElem? (i := 3) rfl))) (mvT hZ (hw _ (List.mem_of_getElem? (i := 4) rfl))) (mvT hZ (hw _ (List.mem_of_getElem? (i := 5) rfl))) (by decide) (backOf (W := 0) (rm1a3l1 l Z a0 hw [] b24 w_LEAD_PAYLOAD k24 (nar .byte x29) (nar .byte x38) (nar .byte x47) (nar .byte x157) (nar .byte x65) (nar .byte x74) (nar .byte x83) (nar .byte x92) cc_w_LEAD_PAYLOAD h160 n0 O163 S_LEAD_PAYLOAD f164 AR_w_LEAD_PAYLOAD IN1_w_LEAD_PAYLOAD AT1_w_LEAD_PAYLOAD) hZ (hw _ (List.mem_of_getElem? (i := 5) rfl)) (hw _ (List.mem_of_getElem? (i := 4) rfl)) (by decide) (by decide)) (g := (mkF m 382 #[iv pi0, iv pi1, iv pi2, jv pj3, .second, iv (1 : Int32), iv x3, iv x6, iv (3 : Int32), rv b24] [(.int (1 : Int32)), (.int (3 : Int32)), (.ref b24)])) rfl (by rw [hml]; rfl) (argsL := [(.ref b24), (.int (3 : Int32)), (.int (1 : Int32))]) (rest := []) (lenOf pd___BII_I rfl) rfl (by show 2 * 0 + _ ≤ _; exact Nat.le_of_eq rfl) (hb hby at_382) (fun _ _ => ⟨rfl, e160, (by decide : 1 + 0 ≤ _), (by decide : 8 + 0 ≤ _)⟩)
      dsimp only [Pt.U, Pt.locs, Pt.cells, Pt.slots] at X166 l166 y166 z166 st166 hQ166
      subst l166 y166 z166
      obtain ⟨hv166, N166q, e166q⟩ := hQ166
      have N167 := Fr.app N163 N166q
      have hw166 := hv166
      obtain ⟨x168, hx168⟩ : ∃ z : Int32, z = ((nar .byte x157) &&& (127 : Int32)) := ⟨_, rfl⟩
      rw [← hx168] at hw166
      subst hw166
      have pre169 : ∀ t, Steps p.tables e below (T166.setTop (mkF m 385 #[iv pi0, iv pi1, iv pi2, jv pj3, .second, iv (1 : Int32), iv x3, iv x6, iv (3 : Int32), rv b24] [(.int x168)])) t → Go t := fun t kt => pre165 t (st166 t kt)
      have pre171 : ∀ t, Steps p.tables e below (T166.setTop (mkF m 387 #[iv pi0, iv pi1, iv pi2, jv pj3, .second, iv (1 : Int32), iv x3, iv x6, iv (3 : Int32), rv b24] [(.int x6), (.int x168)])) t → Go t := fun t kt => pre169 t (by
          refine y_iload X166.here hx (hb hby at_385) rfl (pc' := 387) rfl ?_
          exact kt)
      have hf387_170 : x168 = x6 := by
          exact law0_172 pi0 pi1 pi2 x3 x6 x157 x168 hx3 hx6 hx157 hx168 hx1 hx21
      have pre173 : ∀ t, Steps p.tables e below (T166.setTop (mkF m 395 #[iv pi0, iv pi1, iv pi2, jv pj3, .second, iv (1 : Int32), iv x3, iv x6, iv (3 : Int32), rv b24] [(.int (1 : Int32))])) t → Go t := fun t kt => pre171 t (by
          refine y_icmpNo X166.here hx (hb hby at_387) (teq hf387_170).2 (pc' := 390) rfl ?_
          refine y_iconst X166.here hx (hb hby at_390) (v := (1 : Int32)) rfl (pc' := 391) rfl ?_
          refine y_goto X166.here hx (hb hby at_391) (pc' := 395) (by decide) rfl ?_
          exact kt)
      obtain ⟨fs, hr, hrun, hended, hW, hsame⟩ := X166.leave (v := some (.int (1 : Int32))) (fun h => by rw [Bd.returns] at h; cases h)
      refine ⟨_, _, (hGo _).mp (pre173 _ ?_), hrun, hended, _, _, rfl, ?_, ⟨_, rfl⟩, hW, hsame.mono (by decide) (by decide)⟩
      · exact retN X166 hx (t := .boolean) Bd.returns (by simp) (hb hby at_395) hr
      · show Q0 Z pi0 pi1 pi2 pj3 w_LEAD_PAYLOAD cc_w_LEAD_PAYLOAD h0 n0 _ T166.heap _
        rw [e166q]
        exact ⟨rfl, N167⟩
  · skip
    have hs185_174 : x21 = (0 : Int32) ∨ x21 = (1 : Int32) ∨ x21 = (2 : Int32) ∨ x21 = (3 : Int32) := by
        have q : (pi2 &&& (3 : Int32)).toInt = pi2.toInt % 4 := c_mask pi2 3 2 (by decide) (by decide)
        rw [← hx21] at q
        have h : x21.toInt = 0 ∨ x21.toInt = 1 ∨ x21.toInt = 2 ∨ x21.toInt = 3 := by omega
        rcases h with h | h | h | h
        · exact Or.inl (own_of h)
        · exact Or.inr (Or.inl (own_of h))
        · exact Or.inr (Or.inr (Or.inl (own_of h)))
        · exact Or.inr (Or.inr (Or.inr (own_of h)))
    rcases hs185_174 with rfl | rfl | rfl | rfl
    · skip
      have pre175 : ∀ t, Steps p.tables e below (T95.setTop (mkF m 222 #[iv pi0, iv pi1, iv pi2, jv pj3, .second, iv (2 : Int32), iv x3, iv x6, iv (0 : Int32), rv b24] [(.int (((192 : Int32) ||| (x6 >>> ((6 : Int32) &&& 31))).toInt8.toInt32)), (.int (0 : Int32)), (.ref b24)])) t → Go t := fun t kt => pre96 t (by
          refine y_iload X95.here hx (hb hby at_185) rfl (pc' := 187) rfl ?_
          refine y_iconst X95.here hx (hb hby at_187) (v := (1 : Int32)) rfl (pc' := 188) rfl ?_
          refine y_icmpYes X95.here hx (hb hby at_188) (feq (by decide : ¬ ((2 : Int32) = (1 : Int32)))).2 (pc' := 202) (by decide) rfl ?_
          refine y_iload X95.here hx (hb hby at_202) rfl (pc' := 204) rfl ?_
          refine y_iconst X95.here hx (hb hby at_204) (v := (2 : Int32)) rfl (pc' := 205) rfl ?_
          refine y_icmpNo X95.here hx (hb hby at_205) (teq (rfl : (2 : Int32) = (2 : Int32))).2 (pc' := 208) rfl ?_
          refine y_aload X95.here hx (hb hby at_208) rfl rfl (pc' := 210) rfl ?_
          refine y_iload X95.here hx (hb hby at_210) rfl (pc' := 212) rfl ?_
          refine y_sipush X95.here hx (hb hby at_212) (v := (192 : Int32)) rfl (pc' := 215) rfl ?_
          refine y_iload X95.here hx (hb hby at_215) rfl (pc' := 217) rfl ?_
          refine y_bipush X95.here hx (hb hby at_217) (v := (6 : Int32)) rfl (pc' := 219) rfl ?_
          refine y_ishr X95.here hx (hb hby at_219) (z := (x6 >>> ((6 : Int32) &&& 31))) rfl (pc' := 220) rfl ?_
          refine y_ior X95.here hx (hb hby at_220) rfl (pc' := 221) rfl ?_
          refine y_i2b X95.here hx (hb hby at_221) (z := (((192 : Int32) ||| (x6 >>> ((6 : Int32) &&& 31))).toInt8.toInt32)) rfl (pc' := 222) rfl ?_
          exact kt)
      obtain ⟨x176, hx176⟩ : ∃ z : Int32, z = (((192 : Int32) ||| (x6 >>> ((6 : Int32) &&& 31))).toInt8.toInt32) := ⟨_, rfl⟩
      have pre177 : ∀ t, Steps p.tables e below (T95.setTop (mkF m 222 #[iv pi0, iv pi1, iv pi2, jv pj3, .second, iv (2 : Int32), iv x3, iv x6, iv (0 : Int32), rv b24] [(.int x176), (.int (0 : Int32)), (.ref b24)])) t → Go t := by subst hx176; exact pre175
      obtain ⟨c178, Ar178, q178, S178, M178, H178, G178⟩ := id f99
      have hin178 : ¬ ((0 : Int32) < 0 ∨ c178.slots.size ≤ ((0 : Int32)).toNatClampNeg) := inb_of S178 ⟨by decide, by decide⟩
      obtain ⟨T179, h179, X179, e179, W179, st179⟩ := stB X95 hx hZ e95 Ar178 (j := (0 : Int32)) hin178 (g := (mkF m 222 #[iv pi0, iv pi1, iv pi2, jv pj3, .second, iv (2 : Int32), iv x3, iv x6, iv (0 : Int32), rv b24] [(.int x176), (.int (0 : Int32)), (.ref b24)])) rfl rfl (hb hby at_222)
      have pre180 : ∀ t, Steps p.tables e below (T179.setTop (mkF m 223 #[iv pi0, iv pi1, iv pi2, jv pj3, .second, iv (2 : Int32), iv x3, iv x6, iv (0 : Int32), rv b24] [])) t → Go t := fun t kt => pre177 t (st179 t kt)
      have N182 := Fr.snoc X179 N98 G26
      have O182 := O98.wr W179 G26
      have f183 : Arv Z h179 b24 k24 .byte (8 : Int32) [(.int (nar .byte x176)), (.int (nar .byte x38)), (.int (nar .byte x47)), (.int (nar .byte x56)), (.int (nar .byte x65)), (.int (nar .byte x74)), (.int (nar .byte x83)), (.int (nar .byte x92))] (.int (0 : Int32)) := Arv.set Ar178 q178 S178 M178 H178 G178 (fits_nar_byte _) W179 0 rfl (Nat.le_of_ble_eq_true rfl)
      have pre184 : ∀ t, Steps p.tables e below (T179.setTop (mkF m 239 #[iv pi0, iv pi1, iv pi2, jv pj3, .second, iv (2 : Int32), iv x3, iv x6, iv (0 : Int32), rv b24] [(.int (((128 : Int32) ||| (x6 &&& (63 : Int32))).toInt8.toInt32)), (.int (1 : Int32)), (.ref b24)])) t → Go t := fun t kt => pre180 t (by
          refine y_aload X179.here hx (hb hby at_223) rfl rfl (pc' := 225) rfl ?_
          refine y_iload X179.here hx (hb hby at_225) rfl (pc' := 227) rfl ?_
          refine y_iconst X179.here hx (hb hby at_227) (v := (1 : Int32)) rfl (pc' := 228) rfl ?_
          refine y_iadd X179.here hx (hb hby at_228) (z := (1 : Int32)) rfl (pc' := 229) rfl ?_
          refine y_sipush X179.here hx (hb hby at_229) (v := (128 : Int32)) rfl (pc' := 232) rfl ?_
          refine y_iload X179.here hx (hb hby at_232) rfl (pc' := 234) rfl ?_
          refine y_bipush X179.here hx (hb hby at_234) (v := (63 : Int32)) rfl (pc' := 236) rfl ?_
          refine y_iand X179.here hx (hb hby at_236) rfl (pc' := 237) rfl ?_
          refine y_ior X179.here hx (hb hby at_237) rfl (pc' := 238) rfl ?_
          refine y_i2b X179.here hx (hb hby at_238) (z := (((128 : Int32) ||| (x6 &&& (63 : Int32))).toInt8.toInt32)) rfl (pc' := 239) rfl ?_
          exact kt)
      obtain ⟨x185, hx185⟩ : ∃ z : Int32, z = (((128 : Int32) ||| (x6 &&& (63 : Int32))).toInt8.toInt32) := ⟨_, rfl⟩
      have pre186 : ∀ t, Steps p.tables e below (T179.setTop (mkF m 239 #[iv pi0, iv pi1, iv pi2, jv pj3, .second, iv (2 : Int32), iv x3, iv x6, iv (0 : Int32), rv b24] [(.int x185), (.int (1 : Int32)), (.ref b24)])) t → Go t := by subst hx185; exact pre184
      obtain ⟨c187, Ar187, q187, S187, M187, H187, G187⟩ := id f183
      have hin187 : ¬ ((1 : Int32) < 0 ∨ c187.slots.size ≤ ((1 : Int32)).toNatClampNeg) := inb_of S187 ⟨by decide, by decide⟩
      obtain ⟨T188, h188, X188, e188, W188, st188⟩ := stB X179 hx hZ e179 Ar187 (j := (1 : Int32)) hin187 (g := (mkF m 239 #[iv pi0, iv pi1, iv pi2, jv pj3, .second, iv (2 : Int32), iv x3, iv x6, iv (0 : Int32), rv b24] [(.int x185), (.int (1 : Int32)), (.ref b24)])) rfl rfl (hb hby at_239)
      have pre189 : ∀ t, Steps p.tables e below (T188.setTop (mkF m 240 #[iv pi0, iv pi1, iv pi2, jv pj3, .second, iv (2 : Int32), iv x3, iv x6, iv (0 : Int32), rv b24] [])) t → Go t := fun t kt => pre186 t (st188 t kt)
      have N191 := Fr.snoc X188 N182 G26
      have O191 := O182.wr W188 G26
      have f192 : Arv Z h188 b24 k24 .byte (8 : Int32) [(.int (nar .byte x176)), (.int (nar .byte x185)), (.int (nar .byte x47)), (.int (nar .byte x56)), (.int (nar .byte x65)), (.int (nar .byte x74)), (.int (nar .byte x83)), (.int (nar .byte x92))] (.int (0 : Int32)) := Arv.set Ar187 q187 S187 M187 H187 G187 (fits_nar_byte _) W188 1 rfl (Nat.le_of_ble_eq_true rfl)
      have pre193 : ∀ t, Steps p.tables e below (T188.setTop (mkF m 382 #[iv pi0, iv pi1, iv pi2, jv pj3, .second, iv (2 : Int32), iv x3, iv x6, iv (0 : Int32), rv b24] [(.int (2 : Int32)), (.int (0 : Int32)), (.ref b24)])) t → Go t := fun t kt => pre189 t (by
          refine y_goto X188.here hx (hb hby at_240) (pc' := 376) (by decide) rfl ?_
          refine y_aload X188.here hx (hb hby at_376) rfl rfl (pc' := 378) rfl ?_
          refine y_iload X188.here hx (hb hby at_378) rfl (pc' := 380) rfl ?_
          refine y_iload X188.here hx (hb hby at_380) rfl (pc' := 382) rfl ?_
          exact kt)
      obtain ⟨v194, _, ⟨T194, L194, k194, n194⟩, -, X194, ⟨Lc194, hQ194, l194, y194, z194⟩, st194⟩ := Jvm.LawKit.callS X188 hx (y := (⟨"com/example/strict_codec/strictcodec/Utf8Grammar", "scalarValue", "([BII)I"⟩ : MethodName)) hown (mvT hZ (hw _ (List.mem_of_getElem? (i := 2) rfl))) (mvT hZ (hw _ (List.mem_of_getElem? (i := 3) rfl))) (mvT hZ (hw _ (List.mem_of_getElem? (i := 4) rfl))) (mvT hZ (hw _ (List.mem_of_getElem? (i := 5) rfl))) (by decide) (backOf (W := 0) (rm1a0l2 l Z a0 hw [] b24 w_LEAD_PAYLOAD k24 (nar .byte x176) (nar .byte x185) (nar .byte x47) (nar .byte x56) (nar .byte x65) (nar .byte x74) (nar .byte x83) (nar .byte x92) cc_w_LEAD_PAYLOAD h188 n0 O191 S_LEAD_PAYLOAD f192 AR_w_LEAD_PAYLOAD IN2_w_LEAD_PAYLOAD AT2_w_LEAD_PAYLOAD) hZ (hw _ (List.mem_of_getElem? (i := 5) rfl)) (hw _ (List.mem_of_getElem? (i := 4) rfl)) (by decide) (by decide)) (g := (mkF m 382 #[iv pi0, iv pi1, iv pi2, jv pj3, .second, iv (2 : Int32), iv x3, iv x6, iv (0 : Int32), rv b24] [(.int (2 : Int32)), (.int (0 : Int32)), (.ref b24)])) rfl (by rw [hml]; rfl) (argsL := [(.ref b24), (.int (0 : Int32)), (.int (2 : Int32))]) (rest := []) (lenOf pd___BII_I rfl) rfl (by show 2 * 0 + _ ≤ _; exact Nat.le_of_eq rfl) (hb hby at_382) (fun _ _ => ⟨rfl, e188, (by decide : 1 + 0 ≤ _), (by decide : 8 + 0 ≤ _)⟩)
      dsimp only [Pt.U, Pt.locs, Pt.cells, Pt.slots] at X194 l194 y194 z194 st194 hQ194
      subst l194 y194 z194
      obtain ⟨hv194, N194q, e194q⟩ := hQ194
      have N195 := Fr.app N191 N194q
      have hw194 := hv194
      obtain ⟨x196, hx196⟩ : ∃ z : Int32, z = ((((nar .byte x176) &&& (31 : Int32)) <<< ((6 : Int32) &&& 31)) ||| ((nar .byte x185) &&& (63 : Int32))) := ⟨_, rfl⟩
      rw [← hx196] at hw194
      subst hw194
      have pre197 : ∀ t, Steps p.tables e below (T194.setTop (mkF m 385 #[iv pi0, iv pi1, iv pi2, jv pj3, .second, iv (2 : Int32), iv x3, iv x6, iv (0 : Int32), rv b24] [(.int x196)])) t → Go t := fun t kt => pre193 t (st194 t kt)
      have pre199 : ∀ t, Steps p.tables e below (T194.setTop (mkF m 387 #[iv pi0, iv pi1, iv pi2, jv pj3, .second, iv (2 : Int32), iv x3, iv x6, iv (0 : Int32), rv b24] [(.int x6), (.int x196)])) t → Go t := fun t kt => pre197 t (by
          refine y_iload X194.here hx (hb hby at_385) rfl (pc' := 387) rfl ?_
          exact kt)
      have hf387_198 : x196 = x6 := by
          exact law0_200 pi0 pi1 pi2 x3 x6 x176 x185 x196 hx3 hx6 hx176 hx185 hx196 hx1 hx21
      have pre201 : ∀ t, Steps p.tables e below (T194.setTop (mkF m 395 #[iv pi0, iv pi1, iv pi2, jv pj3, .second, iv (2 : Int32), iv x3, iv x6, iv (0 : Int32), rv b24] [(.int (1 : Int32))])) t → Go t := fun t kt => pre199 t (by
          refine y_icmpNo X194.here hx (hb hby at_387) (teq hf387_198).2 (pc' := 390) rfl ?_
          refine y_iconst X194.here hx (hb hby at_390) (v := (1 : Int32)) rfl (pc' := 391) rfl ?_
          refine y_goto X194.here hx (hb hby at_391) (pc' := 395) (by decide) rfl ?_
          exact kt)
      obtain ⟨fs, hr, hrun, hended, hW, hsame⟩ := X194.leave (v := some (.int (1 : Int32))) (fun h => by rw [Bd.returns] at h; cases h)
      refine ⟨_, _, (hGo _).mp (pre201 _ ?_), hrun, hended, _, _, rfl, ?_, ⟨_, rfl⟩, hW, hsame.mono (by decide) (by decide)⟩
      · exact retN X194 hx (t := .boolean) Bd.returns (by simp) (hb hby at_395) hr
      · show Q0 Z pi0 pi1 pi2 pj3 w_LEAD_PAYLOAD cc_w_LEAD_PAYLOAD h0 n0 _ T194.heap _
        rw [e194q]
        exact ⟨rfl, N195⟩
    · skip
      have pre202 : ∀ t, Steps p.tables e below (T95.setTop (mkF m 222 #[iv pi0, iv pi1, iv pi2, jv pj3, .second, iv (2 : Int32), iv x3, iv x6, iv (1 : Int32), rv b24] [(.int (((192 : Int32) ||| (x6 >>> ((6 : Int32) &&& 31))).toInt8.toInt32)), (.int (1 : Int32)), (.ref b24)])) t → Go t := fun t kt => pre96 t (by
          refine y_iload X95.here hx (hb hby at_185) rfl (pc' := 187) rfl ?_
          refine y_iconst X95.here hx (hb hby at_187) (v := (1 : Int32)) rfl (pc' := 188) rfl ?_
          refine y_icmpYes X95.here hx (hb hby at_188) (feq (by decide : ¬ ((2 : Int32) = (1 : Int32)))).2 (pc' := 202) (by decide) rfl ?_
          refine y_iload X95.here hx (hb hby at_202) rfl (pc' := 204) rfl ?_
          refine y_iconst X95.here hx (hb hby at_204) (v := (2 : Int32)) rfl (pc' := 205) rfl ?_
          refine y_icmpNo X95.here hx (hb hby at_205) (teq (rfl : (2 : Int32) = (2 : Int32))).2 (pc' := 208) rfl ?_
          refine y_aload X95.here hx (hb hby at_208) rfl rfl (pc' := 210) rfl ?_
          refine y_iload X95.here hx (hb hby at_210) rfl (pc' := 212) rfl ?_
          refine y_sipush X95.here hx (hb hby at_212) (v := (192 : Int32)) rfl (pc' := 215) rfl ?_
          refine y_iload X95.here hx (hb hby at_215) rfl (pc' := 217) rfl ?_
          refine y_bipush X95.here hx (hb hby at_217) (v := (6 : Int32)) rfl (pc' := 219) rfl ?_
          refine y_ishr X95.here hx (hb hby at_219) (z := (x6 >>> ((6 : Int32) &&& 31))) rfl (pc' := 220) rfl ?_
          refine y_ior X95.here hx (hb hby at_220) rfl (pc' := 221) rfl ?_
          refine y_i2b X95.here hx (hb hby at_221) (z := (((192 : Int32) ||| (x6 >>> ((6 : Int32) &&& 31))).toInt8.toInt32)) rfl (pc' := 222) rfl ?_
          exact kt)
      obtain ⟨x203, hx203⟩ : ∃ z : Int32, z = (((192 : Int32) ||| (x6 >>> ((6 : Int32) &&& 31))).toInt8.toInt32) := ⟨_, rfl⟩
      have pre204 : ∀ t, Steps p.tables e below (T95.setTop (mkF m 222 #[iv pi0, iv pi1, iv pi2, jv pj3, .second, iv (2 : Int32), iv x3, iv x6, iv (1 : Int32), rv b24] [(.int x203), (.int (1 : Int32)), (.ref b24)])) t → Go t := by subst hx203; exact pre202
      obtain ⟨c205, Ar205, q205, S205, M205, H205, G205⟩ := id f99
      have hin205 : ¬ ((1 : Int32) < 0 ∨ c205.slots.size ≤ ((1 : Int32)).toNatClampNeg) := inb_of S205 ⟨by decide, by decide⟩
      obtain ⟨T206, h206, X206, e206, W206, st206⟩ := stB X95 hx hZ e95 Ar205 (j := (1 : Int32)) hin205 (g := (mkF m 222 #[iv pi0, iv pi1, iv pi2, jv pj3, .second, iv (2 : Int32), iv x3, iv x6, iv (1 : Int32), rv b24] [(.int x203), (.int (1 : Int32)), (.ref b24)])) rfl rfl (hb hby at_222)
      have pre207 : ∀ t, Steps p.tables e below (T206.setTop (mkF m 223 #[iv pi0, iv pi1, iv pi2, jv pj3, .second, iv (2 : Int32), iv x3, iv x6, iv (1 : Int32), rv b24] [])) t → Go t := fun t kt => pre204 t (st206 t kt)
      have N209 := Fr.snoc X206 N98 G26
      have O209 := O98.wr W206 G26
      have f210 : Arv Z h206 b24 k24 .byte (8 : Int32) [(.int (nar .byte x29)), (.int (nar .byte x203)), (.int (nar .byte x47)), (.int (nar .byte x56)), (.int (nar .byte x65)), (.int (nar .byte x74)), (.int (nar .byte x83)), (.int (nar .byte x92))] (.int (0 : Int32)) := Arv.set Ar205 q205 S205 M205 H205 G205 (fits_nar_byte _) W206 1 rfl (Nat.le_of_ble_eq_true rfl)
      have pre211 : ∀ t, Steps p.tables e below (T206.setTop (mkF m 239 #[iv pi0, iv pi1, iv pi2, jv pj3, .second, iv (2 : Int32), iv x3, iv x6, iv (1 : Int32), rv b24] [(.int (((128 : Int32) ||| (x6 &&& (63 : Int32))).toInt8.toInt32)), (.int (2 : Int32)), (.ref b24)])) t → Go t := fun t kt => pre207 t (by
          refine y_aload X206.here hx (hb hby at_223) rfl rfl (pc' := 225) rfl ?_
          refine y_iload X206.here hx (hb hby at_225) rfl (pc' := 227) rfl ?_
          refine y_iconst X206.here hx (hb hby at_227) (v := (1 : Int32)) rfl (pc' := 228) rfl ?_
          refine y_iadd X206.here hx (hb hby at_228) (z := (2 : Int32)) rfl (pc' := 229) rfl ?_
          refine y_sipush X206.here hx (hb hby at_229) (v := (128 : Int32)) rfl (pc' := 232) rfl ?_
          refine y_iload X206.here hx (hb hby at_232) rfl (pc' := 234) rfl ?_
          refine y_bipush X206.here hx (hb hby at_234) (v := (63 : Int32)) rfl (pc' := 236) rfl ?_
          refine y_iand X206.here hx (hb hby at_236) rfl (pc' := 237) rfl ?_
          refine y_ior X206.here hx (hb hby at_237) rfl (pc' := 238) rfl ?_
          refine y_i2b X206.here hx (hb hby at_238) (z := (((128 : Int32) ||| (x6 &&& (63 : Int32))).toInt8.toInt32)) rfl (pc' := 239) rfl ?_
          exact kt)
      obtain ⟨x212, hx212⟩ : ∃ z : Int32, z = (((128 : Int32) ||| (x6 &&& (63 : Int32))).toInt8.toInt32) := ⟨_, rfl⟩
      have pre213 : ∀ t, Steps p.tables e below (T206.setTop (mkF m 239 #[iv pi0, iv pi1, iv pi2, jv pj3, .second, iv (2 : Int32), iv x3, iv x6, iv (1 : Int32), rv b24] [(.int x212), (.int (2 : Int32)), (.ref b24)])) t → Go t := by subst hx212; exact pre211
      obtain ⟨c214, Ar214, q214, S214, M214, H214, G214⟩ := id f210
      have hin214 : ¬ ((2 : Int32) < 0 ∨ c214.slots.size ≤ ((2 : Int32)).toNatClampNeg) := inb_of S214 ⟨by decide, by decide⟩
      obtain ⟨T215, h215, X215, e215, W215, st215⟩ := stB X206 hx hZ e206 Ar214 (j := (2 : Int32)) hin214 (g := (mkF m 239 #[iv pi0, iv pi1, iv pi2, jv pj3, .second, iv (2 : Int32), iv x3, iv x6, iv (1 : Int32), rv b24] [(.int x212), (.int (2 : Int32)), (.ref b24)])) rfl rfl (hb hby at_239)
      have pre216 : ∀ t, Steps p.tables e below (T215.setTop (mkF m 240 #[iv pi0, iv pi1, iv pi2, jv pj3, .second, iv (2 : Int32), iv x3, iv x6, iv (1 : Int32), rv b24] [])) t → Go t := fun t kt => pre213 t (st215 t kt)
      have N218 := Fr.snoc X215 N209 G26
      have O218 := O209.wr W215 G26
      have f219 : Arv Z h215 b24 k24 .byte (8 : Int32) [(.int (nar .byte x29)), (.int (nar .byte x203)), (.int (nar .byte x212)), (.int (nar .byte x56)), (.int (nar .byte x65)), (.int (nar .byte x74)), (.int (nar .byte x83)), (.int (nar .byte x92))] (.int (0 : Int32)) := Arv.set Ar214 q214 S214 M214 H214 G214 (fits_nar_byte _) W215 2 rfl (Nat.le_of_ble_eq_true rfl)
      have pre220 : ∀ t, Steps p.tables e below (T215.setTop (mkF m 382 #[iv pi0, iv pi1, iv pi2, jv pj3, .second, iv (2 : Int32), iv x3, iv x6, iv (1 : Int32), rv b24] [(.int (2 : Int32)), (.int (1 : Int32)), (.ref b24)])) t → Go t := fun t kt => pre216 t (by
          refine y_goto X215.here hx (hb hby at_240) (pc' := 376) (by decide) rfl ?_
          refine y_aload X215.here hx (hb hby at_376) rfl rfl (pc' := 378) rfl ?_
          refine y_iload X215.here hx (hb hby at_378) rfl (pc' := 380) rfl ?_
          refine y_iload X215.here hx (hb hby at_380) rfl (pc' := 382) rfl ?_
          exact kt)
      obtain ⟨v221, _, ⟨T221, L221, k221, n221⟩, -, X221, ⟨Lc221, hQ221, l221, y221, z221⟩, st221⟩ := Jvm.LawKit.callS X215 hx (y := (⟨"com/example/strict_codec/strictcodec/Utf8Grammar", "scalarValue", "([BII)I"⟩ : MethodName)) hown (mvT hZ (hw _ (List.mem_of_getElem? (i := 2) rfl))) (mvT hZ (hw _ (List.mem_of_getElem? (i := 3) rfl))) (mvT hZ (hw _ (List.mem_of_getElem? (i := 4) rfl))) (mvT hZ (hw _ (List.mem_of_getElem? (i := 5) rfl))) (by decide) (backOf (W := 0) (rm1a1l2 l Z a0 hw [] b24 w_LEAD_PAYLOAD k24 (nar .byte x29) (nar .byte x203) (nar .byte x212) (nar .byte x56) (nar .byte x65) (nar .byte x74) (nar .byte x83) (nar .byte x92) cc_w_LEAD_PAYLOAD h215 n0 O218 S_LEAD_PAYLOAD f219 AR_w_LEAD_PAYLOAD IN2_w_LEAD_PAYLOAD AT2_w_LEAD_PAYLOAD) hZ (hw _ (List.mem_of_getElem? (i := 5) rfl)) (hw _ (List.mem_of_getElem? (i := 4) rfl)) (by decide) (by decide)) (g := (mkF m 382 #[iv pi0, iv pi1, iv pi2, jv pj3, .second, iv (2 : Int32), iv x3, iv x6, iv (1 : Int32), rv b24] [(.int (2 : Int32)), (.int (1 : Int32)), (.ref b24)])) rfl (by rw [hml]; rfl) (argsL := [(.ref b24), (.int (1 : Int32)), (.int (2 : Int32))]) (rest := []) (lenOf pd___BII_I rfl) rfl (by show 2 * 0 + _ ≤ _; exact Nat.le_of_eq rfl) (hb hby at_382) (fun _ _ => ⟨rfl, e215, (by decide : 1 + 0 ≤ _), (by decide : 8 + 0 ≤ _)⟩)
      dsimp only [Pt.U, Pt.locs, Pt.cells, Pt.slots] at X221 l221 y221 z221 st221 hQ221
      subst l221 y221 z221
      obtain ⟨hv221, N221q, e221q⟩ := hQ221
      have N222 := Fr.app N218 N221q
      have hw221 := hv221
      obtain ⟨x223, hx223⟩ : ∃ z : Int32, z = ((((nar .byte x203) &&& (31 : Int32)) <<< ((6 : Int32) &&& 31)) ||| ((nar .byte x212) &&& (63 : Int32))) := ⟨_, rfl⟩
      rw [← hx223] at hw221
      subst hw221
      have pre224 : ∀ t, Steps p.tables e below (T221.setTop (mkF m 385 #[iv pi0, iv pi1, iv pi2, jv pj3, .second, iv (2 : Int32), iv x3, iv x6, iv (1 : Int32), rv b24] [(.int x223)])) t → Go t := fun t kt => pre220 t (st221 t kt)
      have pre226 : ∀ t, Steps p.tables e below (T221.setTop (mkF m 387 #[iv pi0, iv pi1, iv pi2, jv pj3, .second, iv (2 : Int32), iv x3, iv x6, iv (1 : Int32), rv b24] [(.int x6), (.int x223)])) t → Go t := fun t kt => pre224 t (by
          refine y_iload X221.here hx (hb hby at_385) rfl (pc' := 387) rfl ?_
          exact kt)
      have hf387_225 : x223 = x6 := by
          exact law0_227 pi0 pi1 pi2 x3 x6 x203 x212 x223 hx3 hx6 hx203 hx212 hx223 hx1 hx21
      have pre228 : ∀ t, Steps p.tables e below (T221.setTop (mkF m 395 #[iv pi0, iv pi1, iv pi2, jv pj3, .second, iv (2 : Int32), iv x3, iv x6, iv (1 : Int32), rv b24] [(.int (1 : Int32))])) t → Go t := fun t kt => pre226 t (by
          refine y_icmpNo X221.here hx (hb hby at_387) (teq hf387_225).2 (pc' := 390) rfl ?_
          refine y_iconst X221.here hx (hb hby at_390) (v := (1 : Int32)) rfl (pc' := 391) rfl ?_
          refine y_goto X221.here hx (hb hby at_391) (pc' := 395) (by decide) rfl ?_
          exact kt)
      obtain ⟨fs, hr, hrun, hended, hW, hsame⟩ := X221.leave (v := some (.int (1 : Int32))) (fun h => by rw [Bd.returns] at h; cases h)
      refine ⟨_, _, (hGo _).mp (pre228 _ ?_), hrun, hended, _, _, rfl, ?_, ⟨_, rfl⟩, hW, hsame.mono (by decide) (by decide)⟩
      · exact retN X221 hx (t := .boolean) Bd.returns (by simp) (hb hby at_395) hr
      · show Q0 Z pi0 pi1 pi2 pj3 w_LEAD_PAYLOAD cc_w_LEAD_PAYLOAD h0 n0 _ T221.heap _
        rw [e221q]
        exact ⟨rfl, N222⟩
    · skip
      have pre229 : ∀ t, Steps p.tables e below (T95.setTop (mkF m 222 #[iv pi0, iv pi1, iv pi2, jv pj3, .second, iv (2 : Int32), iv x3, iv x6, iv (2 : Int32), rv b24] [(.int (((192 : Int32) ||| (x6 >>> ((6 : Int32) &&& 31))).toInt8.toInt32)), (.int (2 : Int32)), (.ref b24)])) t → Go t := fun t kt => pre96 t (by
          refine y_iload X95.here hx (hb hby at_185) rfl (pc' := 187) rfl ?_
          refine y_iconst X95.here hx (hb hby at_187) (v := (1 : Int32)) rfl (pc' := 188) rfl ?_
          refine y_icmpYes X95.here hx (hb hby at_188) (feq (by decide : ¬ ((2 : Int32) = (1 : Int32)))).2 (pc' := 202) (by decide) rfl ?_
          refine y_iload X95.here hx (hb hby at_202) rfl (pc' := 204) rfl ?_
          refine y_iconst X95.here hx (hb hby at_204) (v := (2 : Int32)) rfl (pc' := 205) rfl ?_
          refine y_icmpNo X95.here hx (hb hby at_205) (teq (rfl : (2 : Int32) = (2 : Int32))).2 (pc' := 208) rfl ?_
          refine y_aload X95.here hx (hb hby at_208) rfl rfl (pc' := 210) rfl ?_
          refine y_iload X95.here hx (hb hby at_210) rfl (pc' := 212) rfl ?_
          refine y_sipush X95.here hx (hb hby at_212) (v := (192 : Int32)) rfl (pc' := 215) rfl ?_
          refine y_iload X95.here hx (hb hby at_215) rfl (pc' := 217) rfl ?_
          refine y_bipush X95.here hx (hb hby at_217) (v := (6 : Int32)) rfl (pc' := 219) rfl ?_
          refine y_ishr X95.here hx (hb hby at_219) (z := (x6 >>> ((6 : Int32) &&& 31))) rfl (pc' := 220) rfl ?_
          refine y_ior X95.here hx (hb hby at_220) rfl (pc' := 221) rfl ?_
          refine y_i2b X95.here hx (hb hby at_221) (z := (((192 : Int32) ||| (x6 >>> ((6 : Int32) &&& 31))).toInt8.toInt32)) rfl (pc' := 222) rfl ?_
          exact kt)
      obtain ⟨x230, hx230⟩ : ∃ z : Int32, z = (((192 : Int32) ||| (x6 >>> ((6 : Int32) &&& 31))).toInt8.toInt32) := ⟨_, rfl⟩
      have pre231 : ∀ t, Steps p.tables e below (T95.setTop (mkF m 222 #[iv pi0, iv pi1, iv pi2, jv pj3, .second, iv (2 : Int32), iv x3, iv x6, iv (2 : Int32), rv b24] [(.int x230), (.int (2 : Int32)), (.ref b24)])) t → Go t := by subst hx230; exact pre229
      obtain ⟨c232, Ar232, q232, S232, M232, H232, G232⟩ := id f99
      have hin232 : ¬ ((2 : Int32) < 0 ∨ c232.slots.size ≤ ((2 : Int32)).toNatClampNeg) := inb_of S232 ⟨by decide, by decide⟩
      obtain ⟨T233, h233, X233, e233, W233, st233⟩ := stB X95 hx hZ e95 Ar232 (j := (2 : Int32)) hin232 (g := (mkF m 222 #[iv pi0, iv pi1, iv pi2, jv pj3, .second, iv (2 : Int32), iv x3, iv x6, iv (2 : Int32), rv b24] [(.int x230), (.int (2 : Int32)), (.ref b24)])) rfl rfl (hb hby at_222)
      have pre234 : ∀ t, Steps p.tables e below (T233.setTop (mkF m 223 #[iv pi0, iv pi1, iv pi2, jv pj3, .second, iv (2 : Int32), iv x3, iv x6, iv (2 : Int32), rv b24] [])) t → Go t := fun t kt => pre231 t (st233 t kt)
      have N236 := Fr.snoc X233 N98 G26
      have O236 := O98.wr W233 G26
      have f237 : Arv Z h233 b24 k24 .byte (8 : Int32) [(.int (nar .byte x29)), (.int (nar .byte x38)), (.int (nar .byte x230)), (.int (nar .byte x56)), (.int (nar .byte x65)), (.int (nar .byte x74)), (.int (nar .byte x83)), (.int (nar .byte x92))] (.int (0 : Int32)) := Arv.set Ar232 q232 S232 M232 H232 G232 (fits_nar_byte _) W233 2 rfl (Nat.le_of_ble_eq_true rfl)
      have pre238 : ∀ t, Steps p.tables e below (T233.setTop (mkF m 239 #[iv pi0, iv pi1, iv pi2, jv pj3, .second, iv (2 : Int32), iv x3, iv x6, iv (2 : Int32), rv b24] [(.int (((128 : Int32) ||| (x6 &&& (63 : Int32))).toInt8.toInt32)), (.int (3 : Int32)), (.ref b24)])) t → Go t := fun t kt => pre234 t (by
          refine y_aload X233.here hx (hb hby at_223) rfl rfl (pc' := 225) rfl ?_
          refine y_iload X233.here hx (hb hby at_225) rfl (pc' := 227) rfl ?_
          refine y_iconst X233.here hx (hb hby at_227) (v := (1 : Int32)) rfl (pc' := 228) rfl ?_
          refine y_iadd X233.here hx (hb hby at_228) (z := (3 : Int32)) rfl (pc' := 229) rfl ?_
          refine y_sipush X233.here hx (hb hby at_229) (v := (128 : Int32)) rfl (pc' := 232) rfl ?_
          refine y_iload X233.here hx (hb hby at_232) rfl (pc' := 234) rfl ?_
          refine y_bipush X233.here hx (hb hby at_234) (v := (63 : Int32)) rfl (pc' := 236) rfl ?_
          refine y_iand X233.here hx (hb hby at_236) rfl (pc' := 237) rfl ?_
          refine y_ior X233.here hx (hb hby at_237) rfl (pc' := 238) rfl ?_
          refine y_i2b X233.here hx (hb hby at_238) (z := (((128 : Int32) ||| (x6 &&& (63 : Int32))).toInt8.toInt32)) rfl (pc' := 239) rfl ?_
          exact kt)
      obtain ⟨x239, hx239⟩ : ∃ z : Int32, z = (((128 : Int32) ||| (x6 &&& (63 : Int32))).toInt8.toInt32) := ⟨_, rfl⟩
      have pre240 : ∀ t, Steps p.tables e below (T233.setTop (mkF m 239 #[iv pi0, iv pi1, iv pi2, jv pj3, .second, iv (2 : Int32), iv x3, iv x6, iv (2 : Int32), rv b24] [(.int x239), (.int (3 : Int32)), (.ref b24)])) t → Go t := by subst hx239; exact pre238
      obtain ⟨c241, Ar241, q241, S241, M241, H241, G241⟩ := id f237
      have hin241 : ¬ ((3 : Int32) < 0 ∨ c241.slots.size ≤ ((3 : Int32)).toNatClampNeg) := inb_of S241 ⟨by decide, by decide⟩
      obtain ⟨T242, h242, X242, e242, W242, st242⟩ := stB X233 hx hZ e233 Ar241 (j := (3 : Int32)) hin241 (g := (mkF m 239 #[iv pi0, iv pi1, iv pi2, jv pj3, .second, iv (2 : Int32), iv x3, iv x6, iv (2 : Int32), rv b24] [(.int x239), (.int (3 : Int32)), (.ref b24)])) rfl rfl (hb hby at_239)
      have pre243 : ∀ t, Steps p.tables e below (T242.setTop (mkF m 240 #[iv pi0, iv pi1, iv pi2, jv pj3, .second, iv (2 : Int32), iv x3, iv x6, iv (2 : Int32), rv b24] [])) t → Go t := fun t kt => pre240 t (st242 t kt)
      have N245 := Fr.snoc X242 N236 G26
      have O245 := O236.wr W242 G26
      have f246 : Arv Z h242 b24 k24 .byte (8 : Int32) [(.int (nar .byte x29)), (.int (nar .byte x38)), (.int (nar .byte x230)), (.int (nar .byte x239)), (.int (nar .byte x65)), (.int (nar .byte x74)), (.int (nar .byte x83)), (.int (nar .byte x92))] (.int (0 : Int32)) := Arv.set Ar241 q241 S241 M241 H241 G241 (fits_nar_byte _) W242 3 rfl (Nat.le_of_ble_eq_true rfl)
      have pre247 : ∀ t, Steps p.tables e below (T242.setTop (mkF m 382 #[iv pi0, iv pi1, iv pi2, jv pj3, .second, iv (2 : Int32), iv x3, iv x6, iv (2 : Int32), rv b24] [(.int (2 : Int32)), (.int (2 : Int32)), (.ref b24)])) t → Go t := fun t kt => pre243 t (by
          refine y_goto X242.here hx (hb hby at_240) (pc' := 376) (by decide) rfl ?_
          refine y_aload X242.here hx (hb hby at_376) rfl rfl (pc' := 378) rfl ?_
          refine y_iload X242.here hx (hb hby at_378) rfl (pc' := 380) rfl ?_
          refine y_iload X242.here hx (hb hby at_380) rfl (pc' := 382) rfl ?_
          exact kt)
      obtain ⟨v248, _, ⟨T248, L248, k248, n248⟩, -, X248, ⟨Lc248, hQ248, l248, y248, z248⟩, st248⟩ := Jvm.LawKit.callS X242 hx (y := (⟨"com/example/strict_codec/strictcodec/Utf8Grammar", "scalarValue", "([BII)I"⟩ : MethodName)) hown (mvT hZ (hw _ (List.mem_of_getElem? (i := 2) rfl))) (mvT hZ (hw _ (List.mem_of_getElem? (i := 3) rfl))) (mvT hZ (hw _ (List.mem_of_getElem? (i := 4) rfl))) (mvT hZ (hw _ (List.mem_of_getElem? (i := 5) rfl))) (by decide) (backOf (W := 0) (rm1a2l2 l Z a0 hw [] b24 w_LEAD_PAYLOAD k24 (nar .byte x29) (nar .byte x38) (nar .byte x230) (nar .byte x239) (nar .byte x65) (nar .byte x74) (nar .byte x83) (nar .byte x92) cc_w_LEAD_PAYLOAD h242 n0 O245 S_LEAD_PAYLOAD f246 AR_w_LEAD_PAYLOAD IN2_w_LEAD_PAYLOAD AT2_w_LEAD_PAYLOAD) hZ (hw _ (List.mem_of_getElem? (i := 5) rfl)) (hw _ (List.mem_of_getElem? (i := 4) rfl)) (by decide) (by decide)) (g := (mkF m 382 #[iv pi0, iv pi1, iv pi2, jv pj3, .second, iv (2 : Int32), iv x3, iv x6, iv (2 : Int32), rv b24] [(.int (2 : Int32)), (.int (2 : Int32)), (.ref b24)])) rfl (by rw [hml]; rfl) (argsL := [(.ref b24), (.int (2 : Int32)), (.int (2 : Int32))]) (rest := []) (lenOf pd___BII_I rfl) rfl (by show 2 * 0 + _ ≤ _; exact Nat.le_of_eq rfl) (hb hby at_382) (fun _ _ => ⟨rfl, e242, (by decide : 1 + 0 ≤ _), (by decide : 8 + 0 ≤ _)⟩)
      dsimp only [Pt.U, Pt.locs, Pt.cells, Pt.slots] at X248 l248 y248 z248 st248 hQ248
      subst l248 y248 z248
      obtain ⟨hv248, N248q, e248q⟩ := hQ248
      have N249 := Fr.app N245 N248q
      have hw248 := hv248
      obtain ⟨x250, hx250⟩ : ∃ z : Int32, z = ((((nar .byte x230) &&& (31 : Int32)) <<< ((6 : Int32) &&& 31)) ||| ((nar .byte x239) &&& (63 : Int32))) := ⟨_, rfl⟩
      rw [← hx250] at hw248
      subst hw248
      have pre251 : ∀ t, Steps p.tables e below (T248.setTop (mkF m 385 #[iv pi0, iv pi1, iv pi2, jv pj3, .second, iv (2 : Int32), iv x3, iv x6, iv (2 : Int32), rv b24] [(.int x250)])) t → Go t := fun t kt => pre247 t (st248 t kt)
      have pre253 : ∀ t, Steps p.tables e below (T248.setTop (mkF m 387 #[iv pi0, iv pi1, iv pi2, jv pj3, .second, iv (2 : Int32), iv x3, iv x6, iv (2 : Int32), rv b24] [(.int x6), (.int x250)])) t → Go t := fun t kt => pre251 t (by
          refine y_iload X248.here hx (hb hby at_385) rfl (pc' := 387) rfl ?_
          exact kt)
      have hf387_252 : x250 = x6 := by
          exact law0_254 pi0 pi1 pi2 x3 x6 x230 x239 x250 hx3 hx6 hx230 hx239 hx250 hx1 hx21
      have pre255 : ∀ t, Steps p.tables e below (T248.setTop (mkF m 395 #[iv pi0, iv pi1, iv pi2, jv pj3, .second, iv (2 : Int32), iv x3, iv x6, iv (2 : Int32), rv b24] [(.int (1 : Int32))])) t → Go t := fun t kt => pre253 t (by
          refine y_icmpNo X248.here hx (hb hby at_387) (teq hf387_252).2 (pc' := 390) rfl ?_
          refine y_iconst X248.here hx (hb hby at_390) (v := (1 : Int32)) rfl (pc' := 391) rfl ?_
          refine y_goto X248.here hx (hb hby at_391) (pc' := 395) (by decide) rfl ?_
          exact kt)
      obtain ⟨fs, hr, hrun, hended, hW, hsame⟩ := X248.leave (v := some (.int (1 : Int32))) (fun h => by rw [Bd.returns] at h; cases h)
      refine ⟨_, _, (hGo _).mp (pre255 _ ?_), hrun, hended, _, _, rfl, ?_, ⟨_, rfl⟩, hW, hsame.mono (by decide) (by decide)⟩
      · exact retN X248 hx (t := .boolean) Bd.returns (by simp) (hb hby at_395) hr
      · show Q0 Z pi0 pi1 pi2 pj3 w_LEAD_PAYLOAD cc_w_LEAD_PAYLOAD h0 n0 _ T248.heap _
        rw [e248q]
        exact ⟨rfl, N249⟩
    · skip
      have pre256 : ∀ t, Steps p.tables e below (T95.setTop (mkF m 222 #[iv pi0, iv pi1, iv pi2, jv pj3, .second, iv (2 : Int32), iv x3, iv x6, iv (3 : Int32), rv b24] [(.int (((192 : Int32) ||| (x6 >>> ((6 : Int32) &&& 31))).toInt8.toInt32)), (.int (3 : Int32)), (.ref b24)])) t → Go t := fun t kt => pre96 t (by
          refine y_iload X95.here hx (hb hby at_185) rfl (pc' := 187) rfl ?_
          refine y_iconst X95.here hx (hb hby at_187) (v := (1 : Int32)) rfl (pc' := 188) rfl ?_
          refine y_icmpYes X95.here hx (hb hby at_188) (feq (by decide : ¬ ((2 : Int32) = (1 : Int32)))).2 (pc' := 202) (by decide) rfl ?_
          refine y_iload X95.here hx (hb hby at_202) rfl (pc' := 204) rfl ?_
          refine y_iconst X95.here hx (hb hby at_204) (v := (2 : Int32)) rfl (pc' := 205) rfl ?_
          refine y_icmpNo X95.here hx (hb hby at_205) (teq (rfl : (2 : Int32) = (2 : Int32))).2 (pc' := 208) rfl ?_
          refine y_aload X95.here hx (hb hby at_208) rfl rfl (pc' := 210) rfl ?_
          refine y_iload X95.here hx (hb hby at_210) rfl (pc' := 212) rfl ?_
          refine y_sipush X95.here hx (hb hby at_212) (v := (192 : Int32)) rfl (pc' := 215) rfl ?_
          refine y_iload X95.here hx (hb hby at_215) rfl (pc' := 217) rfl ?_
          refine y_bipush X95.here hx (hb hby at_217) (v := (6 : Int32)) rfl (pc' := 219) rfl ?_
          refine y_ishr X95.here hx (hb hby at_219) (z := (x6 >>> ((6 : Int32) &&& 31))) rfl (pc' := 220) rfl ?_
          refine y_ior X95.here hx (hb hby at_220) rfl (pc' := 221) rfl ?_
          refine y_i2b X95.here hx (hb hby at_221) (z := (((192 : Int32) ||| (x6 >>> ((6 : Int32) &&& 31))).toInt8.toInt32)) rfl (pc' := 222) rfl ?_
          exact kt)
      obtain ⟨x257, hx257⟩ : ∃ z : Int32, z = (((192 : Int32) ||| (x6 >>> ((6 : Int32) &&& 31))).toInt8.toInt32) := ⟨_, rfl⟩
      have pre258 : ∀ t, Steps p.tables e below (T95.setTop (mkF m 222 #[iv pi0, iv pi1, iv pi2, jv pj3, .second, iv (2 : Int32), iv x3, iv x6, iv (3 : Int32), rv b24] [(.int x257), (.int (3 : Int32)), (.ref b24)])) t → Go t := by subst hx257; exact pre256
      obtain ⟨c259, Ar259, q259, S259, M259, H259, G259⟩ := id f99
      have hin259 : ¬ ((3 : Int32) < 0 ∨ c259.slots.size ≤ ((3 : Int32)).toNatClampNeg) := inb_of S259 ⟨by decide, by decide⟩
      obtain ⟨T260, h260, X260, e260, W260, st260⟩ := stB X95 hx hZ e95 Ar259 (j := (3 : Int32)) hin259 (g := (mkF m 222 #[iv pi0, iv pi1, iv pi2, jv pj3, .second, iv (2 : Int32), iv x3, iv x6, iv (3 : Int32), rv b24] [(.int x257), (.int (3 : Int32)), (.ref b24)])) rfl rfl (hb hby at_222)
      have pre261 : ∀ t, Steps p.tables e below (T260.setTop (mkF m 223 #[iv pi0, iv pi1, iv pi2, jv pj3, .second, iv (2 : Int32), iv x3, iv x6, iv (3 : Int32), rv b24] [])) t → Go t := fun t kt => pre258 t (st260 t kt)
      have N263 := Fr.snoc X260 N98 G26
      have O263 := O98.wr W260 G26
      have f264 : Arv Z h260 b24 k24 .byte (8 : Int32) [(.int (nar .byte x29)), (.int (nar .byte x38)), (.int (nar .byte x47)), (.int (nar .byte x257)), (.int (nar .byte x65)), (.int (nar .byte x74)), (.int (nar .byte x83)), (.int (nar .byte x92))] (.int (0 : Int32)) := Arv.set Ar259 q259 S259 M259 H259 G259 (fits_nar_byte _) W260 3 rfl (Nat.le_of_ble_eq_true rfl)
      have pre265 : ∀ t, Steps p.tables e below (T260.setTop (mkF m 239 #[iv pi0, iv pi1, iv pi2, jv pj3, .second, iv (2 : Int32), iv x3, iv x6, iv (3 : Int32), rv b24] [(.int (((128 : Int32) ||| (x6 &&& (63 : Int32))).toInt8.toInt32)), (.int (4 : Int32)), (.ref b24)])) t → Go t := fun t kt => pre261 t (by
          refine y_aload X260.here hx (hb hby at_223) rfl rfl (pc' := 225) rfl ?_
          refine y_iload X260.here hx (hb hby at_225) rfl (pc' := 227) rfl ?_
          refine y_iconst X260.here hx (hb hby at_227) (v := (1 : Int32)) rfl (pc' := 228) rfl ?_
          refine y_iadd X260.here hx (hb hby at_228) (z := (4 : Int32)) rfl (pc' := 229) rfl ?_
          refine y_sipush X260.here hx (hb hby at_229) (v := (128 : Int32)) rfl (pc' := 232) rfl ?_
          refine y_iload X260.here hx (hb hby at_232) rfl (pc' := 234) rfl ?_
          refine y_bipush X260.here hx (hb hby at_234) (v := (63 : Int32)) rfl (pc' := 236) rfl ?_
          refine y_iand X260.here hx (hb hby at_236) rfl (pc' := 237) rfl ?_
          refine y_ior X260.here hx (hb hby at_237) rfl (pc' := 238) rfl ?_
          refine y_i2b X260.here hx (hb hby at_238) (z := (((128 : Int32) ||| (x6 &&& (63 : Int32))).toInt8.toInt32)) rfl (pc' := 239) rfl ?_
          exact kt)
      obtain ⟨x266, hx266⟩ : ∃ z : Int32, z = (((128 : Int32) ||| (x6 &&& (63 : Int32))).toInt8.toInt32) := ⟨_, rfl⟩
      have pre267 : ∀ t, Steps p.tables e below (T260.setTop (mkF m 239 #[iv pi0, iv pi1, iv pi2, jv pj3, .second, iv (2 : Int32), iv x3, iv x6, iv (3 : Int32), rv b24] [(.int x266), (.int (4 : Int32)), (.ref b24)])) t → Go t := by subst hx266; exact pre265
      obtain ⟨c268, Ar268, q268, S268, M268, H268, G268⟩ := id f264
      have hin268 : ¬ ((4 : Int32) < 0 ∨ c268.slots.size ≤ ((4 : Int32)).toNatClampNeg) := inb_of S268 ⟨by decide, by decide⟩
      obtain ⟨T269, h269, X269, e269, W269, st269⟩ := stB X260 hx hZ e260 Ar268 (j := (4 : Int32)) hin268 (g := (mkF m 239 #[iv pi0, iv pi1, iv pi2, jv pj3, .second, iv (2 : Int32), iv x3, iv x6, iv (3 : Int32), rv b24] [(.int x266), (.int (4 : Int32)), (.ref b24)])) rfl rfl (hb hby at_239)
      have pre270 : ∀ t, Steps p.tables e below (T269.setTop (mkF m 240 #[iv pi0, iv pi1, iv pi2, jv pj3, .second, iv (2 : Int32), iv x3, iv x6, iv (3 : Int32), rv b24] [])) t → Go t := fun t kt => pre267 t (st269 t kt)
      have N272 := Fr.snoc X269 N263 G26
      have O272 := O263.wr W269 G26
      have f273 : Arv Z h269 b24 k24 .byte (8 : Int32) [(.int (nar .byte x29)), (.int (nar .byte x38)), (.int (nar .byte x47)), (.int (nar .byte x257)), (.int (nar .byte x266)), (.int (nar .byte x74)), (.int (nar .byte x83)), (.int (nar .byte x92))] (.int (0 : Int32)) := Arv.set Ar268 q268 S268 M268 H268 G268 (fits_nar_byte _) W269 4 rfl (Nat.le_of_ble_eq_true rfl)
      have pre274 : ∀ t, Steps p.tables e below (T269.setTop (mkF m 382 #[iv pi0, iv pi1, iv pi2, jv pj3, .second, iv (2 : Int32), iv x3, iv x6, iv (3 : Int32), rv b24] [(.int (2 : Int32)), (.int (3 : Int32)), (.ref b24)])) t → Go t := fun t kt => pre270 t (by
          refine y_goto X269.here hx (hb hby at_240) (pc' := 376) (by decide) rfl ?_
          refine y_aload X269.here hx (hb hby at_376) rfl rfl (pc' := 378) rfl ?_
          refine y_iload X269.here hx (hb hby at_378) rfl (pc' := 380) rfl ?_
          refine y_iload X269.here hx (hb hby at_380) rfl (pc' := 382) rfl ?_
          exact kt)
      obtain ⟨v275, _, ⟨T275, L275, k275, n275⟩, -, X275, ⟨Lc275, hQ275, l275, y275, z275⟩, st275⟩ := Jvm.LawKit.callS X269 hx (y := (⟨"com/example/strict_codec/strictcodec/Utf8Grammar", "scalarValue", "([BII)I"⟩ : MethodName)) hown (mvT hZ (hw _ (List.mem_of_getElem? (i := 2) rfl))) (mvT hZ (hw _ (List.mem_of_getElem? (i := 3) rfl))) (mvT hZ (hw _ (List.mem_of_getElem? (i := 4) rfl))) (mvT hZ (hw _ (List.mem_of_getElem? (i := 5) rfl))) (by decide) (backOf (W := 0) (rm1a3l2 l Z a0 hw [] b24 w_LEAD_PAYLOAD k24 (nar .byte x29) (nar .byte x38) (nar .byte x47) (nar .byte x257) (nar .byte x266) (nar .byte x74) (nar .byte x83) (nar .byte x92) cc_w_LEAD_PAYLOAD h269 n0 O272 S_LEAD_PAYLOAD f273 AR_w_LEAD_PAYLOAD IN2_w_LEAD_PAYLOAD AT2_w_LEAD_PAYLOAD) hZ (hw _ (List.mem_of_getElem? (i := 5) rfl)) (hw _ (List.mem_of_getElem? (i := 4) rfl)) (by decide) (by decide)) (g := (mkF m 382 #[iv pi0, iv pi1, iv pi2, jv pj3, .second, iv (2 : Int32), iv x3, iv x6, iv (3 : Int32), rv b24] [(.int (2 : Int32)), (.int (3 : Int32)), (.ref b24)])) rfl (by rw [hml]; rfl) (argsL := [(.ref b24), (.int (3 : Int32)), (.int (2 : Int32))]) (rest := []) (lenOf pd___BII_I rfl) rfl (by show 2 * 0 + _ ≤ _; exact Nat.le_of_eq rfl) (hb hby at_382) (fun _ _ => ⟨rfl, e269, (by decide : 1 + 0 ≤ _), (by decide : 8 + 0 ≤ _)⟩)
      dsimp only [Pt.U, Pt.locs, Pt.cells, Pt.slots] at X275 l275 y275 z275 st275 hQ275
      subst l275 y275 z275
      obtain ⟨hv275, N275q, e275q⟩ := hQ275
      have N276 := Fr.app N272 N275q
      have hw275 := hv275
      obtain ⟨x277, hx277⟩ : ∃ z : Int32, z = ((((nar .byte x257) &&& (31 : Int32)) <<< ((6 : Int32) &&& 31)) ||| ((nar .byte x266) &&& (63 : Int32))) := ⟨_, rfl⟩
      rw [← hx277] at hw275
      subst hw275
      have pre278 : ∀ t, Steps p.tables e below (T275.setTop (mkF m 385 #[iv pi0, iv pi1, iv pi2, jv pj3, .second, iv (2 : Int32), iv x3, iv x6, iv (3 : Int32), rv b24] [(.int x277)])) t → Go t := fun t kt => pre274 t (st275 t kt)
      have pre280 : ∀ t, Steps p.tables e below (T275.setTop (mkF m 387 #[iv pi0, iv pi1, iv pi2, jv pj3, .second, iv (2 : Int32), iv x3, iv x6, iv (3 : Int32), rv b24] [(.int x6), (.int x277)])) t → Go t := fun t kt => pre278 t (by
          refine y_iload X275.here hx (hb hby at_385) rfl (pc' := 387) rfl ?_
          exact kt)
      have hf387_279 : x277 = x6 := by
          exact law0_281 pi0 pi1 pi2 x3 x6 x257 x266 x277 hx3 hx6 hx257 hx266 hx277 hx1 hx21
      have pre282 : ∀ t, Steps p.tables e below (T275.setTop (mkF m 395 #[iv pi0, iv pi1, iv pi2, jv pj3, .second, iv (2 : Int32), iv x3, iv x6, iv (3 : Int32), rv b24] [(.int (1 : Int32))])) t → Go t := fun t kt => pre280 t (by
          refine y_icmpNo X275.here hx (hb hby at_387) (teq hf387_279).2 (pc' := 390) rfl ?_
          refine y_iconst X275.here hx (hb hby at_390) (v := (1 : Int32)) rfl (pc' := 391) rfl ?_
          refine y_goto X275.here hx (hb hby at_391) (pc' := 395) (by decide) rfl ?_
          exact kt)
      obtain ⟨fs, hr, hrun, hended, hW, hsame⟩ := X275.leave (v := some (.int (1 : Int32))) (fun h => by rw [Bd.returns] at h; cases h)
      refine ⟨_, _, (hGo _).mp (pre282 _ ?_), hrun, hended, _, _, rfl, ?_, ⟨_, rfl⟩, hW, hsame.mono (by decide) (by decide)⟩
      · exact retN X275 hx (t := .boolean) Bd.returns (by simp) (hb hby at_395) hr
      · show Q0 Z pi0 pi1 pi2 pj3 w_LEAD_PAYLOAD cc_w_LEAD_PAYLOAD h0 n0 _ T275.heap _
        rw [e275q]
        exact ⟨rfl, N276⟩
  · skip
    have hs185_283 : x21 = (0 : Int32) ∨ x21 = (1 : Int32) ∨ x21 = (2 : Int32) ∨ x21 = (3 : Int32) := by
        have q : (pi2 &&& (3 : Int32)).toInt = pi2.toInt % 4 := c_mask pi2 3 2 (by decide) (by decide)
        rw [← hx21] at q
        have h : x21.toInt = 0 ∨ x21.toInt = 1 ∨ x21.toInt = 2 ∨ x21.toInt = 3 := by omega
        rcases h with h | h | h | h
        · exact Or.inl (own_of h)
        · exact Or.inr (Or.inl (own_of h))
        · exact Or.inr (Or.inr (Or.inl (own_of h)))
        · exact Or.inr (Or.inr (Or.inr (own_of h)))
    rcases hs185_283 with rfl | rfl | rfl | rfl
    · skip
      have pre284 : ∀ t, Steps p.tables e below (T95.setTop (mkF m 263 #[iv pi0, iv pi1, iv pi2, jv pj3, .second, iv (3 : Int32), iv x3, iv x6, iv (0 : Int32), rv b24] [(.int (((224 : Int32) ||| (x6 >>> ((12 : Int32) &&& 31))).toInt8.toInt32)), (.int (0 : Int32)), (.ref b24)])) t → Go t := fun t kt => pre96 t (by
          refine y_iload X95.here hx (hb hby at_185) rfl (pc' := 187) rfl ?_
          refine y_iconst X95.here hx (hb hby at_187) (v := (1 : Int32)) rfl (pc' := 188) rfl ?_
          refine y_icmpYes X95.here hx (hb hby at_188) (feq (by decide : ¬ ((3 : Int32) = (1 : Int32)))).2 (pc' := 202) (by decide) rfl ?_
          refine y_iload X95.here hx (hb hby at_202) rfl (pc' := 204) rfl ?_
          refine y_iconst X95.here hx (hb hby at_204) (v := (2 : Int32)) rfl (pc' := 205) rfl ?_
          refine y_icmpYes X95.here hx (hb hby at_205) (feq (by decide : ¬ ((3 : Int32) = (2 : Int32)))).2 (pc' := 243) (by decide) rfl ?_
          refine y_iload X95.here hx (hb hby at_243) rfl (pc' := 245) rfl ?_
          refine y_iconst X95.here hx (hb hby at_245) (v := (3 : Int32)) rfl (pc' := 246) rfl ?_
          refine y_icmpNo X95.here hx (hb hby at_246) (teq (rfl : (3 : Int32) = (3 : Int32))).2 (pc' := 249) rfl ?_
          refine y_aload X95.here hx (hb hby at_249) rfl rfl (pc' := 251) rfl ?_
          refine y_iload X95.here hx (hb hby at_251) rfl (pc' := 253) rfl ?_
          refine y_sipush X95.here hx (hb hby at_253) (v := (224 : Int32)) rfl (pc' := 256) rfl ?_
          refine y_iload X95.here hx (hb hby at_256) rfl (pc' := 258) rfl ?_
          refine y_bipush X95.here hx (hb hby at_258) (v := (12 : Int32)) rfl (pc' := 260) rfl ?_
          refine y_ishr X95.here hx (hb hby at_260) (z := (x6 >>> ((12 : Int32) &&& 31))) rfl (pc' := 261) rfl ?_
          refine y_ior X95.here hx (hb hby at_261) rfl (pc' := 262) rfl ?_
          refine y_i2b X95.here hx (hb hby at_262) (z := (((224 : Int32) ||| (x6 >>> ((12 : Int32) &&& 31))).toInt8.toInt32)) rfl (pc' := 263) rfl ?_
          exact kt)
      obtain ⟨x285, hx285⟩ : ∃ z : Int32, z = (((224 : Int32) ||| (x6 >>> ((12 : Int32) &&& 31))).toInt8.toInt32) := ⟨_, rfl⟩
      have pre286 : ∀ t, Steps p.tables e below (T95.setTop (mkF m 263 #[iv pi0, iv pi1, iv pi2, jv pj3, .second, iv (3 : Int32), iv x3, iv x6, iv (0 : Int32), rv b24] [(.int x285), (.int (0 : Int32)), (.ref b24)])) t → Go t := by subst hx285; exact pre284
      obtain ⟨c287, Ar287, q287, S287, M287, H287, G287⟩ := id f99
      have hin287 : ¬ ((0 : Int32) < 0 ∨ c287.slots.size ≤ ((0 : Int32)).toNatClampNeg) := inb_of S287 ⟨by decide, by decide⟩
      obtain ⟨T288, h288, X288, e288, W288, st288⟩ := stB X95 hx hZ e95 Ar287 (j := (0 : Int32)) hin287 (g := (mkF m 263 #[iv pi0, iv pi1, iv pi2, jv pj3, .second, iv (3 : Int32), iv x3, iv x6, iv (0 : Int32), rv b24] [(.int x285), (.int (0 : Int32)), (.ref b24)])) rfl rfl (hb hby at_263)
      have pre289 : ∀ t, Steps p.tables e below (T288.setTop (mkF m 264 #[iv pi0, iv pi1, iv pi2, jv pj3, .second, iv (3 : Int32), iv x3, iv x6, iv (0 : Int32), rv b24] [])) t → Go t := fun t kt => pre286 t (st288 t kt)
      have N291 := Fr.snoc X288 N98 G26
      have O291 := O98.wr W288 G26
      have f292 : Arv Z h288 b24 k24 .byte (8 : Int32) [(.int (nar .byte x285)), (.int (nar .byte x38)), (.int (nar .byte x47)), (.int (nar .byte x56)), (.int (nar .byte x65)), (.int (nar .byte x74)), (.int (nar .byte x83)), (.int (nar .byte x92))] (.int (0 : Int32)) := Arv.set Ar287 q287 S287 M287 H287 G287 (fits_nar_byte _) W288 0 rfl (Nat.le_of_ble_eq_true rfl)
      have pre293 : ∀ t, Steps p.tables e below (T288.setTop (mkF m 283 #[iv pi0, iv pi1, iv pi2, jv pj3, .second, iv (3 : Int32), iv x3, iv x6, iv (0 : Int32), rv b24] [(.int (((128 : Int32) ||| ((x6 >>> ((6 : Int32) &&& 31)) &&& (63 : Int32))).toInt8.toInt32)), (.int (1 : Int32)), (.ref b24)])) t → Go t := fun t kt => pre289 t (by
          refine y_aload X288.here hx (hb hby at_264) rfl rfl (pc' := 266) rfl ?_
          refine y_iload X288.here hx (hb hby at_266) rfl (pc' := 268) rfl ?_
          refine y_iconst X288.here hx (hb hby at_268) (v := (1 : Int32)) rfl (pc' := 269) rfl ?_
          refine y_iadd X288.here hx (hb hby at_269) (z := (1 : Int32)) rfl (pc' := 270) rfl ?_
          refine y_sipush X288.here hx (hb hby at_270) (v := (128 : Int32)) rfl (pc' := 273) rfl ?_
          refine y_iload X288.here hx (hb hby at_273) rfl (pc' := 275) rfl ?_
          refine y_bipush X288.here hx (hb hby at_275) (v := (6 : Int32)) rfl (pc' := 277) rfl ?_
          refine y_ishr X288.here hx (hb hby at_277) (z := (x6 >>> ((6 : Int32) &&& 31))) rfl (pc' := 278) rfl ?_
          refine y_bipush X288.here hx (hb hby at_278) (v := (63 : Int32)) rfl (pc' := 280) rfl ?_
          refine y_iand X288.here hx (hb hby at_280) rfl (pc' := 281) rfl ?_
          refine y_ior X288.here hx (hb hby at_281) rfl (pc' := 282) rfl ?_
          refine y_i2b X288.here hx (hb hby at_282) (z := (((128 : Int32) ||| ((x6 >>> ((6 : Int32) &&& 31)) &&& (63 : Int32))).toInt8.toInt32)) rfl (pc' := 283) rfl ?_
          exact kt)
      obtain ⟨x294, hx294⟩ : ∃ z : Int32, z = (((128 : Int32) ||| ((x6 >>> ((6 : Int32) &&& 31)) &&& (63 : Int32))).toInt8.toInt32) := ⟨_, rfl⟩
      have pre295 : ∀ t, Steps p.tables e below (T288.setTop (mkF m 283 #[iv pi0, iv pi1, iv pi2, jv pj3, .second, iv (3 : Int32), iv x3, iv x6, iv (0 : Int32), rv b24] [(.int x294), (.int (1 : Int32)), (.ref b24)])) t → Go t := by subst hx294; exact pre293
      obtain ⟨c296, Ar296, q296, S296, M296, H296, G296⟩ := id f292
      have hin296 : ¬ ((1 : Int32) < 0 ∨ c296.slots.size ≤ ((1 : Int32)).toNatClampNeg) := inb_of S296 ⟨by decide, by decide⟩
      obtain ⟨T297, h297, X297, e297, W297, st297⟩ := stB X288 hx hZ e288 Ar296 (j := (1 : Int32)) hin296 (g := (mkF m 283 #[iv pi0, iv pi1, iv pi2, jv pj3, .second, iv (3 : Int32), iv x3, iv x6, iv (0 : Int32), rv b24] [(.int x294), (.int (1 : Int32)), (.ref b24)])) rfl rfl (hb hby at_283)
      have pre298 : ∀ t, Steps p.tables e below (T297.setTop (mkF m 284 #[iv pi0, iv pi1, iv pi2, jv pj3, .second, iv (3 : Int32), iv x3, iv x6, iv (0 : Int32), rv b24] [])) t → Go t := fun t kt => pre295 t (st297 t kt)
      have N300 := Fr.snoc X297 N291 G26
      have O300 := O291.wr W297 G26
      have f301 : Arv Z h297 b24 k24 .byte (8 : Int32) [(.int (nar .byte x285)), (.int (nar .byte x294)), (.int (nar .byte x47)), (.int (nar .byte x56)), (.int (nar .byte x65)), (.int (nar .byte x74)), (.int (nar .byte x83)), (.int (nar .byte x92))] (.int (0 : Int32)) := Arv.set Ar296 q296 S296 M296 H296 G296 (fits_nar_byte _) W297 1 rfl (Nat.le_of_ble_eq_true rfl)
      have pre302 : ∀ t, Steps p.tables e below (T297.setTop (mkF m 300 #[iv pi0, iv pi1, iv pi2, jv pj3, .second, iv (3 : Int32), iv x3, iv x6, iv (0 : Int32), rv b24] [(.int (((128 : Int32) ||| (x6 &&& (63 : Int32))).toInt8.toInt32)), (.int (2 : Int32)), (.ref b24)])) t → Go t := fun t kt => pre298 t (by
          refine y_aload X297.here hx (hb hby at_284) rfl rfl (pc' := 286) rfl ?_
          refine y_iload X297.here hx (hb hby at_286) rfl (pc' := 288) rfl ?_
          refine y_iconst X297.here hx (hb hby at_288) (v := (2 : Int32)) rfl (pc' := 289) rfl ?_
          refine y_iadd X297.here hx (hb hby at_289) (z := (2 : Int32)) rfl (pc' := 290) rfl ?_
          refine y_sipush X297.here hx (hb hby at_290) (v := (128 : Int32)) rfl (pc' := 293) rfl ?_
          refine y_iload X297.here hx (hb hby at_293) rfl (pc' := 295) rfl ?_
          refine y_bipush X297.here hx (hb hby at_295) (v := (63 : Int32)) rfl (pc' := 297) rfl ?_
          refine y_iand X297.here hx (hb hby at_297) rfl (pc' := 298) rfl ?_
          refine y_ior X297.here hx (hb hby at_298) rfl (pc' := 299) rfl ?_
          refine y_i2b X297.here hx (hb hby at_299) (z := (((128 : Int32) ||| (x6 &&& (63 : Int32))).toInt8.toInt32)) rfl (pc' := 300) rfl ?_
          exact kt)
      obtain ⟨x303, hx303⟩ : ∃ z : Int32, z = (((128 : Int32) ||| (x6 &&& (63 : Int32))).toInt8.toInt32) := ⟨_, rfl⟩
      have pre304 : ∀ t, Steps p.tables e below (T297.setTop (mkF m 300 #[iv pi0, iv pi1, iv pi2, jv pj3, .second, iv (3 : Int32), iv x3, iv x6, iv (0 : Int32), rv b24] [(.int x303), (.int (2 : Int32)), (.ref b24)])) t → Go t := by subst hx303; exact pre302
      obtain ⟨c305, Ar305, q305, S305, M305, H305, G305⟩ := id f301
      have hin305 : ¬ ((2 : Int32) < 0 ∨ c305.slots.size ≤ ((2 : Int32)).toNatClampNeg) := inb_of S305 ⟨by decide, by decide⟩
      obtain ⟨T306, h306, X306, e306, W306, st306⟩ := stB X297 hx hZ e297 Ar305 (j := (2 : Int32)) hin305 (g := (mkF m 300 #[iv pi0, iv pi1, iv pi2, jv pj3, .second, iv (3 : Int32), iv x3, iv x6, iv (0 : Int32), rv b24] [(.int x303), (.int (2 : Int32)), (.ref b24)])) rfl rfl (hb hby at_300)
      have pre307 : ∀ t, Steps p.tables e below (T306.setTop (mkF m 301 #[iv pi0, iv pi1, iv pi2, jv pj3, .second, iv (3 : Int32), iv x3, iv x6, iv (0 : Int32), rv b24] [])) t → Go t := fun t kt => pre304 t (st306 t kt)
      have N309 := Fr.snoc X306 N300 G26
      have O309 := O300.wr W306 G26
      have f310 : Arv Z h306 b24 k24 .byte (8 : Int32) [(.int (nar .byte x285)), (.int (nar .byte x294)), (.int (nar .byte x303)), (.int (nar .byte x56)), (.int (nar .byte x65)), (.int (nar .byte x74)), (.int (nar .byte x83)), (.int (nar .byte x92))] (.int (0 : Int32)) := Arv.set Ar305 q305 S305 M305 H305 G305 (fits_nar_byte _) W306 2 rfl (Nat.le_of_ble_eq_true rfl)
      have pre311 : ∀ t, Steps p.tables e below (T306.setTop (mkF m 382 #[iv pi0, iv pi1, iv pi2, jv pj3, .second, iv (3 : Int32), iv x3, iv x6, iv (0 : Int32), rv b24] [(.int (3 : Int32)), (.int (0 : Int32)), (.ref b24)])) t → Go t := fun t kt => pre307 t (by
          refine y_goto X306.here hx (hb hby at_301) (pc' := 376) (by decide) rfl ?_
          refine y_aload X306.here hx (hb hby at_376) rfl rfl (pc' := 378) rfl ?_
          refine y_iload X306.here hx (hb hby at_378) rfl (pc' := 380) rfl ?_
          refine y_iload X306.here hx (hb hby at_380) rfl (pc' := 382) rfl ?_
          exact kt)
      obtain ⟨v312, _, ⟨T312, L312, k312, n312⟩, -, X312, ⟨Lc312, hQ312, l312, y312, z312⟩, st312⟩ := Jvm.LawKit.callS X306 hx (y := (⟨"com/example/strict_codec/strictcodec/Utf8Grammar", "scalarValue", "([BII)I"⟩ : MethodName)) hown (mvT hZ (hw _ (List.mem_of_getElem? (i := 2) rfl))) (mvT hZ (hw _ (List.mem_of_getElem? (i := 3) rfl))) (mvT hZ (hw _ (List.mem_of_getElem? (i := 4) rfl))) (mvT hZ (hw _ (List.mem_of_getElem? (i := 5) rfl))) (by decide) (backOf (W := 0) (rm1a0l3 l Z a0 hw [] b24 w_LEAD_PAYLOAD k24 (nar .byte x285) (nar .byte x294) (nar .byte x303) (nar .byte x56) (nar .byte x65) (nar .byte x74) (nar .byte x83) (nar .byte x92) cc_w_LEAD_PAYLOAD h306 n0 O309 S_LEAD_PAYLOAD f310 AR_w_LEAD_PAYLOAD IN3_w_LEAD_PAYLOAD AT3_w_LEAD_PAYLOAD) hZ (hw _ (List.mem_of_getElem? (i := 5) rfl)) (hw _ (List.mem_of_getElem? (i := 4) rfl)) (by decide) (by decide)) (g := (mkF m 382 #[iv pi0, iv pi1, iv pi2, jv pj3, .second, iv (3 : Int32), iv x3, iv x6, iv (0 : Int32), rv b24] [(.int (3 : Int32)), (.int (0 : Int32)), (.ref b24)])) rfl (by rw [hml]; rfl) (argsL := [(.ref b24), (.int (0 : Int32)), (.int (3 : Int32))]) (rest := []) (lenOf pd___BII_I rfl) rfl (by show 2 * 0 + _ ≤ _; exact Nat.le_of_eq rfl) (hb hby at_382) (fun _ _ => ⟨rfl, e306, (by decide : 1 + 0 ≤ _), (by decide : 8 + 0 ≤ _)⟩)
      dsimp only [Pt.U, Pt.locs, Pt.cells, Pt.slots] at X312 l312 y312 z312 st312 hQ312
      subst l312 y312 z312
      obtain ⟨hv312, N312q, e312q⟩ := hQ312
      have N313 := Fr.app N309 N312q
      have hw312 := hv312
      obtain ⟨x314, hx314⟩ : ∃ z : Int32, z = ((((((nar .byte x285) &&& (15 : Int32)) <<< ((6 : Int32) &&& 31)) ||| ((nar .byte x294) &&& (63 : Int32))) <<< ((6 : Int32) &&& 31)) ||| ((nar .byte x303) &&& (63 : Int32))) := ⟨_, rfl⟩
      rw [← hx314] at hw312
      subst hw312
      have pre315 : ∀ t, Steps p.tables e below (T312.setTop (mkF m 385 #[iv pi0, iv pi1, iv pi2, jv pj3, .second, iv (3 : Int32), iv x3, iv x6, iv (0 : Int32), rv b24] [(.int x314)])) t → Go t := fun t kt => pre311 t (st312 t kt)
      have pre317 : ∀ t, Steps p.tables e below (T312.setTop (mkF m 387 #[iv pi0, iv pi1, iv pi2, jv pj3, .second, iv (3 : Int32), iv x3, iv x6, iv (0 : Int32), rv b24] [(.int x6), (.int x314)])) t → Go t := fun t kt => pre315 t (by
          refine y_iload X312.here hx (hb hby at_385) rfl (pc' := 387) rfl ?_
          exact kt)
      have hf387_316 : x314 = x6 := by
          exact law0_318 pi0 pi1 pi2 x3 x6 x285 x294 x303 x314 hx3 hx6 hx285 hx294 hx303 hx314 hx1 hx21
      have pre319 : ∀ t, Steps p.tables e below (T312.setTop (mkF m 395 #[iv pi0, iv pi1, iv pi2, jv pj3, .second, iv (3 : Int32), iv x3, iv x6, iv (0 : Int32), rv b24] [(.int (1 : Int32))])) t → Go t := fun t kt => pre317 t (by
          refine y_icmpNo X312.here hx (hb hby at_387) (teq hf387_316).2 (pc' := 390) rfl ?_
          refine y_iconst X312.here hx (hb hby at_390) (v := (1 : Int32)) rfl (pc' := 391) rfl ?_
          refine y_goto X312.here hx (hb hby at_391) (pc' := 395) (by decide) rfl ?_
          exact kt)
      obtain ⟨fs, hr, hrun, hended, hW, hsame⟩ := X312.leave (v := some (.int (1 : Int32))) (fun h => by rw [Bd.returns] at h; cases h)
      refine ⟨_, _, (hGo _).mp (pre319 _ ?_), hrun, hended, _, _, rfl, ?_, ⟨_, rfl⟩, hW, hsame.mono (by decide) (by decide)⟩
      · exact retN X312 hx (t := .boolean) Bd.returns (by simp) (hb hby at_395) hr
      · show Q0 Z pi0 pi1 pi2 pj3 w_LEAD_PAYLOAD cc_w_LEAD_PAYLOAD h0 n0 _ T312.heap _
        rw [e312q]
        exact ⟨rfl, N313⟩
    · skip
      have pre320 : ∀ t, Steps p.tables e below (T95.setTop (mkF m 263 #[iv pi0, iv pi1, iv pi2, jv pj3, .second, iv (3 : Int32), iv x3, iv x6, iv (1 : Int32), rv b24] [(.int (((224 : Int32) ||| (x6 >>> ((12 : Int32) &&& 31))).toInt8.toInt32)), (.int (1 : Int32)), (.ref b24)])) t → Go t := fun t kt => pre96 t (by
          refine y_iload X95.here hx (hb hby at_185) rfl (pc' := 187) rfl ?_
          refine y_iconst X95.here hx (hb hby at_187) (v := (1 : Int32)) rfl (pc' := 188) rfl ?_
          refine y_icmpYes X95.here hx (hb hby at_188) (feq (by decide : ¬ ((3 : Int32) = (1 : Int32)))).2 (pc' := 202) (by decide) rfl ?_
          refine y_iload X95.here hx (hb hby at_202) rfl (pc' := 204) rfl ?_
          refine y_iconst X95.here hx (hb hby at_204) (v := (2 : Int32)) rfl (pc' := 205) rfl ?_
          refine y_icmpYes X95.here hx (hb hby at_205) (feq (by decide : ¬ ((3 : Int32) = (2 : Int32)))).2 (pc' := 243) (by decide) rfl ?_
          refine y_iload X95.here hx (hb hby at_243) rfl (pc' := 245) rfl ?_
          refine y_iconst X95.here hx (hb hby at_245) (v := (3 : Int32)) rfl (pc' := 246) rfl ?_
          refine y_icmpNo X95.here hx (hb hby at_246) (teq (rfl : (3 : Int32) = (3 : Int32))).2 (pc' := 249) rfl ?_
          refine y_aload X95.here hx (hb hby at_249) rfl rfl (pc' := 251) rfl ?_
          refine y_iload X95.here hx (hb hby at_251) rfl (pc' := 253) rfl ?_
          refine y_sipush X95.here hx (hb hby at_253) (v := (224 : Int32)) rfl (pc' := 256) rfl ?_
          refine y_iload X95.here hx (hb hby at_256) rfl (pc' := 258) rfl ?_
          refine y_bipush X95.here hx (hb hby at_258) (v := (12 : Int32)) rfl (pc' := 260) rfl ?_
          refine y_ishr X95.here hx (hb hby at_260) (z := (x6 >>> ((12 : Int32) &&& 31))) rfl (pc' := 261) rfl ?_
          refine y_ior X95.here hx (hb hby at_261) rfl (pc' := 262) rfl ?_
          refine y_i2b X95.here hx (hb hby at_262) (z := (((224 : Int32) ||| (x6 >>> ((12 : Int32) &&& 31))).toInt8.toInt32)) rfl (pc' := 263) rfl ?_
          exact kt)
      obtain ⟨x321, hx321⟩ : ∃ z : Int32, z = (((224 : Int32) ||| (x6 >>> ((12 : Int32) &&& 31))).toInt8.toInt32) := ⟨_, rfl⟩
      have pre322 : ∀ t, Steps p.tables e below (T95.setTop (mkF m 263 #[iv pi0, iv pi1, iv pi2, jv pj3, .second, iv (3 : Int32), iv x3, iv x6, iv (1 : Int32), rv b24] [(.int x321), (.int (1 : Int32)), (.ref b24)])) t → Go t := by subst hx321; exact pre320
      obtain ⟨c323, Ar323, q323, S323, M323, H323, G323⟩ := id f99
      have hin323 : ¬ ((1 : Int32) < 0 ∨ c323.slots.size ≤ ((1 : Int32)).toNatClampNeg) := inb_of S323 ⟨by decide, by decide⟩
      obtain ⟨T324, h324, X324, e324, W324, st324⟩ := stB X95 hx hZ e95 Ar323 (j := (1 : Int32)) hin323 (g := (mkF m 263 #[iv pi0, iv pi1, iv pi2, jv pj3, .second, iv (3 : Int32), iv x3, iv x6, iv (1 : Int32), rv b24] [(.int x321), (.int (1 : Int32)), (.ref b24)])) rfl rfl (hb hby at_263)
      have pre325 : ∀ t, Steps p.tables e below (T324.setTop (mkF m 264 #[iv pi0, iv pi1, iv pi2, jv pj3, .second, iv (3 : Int32), iv x3, iv x6, iv (1 : Int32), rv b24] [])) t → Go t := fun t kt => pre322 t (st324 t kt)
      have N327 := Fr.snoc X324 N98 G26
      have O327 := O98.wr W324 G26
      have f328 : Arv Z h324 b24 k24 .byte (8 : Int32) [(.int (nar .byte x29)), (.int (nar .byte x321)), (.int (nar .byte x47)), (.int (nar .byte x56)), (.int (nar .byte x65)), (.int (nar .byte x74)), (.int (nar .byte x83)), (.int (nar .byte x92))] (.int (0 : Int32)) := Arv.set Ar323 q323 S323 M323 H323 G323 (fits_nar_byte _) W324 1 rfl (Nat.le_of_ble_eq_true rfl)
      have pre329 : ∀ t, Steps p.tables e below (T324.setTop (mkF m 283 #[iv pi0, iv pi1, iv pi2, jv pj3, .second, iv (3 : Int32), iv x3, iv x6, iv (1 : Int32), rv b24] [(.int (((128 : Int32) ||| ((x6 >>> ((6 : Int32) &&& 31)) &&& (63 : Int32))).toInt8.toInt32)), (.int (2 : Int32)), (.ref b24)])) t → Go t := fun t kt => pre325 t (by
          refine y_aload X324.here hx (hb hby at_264) rfl rfl (pc' := 266) rfl ?_
          refine y_iload X324.here hx (hb hby at_266) rfl (pc' := 268) rfl ?_
          refine y_iconst X324.here hx (hb hby at_268) (v := (1 : Int32)) rfl (pc' := 269) rfl ?_
          refine y_iadd X324.here hx (hb hby at_269) (z := (2 : Int32)) rfl (pc' := 270) rfl ?_
          refine y_sipush X324.here hx (hb hby at_270) (v := (128 : Int32)) rfl (pc' := 273) rfl ?_
          refine y_iload X324.here hx (hb hby at_273) rfl (pc' := 275) rfl ?_
          refine y_bipush X324.here hx (hb hby at_275) (v := (6 : Int32)) rfl (pc' := 277) rfl ?_
          refine y_ishr X324.here hx (hb hby at_277) (z := (x6 >>> ((6 : Int32) &&& 31))) rfl (pc' := 278) rfl ?_
          refine y_bipush X324.here hx (hb hby at_278) (v := (63 : Int32)) rfl (pc' := 280) rfl ?_
          refine y_iand X324.here hx (hb hby at_280) rfl (pc' := 281) rfl ?_
          refine y_ior X324.here hx (hb hby at_281) rfl (pc' := 282) rfl ?_
          refine y_i2b X324.here hx (hb hby at_282) (z := (((128 : Int32) ||| ((x6 >>> ((6 : Int32) &&& 31)) &&& (63 : Int32))).toInt8.toInt32)) rfl (pc' := 283) rfl ?_
          exact kt)
      obtain ⟨x330, hx330⟩ : ∃ z : Int32, z = (((128 : Int32) ||| ((x6 >>> ((6 : Int32) &&& 31)) &&& (63 : Int32))).toInt8.toInt32) := ⟨_, rfl⟩
      have pre331 : ∀ t, Steps p.tables e below (T324.setTop (mkF m 283 #[iv pi0, iv pi1, iv pi2, jv pj3, .second, iv (3 : Int32), iv x3, iv x6, iv (1 : Int32), rv b24] [(.int x330), (.int (2 : Int32)), (.ref b24)])) t → Go t := by subst hx330; exact pre329
      obtain ⟨c332, Ar332, q332, S332, M332, H332, G332⟩ := id f328
      have hin332 : ¬ ((2 : Int32) < 0 ∨ c332.slots.size ≤ ((2 : Int32)).toNatClampNeg) := inb_of S332 ⟨by decide, by decide⟩
      obtain ⟨T333, h333, X333, e333, W333, st333⟩ := stB X324 hx hZ e324 Ar332 (j := (2 : Int32)) hin332 (g := (mkF m 283 #[iv pi0, iv pi1, iv pi2, jv pj3, .second, iv (3 : Int32), iv x3, iv x6, iv (1 : Int32), rv b24] [(.int x330), (.int (2 : Int32)), (.ref b24)])) rfl rfl (hb hby at_283)
      have pre334 : ∀ t, Steps p.tables e below (T333.setTop (mkF m 284 #[iv pi0, iv pi1, iv pi2, jv pj3, .second, iv (3 : Int32), iv x3, iv x6, iv (1 : Int32), rv b24] [])) t → Go t := fun t kt => pre331 t (st333 t kt)
      have N336 := Fr.snoc X333 N327 G26
      have O336 := O327.wr W333 G26
      have f337 : Arv Z h333 b24 k24 .byte (8 : Int32) [(.int (nar .byte x29)), (.int (nar .byte x321)), (.int (nar .byte x330)), (.int (nar .byte x56)), (.int (nar .byte x65)), (.int (nar .byte x74)), (.int (nar .byte x83)), (.int (nar .byte x92))] (.int (0 : Int32)) := Arv.set Ar332 q332 S332 M332 H332 G332 (fits_nar_byte _) W333 2 rfl (Nat.le_of_ble_eq_true rfl)
      have pre338 : ∀ t, Steps p.tables e below (T333.setTop (mkF m 300 #[iv pi0, iv pi1, iv pi2, jv pj3, .second, iv (3 : Int32), iv x3, iv x6, iv (1 : Int32), rv b24] [(.int (((128 : Int32) ||| (x6 &&& (63 : Int32))).toInt8.toInt32)), (.int (3 : Int32)), (.ref b24)])) t → Go t := fun t kt => pre334 t (by
          refine y_aload X333.here hx (hb hby at_284) rfl rfl (pc' := 286) rfl ?_
          refine y_iload X333.here hx (hb hby at_286) rfl (pc' := 288) rfl ?_
          refine y_iconst X333.here hx (hb hby at_288) (v := (2 : Int32)) rfl (pc' := 289) rfl ?_
          refine y_iadd X333.here hx (hb hby at_289) (z := (3 : Int32)) rfl (pc' := 290) rfl ?_
          refine y_sipush X333.here hx (hb hby at_290) (v := (128 : Int32)) rfl (pc' := 293) rfl ?_
          refine y_iload X333.here hx (hb hby at_293) rfl (pc' := 295) rfl ?_
          refine y_bipush X333.here hx (hb hby at_295) (v := (63 : Int32)) rfl (pc' := 297) rfl ?_
          refine y_iand X333.here hx (hb hby at_297) rfl (pc' := 298) rfl ?_
          refine y_ior X333.here hx (hb hby at_298) rfl (pc' := 299) rfl ?_
          refine y_i2b X333.here hx (hb hby at_299) (z := (((128 : Int32) ||| (x6 &&& (63 : Int32))).toInt8.toInt32)) rfl (pc' := 300) rfl ?_
          exact kt)
      obtain ⟨x339, hx339⟩ : ∃ z : Int32, z = (((128 : Int32) ||| (x6 &&& (63 : Int32))).toInt8.toInt32) := ⟨_, rfl⟩
      have pre340 : ∀ t, Steps p.tables e below (T333.setTop (mkF m 300 #[iv pi0, iv pi1, iv pi2, jv pj3, .second, iv (3 : Int32), iv x3, iv x6, iv (1 : Int32), rv b24] [(.int x339), (.int (3 : Int32)), (.ref b24)])) t → Go t := by subst hx339; exact pre338
      obtain ⟨c341, Ar341, q341, S341, M341, H341, G341⟩ := id f337
      have hin341 : ¬ ((3 : Int32) < 0 ∨ c341.slots.size ≤ ((3 : Int32)).toNatClampNeg) := inb_of S341 ⟨by decide, by decide⟩
      obtain ⟨T342, h342, X342, e342, W342, st342⟩ := stB X333 hx hZ e333 Ar341 (j := (3 : Int32)) hin341 (g := (mkF m 300 #[iv pi0, iv pi1, iv pi2, jv pj3, .second, iv (3 : Int32), iv x3, iv x6, iv (1 : Int32), rv b24] [(.int x339), (.int (3 : Int32)), (.ref b24)])) rfl rfl (hb hby at_300)
      have pre343 : ∀ t, Steps p.tables e below (T342.setTop (mkF m 301 #[iv pi0, iv pi1, iv pi2, jv pj3, .second, iv (3 : Int32), iv x3, iv x6, iv (1 : Int32), rv b24] [])) t → Go t := fun t kt => pre340 t (st342 t kt)
      have N345 := Fr.snoc X342 N336 G26
      have O345 := O336.wr W342 G26
      have f346 : Arv Z h342 b24 k24 .byte (8 : Int32) [(.int (nar .byte x29)), (.int (nar .byte x321)), (.int (nar .byte x330)), (.int (nar .byte x339)), (.int (nar .byte x65)), (.int (nar .byte x74)), (.int (nar .byte x83)), (.int (nar .byte x92))] (.int (0 : Int32)) := Arv.set Ar341 q341 S341 M341 H341 G341 (fits_nar_byte _) W342 3 rfl (Nat.le_of_ble_eq_true rfl)
      have pre347 : ∀ t, Steps p.tables e below (T342.setTop (mkF m 382 #[iv pi0, iv pi1, iv pi2, jv pj3, .second, iv (3 : Int32), iv x3, iv x6, iv (1 : Int32), rv b24] [(.int (3 : Int32)), (.int (1 : Int32)), (.ref b24)])) t → Go t := fun t kt => pre343 t (by
          refine y_goto X342.here hx (hb hby at_301) (pc' := 376) (by decide) rfl ?_
          refine y_aload X342.here hx (hb hby at_376) rfl rfl (pc' := 378) rfl ?_
          refine y_iload X342.here hx (hb hby at_378) rfl (pc' := 380) rfl ?_
          refine y_iload X342.here hx (hb hby at_380) rfl (pc' := 382) rfl ?_
          exact kt)
      obtain ⟨v348, _, ⟨T348, L348, k348, n348⟩, -, X348, ⟨Lc348, hQ348, l348, y348, z348⟩, st348⟩ := Jvm.LawKit.callS X342 hx (y := (⟨"com/example/strict_codec/strictcodec/Utf8Grammar", "scalarValue", "([BII)I"⟩ : MethodName)) hown (mvT hZ (hw _ (List.mem_of_getElem? (i := 2) rfl))) (mvT hZ (hw _ (List.mem_of_getElem? (i := 3) rfl))) (mvT hZ (hw _ (List.mem_of_getElem? (i := 4) rfl))) (mvT hZ (hw _ (List.mem_of_getElem? (i := 5) rfl))) (by decide) (backOf (W := 0) (rm1a1l3 l Z a0 hw [] b24 w_LEAD_PAYLOAD k24 (nar .byte x29) (nar .byte x321) (nar .byte x330) (nar .byte x339) (nar .byte x65) (nar .byte x74) (nar .byte x83) (nar .byte x92) cc_w_LEAD_PAYLOAD h342 n0 O345 S_LEAD_PAYLOAD f346 AR_w_LEAD_PAYLOAD IN3_w_LEAD_PAYLOAD AT3_w_LEAD_PAYLOAD) hZ (hw _ (List.mem_of_getElem? (i := 5) rfl)) (hw _ (List.mem_of_getElem? (i := 4) rfl)) (by decide) (by decide)) (g := (mkF m 382 #[iv pi0, iv pi1, iv pi2, jv pj3, .second, iv (3 : Int32), iv x3, iv x6, iv (1 : Int32), rv b24] [(.int (3 : Int32)), (.int (1 : Int32)), (.ref b24)])) rfl (by rw [hml]; rfl) (argsL := [(.ref b24), (.int (1 : Int32)), (.int (3 : Int32))]) (rest := []) (lenOf pd___BII_I rfl) rfl (by show 2 * 0 + _ ≤ _; exact Nat.le_of_eq rfl) (hb hby at_382) (fun _ _ => ⟨rfl, e342, (by decide : 1 + 0 ≤ _), (by decide : 8 + 0 ≤ _)⟩)
      dsimp only [Pt.U, Pt.locs, Pt.cells, Pt.slots] at X348 l348 y348 z348 st348 hQ348
      subst l348 y348 z348
      obtain ⟨hv348, N348q, e348q⟩ := hQ348
      have N349 := Fr.app N345 N348q
      have hw348 := hv348
      obtain ⟨x350, hx350⟩ : ∃ z : Int32, z = ((((((nar .byte x321) &&& (15 : Int32)) <<< ((6 : Int32) &&& 31)) ||| ((nar .byte x330) &&& (63 : Int32))) <<< ((6 : Int32) &&& 31)) ||| ((nar .byte x339) &&& (63 : Int32))) := ⟨_, rfl⟩
      rw [← hx350] at hw348
      subst hw348
      have pre351 : ∀ t, Steps p.tables e below (T348.setTop (mkF m 385 #[iv pi0, iv pi1, iv pi2, jv pj3, .second, iv (3 : Int32), iv x3, iv x6, iv (1 : Int32), rv b24] [(.int x350)])) t → Go t := fun t kt => pre347 t (st348 t kt)
      have pre353 : ∀ t, Steps p.tables e below (T348.setTop (mkF m 387 #[iv pi0, iv pi1, iv pi2, jv pj3, .second, iv (3 : Int32), iv x3, iv x6, iv (1 : Int32), rv b24] [(.int x6), (.int x350)])) t → Go t := fun t kt => pre351 t (by
          refine y_iload X348.here hx (hb hby at_385) rfl (pc' := 387) rfl ?_
          exact kt)
      have hf387_352 : x350 = x6 := by
          exact law0_354 pi0 pi1 pi2 x3 x6 x321 x330 x339 x350 hx3 hx6 hx321 hx330 hx339 hx350 hx1 hx21
      have pre355 : ∀ t, Steps p.tables e below (T348.setTop (mkF m 395 #[iv pi0, iv pi1, iv pi2, jv pj3, .second, iv (3 : Int32), iv x3, iv x6, iv (1 : Int32), rv b24] [(.int (1 : Int32))])) t → Go t := fun t kt => pre353 t (by
          refine y_icmpNo X348.here hx (hb hby at_387) (teq hf387_352).2 (pc' := 390) rfl ?_
          refine y_iconst X348.here hx (hb hby at_390) (v := (1 : Int32)) rfl (pc' := 391) rfl ?_
          refine y_goto X348.here hx (hb hby at_391) (pc' := 395) (by decide) rfl ?_
          exact kt)
      obtain ⟨fs, hr, hrun, hended, hW, hsame⟩ := X348.leave (v := some (.int (1 : Int32))) (fun h => by rw [Bd.returns] at h; cases h)
      refine ⟨_, _, (hGo _).mp (pre355 _ ?_), hrun, hended, _, _, rfl, ?_, ⟨_, rfl⟩, hW, hsame.mono (by decide) (by decide)⟩
      · exact retN X348 hx (t := .boolean) Bd.returns (by simp) (hb hby at_395) hr
      · show Q0 Z pi0 pi1 pi2 pj3 w_LEAD_PAYLOAD cc_w_LEAD_PAYLOAD h0 n0 _ T348.heap _
        rw [e348q]
        exact ⟨rfl, N349⟩
    · skip
      have pre356 : ∀ t, Steps p.tables e below (T95.setTop (mkF m 263 #[iv pi0, iv pi1, iv pi2, jv pj3, .second, iv (3 : Int32), iv x3, iv x6, iv (2 : Int32), rv b24] [(.int (((224 : Int32) ||| (x6 >>> ((12 : Int32) &&& 31))).toInt8.toInt32)), (.int (2 : Int32)), (.ref b24)])) t → Go t := fun t kt => pre96 t (by
          refine y_iload X95.here hx (hb hby at_185) rfl (pc' := 187) rfl ?_
          refine y_iconst X95.here hx (hb hby at_187) (v := (1 : Int32)) rfl (pc' := 188) rfl ?_
          refine y_icmpYes X95.here hx (hb hby at_188) (feq (by decide : ¬ ((3 : Int32) = (1 : Int32)))).2 (pc' := 202) (by decide) rfl ?_
          refine y_iload X95.here hx (hb hby at_202) rfl (pc' := 204) rfl ?_
          refine y_iconst X95.here hx (hb hby at_204) (v := (2 : Int32)) rfl (pc' := 205) rfl ?_
          refine y_icmpYes X95.here hx (hb hby at_205) (feq (by decide : ¬ ((3 : Int32) = (2 : Int32)))).2 (pc' := 243) (by decide) rfl ?_
          refine y_iload X95.here hx (hb hby at_243) rfl (pc' := 245) rfl ?_
          refine y_iconst X95.here hx (hb hby at_245) (v := (3 : Int32)) rfl (pc' := 246) rfl ?_
          refine y_icmpNo X95.here hx (hb hby at_246) (teq (rfl : (3 : Int32) = (3 : Int32))).2 (pc' := 249) rfl ?_
          refine y_aload X95.here hx (hb hby at_249) rfl rfl (pc' := 251) rfl ?_
          refine y_iload X95.here hx (hb hby at_251) rfl (pc' := 253) rfl ?_
          refine y_sipush X95.here hx (hb hby at_253) (v := (224 : Int32)) rfl (pc' := 256) rfl ?_
          refine y_iload X95.here hx (hb hby at_256) rfl (pc' := 258) rfl ?_
          refine y_bipush X95.here hx (hb hby at_258) (v := (12 : Int32)) rfl (pc' := 260) rfl ?_
          refine y_ishr X95.here hx (hb hby at_260) (z := (x6 >>> ((12 : Int32) &&& 31))) rfl (pc' := 261) rfl ?_
          refine y_ior X95.here hx (hb hby at_261) rfl (pc' := 262) rfl ?_
          refine y_i2b X95.here hx (hb hby at_262) (z := (((224 : Int32) ||| (x6 >>> ((12 : Int32) &&& 31))).toInt8.toInt32)) rfl (pc' := 263) rfl ?_
          exact kt)
      obtain ⟨x357, hx357⟩ : ∃ z : Int32, z = (((224 : Int32) ||| (x6 >>> ((12 : Int32) &&& 31))).toInt8.toInt32) := ⟨_, rfl⟩
      have pre358 : ∀ t, Steps p.tables e below (T95.setTop (mkF m 263 #[iv pi0, iv pi1, iv pi2, jv pj3, .second, iv (3 : Int32), iv x3, iv x6, iv (2 : Int32), rv b24] [(.int x357), (.int (2 : Int32)), (.ref b24)])) t → Go t := by subst hx357; exact pre356
      obtain ⟨c359, Ar359, q359, S359, M359, H359, G359⟩ := id f99
      have hin359 : ¬ ((2 : Int32) < 0 ∨ c359.slots.size ≤ ((2 : Int32)).toNatClampNeg) := inb_of S359 ⟨by decide, by decide⟩
      obtain ⟨T360, h360, X360, e360, W360, st360⟩ := stB X95 hx hZ e95 Ar359 (j := (2 : Int32)) hin359 (g := (mkF m 263 #[iv pi0, iv pi1, iv pi2, jv pj3, .second, iv (3 : Int32), iv x3, iv x6, iv (2 : Int32), rv b24] [(.int x357), (.int (2 : Int32)), (.ref b24)])) rfl rfl (hb hby at_263)
      have pre361 : ∀ t, Steps p.tables e below (T360.setTop (mkF m 264 #[iv pi0, iv pi1, iv pi2, jv pj3, .second, iv (3 : Int32), iv x3, iv x6, iv (2 : Int32), rv b24] [])) t → Go t := fun t kt => pre358 t (st360 t kt)
      have N363 := Fr.snoc X360 N98 G26
      have O363 := O98.wr W360 G26
      have f364 : Arv Z h360 b24 k24 .byte (8 : Int32) [(.int (nar .byte x29)), (.int (nar .byte x38)), (.int (nar .byte x357)), (.int (nar .byte x56)), (.int (nar .byte x65)), (.int (nar .byte x74)), (.int (nar .byte x83)), (.int (nar .byte x92))] (.int (0 : Int32)) := Arv.set Ar359 q359 S359 M359 H359 G359 (fits_nar_byte _) W360 2 rfl (Nat.le_of_ble_eq_true rfl)
      have pre365 : ∀ t, Steps p.tables e below (T360.setTop (mkF m 283 #[iv pi0, iv pi1, iv pi2, jv pj3, .second, iv (3 : Int32), iv x3, iv x6, iv (2 : Int32), rv b24] [(.int (((128 : Int32) ||| ((x6 >>> ((6 : Int32) &&& 31)) &&& (63 : Int32))).toInt8.toInt32)), (.int (3 : Int32)), (.ref b24)])) t → Go t := fun t kt => pre361 t (by
          refine y_aload X360.here hx (hb hby at_264) rfl rfl (pc' := 266) rfl ?_
          refine y_iload X360.here hx (hb hby at_266) rfl (pc' := 268) rfl ?_
          refine y_iconst X360.here hx (hb hby at_268) (v := (1 : Int32)) rfl (pc' := 269) rfl ?_
          refine y_iadd X360.here hx (hb hby at_269) (z := (3 : Int32)) rfl (pc' := 270) rfl ?_
          refine y_sipush X360.here hx (hb hby at_270) (v := (128 : Int32)) rfl (pc' := 273) rfl ?_
          refine y_iload X360.here hx (hb hby at_273) rfl (pc' := 275) rfl ?_
          refine y_bipush X360.here hx (hb hby at_275) (v := (6 : Int32)) rfl (pc' := 277) rfl ?_
          refine y_ishr X360.here hx (hb hby at_277) (z := (x6 >>> ((6 : Int32) &&& 31))) rfl (pc' := 278) rfl ?_
          refine y_bipush X360.here hx (hb hby at_278) (v := (63 : Int32)) rfl (pc' := 280) rfl ?_
          refine y_iand X360.here hx (hb hby at_280) rfl (pc' := 281) rfl ?_
          refine y_ior X360.here hx (hb hby at_281) rfl (pc' := 282) rfl ?_
          refine y_i2b X360.here hx (hb hby at_282) (z := (((128 : Int32) ||| ((x6 >>> ((6 : Int32) &&& 31)) &&& (63 : Int32))).toInt8.toInt32)) rfl (pc' := 283) rfl ?_
          exact kt)
      obtain ⟨x366, hx366⟩ : ∃ z : Int32, z = (((128 : Int32) ||| ((x6 >>> ((6 : Int32) &&& 31)) &&& (63 : Int32))).toInt8.toInt32) := ⟨_, rfl⟩
      have pre367 : ∀ t, Steps p.tables e below (T360.setTop (mkF m 283 #[iv pi0, iv pi1, iv pi2, jv pj3, .second, iv (3 : Int32), iv x3, iv x6, iv (2 : Int32), rv b24] [(.int x366), (.int (3 : Int32)), (.ref b24)])) t → Go t := by subst hx366; exact pre365
      obtain ⟨c368, Ar368, q368, S368, M368, H368, G368⟩ := id f364
      have hin368 : ¬ ((3 : Int32) < 0 ∨ c368.slots.size ≤ ((3 : Int32)).toNatClampNeg) := inb_of S368 ⟨by decide, by decide⟩
      obtain ⟨T369, h369, X369, e369, W369, st369⟩ := stB X360 hx hZ e360 Ar368 (j := (3 : Int32)) hin368 (g := (mkF m 283 #[iv pi0, iv pi1, iv pi2, jv pj3, .second, iv (3 : Int32), iv x3, iv x6, iv (2 : Int32), rv b24] [(.int x366), (.int (3 : Int32)), (.ref b24)])) rfl rfl (hb hby at_283)
      have pre370 : ∀ t, Steps p.tables e below (T369.setTop (mkF m 284 #[iv pi0, iv pi1, iv pi2, jv pj3, .second, iv (3 : Int32), iv x3, iv x6, iv (2 : Int32), rv b24] [])) t → Go t := fun t kt => pre367 t (st369 t kt)
      have N372 := Fr.snoc X369 N363 G26
      have O372 := O363.wr W369 G26
      have f373 : Arv Z h369 b24 k24 .byte (8 : Int32) [(.int (nar .byte x29)), (.int (nar .byte x38)), (.int (nar .byte x357)), (.int (nar .byte x366)), (.int (nar .byte x65)), (.int (nar .byte x74)), (.int (nar .byte x83)), (.int (nar .byte x92))] (.int (0 : Int32)) := Arv.set Ar368 q368 S368 M368 H368 G368 (fits_nar_byte _) W369 3 rfl (Nat.le_of_ble_eq_true rfl)
      have pre374 : ∀ t, Steps p.tables e below (T369.setTop (mkF m 300 #[iv pi0, iv pi1, iv pi2, jv pj3, .second, iv (3 : Int32), iv x3, iv x6, iv (2 : Int32), rv b24] [(.int (((128 : Int32) ||| (x6 &&& (63 : Int32))).toInt8.toInt32)), (.int (4 : Int32)), (.ref b24)])) t → Go t := fun t kt => pre370 t (by
          refine y_aload X369.here hx (hb hby at_284) rfl rfl (pc' := 286) rfl ?_
          refine y_iload X369.here hx (hb hby at_286) rfl (pc' := 288) rfl ?_
          refine y_iconst X369.here hx (hb hby at_288) (v := (2 : Int32)) rfl (pc' := 289) rfl ?_
          refine y_iadd X369.here hx (hb hby at_289) (z := (4 : Int32)) rfl (pc' := 290) rfl ?_
          refine y_sipush X369.here hx (hb hby at_290) (v := (128 : Int32)) rfl (pc' := 293) rfl ?_
          refine y_iload X369.here hx (hb hby at_293) rfl (pc' := 295) rfl ?_
          refine y_bipush X369.here hx (hb hby at_295) (v := (63 : Int32)) rfl (pc' := 297) rfl ?_
          refine y_iand X369.here hx (hb hby at_297) rfl (pc' := 298) rfl ?_
          refine y_ior X369.here hx (hb hby at_298) rfl (pc' := 299) rfl ?_
          refine y_i2b X369.here hx (hb hby at_299) (z := (((128 : Int32) ||| (x6 &&& (63 : Int32))).toInt8.toInt32)) rfl (pc' := 300) rfl ?_
          exact kt)
      obtain ⟨x375, hx375⟩ : ∃ z : Int32, z = (((128 : Int32) ||| (x6 &&& (63 : Int32))).toInt8.toInt32) := ⟨_, rfl⟩
      have pre376 : ∀ t, Steps p.tables e below (T369.setTop (mkF m 300 #[iv pi0, iv pi1, iv pi2, jv pj3, .second, iv (3 : Int32), iv x3, iv x6, iv (2 : Int32), rv b24] [(.int x375), (.int (4 : Int32)), (.ref b24)])) t → Go t := by subst hx375; exact pre374
      obtain ⟨c377, Ar377, q377, S377, M377, H377, G377⟩ := id f373
      have hin377 : ¬ ((4 : Int32) < 0 ∨ c377.slots.size ≤ ((4 : Int32)).toNatClampNeg) := inb_of S377 ⟨by decide, by decide⟩
      obtain ⟨T378, h378, X378, e378, W378, st378⟩ := stB X369 hx hZ e369 Ar377 (j := (4 : Int32)) hin377 (g := (mkF m 300 #[iv pi0, iv pi1, iv pi2, jv pj3, .second, iv (3 : Int32), iv x3, iv x6, iv (2 : Int32), rv b24] [(.int x375), (.int (4 : Int32)), (.ref b24)])) rfl rfl (hb hby at_300)
      have pre379 : ∀ t, Steps p.tables e below (T378.setTop (mkF m 301 #[iv pi0, iv pi1, iv pi2, jv pj3, .second, iv (3 : Int32), iv x3, iv x6, iv (2 : Int32), rv b24] [])) t → Go t := fun t kt => pre376 t (st378 t kt)
      have N381 := Fr.snoc X378 N372 G26
      have O381 := O372.wr W378 G26
      have f382 : Arv Z h378 b24 k24 .byte (8 : Int32) [(.int (nar .byte x29)), (.int (nar .byte x38)), (.int (nar .byte x357)), (.int (nar .byte x366)), (.int (nar .byte x375)), (.int (nar .byte x74)), (.int (nar .byte x83)), (.int (nar .byte x92))] (.int (0 : Int32)) := Arv.set Ar377 q377 S377 M377 H377 G377 (fits_nar_byte _) W378 4 rfl (Nat.le_of_ble_eq_true rfl)
      have pre383 : ∀ t, Steps p.tables e below (T378.setTop (mkF m 382 #[iv pi0, iv pi1, iv pi2, jv pj3, .second, iv (3 : Int32), iv x3, iv x6, iv (2 : Int32), rv b24] [(.int (3 : Int32)), (.int (2 : Int32)), (.ref b24)])) t → Go t := fun t kt => pre379 t (by
          refine y_goto X378.here hx (hb hby at_301) (pc' := 376) (by decide) rfl ?_
          refine y_aload X378.here hx (hb hby at_376) rfl rfl (pc' := 378) rfl ?_
          refine y_iload X378.here hx (hb hby at_378) rfl (pc' := 380) rfl ?_
          refine y_iload X378.here hx (hb hby at_380) rfl (pc' := 382) rfl ?_
          exact kt)
      obtain ⟨v384, _, ⟨T384, L384, k384, n384⟩, -, X384, ⟨Lc384, hQ384, l384, y384, z384⟩, st384⟩ := Jvm.LawKit.callS X378 hx (y := (⟨"com/example/strict_codec/strictcodec/Utf8Grammar", "scalarValue", "([BII)I"⟩ : MethodName)) hown (mvT hZ (hw _ (List.mem_of_getElem? (i := 2) rfl))) (mvT hZ (hw _ (List.mem_of_getElem? (i := 3) rfl))) (mvT hZ (hw _ (List.mem_of_getElem? (i := 4) rfl))) (mvT hZ (hw _ (List.mem_of_getElem? (i := 5) rfl))) (by decide) (backOf (W := 0) (rm1a2l3 l Z a0 hw [] b24 w_LEAD_PAYLOAD k24 (nar .byte x29) (nar .byte x38) (nar .byte x357) (nar .byte x366) (nar .byte x375) (nar .byte x74) (nar .byte x83) (nar .byte x92) cc_w_LEAD_PAYLOAD h378 n0 O381 S_LEAD_PAYLOAD f382 AR_w_LEAD_PAYLOAD IN3_w_LEAD_PAYLOAD AT3_w_LEAD_PAYLOAD) hZ (hw _ (List.mem_of_getElem? (i := 5) rfl)) (hw _ (List.mem_of_getElem? (i := 4) rfl)) (by decide) (by decide)) (g := (mkF m 382 #[iv pi0, iv pi1, iv pi2, jv pj3, .second, iv (3 : Int32), iv x3, iv x6, iv (2 : Int32), rv b24] [(.int (3 : Int32)), (.int (2 : Int32)), (.ref b24)])) rfl (by rw [hml]; rfl) (argsL := [(.ref b24), (.int (2 : Int32)), (.int (3 : Int32))]) (rest := []) (lenOf pd___BII_I rfl) rfl (by show 2 * 0 + _ ≤ _; exact Nat.le_of_eq rfl) (hb hby at_382) (fun _ _ => ⟨rfl, e378, (by decide : 1 + 0 ≤ _), (by decide : 8 + 0 ≤ _)⟩)
      dsimp only [Pt.U, Pt.locs, Pt.cells, Pt.slots] at X384 l384 y384 z384 st384 hQ384
      subst l384 y384 z384
      obtain ⟨hv384, N384q, e384q⟩ := hQ384
      have N385 := Fr.app N381 N384q
      have hw384 := hv384
      obtain ⟨x386, hx386⟩ : ∃ z : Int32, z = ((((((nar .byte x357) &&& (15 : Int32)) <<< ((6 : Int32) &&& 31)) ||| ((nar .byte x366) &&& (63 : Int32))) <<< ((6 : Int32) &&& 31)) ||| ((nar .byte x375) &&& (63 : Int32))) := ⟨_, rfl⟩
      rw [← hx386] at hw384
      subst hw384
      have pre387 : ∀ t, Steps p.tables e below (T384.setTop (mkF m 385 #[iv pi0, iv pi1, iv pi2, jv pj3, .second, iv (3 : Int32), iv x3, iv x6, iv (2 : Int32), rv b24] [(.int x386)])) t → Go t := fun t kt => pre383 t (st384 t kt)
      have pre389 : ∀ t, Steps p.tables e below (T384.setTop (mkF m 387 #[iv pi0, iv pi1, iv pi2, jv pj3, .second, iv (3 : Int32), iv x3, iv x6, iv (2 : Int32), rv b24] [(.int x6), (.int x386)])) t → Go t := fun t kt => pre387 t (by
          refine y_iload X384.here hx (hb hby at_385) rfl (pc' := 387) rfl ?_
          exact kt)
      have hf387_388 : x386 = x6 := by
          exact law0_390 pi0 pi1 pi2 x3 x6 x357 x366 x375 x386 hx3 hx6 hx357 hx366 hx375 hx386 hx1 hx21
      have pre391 : ∀ t, Steps p.tables e below (T384.setTop (mkF m 395 #[iv pi0, iv pi1, iv pi2, jv pj3, .second, iv (3 : Int32), iv x3, iv x6, iv (2 : Int32), rv b24] [(.int (1 : Int32))])) t → Go t := fun t kt => pre389 t (by
          refine y_icmpNo X384.here hx (hb hby at_387) (teq hf387_388).2 (pc' := 390) rfl ?_
          refine y_iconst X384.here hx (hb hby at_390) (v := (1 : Int32)) rfl (pc' := 391) rfl ?_
          refine y_goto X384.here hx (hb hby at_391) (pc' := 395) (by decide) rfl ?_
          exact kt)
      obtain ⟨fs, hr, hrun, hended, hW, hsame⟩ := X384.leave (v := some (.int (1 : Int32))) (fun h => by rw [Bd.returns] at h; cases h)
      refine ⟨_, _, (hGo _).mp (pre391 _ ?_), hrun, hended, _, _, rfl, ?_, ⟨_, rfl⟩, hW, hsame.mono (by decide) (by decide)⟩
      · exact retN X384 hx (t := .boolean) Bd.returns (by simp) (hb hby at_395) hr
      · show Q0 Z pi0 pi1 pi2 pj3 w_LEAD_PAYLOAD cc_w_LEAD_PAYLOAD h0 n0 _ T384.heap _
        rw [e384q]
        exact ⟨rfl, N385⟩
    · skip
      have pre392 : ∀ t, Steps p.tables e below (T95.setTop (mkF m 263 #[iv pi0, iv pi1, iv pi2, jv pj3, .second, iv (3 : Int32), iv x3, iv x6, iv (3 : Int32), rv b24] [(.int (((224 : Int32) ||| (x6 >>> ((12 : Int32) &&& 31))).toInt8.toInt32)), (.int (3 : Int32)), (.ref b24)])) t → Go t := fun t kt => pre96 t (by
          refine y_iload X95.here hx (hb hby at_185) rfl (pc' := 187) rfl ?_
          refine y_iconst X95.here hx (hb hby at_187) (v := (1 : Int32)) rfl (pc' := 188) rfl ?_
          refine y_icmpYes X95.here hx (hb hby at_188) (feq (by decide : ¬ ((3 : Int32) = (1 : Int32)))).2 (pc' := 202) (by decide) rfl ?_
          refine y_iload X95.here hx (hb hby at_202) rfl (pc' := 204) rfl ?_
          refine y_iconst X95.here hx (hb hby at_204) (v := (2 : Int32)) rfl (pc' := 205) rfl ?_
          refine y_icmpYes X95.here hx (hb hby at_205) (feq (by decide : ¬ ((3 : Int32) = (2 : Int32)))).2 (pc' := 243) (by decide) rfl ?_
          refine y_iload X95.here hx (hb hby at_243) rfl (pc' := 245) rfl ?_
          refine y_iconst X95.here hx (hb hby at_245) (v := (3 : Int32)) rfl (pc' := 246) rfl ?_
          refine y_icmpNo X95.here hx (hb hby at_246) (teq (rfl : (3 : Int32) = (3 : Int32))).2 (pc' := 249) rfl ?_
          refine y_aload X95.here hx (hb hby at_249) rfl rfl (pc' := 251) rfl ?_
          refine y_iload X95.here hx (hb hby at_251) rfl (pc' := 253) rfl ?_
          refine y_sipush X95.here hx (hb hby at_253) (v := (224 : Int32)) rfl (pc' := 256) rfl ?_
          refine y_iload X95.here hx (hb hby at_256) rfl (pc' := 258) rfl ?_
          refine y_bipush X95.here hx (hb hby at_258) (v := (12 : Int32)) rfl (pc' := 260) rfl ?_
          refine y_ishr X95.here hx (hb hby at_260) (z := (x6 >>> ((12 : Int32) &&& 31))) rfl (pc' := 261) rfl ?_
          refine y_ior X95.here hx (hb hby at_261) rfl (pc' := 262) rfl ?_
          refine y_i2b X95.here hx (hb hby at_262) (z := (((224 : Int32) ||| (x6 >>> ((12 : Int32) &&& 31))).toInt8.toInt32)) rfl (pc' := 263) rfl ?_
          exact kt)
      obtain ⟨x393, hx393⟩ : ∃ z : Int32, z = (((224 : Int32) ||| (x6 >>> ((12 : Int32) &&& 31))).toInt8.toInt32) := ⟨_, rfl⟩
      have pre394 : ∀ t, Steps p.tables e below (T95.setTop (mkF m 263 #[iv pi0, iv pi1, iv pi2, jv pj3, .second, iv (3 : Int32), iv x3, iv x6, iv (3 : Int32), rv b24] [(.int x393), (.int (3 : Int32)), (.ref b24)])) t → Go t := by subst hx393; exact pre392
      obtain ⟨c395, Ar395, q395, S395, M395, H395, G395⟩ := id f99
      have hin395 : ¬ ((3 : Int32) < 0 ∨ c395.slots.size ≤ ((3 : Int32)).toNatClampNeg) := inb_of S395 ⟨by decide, by decide⟩
      obtain ⟨T396, h396, X396, e396, W396, st396⟩ := stB X95 hx hZ e95 Ar395 (j := (3 : Int32)) hin395 (g := (mkF m 263 #[iv pi0, iv pi1, iv pi2, jv pj3, .second, iv (3 : Int32), iv x3, iv x6, iv (3 : Int32), rv b24] [(.int x393), (.int (3 : Int32)), (.ref b24)])) rfl rfl (hb hby at_263)
      have pre397 : ∀ t, Steps p.tables e below (T396.setTop (mkF m 264 #[iv pi0, iv pi1, iv pi2, jv pj3, .second, iv (3 : Int32), iv x3, iv x6, iv (3 : Int32), rv b24] [])) t → Go t := fun t kt => pre394 t (st396 t kt)
      have N399 := Fr.snoc X396 N98 G26
      have O399 := O98.wr W396 G26
      have f400 : Arv Z h396 b24 k24 .byte (8 : Int32) [(.int (nar .byte x29)), (.int (nar .byte x38)), (.int (nar .byte x47)), (.int (nar .byte x393)), (.int (nar .byte x65)), (.int (nar .byte x74)), (.int (nar .byte x83)), (.int (nar .byte x92))] (.int (0 : Int32)) := Arv.set Ar395 q395 S395 M395 H395 G395 (fits_nar_byte _) W396 3 rfl (Nat.le_of_ble_eq_true rfl)
      have pre401 : ∀ t, Steps p.tables e below (T396.setTop (mkF m 283 #[iv pi0, iv pi1, iv pi2, jv pj3, .second, iv (3 : Int32), iv x3, iv x6, iv (3 : Int32), rv b24] [(.int (((128 : Int32) ||| ((x6 >>> ((6 : Int32) &&& 31)) &&& (63 : Int32))).toInt8.toInt32)), (.int (4 : Int32)), (.ref b24)])) t → Go t := fun t kt => pre397 t (by
          refine y_aload X396.here hx (hb hby at_264) rfl rfl (pc' := 266) rfl ?_
          refine y_iload X396.here hx (hb hby at_266) rfl (pc' := 268) rfl ?_
          refine y_iconst X396.here hx (hb hby at_268) (v := (1 : Int32)) rfl (pc' := 269) rfl ?_
          refine y_iadd X396.here hx (hb hby at_269) (z := (4 : Int32)) rfl (pc' := 270) rfl ?_
          refine y_sipush X396.here hx (hb hby at_270) (v := (128 : Int32)) rfl (pc' := 273) rfl ?_
          refine y_iload X396.here hx (hb hby at_273) rfl (pc' := 275) rfl ?_
          refine y_bipush X396.here hx (hb hby at_275) (v := (6 : Int32)) rfl (pc' := 277) rfl ?_
          refine y_ishr X396.here hx (hb hby at_277) (z := (x6 >>> ((6 : Int32) &&& 31))) rfl (pc' := 278) rfl ?_
          refine y_bipush X396.here hx (hb hby at_278) (v := (63 : Int32)) rfl (pc' := 280) rfl ?_
          refine y_iand X396.here hx (hb hby at_280) rfl (pc' := 281) rfl ?_
          refine y_ior X396.here hx (hb hby at_281) rfl (pc' := 282) rfl ?_
          refine y_i2b X396.here hx (hb hby at_282) (z := (((128 : Int32) ||| ((x6 >>> ((6 : Int32) &&& 31)) &&& (63 : Int32))).toInt8.toInt32)) rfl (pc' := 283) rfl ?_
          exact kt)
      obtain ⟨x402, hx402⟩ : ∃ z : Int32, z = (((128 : Int32) ||| ((x6 >>> ((6 : Int32) &&& 31)) &&& (63 : Int32))).toInt8.toInt32) := ⟨_, rfl⟩
      have pre403 : ∀ t, Steps p.tables e below (T396.setTop (mkF m 283 #[iv pi0, iv pi1, iv pi2, jv pj3, .second, iv (3 : Int32), iv x3, iv x6, iv (3 : Int32), rv b24] [(.int x402), (.int (4 : Int32)), (.ref b24)])) t → Go t := by subst hx402; exact pre401
      obtain ⟨c404, Ar404, q404, S404, M404, H404, G404⟩ := id f400
      have hin404 : ¬ ((4 : Int32) < 0 ∨ c404.slots.size ≤ ((4 : Int32)).toNatClampNeg) := inb_of S404 ⟨by decide, by decide⟩
      obtain ⟨T405, h405, X405, e405, W405, st405⟩ := stB X396 hx hZ e396 Ar404 (j := (4 : Int32)) hin404 (g := (mkF m 283 #[iv pi0, iv pi1, iv pi2, jv pj3, .second, iv (3 : Int32), iv x3, iv x6, iv (3 : Int32), rv b24] [(.int x402), (.int (4 : Int32)), (.ref b24)])) rfl rfl (hb hby at_283)
      have pre406 : ∀ t, Steps p.tables e below (T405.setTop (mkF m 284 #[iv pi0, iv pi1, iv pi2, jv pj3, .second, iv (3 : Int32), iv x3, iv x6, iv (3 : Int32), rv b24] [])) t → Go t := fun t kt => pre403 t (st405 t kt)
      have N408 := Fr.snoc X405 N399 G26
      have O408 := O399.wr W405 G26
      have f409 : Arv Z h405 b24 k24 .byte (8 : Int32) [(.int (nar .byte x29)), (.int (nar .byte x38)), (.int (nar .byte x47)), (.int (nar .byte x393)), (.int (nar .byte x402)), (.int (nar .byte x74)), (.int (nar .byte x83)), (.int (nar .byte x92))] (.int (0 : Int32)) := Arv.set Ar404 q404 S404 M404 H404 G404 (fits_nar_byte _) W405 4 rfl (Nat.le_of_ble_eq_true rfl)
      have pre410 : ∀ t, Steps p.tables e below (T405.setTop (mkF m 300 #[iv pi0, iv pi1, iv pi2, jv pj3, .second, iv (3 : Int32), iv x3, iv x6, iv (3 : Int32), rv b24] [(.int (((128 : Int32) ||| (x6 &&& (63 : Int32))).toInt8.toInt32)), (.int (5 : Int32)), (.ref b24)])) t → Go t := fun t kt => pre406 t (by
          refine y_aload X405.here hx (hb hby at_284) rfl rfl (pc' := 286) rfl ?_
          refine y_iload X405.here hx (hb hby at_286) rfl (pc' := 288) rfl ?_
          refine y_iconst X405.here hx (hb hby at_288) (v := (2 : Int32)) rfl (pc' := 289) rfl ?_
          refine y_iadd X405.here hx (hb hby at_289) (z := (5 : Int32)) rfl (pc' := 290) rfl ?_
          refine y_sipush X405.here hx (hb hby at_290) (v := (128 : Int32)) rfl (pc' := 293) rfl ?_
          refine y_iload X405.here hx (hb hby at_293) rfl (pc' := 295) rfl ?_
          refine y_bipush X405.here hx (hb hby at_295) (v := (63 : Int32)) rfl (pc' := 297) rfl ?_
          refine y_iand X405.here hx (hb hby at_297) rfl (pc' := 298) rfl ?_
          refine y_ior X405.here hx (hb hby at_298) rfl (pc' := 299) rfl ?_
          refine y_i2b X405.here hx (hb hby at_299) (z := (((128 : Int32) ||| (x6 &&& (63 : Int32))).toInt8.toInt32)) rfl (pc' := 300) rfl ?_
          exact kt)
      obtain ⟨x411, hx411⟩ : ∃ z : Int32, z = (((128 : Int32) ||| (x6 &&& (63 : Int32))).toInt8.toInt32) := ⟨_, rfl⟩
      have pre412 : ∀ t, Steps p.tables e below (T405.setTop (mkF m 300 #[iv pi0, iv pi1, iv pi2, jv pj3, .second, iv (3 : Int32), iv x3, iv x6, iv (3 : Int32), rv b24] [(.int x411), (.int (5 : Int32)), (.ref b24)])) t → Go t := by subst hx411; exact pre410
      obtain ⟨c413, Ar413, q413, S413, M413, H413, G413⟩ := id f409
      have hin413 : ¬ ((5 : Int32) < 0 ∨ c413.slots.size ≤ ((5 : Int32)).toNatClampNeg) := inb_of S413 ⟨by decide, by decide⟩
      obtain ⟨T414, h414, X414, e414, W414, st414⟩ := stB X405 hx hZ e405 Ar413 (j := (5 : Int32)) hin413 (g := (mkF m 300 #[iv pi0, iv pi1, iv pi2, jv pj3, .second, iv (3 : Int32), iv x3, iv x6, iv (3 : Int32), rv b24] [(.int x411), (.int (5 : Int32)), (.ref b24)])) rfl rfl (hb hby at_300)
      have pre415 : ∀ t, Steps p.tables e below (T414.setTop (mkF m 301 #[iv pi0, iv pi1, iv pi2, jv pj3, .second, iv (3 : Int32), iv x3, iv x6, iv (3 : Int32), rv b24] [])) t → Go t := fun t kt => pre412 t (st414 t kt)
      have N417 := Fr.snoc X414 N408 G26
      have O417 := O408.wr W414 G26
      have f418 : Arv Z h414 b24 k24 .byte (8 : Int32) [(.int (nar .byte x29)), (.int (nar .byte x38)), (.int (nar .byte x47)), (.int (nar .byte x393)), (.int (nar .byte x402)), (.int (nar .byte x411)), (.int (nar .byte x83)), (.int (nar .byte x92))] (.int (0 : Int32)) := Arv.set Ar413 q413 S413 M413 H413 G413 (fits_nar_byte _) W414 5 rfl (Nat.le_of_ble_eq_true rfl)
      have pre419 : ∀ t, Steps p.tables e below (T414.setTop (mkF m 382 #[iv pi0, iv pi1, iv pi2, jv pj3, .second, iv (3 : Int32), iv x3, iv x6, iv (3 : Int32), rv b24] [(.int (3 : Int32)), (.int (3 : Int32)), (.ref b24)])) t → Go t := fun t kt => pre415 t (by
          refine y_goto X414.here hx (hb hby at_301) (pc' := 376) (by decide) rfl ?_
          refine y_aload X414.here hx (hb hby at_376) rfl rfl (pc' := 378) rfl ?_
          refine y_iload X414.here hx (hb hby at_378) rfl (pc' := 380) rfl ?_
          refine y_iload X414.here hx (hb hby at_380) rfl (pc' := 382) rfl ?_
          exact kt)
      obtain ⟨v420, _, ⟨T420, L420, k420, n420⟩, -, X420, ⟨Lc420, hQ420, l420, y420, z420⟩, st420⟩ := Jvm.LawKit.callS X414 hx (y := (⟨"com/example/strict_codec/strictcodec/Utf8Grammar", "scalarValue", "([BII)I"⟩ : MethodName)) hown (mvT hZ (hw _ (List.mem_of_getElem? (i := 2) rfl))) (mvT hZ (hw _ (List.mem_of_getElem? (i := 3) rfl))) (mvT hZ (hw _ (List.mem_of_getElem? (i := 4) rfl))) (mvT hZ (hw _ (List.mem_of_getElem? (i := 5) rfl))) (by decide) (backOf (W := 0) (rm1a3l3 l Z a0 hw [] b24 w_LEAD_PAYLOAD k24 (nar .byte x29) (nar .byte x38) (nar .byte x47) (nar .byte x393) (nar .byte x402) (nar .byte x411) (nar .byte x83) (nar .byte x92) cc_w_LEAD_PAYLOAD h414 n0 O417 S_LEAD_PAYLOAD f418 AR_w_LEAD_PAYLOAD IN3_w_LEAD_PAYLOAD AT3_w_LEAD_PAYLOAD) hZ (hw _ (List.mem_of_getElem? (i := 5) rfl)) (hw _ (List.mem_of_getElem? (i := 4) rfl)) (by decide) (by decide)) (g := (mkF m 382 #[iv pi0, iv pi1, iv pi2, jv pj3, .second, iv (3 : Int32), iv x3, iv x6, iv (3 : Int32), rv b24] [(.int (3 : Int32)), (.int (3 : Int32)), (.ref b24)])) rfl (by rw [hml]; rfl) (argsL := [(.ref b24), (.int (3 : Int32)), (.int (3 : Int32))]) (rest := []) (lenOf pd___BII_I rfl) rfl (by show 2 * 0 + _ ≤ _; exact Nat.le_of_eq rfl) (hb hby at_382) (fun _ _ => ⟨rfl, e414, (by decide : 1 + 0 ≤ _), (by decide : 8 + 0 ≤ _)⟩)
      dsimp only [Pt.U, Pt.locs, Pt.cells, Pt.slots] at X420 l420 y420 z420 st420 hQ420
      subst l420 y420 z420
      obtain ⟨hv420, N420q, e420q⟩ := hQ420
      have N421 := Fr.app N417 N420q
      have hw420 := hv420
      obtain ⟨x422, hx422⟩ : ∃ z : Int32, z = ((((((nar .byte x393) &&& (15 : Int32)) <<< ((6 : Int32) &&& 31)) ||| ((nar .byte x402) &&& (63 : Int32))) <<< ((6 : Int32) &&& 31)) ||| ((nar .byte x411) &&& (63 : Int32))) := ⟨_, rfl⟩
      rw [← hx422] at hw420
      subst hw420
      have pre423 : ∀ t, Steps p.tables e below (T420.setTop (mkF m 385 #[iv pi0, iv pi1, iv pi2, jv pj3, .second, iv (3 : Int32), iv x3, iv x6, iv (3 : Int32), rv b24] [(.int x422)])) t → Go t := fun t kt => pre419 t (st420 t kt)
      have pre425 : ∀ t, Steps p.tables e below (T420.setTop (mkF m 387 #[iv pi0, iv pi1, iv pi2, jv pj3, .second, iv (3 : Int32), iv x3, iv x6, iv (3 : Int32), rv b24] [(.int x6), (.int x422)])) t → Go t := fun t kt => pre423 t (by
          refine y_iload X420.here hx (hb hby at_385) rfl (pc' := 387) rfl ?_
          exact kt)
      have hf387_424 : x422 = x6 := by
          exact law0_426 pi0 pi1 pi2 x3 x6 x393 x402 x411 x422 hx3 hx6 hx393 hx402 hx411 hx422 hx1 hx21
      have pre427 : ∀ t, Steps p.tables e below (T420.setTop (mkF m 395 #[iv pi0, iv pi1, iv pi2, jv pj3, .second, iv (3 : Int32), iv x3, iv x6, iv (3 : Int32), rv b24] [(.int (1 : Int32))])) t → Go t := fun t kt => pre425 t (by
          refine y_icmpNo X420.here hx (hb hby at_387) (teq hf387_424).2 (pc' := 390) rfl ?_
          refine y_iconst X420.here hx (hb hby at_390) (v := (1 : Int32)) rfl (pc' := 391) rfl ?_
          refine y_goto X420.here hx (hb hby at_391) (pc' := 395) (by decide) rfl ?_
          exact kt)
      obtain ⟨fs, hr, hrun, hended, hW, hsame⟩ := X420.leave (v := some (.int (1 : Int32))) (fun h => by rw [Bd.returns] at h; cases h)
      refine ⟨_, _, (hGo _).mp (pre427 _ ?_), hrun, hended, _, _, rfl, ?_, ⟨_, rfl⟩, hW, hsame.mono (by decide) (by decide)⟩
      · exact retN X420 hx (t := .boolean) Bd.returns (by simp) (hb hby at_395) hr
      · show Q0 Z pi0 pi1 pi2 pj3 w_LEAD_PAYLOAD cc_w_LEAD_PAYLOAD h0 n0 _ T420.heap _
        rw [e420q]
        exact ⟨rfl, N421⟩
  · skip
    have hs185_428 : x21 = (0 : Int32) ∨ x21 = (1 : Int32) ∨ x21 = (2 : Int32) ∨ x21 = (3 : Int32) := by
        have q : (pi2 &&& (3 : Int32)).toInt = pi2.toInt % 4 := c_mask pi2 3 2 (by decide) (by decide)
        rw [← hx21] at q
        have h : x21.toInt = 0 ∨ x21.toInt = 1 ∨ x21.toInt = 2 ∨ x21.toInt = 3 := by omega
        rcases h with h | h | h | h
        · exact Or.inl (own_of h)
        · exact Or.inr (Or.inl (own_of h))
        · exact Or.inr (Or.inr (Or.inl (own_of h)))
        · exact Or.inr (Or.inr (Or.inr (own_of h)))
    rcases hs185_428 with rfl | rfl | rfl | rfl
    · skip
      have pre429 : ∀ t, Steps p.tables e below (T95.setTop (mkF m 318 #[iv pi0, iv pi1, iv pi2, jv pj3, .second, iv (4 : Int32), iv x3, iv x6, iv (0 : Int32), rv b24] [(.int (((240 : Int32) ||| (x6 >>> ((18 : Int32) &&& 31))).toInt8.toInt32)), (.int (0 : Int32)), (.ref b24)])) t → Go t := fun t kt => pre96 t (by
          refine y_iload X95.here hx (hb hby at_185) rfl (pc' := 187) rfl ?_
          refine y_iconst X95.here hx (hb hby at_187) (v := (1 : Int32)) rfl (pc' := 188) rfl ?_
          refine y_icmpYes X95.here hx (hb hby at_188) (feq (by decide : ¬ ((4 : Int32) = (1 : Int32)))).2 (pc' := 202) (by decide) rfl ?_
          refine y_iload X95.here hx (hb hby at_202) rfl (pc' := 204) rfl ?_
          refine y_iconst X95.here hx (hb hby at_204) (v := (2 : Int32)) rfl (pc' := 205) rfl ?_
          refine y_icmpYes X95.here hx (hb hby at_205) (feq (by decide : ¬ ((4 : Int32) = (2 : Int32)))).2 (pc' := 243) (by decide) rfl ?_
          refine y_iload X95.here hx (hb hby at_243) rfl (pc' := 245) rfl ?_
          refine y_iconst X95.here hx (hb hby at_245) (v := (3 : Int32)) rfl (pc' := 246) rfl ?_
          refine y_icmpYes X95.here hx (hb hby at_246) (feq (by decide : ¬ ((4 : Int32) = (3 : Int32)))).2 (pc' := 304) (by decide) rfl ?_
          refine y_aload X95.here hx (hb hby at_304) rfl rfl (pc' := 306) rfl ?_
          refine y_iload X95.here hx (hb hby at_306) rfl (pc' := 308) rfl ?_
          refine y_sipush X95.here hx (hb hby at_308) (v := (240 : Int32)) rfl (pc' := 311) rfl ?_
          refine y_iload X95.here hx (hb hby at_311) rfl (pc' := 313) rfl ?_
          refine y_bipush X95.here hx (hb hby at_313) (v := (18 : Int32)) rfl (pc' := 315) rfl ?_
          refine y_ishr X95.here hx (hb hby at_315) (z := (x6 >>> ((18 : Int32) &&& 31))) rfl (pc' := 316) rfl ?_
          refine y_ior X95.here hx (hb hby at_316) rfl (pc' := 317) rfl ?_
          refine y_i2b X95.here hx (hb hby at_317) (z := (((240 : Int32) ||| (x6 >>> ((18 : Int32) &&& 31))).toInt8.toInt32)) rfl (pc' := 318) rfl ?_
          exact kt)
      obtain ⟨x430, hx430⟩ : ∃ z : Int32, z = (((240 : Int32) ||| (x6 >>> ((18 : Int32) &&& 31))).toInt8.toInt32) := ⟨_, rfl⟩
      have pre431 : ∀ t, Steps p.tables e below (T95.setTop (mkF m 318 #[iv pi0, iv pi1, iv pi2, jv pj3, .second, iv (4 : Int32), iv x3, iv x6, iv (0 : Int32), rv b24] [(.int x430), (.int (0 : Int32)), (.ref b24)])) t → Go t := by subst hx430; exact pre429
      obtain ⟨c432, Ar432, q432, S432, M432, H432, G432⟩ := id f99
      have hin432 : ¬ ((0 : Int32) < 0 ∨ c432.slots.size ≤ ((0 : Int32)).toNatClampNeg) := inb_of S432 ⟨by decide, by decide⟩
      obtain ⟨T433, h433, X433, e433, W433, st433⟩ := stB X95 hx hZ e95 Ar432 (j := (0 : Int32)) hin432 (g := (mkF m 318 #[iv pi0, iv pi1, iv pi2, jv pj3, .second, iv (4 : Int32), iv x3, iv x6, iv (0 : Int32), rv b24] [(.int x430), (.int (0 : Int32)), (.ref b24)])) rfl rfl (hb hby at_318)
      have pre434 : ∀ t, Steps p.tables e below (T433.setTop (mkF m 319 #[iv pi0, iv pi1, iv pi2, jv pj3, .second, iv (4 : Int32), iv x3, iv x6, iv (0 : Int32), rv b24] [])) t → Go t := fun t kt => pre431 t (st433 t kt)
      have N436 := Fr.snoc X433 N98 G26
      have O436 := O98.wr W433 G26
      have f437 : Arv Z h433 b24 k24 .byte (8 : Int32) [(.int (nar .byte x430)), (.int (nar .byte x38)), (.int (nar .byte x47)), (.int (nar .byte x56)), (.int (nar .byte x65)), (.int (nar .byte x74)), (.int (nar .byte x83)), (.int (nar .byte x92))] (.int (0 : Int32)) := Arv.set Ar432 q432 S432 M432 H432 G432 (fits_nar_byte _) W433 0 rfl (Nat.le_of_ble_eq_true rfl)
      have pre438 : ∀ t, Steps p.tables e below (T433.setTop (mkF m 338 #[iv pi0, iv pi1, iv pi2, jv pj3, .second, iv (4 : Int32), iv x3, iv x6, iv (0 : Int32), rv b24] [(.int (((128 : Int32) ||| ((x6 >>> ((12 : Int32) &&& 31)) &&& (63 : Int32))).toInt8.toInt32)), (.int (1 : Int32)), (.ref b24)])) t → Go t := fun t kt => pre434 t (by
          refine y_aload X433.here hx (hb hby at_319) rfl rfl (pc' := 321) rfl ?_
          refine y_iload X433.here hx (hb hby at_321) rfl (pc' := 323) rfl ?_
          refine y_iconst X433.here hx (hb hby at_323) (v := (1 : Int32)) rfl (pc' := 324) rfl ?_
          refine y_iadd X433.here hx (hb hby at_324) (z := (1 : Int32)) rfl (pc' := 325) rfl ?_
          refine y_sipush X433.here hx (hb hby at_325) (v := (128 : Int32)) rfl (pc' := 328) rfl ?_
          refine y_iload X433.here hx (hb hby at_328) rfl (pc' := 330) rfl ?_
          refine y_bipush X433.here hx (hb hby at_330) (v := (12 : Int32)) rfl (pc' := 332) rfl ?_
          refine y_ishr X433.here hx (hb hby at_332) (z := (x6 >>> ((12 : Int32) &&& 31))) rfl (pc' := 333) rfl ?_
          refine y_bipush X433.here hx (hb hby at_333) (v := (63 : Int32)) rfl (pc' := 335) rfl ?_
          refine y_iand X433.here hx (hb hby at_335) rfl (pc' := 336) rfl ?_
          refine y_ior X433.here hx (hb hby at_336) rfl (pc' := 337) rfl ?_
          refine y_i2b X433.here hx (hb hby at_337) (z := (((128 : Int32) ||| ((x6 >>> ((12 : Int32) &&& 31)) &&& (63 : Int32))).toInt8.toInt32)) rfl (pc' := 338) rfl ?_
          exact kt)
      obtain ⟨x439, hx439⟩ : ∃ z : Int32, z = (((128 : Int32) ||| ((x6 >>> ((12 : Int32) &&& 31)) &&& (63 : Int32))).toInt8.toInt32) := ⟨_, rfl⟩
      have pre440 : ∀ t, Steps p.tables e below (T433.setTop (mkF m 338 #[iv pi0, iv pi1, iv pi2, jv pj3, .second, iv (4 : Int32), iv x3, iv x6, iv (0 : Int32), rv b24] [(.int x439), (.int (1 : Int32)), (.ref b24)])) t → Go t := by subst hx439; exact pre438
      obtain ⟨c441, Ar441, q441, S441, M441, H441, G441⟩ := id f437
      have hin441 : ¬ ((1 : Int32) < 0 ∨ c441.slots.size ≤ ((1 : Int32)).toNatClampNeg) := inb_of S441 ⟨by decide, by decide⟩
      obtain ⟨T442, h442, X442, e442, W442, st442⟩ := stB X433 hx hZ e433 Ar441 (j := (1 : Int32)) hin441 (g := (mkF m 338 #[iv pi0, iv pi1, iv pi2, jv pj3, .second, iv (4 : Int32), iv x3, iv x6, iv (0 : Int32), rv b24] [(.int x439), (.int (1 : Int32)), (.ref b24)])) rfl rfl (hb hby at_338)
      have pre443 : ∀ t, Steps p.tables e below (T442.setTop (mkF m 339 #[iv pi0, iv pi1, iv pi2, jv pj3, .second, iv (4 : Int32), iv x3, iv x6, iv (0 : Int32), rv b24] [])) t → Go t := fun t kt => pre440 t (st442 t kt)
      have N445 := Fr.snoc X442 N436 G26
      have O445 := O436.wr W442 G26
      have f446 : Arv Z h442 b24 k24 .byte (8 : Int32) [(.int (nar .byte x430)), (.int (nar .byte x439)), (.int (nar .byte x47)), (.int (nar .byte x56)), (.int (nar .byte x65)), (.int (nar .byte x74)), (.int (nar .byte x83)), (.int (nar .byte x92))] (.int (0 : Int32)) := Arv.set Ar441 q441 S441 M441 H441 G441 (fits_nar_byte _) W442 1 rfl (Nat.le_of_ble_eq_true rfl)
      have pre447 : ∀ t, Steps p.tables e below (T442.setTop (mkF m 358 #[iv pi0, iv pi1, iv pi2, jv pj3, .second, iv (4 : Int32), iv x3, iv x6, iv (0 : Int32), rv b24] [(.int (((128 : Int32) ||| ((x6 >>> ((6 : Int32) &&& 31)) &&& (63 : Int32))).toInt8.toInt32)), (.int (2 : Int32)), (.ref b24)])) t → Go t := fun t kt => pre443 t (by
          refine y_aload X442.here hx (hb hby at_339) rfl rfl (pc' := 341) rfl ?_
          refine y_iload X442.here hx (hb hby at_341) rfl (pc' := 343) rfl ?_
          refine y_iconst X442.here hx (hb hby at_343) (v := (2 : Int32)) rfl (pc' := 344) rfl ?_
          refine y_iadd X442.here hx (hb hby at_344) (z := (2 : Int32)) rfl (pc' := 345) rfl ?_
          refine y_sipush X442.here hx (hb hby at_345) (v := (128 : Int32)) rfl (pc' := 348) rfl ?_
          refine y_iload X442.here hx (hb hby at_348) rfl (pc' := 350) rfl ?_
          refine y_bipush X442.here hx (hb hby at_350) (v := (6 : Int32)) rfl (pc' := 352) rfl ?_
          refine y_ishr X442.here hx (hb hby at_352) (z := (x6 >>> ((6 : Int32) &&& 31))) rfl (pc' := 353) rfl ?_
          refine y_bipush X442.here hx (hb hby at_353) (v := (63 : Int32)) rfl (pc' := 355) rfl ?_
          refine y_iand X442.here hx (hb hby at_355) rfl (pc' := 356) rfl ?_
          refine y_ior X442.here hx (hb hby at_356) rfl (pc' := 357) rfl ?_
          refine y_i2b X442.here hx (hb hby at_357) (z := (((128 : Int32) ||| ((x6 >>> ((6 : Int32) &&& 31)) &&& (63 : Int32))).toInt8.toInt32)) rfl (pc' := 358) rfl ?_
          exact kt)
      obtain ⟨x448, hx448⟩ : ∃ z : Int32, z = (((128 : Int32) ||| ((x6 >>> ((6 : Int32) &&& 31)) &&& (63 : Int32))).toInt8.toInt32) := ⟨_, rfl⟩
      have pre449 : ∀ t, Steps p.tables e below (T442.setTop (mkF m 358 #[iv pi0, iv pi1, iv pi2, jv pj3, .second, iv (4 : Int32), iv x3, iv x6, iv (0 : Int32), rv b24] [(.int x448), (.int (2 : Int32)), (.ref b24)])) t → Go t := by subst hx448; exact pre447
      obtain ⟨c450, Ar450, q450, S450, M450, H450, G450⟩ := id f446
      have hin450 : ¬ ((2 : Int32) < 0 ∨ c450.slots.size ≤ ((2 : Int32)).toNatClampNeg) := inb_of S450 ⟨by decide, by decide⟩
      obtain ⟨T451, h451, X451, e451, W451, st451⟩ := stB X442 hx hZ e442 Ar450 (j := (2 : Int32)) hin450 (g := (mkF m 358 #[iv pi0, iv pi1, iv pi2, jv pj3, .second, iv (4 : Int32), iv x3, iv x6, iv (0 : Int32), rv b24] [(.int x448), (.int (2 : Int32)), (.ref b24)])) rfl rfl (hb hby at_358)
      have pre452 : ∀ t, Steps p.tables e below (T451.setTop (mkF m 359 #[iv pi0, iv pi1, iv pi2, jv pj3, .second, iv (4 : Int32), iv x3, iv x6, iv (0 : Int32), rv b24] [])) t → Go t := fun t kt => pre449 t (st451 t kt)
      have N454 := Fr.snoc X451 N445 G26
      have O454 := O445.wr W451 G26
      have f455 : Arv Z h451 b24 k24 .byte (8 : Int32) [(.int (nar .byte x430)), (.int (nar .byte x439)), (.int (nar .byte x448)), (.int (nar .byte x56)), (.int (nar .byte x65)), (.int (nar .byte x74)), (.int (nar .byte x83)), (.int (nar .byte x92))] (.int (0 : Int32)) := Arv.set Ar450 q450 S450 M450 H450 G450 (fits_nar_byte _) W451 2 rfl (Nat.le_of_ble_eq_true rfl)
      have pre456 : ∀ t, Steps p.tables e below (T451.setTop (mkF m 375 #[iv pi0, iv pi1, iv pi2, jv pj3, .second, iv (4 : Int32), iv x3, iv x6, iv (0 : Int32), rv b24] [(.int (((128 : Int32) ||| (x6 &&& (63 : Int32))).toInt8.toInt32)), (.int (3 : Int32)), (.ref b24)])) t → Go t := fun t kt => pre452 t (by
          refine y_aload X451.here hx (hb hby at_359) rfl rfl (pc' := 361) rfl ?_
          refine y_iload X451.here hx (hb hby at_361) rfl (pc' := 363) rfl ?_
          refine y_iconst X451.here hx (hb hby at_363) (v := (3 : Int32)) rfl (pc' := 364) rfl ?_
          refine y_iadd X451.here hx (hb hby at_364) (z := (3 : Int32)) rfl (pc' := 365) rfl ?_
          refine y_sipush X451.here hx (hb hby at_365) (v := (128 : Int32)) rfl (pc' := 368) rfl ?_
          refine y_iload X451.here hx (hb hby at_368) rfl (pc' := 370) rfl ?_
          refine y_bipush X451.here hx (hb hby at_370) (v := (63 : Int32)) rfl (pc' := 372) rfl ?_
          refine y_iand X451.here hx (hb hby at_372) rfl (pc' := 373) rfl ?_
          refine y_ior X451.here hx (hb hby at_373) rfl (pc' := 374) rfl ?_
          refine y_i2b X451.here hx (hb hby at_374) (z := (((128 : Int32) ||| (x6 &&& (63 : Int32))).toInt8.toInt32)) rfl (pc' := 375) rfl ?_
          exact kt)
      obtain ⟨x457, hx457⟩ : ∃ z : Int32, z = (((128 : Int32) ||| (x6 &&& (63 : Int32))).toInt8.toInt32) := ⟨_, rfl⟩
      have pre458 : ∀ t, Steps p.tables e below (T451.setTop (mkF m 375 #[iv pi0, iv pi1, iv pi2, jv pj3, .second, iv (4 : Int32), iv x3, iv x6, iv (0 : Int32), rv b24] [(.int x457), (.int (3 : Int32)), (.ref b24)])) t → Go t := by subst hx457; exact pre456
      obtain ⟨c459, Ar459, q459, S459, M459, H459, G459⟩ := id f455
      have hin459 : ¬ ((3 : Int32) < 0 ∨ c459.slots.size ≤ ((3 : Int32)).toNatClampNeg) := inb_of S459 ⟨by decide, by decide⟩
      obtain ⟨T460, h460, X460, e460, W460, st460⟩ := stB X451 hx hZ e451 Ar459 (j := (3 : Int32)) hin459 (g := (mkF m 375 #[iv pi0, iv pi1, iv pi2, jv pj3, .second, iv (4 : Int32), iv x3, iv x6, iv (0 : Int32), rv b24] [(.int x457), (.int (3 : Int32)), (.ref b24)])) rfl rfl (hb hby at_375)
      have pre461 : ∀ t, Steps p.tables e below (T460.setTop (mkF m 376 #[iv pi0, iv pi1, iv pi2, jv pj3, .second, iv (4 : Int32), iv x3, iv x6, iv (0 : Int32), rv b24] [])) t → Go t := fun t kt => pre458 t (st460 t kt)
      have N463 := Fr.snoc X460 N454 G26
      have O463 := O454.wr W460 G26
      have f464 : Arv Z h460 b24 k24 .byte (8 : Int32) [(.int (nar .byte x430)), (.int (nar .byte x439)), (.int (nar .byte x448)), (.int (nar .byte x457)), (.int (nar .byte x65)), (.int (nar .byte x74)), (.int (nar .byte x83)), (.int (nar .byte x92))] (.int (0 : Int32)) := Arv.set Ar459 q459 S459 M459 H459 G459 (fits_nar_byte _) W460 3 rfl (Nat.le_of_ble_eq_true rfl)
      have pre465 : ∀ t, Steps p.tables e below (T460.setTop (mkF m 382 #[iv pi0, iv pi1, iv pi2, jv pj3, .second, iv (4 : Int32), iv x3, iv x6, iv (0 : Int32), rv b24] [(.int (4 : Int32)), (.int (0 : Int32)), (.ref b24)])) t → Go t := fun t kt => pre461 t (by
          refine y_aload X460.here hx (hb hby at_376) rfl rfl (pc' := 378) rfl ?_
          refine y_iload X460.here hx (hb hby at_378) rfl (pc' := 380) rfl ?_
          refine y_iload X460.here hx (hb hby at_380) rfl (pc' := 382) rfl ?_
          exact kt)
      obtain ⟨v466, _, ⟨T466, L466, k466, n466⟩, -, X466, ⟨Lc466, hQ466, l466, y466, z466⟩, st466⟩ := Jvm.LawKit.callS X460 hx (y := (⟨"com/example/strict_codec/strictcodec/Utf8Grammar", "scalarValue", "([BII)I"⟩ : MethodName)) hown (mvT hZ (hw _ (List.mem_of_getElem? (i := 2) rfl))) (mvT hZ (hw _ (List.mem_of_getElem? (i := 3) rfl))) (mvT hZ (hw _ (List.mem_of_getElem? (i := 4) rfl))) (mvT hZ (hw _ (List.mem_of_getElem? (i := 5) rfl))) (by decide) (backOf (W := 0) (rm1a0l4 l Z a0 hw [] b24 w_LEAD_PAYLOAD k24 (nar .byte x430) (nar .byte x439) (nar .byte x448) (nar .byte x457) (nar .byte x65) (nar .byte x74) (nar .byte x83) (nar .byte x92) cc_w_LEAD_PAYLOAD h460 n0 O463 S_LEAD_PAYLOAD f464 AR_w_LEAD_PAYLOAD IN4_w_LEAD_PAYLOAD AT4_w_LEAD_PAYLOAD) hZ (hw _ (List.mem_of_getElem? (i := 5) rfl)) (hw _ (List.mem_of_getElem? (i := 4) rfl)) (by decide) (by decide)) (g := (mkF m 382 #[iv pi0, iv pi1, iv pi2, jv pj3, .second, iv (4 : Int32), iv x3, iv x6, iv (0 : Int32), rv b24] [(.int (4 : Int32)), (.int (0 : Int32)), (.ref b24)])) rfl (by rw [hml]; rfl) (argsL := [(.ref b24), (.int (0 : Int32)), (.int (4 : Int32))]) (rest := []) (lenOf pd___BII_I rfl) rfl (by show 2 * 0 + _ ≤ _; exact Nat.le_of_eq rfl) (hb hby at_382) (fun _ _ => ⟨rfl, e460, (by decide : 1 + 0 ≤ _), (by decide : 8 + 0 ≤ _)⟩)
      dsimp only [Pt.U, Pt.locs, Pt.cells, Pt.slots] at X466 l466 y466 z466 st466 hQ466
      subst l466 y466 z466
      obtain ⟨hv466, N466q, e466q⟩ := hQ466
      have N467 := Fr.app N463 N466q
      have hw466 := hv466
      obtain ⟨x468, hx468⟩ : ∃ z : Int32, z = ((((((((nar .byte x430) &&& (7 : Int32)) <<< ((6 : Int32) &&& 31)) ||| ((nar .byte x439) &&& (63 : Int32))) <<< ((6 : Int32) &&& 31)) ||| ((nar .byte x448) &&& (63 : Int32))) <<< ((6 : Int32) &&& 31)) ||| ((nar .byte x457) &&& (63 : Int32))) := ⟨_, rfl⟩
      rw [← hx468] at hw466
      subst hw466
      have pre469 : ∀ t, Steps p.tables e below (T466.setTop (mkF m 385 #[iv pi0, iv pi1, iv pi2, jv pj3, .second, iv (4 : Int32), iv x3, iv x6, iv (0 : Int32), rv b24] [(.int x468)])) t → Go t := fun t kt => pre465 t (st466 t kt)
      have pre471 : ∀ t, Steps p.tables e below (T466.setTop (mkF m 387 #[iv pi0, iv pi1, iv pi2, jv pj3, .second, iv (4 : Int32), iv x3, iv x6, iv (0 : Int32), rv b24] [(.int x6), (.int x468)])) t → Go t := fun t kt => pre469 t (by
          refine y_iload X466.here hx (hb hby at_385) rfl (pc' := 387) rfl ?_
          exact kt)
      have hf387_470 : x468 = x6 := by
          exact law0_472 pi0 pi1 pi2 x3 x6 x430 x439 x448 x457 x468 hx3 hx6 hx430 hx439 hx448 hx457 hx468 hx1 hx21
      have pre473 : ∀ t, Steps p.tables e below (T466.setTop (mkF m 395 #[iv pi0, iv pi1, iv pi2, jv pj3, .second, iv (4 : Int32), iv x3, iv x6, iv (0 : Int32), rv b24] [(.int (1 : Int32))])) t → Go t := fun t kt => pre471 t (by
          refine y_icmpNo X466.here hx (hb hby at_387) (teq hf387_470).2 (pc' := 390) rfl ?_
          refine y_iconst X466.here hx (hb hby at_390) (v := (1 : Int32)) rfl (pc' := 391) rfl ?_
          refine y_goto X466.here hx (hb hby at_391) (pc' := 395) (by decide) rfl ?_
          exact kt)
      obtain ⟨fs, hr, hrun, hended, hW, hsame⟩ := X466.leave (v := some (.int (1 : Int32))) (fun h => by rw [Bd.returns] at h; cases h)
      refine ⟨_, _, (hGo _).mp (pre473 _ ?_), hrun, hended, _, _, rfl, ?_, ⟨_, rfl⟩, hW, hsame.mono (by decide) (by decide)⟩
      · exact retN X466 hx (t := .boolean) Bd.returns (by simp) (hb hby at_395) hr
      · show Q0 Z pi0 pi1 pi2 pj3 w_LEAD_PAYLOAD cc_w_LEAD_PAYLOAD h0 n0 _ T466.heap _
        rw [e466q]
        exact ⟨rfl, N467⟩
    · skip
      have pre474 : ∀ t, Steps p.tables e below (T95.setTop (mkF m 318 #[iv pi0, iv pi1, iv pi2, jv pj3, .second, iv (4 : Int32), iv x3, iv x6, iv (1 : Int32), rv b24] [(.int (((240 : Int32) ||| (x6 >>> ((18 : Int32) &&& 31))).toInt8.toInt32)), (.int (1 : Int32)), (.ref b24)])) t → Go t := fun t kt => pre96 t (by
          refine y_iload X95.here hx (hb hby at_185) rfl (pc' := 187) rfl ?_
          refine y_iconst X95.here hx (hb hby at_187) (v := (1 : Int32)) rfl (pc' := 188) rfl ?_
          refine y_icmpYes X95.here hx (hb hby at_188) (feq (by decide : ¬ ((4 : Int32) = (1 : Int32)))).2 (pc' := 202) (by decide) rfl ?_
          refine y_iload X95.here hx (hb hby at_202) rfl (pc' := 204) rfl ?_
          refine y_iconst X95.here hx (hb hby at_204) (v := (2 : Int32)) rfl (pc' := 205) rfl ?_
          refine y_icmpYes X95.here hx (hb hby at_205) (feq (by decide : ¬ ((4 : Int32) = (2 : Int32)))).2 (pc' := 243) (by decide) rfl ?_
          refine y_iload X95.here hx (hb hby at_243) rfl (pc' := 245) rfl ?_
          refine y_iconst X95.here hx (hb hby at_245) (v := (3 : Int32)) rfl (pc' := 246) rfl ?_
          refine y_icmpYes X95.here hx (hb hby at_246) (feq (by decide : ¬ ((4 : Int32) = (3 : Int32)))).2 (pc' := 304) (by decide) rfl ?_
          refine y_aload X95.here hx (hb hby at_304) rfl rfl (pc' := 306) rfl ?_
          refine y_iload X95.here hx (hb hby at_306) rfl (pc' := 308) rfl ?_
          refine y_sipush X95.here hx (hb hby at_308) (v := (240 : Int32)) rfl (pc' := 311) rfl ?_
          refine y_iload X95.here hx (hb hby at_311) rfl (pc' := 313) rfl ?_
          refine y_bipush X95.here hx (hb hby at_313) (v := (18 : Int32)) rfl (pc' := 315) rfl ?_
          refine y_ishr X95.here hx (hb hby at_315) (z := (x6 >>> ((18 : Int32) &&& 31))) rfl (pc' := 316) rfl ?_
          refine y_ior X95.here hx (hb hby at_316) rfl (pc' := 317) rfl ?_
          refine y_i2b X95.here hx (hb hby at_317) (z := (((240 : Int32) ||| (x6 >>> ((18 : Int32) &&& 31))).toInt8.toInt32)) rfl (pc' := 318) rfl ?_
          exact kt)
      obtain ⟨x475, hx475⟩ : ∃ z : Int32, z = (((240 : Int32) ||| (x6 >>> ((18 : Int32) &&& 31))).toInt8.toInt32) := ⟨_, rfl⟩
      have pre476 : ∀ t, Steps p.tables e below (T95.setTop (mkF m 318 #[iv pi0, iv pi1, iv pi2, jv pj3, .second, iv (4 : Int32), iv x3, iv x6, iv (1 : Int32), rv b24] [(.int x475), (.int (1 : Int32)), (.ref b24)])) t → Go t := by subst hx475; exact pre474
      obtain ⟨c477, Ar477, q477, S477, M477, H477, G477⟩ := id f99
      have hin477 : ¬ ((1 : Int32) < 0 ∨ c477.slots.size ≤ ((1 : Int32)).toNatClampNeg) := inb_of S477 ⟨by decide, by decide⟩
      obtain ⟨T478, h478, X478, e478, W478, st478⟩ := stB X95 hx hZ e95 Ar477 (j := (1 : Int32)) hin477 (g := (mkF m 318 #[iv pi0, iv pi1, iv pi2, jv pj3, .second, iv (4 : Int32), iv x3, iv x6, iv (1 : Int32), rv b24] [(.int x475), (.int (1 : Int32)), (.ref b24)])) rfl rfl (hb hby at_318)
      have pre479 : ∀ t, Steps p.tables e below (T478.setTop (mkF m 319 #[iv pi0, iv pi1, iv pi2, jv pj3, .second, iv (4 : Int32), iv x3, iv x6, iv (1 : Int32), rv b24] [])) t → Go t := fun t kt => pre476 t (st478 t kt)
      have N481 := Fr.snoc X478 N98 G26
      have O481 := O98.wr W478 G26
      have f482 : Arv Z h478 b24 k24 .byte (8 : Int32) [(.int (nar .byte x29)), (.int (nar .byte x475)), (.int (nar .byte x47)), (.int (nar .byte x56)), (.int (nar .byte x65)), (.int (nar .byte x74)), (.int (nar .byte x83)), (.int (nar .byte x92))] (.int (0 : Int32)) := Arv.set Ar477 q477 S477 M477 H477 G477 (fits_nar_byte _) W478 1 rfl (Nat.le_of_ble_eq_true rfl)
      have pre483 : ∀ t, Steps p.tables e below (T478.setTop (mkF m 338 #[iv pi0, iv pi1, iv pi2, jv pj3, .second, iv (4 : Int32), iv x3, iv x6, iv (1 : Int32), rv b24] [(.int (((128 : Int32) ||| ((x6 >>> ((12 : Int32) &&& 31)) &&& (63 : Int32))).toInt8.toInt32)), (.int (2 : Int32)), (.ref b24)])) t → Go t := fun t kt => pre479 t (by
          refine y_aload X478.here hx (hb hby at_319) rfl rfl (pc' := 321) rfl ?_
          refine y_iload X478.here hx (hb hby at_321) rfl (pc' := 323) rfl ?_
          refine y_iconst X478.here hx (hb hby at_323) (v := (1 : Int32)) rfl (pc' := 324) rfl ?_
          refine y_iadd X478.here hx (hb hby at_324) (z := (2 : Int32)) rfl (pc' := 325) rfl ?_
          refine y_sipush X478.here hx (hb hby at_325) (v := (128 : Int32)) rfl (pc' := 328) rfl ?_
          refine y_iload X478.here hx (hb hby at_328) rfl (pc' := 330) rfl ?_
          refine y_bipush X478.here hx (hb hby at_330) (v := (12 : Int32)) rfl (pc' := 332) rfl ?_
          refine y_ishr X478.here hx (hb hby at_332) (z := (x6 >>> ((12 : Int32) &&& 31))) rfl (pc' := 333) rfl ?_
          refine y_bipush X478.here hx (hb hby at_333) (v := (63 : Int32)) rfl (pc' := 335) rfl ?_
          refine y_iand X478.here hx (hb hby at_335) rfl (pc' := 336) rfl ?_
          refine y_ior X478.here hx (hb hby at_336) rfl (pc' := 337) rfl ?_
          refine y_i2b X478.here hx (hb hby at_337) (z := (((128 : Int32) ||| ((x6 >>> ((12 : Int32) &&& 31)) &&& (63 : Int32))).toInt8.toInt32)) rfl (pc' := 338) rfl ?_
          exact kt)
      obtain ⟨x484, hx484⟩ : ∃ z : Int32, z = (((128 : Int32) ||| ((x6 >>> ((12 : Int32) &&& 31)) &&& (63 : Int32))).toInt8.toInt32) := ⟨_, rfl⟩
      have pre485 : ∀ t, Steps p.tables e below (T478.setTop (mkF m 338 #[iv pi0, iv pi1, iv pi2, jv pj3, .second, iv (4 : Int32), iv x3, iv x6, iv (1 : Int32), rv b24] [(.int x484), (.int (2 : Int32)), (.ref b24)])) t → Go t := by subst hx484; exact pre483
      obtain ⟨c486, Ar486, q486, S486, M486, H486, G486⟩ := id f482
      have hin486 : ¬ ((2 : Int32) < 0 ∨ c486.slots.size ≤ ((2 : Int32)).toNatClampNeg) := inb_of S486 ⟨by decide, by decide⟩
      obtain ⟨T487, h487, X487, e487, W487, st487⟩ := stB X478 hx hZ e478 Ar486 (j := (2 : Int32)) hin486 (g := (mkF m 338 #[iv pi0, iv pi1, iv pi2, jv pj3, .second, iv (4 : Int32), iv x3, iv x6, iv (1 : Int32), rv b24] [(.int x484), (.int (2 : Int32)), (.ref b24)])) rfl rfl (hb hby at_338)
      have pre488 : ∀ t, Steps p.tables e below (T487.setTop (mkF m 339 #[iv pi0, iv pi1, iv pi2, jv pj3, .second, iv (4 : Int32), iv x3, iv x6, iv (1 : Int32), rv b24] [])) t → Go t := fun t kt => pre485 t (st487 t kt)
      have N490 := Fr.snoc X487 N481 G26
      have O490 := O481.wr W487 G26
      have f491 : Arv Z h487 b24 k24 .byte (8 : Int32) [(.int (nar .byte x29)), (.int (nar .byte x475)), (.int (nar .byte x484)), (.int (nar .byte x56)), (.int (nar .byte x65)), (.int (nar .byte x74)), (.int (nar .byte x83)), (.int (nar .byte x92))] (.int (0 : Int32)) := Arv.set Ar486 q486 S486 M486 H486 G486 (fits_nar_byte _) W487 2 rfl (Nat.le_of_ble_eq_true rfl)
      have pre492 : ∀ t, Steps p.tables e below (T487.setTop (mkF m 358 #[iv pi0, iv pi1, iv pi2, jv pj3, .second, iv (4 : Int32), iv x3, iv x6, iv (1 : Int32), rv b24] [(.int (((128 : Int32) ||| ((x6 >>> ((6 : Int32) &&& 31)) &&& (63 : Int32))).toInt8.toInt32)), (.int (3 : Int32)), (.ref b24)])) t → Go t := fun t kt => pre488 t (by
          refine y_aload X487.here hx (hb hby at_339) rfl rfl (pc' := 341) rfl ?_
          refine y_iload X487.here hx (hb hby at_341) rfl (pc' := 343) rfl ?_
          refine y_iconst X487.here hx (hb hby at_343) (v := (2 : Int32)) rfl (pc' := 344) rfl ?_
          refine y_iadd X487.here hx (hb hby at_344) (z := (3 : Int32)) rfl (pc' := 345) rfl ?_
          refine y_sipush X487.here hx (hb hby at_345) (v := (128 : Int32)) rfl (pc' := 348) rfl ?_
          refine y_iload X487.here hx (hb hby at_348) rfl (pc' := 350) rfl ?_
          refine y_bipush X487.here hx (hb hby at_350) (v := (6 : Int32)) rfl (pc' := 352) rfl ?_
          refine y_ishr X487.here hx (hb hby at_352) (z := (x6 >>> ((6 : Int32) &&& 31))) rfl (pc' := 353) rfl ?_
          refine y_bipush X487.here hx (hb hby at_353) (v := (63 : Int32)) rfl (pc' := 355) rfl ?_
          refine y_iand X487.here hx (hb hby at_355) rfl (pc' := 356) rfl ?_
          refine y_ior X487.here hx (hb hby at_356) rfl (pc' := 357) rfl ?_
          refine y_i2b X487.here hx (hb hby at_357) (z := (((128 : Int32) ||| ((x6 >>> ((6 : Int32) &&& 31)) &&& (63 : Int32))).toInt8.toInt32)) rfl (pc' := 358) rfl ?_
          exact kt)
      obtain ⟨x493, hx493⟩ : ∃ z : Int32, z = (((128 : Int32) ||| ((x6 >>> ((6 : Int32) &&& 31)) &&& (63 : Int32))).toInt8.toInt32) := ⟨_, rfl⟩
      have pre494 : ∀ t, Steps p.tables e below (T487.setTop (mkF m 358 #[iv pi0, iv pi1, iv pi2, jv pj3, .second, iv (4 : Int32), iv x3, iv x6, iv (1 : Int32), rv b24] [(.int x493), (.int (3 : Int32)), (.ref b24)])) t → Go t := by subst hx493; exact pre492
      obtain ⟨c495, Ar495, q495, S495, M495, H495, G495⟩ := id f491
      have hin495 : ¬ ((3 : Int32) < 0 ∨ c495.slots.size ≤ ((3 : Int32)).toNatClampNeg) := inb_of S495 ⟨by decide, by decide⟩
      obtain ⟨T496, h496, X496, e496, W496, st496⟩ := stB X487 hx hZ e487 Ar495 (j := (3 : Int32)) hin495 (g := (mkF m 358 #[iv pi0, iv pi1, iv pi2, jv pj3, .second, iv (4 : Int32), iv x3, iv x6, iv (1 : Int32), rv b24] [(.int x493), (.int (3 : Int32)), (.ref b24)])) rfl rfl (hb hby at_358)
      have pre497 : ∀ t, Steps p.tables e below (T496.setTop (mkF m 359 #[iv pi0, iv pi1, iv pi2, jv pj3, .second, iv (4 : Int32), iv x3, iv x6, iv (1 : Int32), rv b24] [])) t → Go t := fun t kt => pre494 t (st496 t kt)
      have N499 := Fr.snoc X496 N490 G26
      have O499 := O490.wr W496 G26
      have f500 : Arv Z h496 b24 k24 .byte (8 : Int32) [(.int (nar .byte x29)), (.int (nar .byte x475)), (.int (nar .byte x484)), (.int (nar .byte x493)), (.int (nar .byte x65)), (.int (nar .byte x74)), (.int (nar .byte x83)), (.int (nar .byte x92))] (.int (0 : Int32)) := Arv.set Ar495 q495 S495 M495 H495 G495 (fits_nar_byte _) W496 3 rfl (Nat.le_of_ble_eq_true rfl)
      have pre501 : ∀ t, Steps p.tables e below (T496.setTop (mkF m 375 #[iv pi0, iv pi1, iv pi2, jv pj3, .second, iv (4 : Int32), iv x3, iv x6, iv (1 : Int32), rv b24] [(.int (((128 : Int32) ||| (x6 &&& (63 : Int32))).toInt8.toInt32)), (.int (4 : Int32)), (.ref b24)])) t → Go t := fun t kt => pre497 t (by
          refine y_aload X496.here hx (hb hby at_359) rfl rfl (pc' := 361) rfl ?_
          refine y_iload X496.here hx (hb hby at_361) rfl (pc' := 363) rfl ?_
          refine y_iconst X496.here hx (hb hby at_363) (v := (3 : Int32)) rfl (pc' := 364) rfl ?_
          refine y_iadd X496.here hx (hb hby at_364) (z := (4 : Int32)) rfl (pc' := 365) rfl ?_
          refine y_sipush X496.here hx (hb hby at_365) (v := (128 : Int32)) rfl (pc' := 368) rfl ?_
          refine y_iload X496.here hx (hb hby at_368) rfl (pc' := 370) rfl ?_
          refine y_bipush X496.here hx (hb hby at_370) (v := (63 : Int32)) rfl (pc' := 372) rfl ?_
          refine y_iand X496.here hx (hb hby at_372) rfl (pc' := 373) rfl ?_
          refine y_ior X496.here hx (hb hby at_373) rfl (pc' := 374) rfl ?_
          refine y_i2b X496.here hx (hb hby at_374) (z := (((128 : Int32) ||| (x6 &&& (63 : Int32))).toInt8.toInt32)) rfl (pc' := 375) rfl ?_
          exact kt)
      obtain ⟨x502, hx502⟩ : ∃ z : Int32, z = (((128 : Int32) ||| (x6 &&& (63 : Int32))).toInt8.toInt32) := ⟨_, rfl⟩
      have pre503 : ∀ t, Steps p.tables e below (T496.setTop (mkF m 375 #[iv pi0, iv pi1, iv pi2, jv pj3, .second, iv (4 : Int32), iv x3, iv x6, iv (1 : Int32), rv b24] [(.int x502), (.int (4 : Int32)), (.ref b24)])) t → Go t := by subst hx502; exact pre501
      obtain ⟨c504, Ar504, q504, S504, M504, H504, G504⟩ := id f500
      have hin504 : ¬ ((4 : Int32) < 0 ∨ c504.slots.size ≤ ((4 : Int32)).toNatClampNeg) := inb_of S504 ⟨by decide, by decide⟩
      obtain ⟨T505, h505, X505, e505, W505, st505⟩ := stB X496 hx hZ e496 Ar504 (j := (4 : Int32)) hin504 (g := (mkF m 375 #[iv pi0, iv pi1, iv pi2, jv pj3, .second, iv (4 : Int32), iv x3, iv x6, iv (1 : Int32), rv b24] [(.int x502), (.int (4 : Int32)), (.ref b24)])) rfl rfl (hb hby at_375)
      have pre506 : ∀ t, Steps p.tables e below (T505.setTop (mkF m 376 #[iv pi0, iv pi1, iv pi2, jv pj3, .second, iv (4 : Int32), iv x3, iv x6, iv (1 : Int32), rv b24] [])) t → Go t := fun t kt => pre503 t (st505 t kt)
      have N508 := Fr.snoc X505 N499 G26
      have O508 := O499.wr W505 G26
      have f509 : Arv Z h505 b24 k24 .byte (8 : Int32) [(.int (nar .byte x29)), (.int (nar .byte x475)), (.int (nar .byte x484)), (.int (nar .byte x493)), (.int (nar .byte x502)), (.int (nar .byte x74)), (.int (nar .byte x83)), (.int (nar .byte x92))] (.int (0 : Int32)) := Arv.set Ar504 q504 S504 M504 H504 G504 (fits_nar_byte _) W505 4 rfl (Nat.le_of_ble_eq_true rfl)
      have pre510 : ∀ t, Steps p.tables e below (T505.setTop (mkF m 382 #[iv pi0, iv pi1, iv pi2, jv pj3, .second, iv (4 : Int32), iv x3, iv x6, iv (1 : Int32), rv b24] [(.int (4 : Int32)), (.int (1 : Int32)), (.ref b24)])) t → Go t := fun t kt => pre506 t (by
          refine y_aload X505.here hx (hb hby at_376) rfl rfl (pc' := 378) rfl ?_
          refine y_iload X505.here hx (hb hby at_378) rfl (pc' := 380) rfl ?_
          refine y_iload X505.here hx (hb hby at_380) rfl (pc' := 382) rfl ?_
          exact kt)
      obtain ⟨v511, _, ⟨T511, L511, k511, n511⟩, -, X511, ⟨Lc511, hQ511, l511, y511, z511⟩, st511⟩ := Jvm.LawKit.callS X505 hx (y := (⟨"com/example/strict_codec/strictcodec/Utf8Grammar", "scalarValue", "([BII)I"⟩ : MethodName)) hown (mvT hZ (hw _ (List.mem_of_getElem? (i := 2) rfl))) (mvT hZ (hw _ (List.mem_of_getElem? (i := 3) rfl))) (mvT hZ (hw _ (List.mem_of_getElem? (i := 4) rfl))) (mvT hZ (hw _ (List.mem_of_getElem? (i := 5) rfl))) (by decide) (backOf (W := 0) (rm1a1l4 l Z a0 hw [] b24 w_LEAD_PAYLOAD k24 (nar .byte x29) (nar .byte x475) (nar .byte x484) (nar .byte x493) (nar .byte x502) (nar .byte x74) (nar .byte x83) (nar .byte x92) cc_w_LEAD_PAYLOAD h505 n0 O508 S_LEAD_PAYLOAD f509 AR_w_LEAD_PAYLOAD IN4_w_LEAD_PAYLOAD AT4_w_LEAD_PAYLOAD) hZ (hw _ (List.mem_of_getElem? (i := 5) rfl)) (hw _ (List.mem_of_getElem? (i := 4) rfl)) (by decide) (by decide)) (g := (mkF m 382 #[iv pi0, iv pi1, iv pi2, jv pj3, .second, iv (4 : Int32), iv x3, iv x6, iv (1 : Int32), rv b24] [(.int (4 : Int32)), (.int (1 : Int32)), (.ref b24)])) rfl (by rw [hml]; rfl) (argsL := [(.ref b24), (.int (1 : Int32)), (.int (4 : Int32))]) (rest := []) (lenOf pd___BII_I rfl) rfl (by show 2 * 0 + _ ≤ _; exact Nat.le_of_eq rfl) (hb hby at_382) (fun _ _ => ⟨rfl, e505, (by decide : 1 + 0 ≤ _), (by decide : 8 + 0 ≤ _)⟩)
      dsimp only [Pt.U, Pt.locs, Pt.cells, Pt.slots] at X511 l511 y511 z511 st511 hQ511
      subst l511 y511 z511
      obtain ⟨hv511, N511q, e511q⟩ := hQ511
      have N512 := Fr.app N508 N511q
      have hw511 := hv511
      obtain ⟨x513, hx513⟩ : ∃ z : Int32, z = ((((((((nar .byte x475) &&& (7 : Int32)) <<< ((6 : Int32) &&& 31)) ||| ((nar .byte x484) &&& (63 : Int32))) <<< ((6 : Int32) &&& 31)) ||| ((nar .byte x493) &&& (63 : Int32))) <<< ((6 : Int32) &&& 31)) ||| ((nar .byte x502) &&& (63 : Int32))) := ⟨_, rfl⟩
      rw [← hx513] at hw511
      subst hw511
      have pre514 : ∀ t, Steps p.tables e below (T511.setTop (mkF m 385 #[iv pi0, iv pi1, iv pi2, jv pj3, .second, iv (4 : Int32), iv x3, iv x6, iv (1 : Int32), rv b24] [(.int x513)])) t → Go t := fun t kt => pre510 t (st511 t kt)
      have pre516 : ∀ t, Steps p.tables e below (T511.setTop (mkF m 387 #[iv pi0, iv pi1, iv pi2, jv pj3, .second, iv (4 : Int32), iv x3, iv x6, iv (1 : Int32), rv b24] [(.int x6), (.int x513)])) t → Go t := fun t kt => pre514 t (by
          refine y_iload X511.here hx (hb hby at_385) rfl (pc' := 387) rfl ?_
          exact kt)
      have hf387_515 : x513 = x6 := by
          exact law0_517 pi0 pi1 pi2 x3 x6 x475 x484 x493 x502 x513 hx3 hx6 hx475 hx484 hx493 hx502 hx513 hx1 hx21
      have pre518 : ∀ t, Steps p.tables e below (T511.setTop (mkF m 395 #[iv pi0, iv pi1, iv pi2, jv pj3, .second, iv (4 : Int32), iv x3, iv x6, iv (1 : Int32), rv b24] [(.int (1 : Int32))])) t → Go t := fun t kt => pre516 t (by
          refine y_icmpNo X511.here hx (hb hby at_387) (teq hf387_515).2 (pc' := 390) rfl ?_
          refine y_iconst X511.here hx (hb hby at_390) (v := (1 : Int32)) rfl (pc' := 391) rfl ?_
          refine y_goto X511.here hx (hb hby at_391) (pc' := 395) (by decide) rfl ?_
          exact kt)
      obtain ⟨fs, hr, hrun, hended, hW, hsame⟩ := X511.leave (v := some (.int (1 : Int32))) (fun h => by rw [Bd.returns] at h; cases h)
      refine ⟨_, _, (hGo _).mp (pre518 _ ?_), hrun, hended, _, _, rfl, ?_, ⟨_, rfl⟩, hW, hsame.mono (by decide) (by decide)⟩
      · exact retN X511 hx (t := .boolean) Bd.returns (by simp) (hb hby at_395) hr
      · show Q0 Z pi0 pi1 pi2 pj3 w_LEAD_PAYLOAD cc_w_LEAD_PAYLOAD h0 n0 _ T511.heap _
        rw [e511q]
        exact ⟨rfl, N512⟩
    · skip
      have pre519 : ∀ t, Steps p.tables e below (T95.setTop (mkF m 318 #[iv pi0, iv pi1, iv pi2, jv pj3, .second, iv (4 : Int32), iv x3, iv x6, iv (2 : Int32), rv b24] [(.int (((240 : Int32) ||| (x6 >>> ((18 : Int32) &&& 31))).toInt8.toInt32)), (.int (2 : Int32)), (.ref b24)])) t → Go t := fun t kt => pre96 t (by
          refine y_iload X95.here hx (hb hby at_185) rfl (pc' := 187) rfl ?_
          refine y_iconst X95.here hx (hb hby at_187) (v := (1 : Int32)) rfl (pc' := 188) rfl ?_
          refine y_icmpYes X95.here hx (hb hby at_188) (feq (by decide : ¬ ((4 : Int32) = (1 : Int32)))).2 (pc' := 202) (by decide) rfl ?_
          refine y_iload X95.here hx (hb hby at_202) rfl (pc' := 204) rfl ?_
          refine y_iconst X95.here hx (hb hby at_204) (v := (2 : Int32)) rfl (pc' := 205) rfl ?_
          refine y_icmpYes X95.here hx (hb hby at_205) (feq (by decide : ¬ ((4 : Int32) = (2 : Int32)))).2 (pc' := 243) (by decide) rfl ?_
          refine y_iload X95.here hx (hb hby at_243) rfl (pc' := 245) rfl ?_
          refine y_iconst X95.here hx (hb hby at_245) (v := (3 : Int32)) rfl (pc' := 246) rfl ?_
          refine y_icmpYes X95.here hx (hb hby at_246) (feq (by decide : ¬ ((4 : Int32) = (3 : Int32)))).2 (pc' := 304) (by decide) rfl ?_
          refine y_aload X95.here hx (hb hby at_304) rfl rfl (pc' := 306) rfl ?_
          refine y_iload X95.here hx (hb hby at_306) rfl (pc' := 308) rfl ?_
          refine y_sipush X95.here hx (hb hby at_308) (v := (240 : Int32)) rfl (pc' := 311) rfl ?_
          refine y_iload X95.here hx (hb hby at_311) rfl (pc' := 313) rfl ?_
          refine y_bipush X95.here hx (hb hby at_313) (v := (18 : Int32)) rfl (pc' := 315) rfl ?_
          refine y_ishr X95.here hx (hb hby at_315) (z := (x6 >>> ((18 : Int32) &&& 31))) rfl (pc' := 316) rfl ?_
          refine y_ior X95.here hx (hb hby at_316) rfl (pc' := 317) rfl ?_
          refine y_i2b X95.here hx (hb hby at_317) (z := (((240 : Int32) ||| (x6 >>> ((18 : Int32) &&& 31))).toInt8.toInt32)) rfl (pc' := 318) rfl ?_
          exact kt)
      obtain ⟨x520, hx520⟩ : ∃ z : Int32, z = (((240 : Int32) ||| (x6 >>> ((18 : Int32) &&& 31))).toInt8.toInt32) := ⟨_, rfl⟩
      have pre521 : ∀ t, Steps p.tables e below (T95.setTop (mkF m 318 #[iv pi0, iv pi1, iv pi2, jv pj3, .second, iv (4 : Int32), iv x3, iv x6, iv (2 : Int32), rv b24] [(.int x520), (.int (2 : Int32)), (.ref b24)])) t → Go t := by subst hx520; exact pre519
      obtain ⟨c522, Ar522, q522, S522, M522, H522, G522⟩ := id f99
      have hin522 : ¬ ((2 : Int32) < 0 ∨ c522.slots.size ≤ ((2 : Int32)).toNatClampNeg) := inb_of S522 ⟨by decide, by decide⟩
      obtain ⟨T523, h523, X523, e523, W523, st523⟩ := stB X95 hx hZ e95 Ar522 (j := (2 : Int32)) hin522 (g := (mkF m 318 #[iv pi0, iv pi1, iv pi2, jv pj3, .second, iv (4 : Int32), iv x3, iv x6, iv (2 : Int32), rv b24] [(.int x520), (.int (2 : Int32)), (.ref b24)])) rfl rfl (hb hby at_318)
      have pre524 : ∀ t, Steps p.tables e below (T523.setTop (mkF m 319 #[iv pi0, iv pi1, iv pi2, jv pj3, .second, iv (4 : Int32), iv x3, iv x6, iv (2 : Int32), rv b24] [])) t → Go t := fun t kt => pre521 t (st523 t kt)
      have N526 := Fr.snoc X523 N98 G26
      have O526 := O98.wr W523 G26
      have f527 : Arv Z h523 b24 k24 .byte (8 : Int32) [(.int (nar .byte x29)), (.int (nar .byte x38)), (.int (nar .byte x520)), (.int (nar .byte x56)), (.int (nar .byte x65)), (.int (nar .byte x74)), (.int (nar .byte x83)), (.int (nar .byte x92))] (.int (0 : Int32)) := Arv.set Ar522 q522 S522 M522 H522 G522 (fits_nar_byte _) W523 2 rfl (Nat.le_of_ble_eq_true rfl)
      have pre528 : ∀ t, Steps p.tables e below (T523.setTop (mkF m 338 #[iv pi0, iv pi1, iv pi2, jv pj3, .second, iv (4 : Int32), iv x3, iv x6, iv (2 : Int32), rv b24] [(.int (((128 : Int32) ||| ((x6 >>> ((12 : Int32) &&& 31)) &&& (63 : Int32))).toInt8.toInt32)), (.int (3 : Int32)), (.ref b24)])) t → Go t := fun t kt => pre524 t (by
          refine y_aload X523.here hx (hb hby at_319) rfl rfl (pc' := 321) rfl ?_
          refine y_iload X523.here hx (hb hby at_321) rfl (pc' := 323) rfl ?_
          refine y_iconst X523.here hx (hb hby at_323) (v := (1 : Int32)) rfl (pc' := 324) rfl ?_
          refine y_iadd X523.here hx (hb hby at_324) (z := (3 : Int32)) rfl (pc' := 325) rfl ?_
          refine y_sipush X523.here hx (hb hby at_325) (v := (128 : Int32)) rfl (pc' := 328) rfl ?_
          refine y_iload X523.here hx (hb hby at_328) rfl (pc' := 330) rfl ?_
          refine y_bipush X523.here hx (hb hby at_330) (v := (12 : Int32)) rfl (pc' := 332) rfl ?_
          refine y_ishr X523.here hx (hb hby at_332) (z := (x6 >>> ((12 : Int32) &&& 31))) rfl (pc' := 333) rfl ?_
          refine y_bipush X523.here hx (hb hby at_333) (v := (63 : Int32)) rfl (pc' := 335) rfl ?_
          refine y_iand X523.here hx (hb hby at_335) rfl (pc' := 336) rfl ?_
          refine y_ior X523.here hx (hb hby at_336) rfl (pc' := 337) rfl ?_
          refine y_i2b X523.here hx (hb hby at_337) (z := (((128 : Int32) ||| ((x6 >>> ((12 : Int32) &&& 31)) &&& (63 : Int32))).toInt8.toInt32)) rfl (pc' := 338) rfl ?_
          exact kt)
      obtain ⟨x529, hx529⟩ : ∃ z : Int32, z = (((128 : Int32) ||| ((x6 >>> ((12 : Int32) &&& 31)) &&& (63 : Int32))).toInt8.toInt32) := ⟨_, rfl⟩
      have pre530 : ∀ t, Steps p.tables e below (T523.setTop (mkF m 338 #[iv pi0, iv pi1, iv pi2, jv pj3, .second, iv (4 : Int32), iv x3, iv x6, iv (2 : Int32), rv b24] [(.int x529), (.int (3 : Int32)), (.ref b24)])) t → Go t := by subst hx529; exact pre528
      obtain ⟨c531, Ar531, q531, S531, M531, H531, G531⟩ := id f527
      have hin531 : ¬ ((3 : Int32) < 0 ∨ c531.slots.size ≤ ((3 : Int32)).toNatClampNeg) := inb_of S531 ⟨by decide, by decide⟩
      obtain ⟨T532, h532, X532, e532, W532, st532⟩ := stB X523 hx hZ e523 Ar531 (j := (3 : Int32)) hin531 (g := (mkF m 338 #[iv pi0, iv pi1, iv pi2, jv pj3, .second, iv (4 : Int32), iv x3, iv x6, iv (2 : Int32), rv b24] [(.int x529), (.int (3 : Int32)), (.ref b24)])) rfl rfl (hb hby at_338)
      have pre533 : ∀ t, Steps p.tables e below (T532.setTop (mkF m 339 #[iv pi0, iv pi1, iv pi2, jv pj3, .second, iv (4 : Int32), iv x3, iv x6, iv (2 : Int32), rv b24] [])) t → Go t := fun t kt => pre530 t (st532 t kt)
      have N535 := Fr.snoc X532 N526 G26
      have O535 := O526.wr W532 G26
      have f536 : Arv Z h532 b24 k24 .byte (8 : Int32) [(.int (nar .byte x29)), (.int (nar .byte x38)), (.int (nar .byte x520)), (.int (nar .byte x529)), (.int (nar .byte x65)), (.int (nar .byte x74)), (.int (nar .byte x83)), (.int (nar .byte x92))] (.int (0 : Int32)) := Arv.set Ar531 q531 S531 M531 H531 G531 (fits_nar_byte _) W532 3 rfl (Nat.le_of_ble_eq_true rfl)
      have pre537 : ∀ t, Steps p.tables e below (T532.setTop (mkF m 358 #[iv pi0, iv pi1, iv pi2, jv pj3, .second, iv (4 : Int32), iv x3, iv x6, iv (2 : Int32), rv b24] [(.int (((128 : Int32) ||| ((x6 >>> ((6 : Int32) &&& 31)) &&& (63 : Int32))).toInt8.toInt32)), (.int (4 : Int32)), (.ref b24)])) t → Go t := fun t kt => pre533 t (by
          refine y_aload X532.here hx (hb hby at_339) rfl rfl (pc' := 341) rfl ?_
          refine y_iload X532.here hx (hb hby at_341) rfl (pc' := 343) rfl ?_
          refine y_iconst X532.here hx (hb hby at_343) (v := (2 : Int32)) rfl (pc' := 344) rfl ?_
          refine y_iadd X532.here hx (hb hby at_344) (z := (4 : Int32)) rfl (pc' := 345) rfl ?_
          refine y_sipush X532.here hx (hb hby at_345) (v := (128 : Int32)) rfl (pc' := 348) rfl ?_
          refine y_iload X532.here hx (hb hby at_348) rfl (pc' := 350) rfl ?_
          refine y_bipush X532.here hx (hb hby at_350) (v := (6 : Int32)) rfl (pc' := 352) rfl ?_
          refine y_ishr X532.here hx (hb hby at_352) (z := (x6 >>> ((6 : Int32) &&& 31))) rfl (pc' := 353) rfl ?_
          refine y_bipush X532.here hx (hb hby at_353) (v := (63 : Int32)) rfl (pc' := 355) rfl ?_
          refine y_iand X532.here hx (hb hby at_355) rfl (pc' := 356) rfl ?_
          refine y_ior X532.here hx (hb hby at_356) rfl (pc' := 357) rfl ?_
          refine y_i2b X532.here hx (hb hby at_357) (z := (((128 : Int32) ||| ((x6 >>> ((6 : Int32) &&& 31)) &&& (63 : Int32))).toInt8.toInt32)) rfl (pc' := 358) rfl ?_
          exact kt)
      obtain ⟨x538, hx538⟩ : ∃ z : Int32, z = (((128 : Int32) ||| ((x6 >>> ((6 : Int32) &&& 31)) &&& (63 : Int32))).toInt8.toInt32) := ⟨_, rfl⟩
      have pre539 : ∀ t, Steps p.tables e below (T532.setTop (mkF m 358 #[iv pi0, iv pi1, iv pi2, jv pj3, .second, iv (4 : Int32), iv x3, iv x6, iv (2 : Int32), rv b24] [(.int x538), (.int (4 : Int32)), (.ref b24)])) t → Go t := by subst hx538; exact pre537
      obtain ⟨c540, Ar540, q540, S540, M540, H540, G540⟩ := id f536
      have hin540 : ¬ ((4 : Int32) < 0 ∨ c540.slots.size ≤ ((4 : Int32)).toNatClampNeg) := inb_of S540 ⟨by decide, by decide⟩
      obtain ⟨T541, h541, X541, e541, W541, st541⟩ := stB X532 hx hZ e532 Ar540 (j := (4 : Int32)) hin540 (g := (mkF m 358 #[iv pi0, iv pi1, iv pi2, jv pj3, .second, iv (4 : Int32), iv x3, iv x6, iv (2 : Int32), rv b24] [(.int x538), (.int (4 : Int32)), (.ref b24)])) rfl rfl (hb hby at_358)
      have pre542 : ∀ t, Steps p.tables e below (T541.setTop (mkF m 359 #[iv pi0, iv pi1, iv pi2, jv pj3, .second, iv (4 : Int32), iv x3, iv x6, iv (2 : Int32), rv b24] [])) t → Go t := fun t kt => pre539 t (st541 t kt)
      have N544 := Fr.snoc X541 N535 G26
      have O544 := O535.wr W541 G26
      have f545 : Arv Z h541 b24 k24 .byte (8 : Int32) [(.int (nar .byte x29)), (.int (nar .byte x38)), (.int (nar .byte x520)), (.int (nar .byte x529)), (.int (nar .byte x538)), (.int (nar .byte x74)), (.int (nar .byte x83)), (.int (nar .byte x92))] (.int (0 : Int32)) := Arv.set Ar540 q540 S540 M540 H540 G540 (fits_nar_byte _) W541 4 rfl (Nat.le_of_ble_eq_true rfl)
      have pre546 : ∀ t, Steps p.tables e below (T541.setTop (mkF m 375 #[iv pi0, iv pi1, iv pi2, jv pj3, .second, iv (4 : Int32), iv x3, iv x6, iv (2 : Int32), rv b24] [(.int (((128 : Int32) ||| (x6 &&& (63 : Int32))).toInt8.toInt32)), (.int (5 : Int32)), (.ref b24)])) t → Go t := fun t kt => pre542 t (by
          refine y_aload X541.here hx (hb hby at_359) rfl rfl (pc' := 361) rfl ?_
          refine y_iload X541.here hx (hb hby at_361) rfl (pc' := 363) rfl ?_
          refine y_iconst X541.here hx (hb hby at_363) (v := (3 : Int32)) rfl (pc' := 364) rfl ?_
          refine y_iadd X541.here hx (hb hby at_364) (z := (5 : Int32)) rfl (pc' := 365) rfl ?_
          refine y_sipush X541.here hx (hb hby at_365) (v := (128 : Int32)) rfl (pc' := 368) rfl ?_
          refine y_iload X541.here hx (hb hby at_368) rfl (pc' := 370) rfl ?_
          refine y_bipush X541.here hx (hb hby at_370) (v := (63 : Int32)) rfl (pc' := 372) rfl ?_
          refine y_iand X541.here hx (hb hby at_372) rfl (pc' := 373) rfl ?_
          refine y_ior X541.here hx (hb hby at_373) rfl (pc' := 374) rfl ?_
          refine y_i2b X541.here hx (hb hby at_374) (z := (((128 : Int32) ||| (x6 &&& (63 : Int32))).toInt8.toInt32)) rfl (pc' := 375) rfl ?_
          exact kt)
      obtain ⟨x547, hx547⟩ : ∃ z : Int32, z = (((128 : Int32) ||| (x6 &&& (63 : Int32))).toInt8.toInt32) := ⟨_, rfl⟩
      have pre548 : ∀ t, Steps p.tables e below (T541.setTop (mkF m 375 #[iv pi0, iv pi1, iv pi2, jv pj3, .second, iv (4 : Int32), iv x3, iv x6, iv (2 : Int32), rv b24] [(.int x547), (.int (5 : Int32)), (.ref b24)])) t → Go t := by subst hx547; exact pre546
      obtain ⟨c549, Ar549, q549, S549, M549, H549, G549⟩ := id f545
      have hin549 : ¬ ((5 : Int32) < 0 ∨ c549.slots.size ≤ ((5 : Int32)).toNatClampNeg) := inb_of S549 ⟨by decide, by decide⟩
      obtain ⟨T550, h550, X550, e550, W550, st550⟩ := stB X541 hx hZ e541 Ar549 (j := (5 : Int32)) hin549 (g := (mkF m 375 #[iv pi0, iv pi1, iv pi2, jv pj3, .second, iv (4 : Int32), iv x3, iv x6, iv (2 : Int32), rv b24] [(.int x547), (.int (5 : Int32)), (.ref b24)])) rfl rfl (hb hby at_375)
      have pre551 : ∀ t, Steps p.tables e below (T550.setTop (mkF m 376 #[iv pi0, iv pi1, iv pi2, jv pj3, .second, iv (4 : Int32), iv x3, iv x6, iv (2 : Int32), rv b24] [])) t → Go t := fun t kt => pre548 t (st550 t kt)
      have N553 := Fr.snoc X550 N544 G26
      have O553 := O544.wr W550 G26
      have f554 : Arv Z h550 b24 k24 .byte (8 : Int32) [(.int (nar .byte x29)), (.int (nar .byte x38)), (.int (nar .byte x520)), (.int (nar .byte x529)), (.int (nar .byte x538)), (.int (nar .byte x547)), (.int (nar .byte x83)), (.int (nar .byte x92))] (.int (0 : Int32)) := Arv.set Ar549 q549 S549 M549 H549 G549 (fits_nar_byte _) W550 5 rfl (Nat.le_of_ble_eq_true rfl)
      have pre555 : ∀ t, Steps p.tables e below (T550.setTop (mkF m 382 #[iv pi0, iv pi1, iv pi2, jv pj3, .second, iv (4 : Int32), iv x3, iv x6, iv (2 : Int32), rv b24] [(.int (4 : Int32)), (.int (2 : Int32)), (.ref b24)])) t → Go t := fun t kt => pre551 t (by
          refine y_aload X550.here hx (hb hby at_376) rfl rfl (pc' := 378) rfl ?_
          refine y_iload X550.here hx (hb hby at_378) rfl (pc' := 380) rfl ?_
          refine y_iload X550.here hx (hb hby at_380) rfl (pc' := 382) rfl ?_
          exact kt)
      obtain ⟨v556, _, ⟨T556, L556, k556, n556⟩, -, X556, ⟨Lc556, hQ556, l556, y556, z556⟩, st556⟩ := Jvm.LawKit.callS X550 hx (y := (⟨"com/example/strict_codec/strictcodec/Utf8Grammar", "scalarValue", "([BII)I"⟩ : MethodName)) hown (mvT hZ (hw _ (List.mem_of_getElem? (i := 2) rfl))) (mvT hZ (hw _ (List.mem_of_getElem? (i := 3) rfl))) (mvT hZ (hw _ (List.mem_of_getElem? (i := 4) rfl))) (mvT hZ (hw _ (List.mem_of_getElem? (i := 5) rfl))) (by decide) (backOf (W := 0) (rm1a2l4 l Z a0 hw [] b24 w_LEAD_PAYLOAD k24 (nar .byte x29) (nar .byte x38) (nar .byte x520) (nar .byte x529) (nar .byte x538) (nar .byte x547) (nar .byte x83) (nar .byte x92) cc_w_LEAD_PAYLOAD h550 n0 O553 S_LEAD_PAYLOAD f554 AR_w_LEAD_PAYLOAD IN4_w_LEAD_PAYLOAD AT4_w_LEAD_PAYLOAD) hZ (hw _ (List.mem_of_getElem? (i := 5) rfl)) (hw _ (List.mem_of_getElem? (i := 4) rfl)) (by decide) (by decide)) (g := (mkF m 382 #[iv pi0, iv pi1, iv pi2, jv pj3, .second, iv (4 : Int32), iv x3, iv x6, iv (2 : Int32), rv b24] [(.int (4 : Int32)), (.int (2 : Int32)), (.ref b24)])) rfl (by rw [hml]; rfl) (argsL := [(.ref b24), (.int (2 : Int32)), (.int (4 : Int32))]) (rest := []) (lenOf pd___BII_I rfl) rfl (by show 2 * 0 + _ ≤ _; exact Nat.le_of_eq rfl) (hb hby at_382) (fun _ _ => ⟨rfl, e550, (by decide : 1 + 0 ≤ _), (by decide : 8 + 0 ≤ _)⟩)
      dsimp only [Pt.U, Pt.locs, Pt.cells, Pt.slots] at X556 l556 y556 z556 st556 hQ556
      subst l556 y556 z556
      obtain ⟨hv556, N556q, e556q⟩ := hQ556
      have N557 := Fr.app N553 N556q
      have hw556 := hv556
      obtain ⟨x558, hx558⟩ : ∃ z : Int32, z = ((((((((nar .byte x520) &&& (7 : Int32)) <<< ((6 : Int32) &&& 31)) ||| ((nar .byte x529) &&& (63 : Int32))) <<< ((6 : Int32) &&& 31)) ||| ((nar .byte x538) &&& (63 : Int32))) <<< ((6 : Int32) &&& 31)) ||| ((nar .byte x547) &&& (63 : Int32))) := ⟨_, rfl⟩
      rw [← hx558] at hw556
      subst hw556
      have pre559 : ∀ t, Steps p.tables e below (T556.setTop (mkF m 385 #[iv pi0, iv pi1, iv pi2, jv pj3, .second, iv (4 : Int32), iv x3, iv x6, iv (2 : Int32), rv b24] [(.int x558)])) t → Go t := fun t kt => pre555 t (st556 t kt)
      have pre561 : ∀ t, Steps p.tables e below (T556.setTop (mkF m 387 #[iv pi0, iv pi1, iv pi2, jv pj3, .second, iv (4 : Int32), iv x3, iv x6, iv (2 : Int32), rv b24] [(.int x6), (.int x558)])) t → Go t := fun t kt => pre559 t (by
          refine y_iload X556.here hx (hb hby at_385) rfl (pc' := 387) rfl ?_
          exact kt)
      have hf387_560 : x558 = x6 := by
          exact law0_562 pi0 pi1 pi2 x3 x6 x520 x529 x538 x547 x558 hx3 hx6 hx520 hx529 hx538 hx547 hx558 hx1 hx21
      have pre563 : ∀ t, Steps p.tables e below (T556.setTop (mkF m 395 #[iv pi0, iv pi1, iv pi2, jv pj3, .second, iv (4 : Int32), iv x3, iv x6, iv (2 : Int32), rv b24] [(.int (1 : Int32))])) t → Go t := fun t kt => pre561 t (by
          refine y_icmpNo X556.here hx (hb hby at_387) (teq hf387_560).2 (pc' := 390) rfl ?_
          refine y_iconst X556.here hx (hb hby at_390) (v := (1 : Int32)) rfl (pc' := 391) rfl ?_
          refine y_goto X556.here hx (hb hby at_391) (pc' := 395) (by decide) rfl ?_
          exact kt)
      obtain ⟨fs, hr, hrun, hended, hW, hsame⟩ := X556.leave (v := some (.int (1 : Int32))) (fun h => by rw [Bd.returns] at h; cases h)
      refine ⟨_, _, (hGo _).mp (pre563 _ ?_), hrun, hended, _, _, rfl, ?_, ⟨_, rfl⟩, hW, hsame.mono (by decide) (by decide)⟩
      · exact retN X556 hx (t := .boolean) Bd.returns (by simp) (hb hby at_395) hr
      · show Q0 Z pi0 pi1 pi2 pj3 w_LEAD_PAYLOAD cc_w_LEAD_PAYLOAD h0 n0 _ T556.heap _
        rw [e556q]
        exact ⟨rfl, N557⟩
    · skip
      have pre564 : ∀ t, Steps p.tables e below (T95.setTop (mkF m 318 #[iv pi0, iv pi1, iv pi2, jv pj3, .second, iv (4 : Int32), iv x3, iv x6, iv (3 : Int32), rv b24] [(.int (((240 : Int32) ||| (x6 >>> ((18 : Int32) &&& 31))).toInt8.toInt32)), (.int (3 : Int32)), (.ref b24)])) t → Go t := fun t kt => pre96 t (by
          refine y_iload X95.here hx (hb hby at_185) rfl (pc' := 187) rfl ?_
          refine y_iconst X95.here hx (hb hby at_187) (v := (1 : Int32)) rfl (pc' := 188) rfl ?_
          refine y_icmpYes X95.here hx (hb hby at_188) (feq (by decide : ¬ ((4 : Int32) = (1 : Int32)))).2 (pc' := 202) (by decide) rfl ?_
          refine y_iload X95.here hx (hb hby at_202) rfl (pc' := 204) rfl ?_
          refine y_iconst X95.here hx (hb hby at_204) (v := (2 : Int32)) rfl (pc' := 205) rfl ?_
          refine y_icmpYes X95.here hx (hb hby at_205) (feq (by decide : ¬ ((4 : Int32) = (2 : Int32)))).2 (pc' := 243) (by decide) rfl ?_
          refine y_iload X95.here hx (hb hby at_243) rfl (pc' := 245) rfl ?_
          refine y_iconst X95.here hx (hb hby at_245) (v := (3 : Int32)) rfl (pc' := 246) rfl ?_
          refine y_icmpYes X95.here hx (hb hby at_246) (feq (by decide : ¬ ((4 : Int32) = (3 : Int32)))).2 (pc' := 304) (by decide) rfl ?_
          refine y_aload X95.here hx (hb hby at_304) rfl rfl (pc' := 306) rfl ?_
          refine y_iload X95.here hx (hb hby at_306) rfl (pc' := 308) rfl ?_
          refine y_sipush X95.here hx (hb hby at_308) (v := (240 : Int32)) rfl (pc' := 311) rfl ?_
          refine y_iload X95.here hx (hb hby at_311) rfl (pc' := 313) rfl ?_
          refine y_bipush X95.here hx (hb hby at_313) (v := (18 : Int32)) rfl (pc' := 315) rfl ?_
          refine y_ishr X95.here hx (hb hby at_315) (z := (x6 >>> ((18 : Int32) &&& 31))) rfl (pc' := 316) rfl ?_
          refine y_ior X95.here hx (hb hby at_316) rfl (pc' := 317) rfl ?_
          refine y_i2b X95.here hx (hb hby at_317) (z := (((240 : Int32) ||| (x6 >>> ((18 : Int32) &&& 31))).toInt8.toInt32)) rfl (pc' := 318) rfl ?_
          exact kt)
      obtain ⟨x565, hx565⟩ : ∃ z : Int32, z = (((240 : Int32) ||| (x6 >>> ((18 : Int32) &&& 31))).toInt8.toInt32) := ⟨_, rfl⟩
      have pre566 : ∀ t, Steps p.tables e below (T95.setTop (mkF m 318 #[iv pi0, iv pi1, iv pi2, jv pj3, .second, iv (4 : Int32), iv x3, iv x6, iv (3 : Int32), rv b24] [(.int x565), (.int (3 : Int32)), (.ref b24)])) t → Go t := by subst hx565; exact pre564
      obtain ⟨c567, Ar567, q567, S567, M567, H567, G567⟩ := id f99
      have hin567 : ¬ ((3 : Int32) < 0 ∨ c567.slots.size ≤ ((3 : Int32)).toNatClampNeg) := inb_of S567 ⟨by decide, by decide⟩
      obtain ⟨T568, h568, X568, e568, W568, st568⟩ := stB X95 hx hZ e95 Ar567 (j := (3 : Int32)) hin567 (g := (mkF m 318 #[iv pi0, iv pi1, iv pi2, jv pj3, .second, iv (4 : Int32), iv x3, iv x6, iv (3 : Int32), rv b24] [(.int x565), (.int (3 : Int32)), (.ref b24)])) rfl rfl (hb hby at_318)
      have pre569 : ∀ t, Steps p.tables e below (T568.setTop (mkF m 319 #[iv pi0, iv pi1, iv pi2, jv pj3, .second, iv (4 : Int32), iv x3, iv x6, iv (3 : Int32), rv b24] [])) t → Go t := fun t kt => pre566 t (st568 t kt)
      have N571 := Fr.snoc X568 N98 G26
      have O571 := O98.wr W568 G26
      have f572 : Arv Z h568 b24 k24 .byte (8 : Int32) [(.int (nar .byte x29)), (.int (nar .byte x38)), (.int (nar .byte x47)), (.int (nar .byte x565)), (.int (nar .byte x65)), (.int (nar .byte x74)), (.int (nar .byte x83)), (.int (nar .byte x92))] (.int (0 : Int32)) := Arv.set Ar567 q567 S567 M567 H567 G567 (fits_nar_byte _) W568 3 rfl (Nat.le_of_ble_eq_true rfl)
      have pre573 : ∀ t, Steps p.tables e below (T568.setTop (mkF m 338 #[iv pi0, iv pi1, iv pi2, jv pj3, .second, iv (4 : Int32), iv x3, iv x6, iv (3 : Int32), rv b24] [(.int (((128 : Int32) ||| ((x6 >>> ((12 : Int32) &&& 31)) &&& (63 : Int32))).toInt8.toInt32)), (.int (4 : Int32)), (.ref b24)])) t → Go t := fun t kt => pre569 t (by
          refine y_aload X568.here hx (hb hby at_319) rfl rfl (pc' := 321) rfl ?_
          refine y_iload X568.here hx (hb hby at_321) rfl (pc' := 323) rfl ?_
          refine y_iconst X568.here hx (hb hby at_323) (v := (1 : Int32)) rfl (pc' := 324) rfl ?_
          refine y_iadd X568.here hx (hb hby at_324) (z := (4 : Int32)) rfl (pc' := 325) rfl ?_
          refine y_sipush X568.here hx (hb hby at_325) (v := (128 : Int32)) rfl (pc' := 328) rfl ?_
          refine y_iload X568.here hx (hb hby at_328) rfl (pc' := 330) rfl ?_
          refine y_bipush X568.here hx (hb hby at_330) (v := (12 : Int32)) rfl (pc' := 332) rfl ?_
          refine y_ishr X568.here hx (hb hby at_332) (z := (x6 >>> ((12 : Int32) &&& 31))) rfl (pc' := 333) rfl ?_
          refine y_bipush X568.here hx (hb hby at_333) (v := (63 : Int32)) rfl (pc' := 335) rfl ?_
          refine y_iand X568.here hx (hb hby at_335) rfl (pc' := 336) rfl ?_
          refine y_ior X568.here hx (hb hby at_336) rfl (pc' := 337) rfl ?_
          refine y_i2b X568.here hx (hb hby at_337) (z := (((128 : Int32) ||| ((x6 >>> ((12 : Int32) &&& 31)) &&& (63 : Int32))).toInt8.toInt32)) rfl (pc' := 338) rfl ?_
          exact kt)
      obtain ⟨x574, hx574⟩ : ∃ z : Int32, z = (((128 : Int32) ||| ((x6 >>> ((12 : Int32) &&& 31)) &&& (63 : Int32))).toInt8.toInt32) := ⟨_, rfl⟩
      have pre575 : ∀ t, Steps p.tables e below (T568.setTop (mkF m 338 #[iv pi0, iv pi1, iv pi2, jv pj3, .second, iv (4 : Int32), iv x3, iv x6, iv (3 : Int32), rv b24] [(.int x574), (.int (4 : Int32)), (.ref b24)])) t → Go t := by subst hx574; exact pre573
      obtain ⟨c576, Ar576, q576, S576, M576, H576, G576⟩ := id f572
      have hin576 : ¬ ((4 : Int32) < 0 ∨ c576.slots.size ≤ ((4 : Int32)).toNatClampNeg) := inb_of S576 ⟨by decide, by decide⟩
      obtain ⟨T577, h577, X577, e577, W577, st577⟩ := stB X568 hx hZ e568 Ar576 (j := (4 : Int32)) hin576 (g := (mkF m 338 #[iv pi0, iv pi1, iv pi2, jv pj3, .second, iv (4 : Int32), iv x3, iv x6, iv (3 : Int32), rv b24] [(.int x574), (.int (4 : Int32)), (.ref b24)])) rfl rfl (hb hby at_338)
      have pre578 : ∀ t, Steps p.tables e below (T577.setTop (mkF m 339 #[iv pi0, iv pi1, iv pi2, jv pj3, .second, iv (4 : Int32), iv x3, iv x6, iv (3 : Int32), rv b24] [])) t → Go t := fun t kt => pre575 t (st577 t kt)
      have N580 := Fr.snoc X577 N571 G26
      have O580 := O571.wr W577 G26
      have f581 : Arv Z h577 b24 k24 .byte (8 : Int32) [(.int (nar .byte x29)), (.int (nar .byte x38)), (.int (nar .byte x47)), (.int (nar .byte x565)), (.int (nar .byte x574)), (.int (nar .byte x74)), (.int (nar .byte x83)), (.int (nar .byte x92))] (.int (0 : Int32)) := Arv.set Ar576 q576 S576 M576 H576 G576 (fits_nar_byte _) W577 4 rfl (Nat.le_of_ble_eq_true rfl)
      have pre582 : ∀ t, Steps p.tables e below (T577.setTop (mkF m 358 #[iv pi0, iv pi1, iv pi2, jv pj3, .second, iv (4 : Int32), iv x3, iv x6, iv (3 : Int32), rv b24] [(.int (((128 : Int32) ||| ((x6 >>> ((6 : Int32) &&& 31)) &&& (63 : Int32))).toInt8.toInt32)), (.int (5 : Int32)), (.ref b24)])) t → Go t := fun t kt => pre578 t (by
          refine y_aload X577.here hx (hb hby at_339) rfl rfl (pc' := 341) rfl ?_
          refine y_iload X577.here hx (hb hby at_341) rfl (pc' := 343) rfl ?_
          refine y_iconst X577.here hx (hb hby at_343) (v := (2 : Int32)) rfl (pc' := 344) rfl ?_
          refine y_iadd X577.here hx (hb hby at_344) (z := (5 : Int32)) rfl (pc' := 345) rfl ?_
          refine y_sipush X577.here hx (hb hby at_345) (v := (128 : Int32)) rfl (pc' := 348) rfl ?_
          refine y_iload X577.here hx (hb hby at_348) rfl (pc' := 350) rfl ?_
          refine y_bipush X577.here hx (hb hby at_350) (v := (6 : Int32)) rfl (pc' := 352) rfl ?_
          refine y_ishr X577.here hx (hb hby at_352) (z := (x6 >>> ((6 : Int32) &&& 31))) rfl (pc' := 353) rfl ?_
          refine y_bipush X577.here hx (hb hby at_353) (v := (63 : Int32)) rfl (pc' := 355) rfl ?_
          refine y_iand X577.here hx (hb hby at_355) rfl (pc' := 356) rfl ?_
          refine y_ior X577.here hx (hb hby at_356) rfl (pc' := 357) rfl ?_
          refine y_i2b X577.here hx (hb hby at_357) (z := (((128 : Int32) ||| ((x6 >>> ((6 : Int32) &&& 31)) &&& (63 : Int32))).toInt8.toInt32)) rfl (pc' := 358) rfl ?_
          exact kt)
      obtain ⟨x583, hx583⟩ : ∃ z : Int32, z = (((128 : Int32) ||| ((x6 >>> ((6 : Int32) &&& 31)) &&& (63 : Int32))).toInt8.toInt32) := ⟨_, rfl⟩
      have pre584 : ∀ t, Steps p.tables e below (T577.setTop (mkF m 358 #[iv pi0, iv pi1, iv pi2, jv pj3, .second, iv (4 : Int32), iv x3, iv x6, iv (3 : Int32), rv b24] [(.int x583), (.int (5 : Int32)), (.ref b24)])) t → Go t := by subst hx583; exact pre582
      obtain ⟨c585, Ar585, q585, S585, M585, H585, G585⟩ := id f581
      have hin585 : ¬ ((5 : Int32) < 0 ∨ c585.slots.size ≤ ((5 : Int32)).toNatClampNeg) := inb_of S585 ⟨by decide, by decide⟩
      obtain ⟨T586, h586, X586, e586, W586, st586⟩ := stB X577 hx hZ e577 Ar585 (j := (5 : Int32)) hin585 (g := (mkF m 358 #[iv pi0, iv pi1, iv pi2, jv pj3, .second, iv (4 : Int32), iv x3, iv x6, iv (3 : Int32), rv b24] [(.int x583), (.int (5 : Int32)), (.ref b24)])) rfl rfl (hb hby at_358)
      have pre587 : ∀ t, Steps p.tables e below (T586.setTop (mkF m 359 #[iv pi0, iv pi1, iv pi2, jv pj3, .second, iv (4 : Int32), iv x3, iv x6, iv (3 : Int32), rv b24] [])) t → Go t := fun t kt => pre584 t (st586 t kt)
      have N589 := Fr.snoc X586 N580 G26
      have O589 := O580.wr W586 G26
      have f590 : Arv Z h586 b24 k24 .byte (8 : Int32) [(.int (nar .byte x29)), (.int (nar .byte x38)), (.int (nar .byte x47)), (.int (nar .byte x565)), (.int (nar .byte x574)), (.int (nar .byte x583)), (.int (nar .byte x83)), (.int (nar .byte x92))] (.int (0 : Int32)) := Arv.set Ar585 q585 S585 M585 H585 G585 (fits_nar_byte _) W586 5 rfl (Nat.le_of_ble_eq_true rfl)
      have pre591 : ∀ t, Steps p.tables e below (T586.setTop (mkF m 375 #[iv pi0, iv pi1, iv pi2, jv pj3, .second, iv (4 : Int32), iv x3, iv x6, iv (3 : Int32), rv b24] [(.int (((128 : Int32) ||| (x6 &&& (63 : Int32))).toInt8.toInt32)), (.int (6 : Int32)), (.ref b24)])) t → Go t := fun t kt => pre587 t (by
          refine y_aload X586.here hx (hb hby at_359) rfl rfl (pc' := 361) rfl ?_
          refine y_iload X586.here hx (hb hby at_361) rfl (pc' := 363) rfl ?_
          refine y_iconst X586.here hx (hb hby at_363) (v := (3 : Int32)) rfl (pc' := 364) rfl ?_
          refine y_iadd X586.here hx (hb hby at_364) (z := (6 : Int32)) rfl (pc' := 365) rfl ?_
          refine y_sipush X586.here hx (hb hby at_365) (v := (128 : Int32)) rfl (pc' := 368) rfl ?_
          refine y_iload X586.here hx (hb hby at_368) rfl (pc' := 370) rfl ?_
          refine y_bipush X586.here hx (hb hby at_370) (v := (63 : Int32)) rfl (pc' := 372) rfl ?_
          refine y_iand X586.here hx (hb hby at_372) rfl (pc' := 373) rfl ?_
          refine y_ior X586.here hx (hb hby at_373) rfl (pc' := 374) rfl ?_
          refine y_i2b X586.here hx (hb hby at_374) (z := (((128 : Int32) ||| (x6 &&& (63 : Int32))).toInt8.toInt32)) rfl (pc' := 375) rfl ?_
          exact kt)
      obtain ⟨x592, hx592⟩ : ∃ z : Int32, z = (((128 : Int32) ||| (x6 &&& (63 : Int32))).toInt8.toInt32) := ⟨_, rfl⟩
      have pre593 : ∀ t, Steps p.tables e below (T586.setTop (mkF m 375 #[iv pi0, iv pi1, iv pi2, jv pj3, .second, iv (4 : Int32), iv x3, iv x6, iv (3 : Int32), rv b24] [(.int x592), (.int (6 : Int32)), (.ref b24)])) t → Go t := by subst hx592; exact pre591
      obtain ⟨c594, Ar594, q594, S594, M594, H594, G594⟩ := id f590
      have hin594 : ¬ ((6 : Int32) < 0 ∨ c594.slots.size ≤ ((6 : Int32)).toNatClampNeg) := inb_of S594 ⟨by decide, by decide⟩
      obtain ⟨T595, h595, X595, e595, W595, st595⟩ := stB X586 hx hZ e586 Ar594 (j := (6 : Int32)) hin594 (g := (mkF m 375 #[iv pi0, iv pi1, iv pi2, jv pj3, .second, iv (4 : Int32), iv x3, iv x6, iv (3 : Int32), rv b24] [(.int x592), (.int (6 : Int32)), (.ref b24)])) rfl rfl (hb hby at_375)
      have pre596 : ∀ t, Steps p.tables e below (T595.setTop (mkF m 376 #[iv pi0, iv pi1, iv pi2, jv pj3, .second, iv (4 : Int32), iv x3, iv x6, iv (3 : Int32), rv b24] [])) t → Go t := fun t kt => pre593 t (st595 t kt)
      have N598 := Fr.snoc X595 N589 G26
      have O598 := O589.wr W595 G26
      have f599 : Arv Z h595 b24 k24 .byte (8 : Int32) [(.int (nar .byte x29)), (.int (nar .byte x38)), (.int (nar .byte x47)), (.int (nar .byte x565)), (.int (nar .byte x574)), (.int (nar .byte x583)), (.int (nar .byte x592)), (.int (nar .byte x92))] (.int (0 : Int32)) := Arv.set Ar594 q594 S594 M594 H594 G594 (fits_nar_byte _) W595 6 rfl (Nat.le_of_ble_eq_true rfl)
      have pre600 : ∀ t, Steps p.tables e below (T595.setTop (mkF m 382 #[iv pi0, iv pi1, iv pi2, jv pj3, .second, iv (4 : Int32), iv x3, iv x6, iv (3 : Int32), rv b24] [(.int (4 : Int32)), (.int (3 : Int32)), (.ref b24)])) t → Go t := fun t kt => pre596 t (by
          refine y_aload X595.here hx (hb hby at_376) rfl rfl (pc' := 378) rfl ?_
          refine y_iload X595.here hx (hb hby at_378) rfl (pc' := 380) rfl ?_
          refine y_iload X595.here hx (hb hby at_380) rfl (pc' := 382) rfl ?_
          exact kt)
      obtain ⟨v601, _, ⟨T601, L601, k601, n601⟩, -, X601, ⟨Lc601, hQ601, l601, y601, z601⟩, st601⟩ := Jvm.LawKit.callS X595 hx (y := (⟨"com/example/strict_codec/strictcodec/Utf8Grammar", "scalarValue", "([BII)I"⟩ : MethodName)) hown (mvT hZ (hw _ (List.mem_of_getElem? (i := 2) rfl))) (mvT hZ (hw _ (List.mem_of_getElem? (i := 3) rfl))) (mvT hZ (hw _ (List.mem_of_getElem? (i := 4) rfl))) (mvT hZ (hw _ (List.mem_of_getElem? (i := 5) rfl))) (by decide) (backOf (W := 0) (rm1a3l4 l Z a0 hw [] b24 w_LEAD_PAYLOAD k24 (nar .byte x29) (nar .byte x38) (nar .byte x47) (nar .byte x565) (nar .byte x574) (nar .byte x583) (nar .byte x592) (nar .byte x92) cc_w_LEAD_PAYLOAD h595 n0 O598 S_LEAD_PAYLOAD f599 AR_w_LEAD_PAYLOAD IN4_w_LEAD_PAYLOAD AT4_w_LEAD_PAYLOAD) hZ (hw _ (List.mem_of_getElem? (i := 5) rfl)) (hw _ (List.mem_of_getElem? (i := 4) rfl)) (by decide) (by decide)) (g := (mkF m 382 #[iv pi0, iv pi1, iv pi2, jv pj3, .second, iv (4 : Int32), iv x3, iv x6, iv (3 : Int32), rv b24] [(.int (4 : Int32)), (.int (3 : Int32)), (.ref b24)])) rfl (by rw [hml]; rfl) (argsL := [(.ref b24), (.int (3 : Int32)), (.int (4 : Int32))]) (rest := []) (lenOf pd___BII_I rfl) rfl (by show 2 * 0 + _ ≤ _; exact Nat.le_of_eq rfl) (hb hby at_382) (fun _ _ => ⟨rfl, e595, (by decide : 1 + 0 ≤ _), (by decide : 8 + 0 ≤ _)⟩)
      dsimp only [Pt.U, Pt.locs, Pt.cells, Pt.slots] at X601 l601 y601 z601 st601 hQ601
      subst l601 y601 z601
      obtain ⟨hv601, N601q, e601q⟩ := hQ601
      have N602 := Fr.app N598 N601q
      have hw601 := hv601
      obtain ⟨x603, hx603⟩ : ∃ z : Int32, z = ((((((((nar .byte x565) &&& (7 : Int32)) <<< ((6 : Int32) &&& 31)) ||| ((nar .byte x574) &&& (63 : Int32))) <<< ((6 : Int32) &&& 31)) ||| ((nar .byte x583) &&& (63 : Int32))) <<< ((6 : Int32) &&& 31)) ||| ((nar .byte x592) &&& (63 : Int32))) := ⟨_, rfl⟩
      rw [← hx603] at hw601
      subst hw601
      have pre604 : ∀ t, Steps p.tables e below (T601.setTop (mkF m 385 #[iv pi0, iv pi1, iv pi2, jv pj3, .second, iv (4 : Int32), iv x3, iv x6, iv (3 : Int32), rv b24] [(.int x603)])) t → Go t := fun t kt => pre600 t (st601 t kt)
      have pre606 : ∀ t, Steps p.tables e below (T601.setTop (mkF m 387 #[iv pi0, iv pi1, iv pi2, jv pj3, .second, iv (4 : Int32), iv x3, iv x6, iv (3 : Int32), rv b24] [(.int x6), (.int x603)])) t → Go t := fun t kt => pre604 t (by
          refine y_iload X601.here hx (hb hby at_385) rfl (pc' := 387) rfl ?_
          exact kt)
      have hf387_605 : x603 = x6 := by
          exact law0_607 pi0 pi1 pi2 x3 x6 x565 x574 x583 x592 x603 hx3 hx6 hx565 hx574 hx583 hx592 hx603 hx1 hx21
      have pre608 : ∀ t, Steps p.tables e below (T601.setTop (mkF m 395 #[iv pi0, iv pi1, iv pi2, jv pj3, .second, iv (4 : Int32), iv x3, iv x6, iv (3 : Int32), rv b24] [(.int (1 : Int32))])) t → Go t := fun t kt => pre606 t (by
          refine y_icmpNo X601.here hx (hb hby at_387) (teq hf387_605).2 (pc' := 390) rfl ?_
          refine y_iconst X601.here hx (hb hby at_390) (v := (1 : Int32)) rfl (pc' := 391) rfl ?_
          refine y_goto X601.here hx (hb hby at_391) (pc' := 395) (by decide) rfl ?_
          exact kt)
      obtain ⟨fs, hr, hrun, hended, hW, hsame⟩ := X601.leave (v := some (.int (1 : Int32))) (fun h => by rw [Bd.returns] at h; cases h)
      refine ⟨_, _, (hGo _).mp (pre608 _ ?_), hrun, hended, _, _, rfl, ?_, ⟨_, rfl⟩, hW, hsame.mono (by decide) (by decide)⟩
      · exact retN X601 hx (t := .boolean) Bd.returns (by simp) (hb hby at_395) hr
      · show Q0 Z pi0 pi1 pi2 pj3 w_LEAD_PAYLOAD cc_w_LEAD_PAYLOAD h0 n0 _ T601.heap _
        rw [e601q]
        exact ⟨rfl, N602⟩
set_option maxRecDepth 65536 in
set_option maxHeartbeats 40000000 in
theorem comes_1 {Post : Tables → Env → Array Value → State → Outcome → State → Prop} (hpost : ∀ tb e args s v u, (limb_1_1.after args s (.returned v) u = true ∧ limb_1_2.after args s (.returned v) u = true ∧ True) → FrameEnd s (.returned v) u (Jvm.fieldLocs frame_1_writes args s ++ Jvm.arrayLocs frame_1_arrays args s ++ Jvm.staticLocs frame_1_statics s) 16 128 → Post tb e args s (.returned v) u) :
    ArmFor flags0 classFile x code maxLocals ret World_1 tables_1 room_1 Calls_1 rest_1 Pre_1 Post := by
  intro l hfl _ _ p e ha hc hk s m args below hf hA hF happ hP
  obtain ⟨hcalls, hrest, hpre⟩ := hP
  obtain ⟨-, -, -, hnamed, -, -, -, hat⟩ := (Spec.applies_iff hf).mp happ
  obtain ⟨hg, hn⟩ := and_e (Cond.before_iff.mp (show (Jvm.Cond.and given_1 narrow_1).before args s = true from hpre))
  obtain ⟨g0, gr0⟩ := and_e hg
  obtain ⟨g1, gr1⟩ := and_e gr0
  obtain ⟨g2, gr2⟩ := and_e gr1
  obtain ⟨g3, gr3⟩ := and_e gr2
  obtain ⟨w0, w1, w2, w3, rfl⟩ : ∃ w0 w1 w2 w3 : Value, args = #[w0, w1, w2, w3] := by
    have hs : args.size = 4 := by simpa [Cond.value, given_1] using g0
    obtain ⟨L⟩ := args
    match L, hs with
    | [w0, w1, w2, w3], _ => exact ⟨w0, w1, w2, w3, rfl⟩
  have hw := fun d (hd : d ∈ tables_1) => atoms_spec (ws := Jvm.Cond.code x code maxLocals ret :: tables_1) hat d (List.mem_cons_of_mem _ hd)
  have hfit : Fit s := fun {y c} hc i hi => by
    obtain ⟨ha, rfl⟩ := Array.getElem?_eq_some_iff.mp hc
    have q := List.all_eq_true.mp ((Array.all_eq_true_iff_forall_mem.mp hF) _ (Array.getElem_mem ha)) i (List.mem_range.mpr hi)
    simpa [Array.getElem?_eq_getElem hi] using q
  obtain ⟨i0, ei0⟩ := is_v g1
  obtain rfl : w0 = (.int i0) := Option.some.inj ei0
  obtain ⟨i1, ei1⟩ := is_v g2
  obtain rfl : w1 = (.int i1) := Option.some.inj ei1
  obtain ⟨i2, ei2⟩ := is_v g3
  obtain rfl : w2 = (.int i2) := Option.some.inj ei2
  obtain ⟨i3, ei3⟩ := isL_v gr3
  obtain rfl : w3 = (.long i3) := Option.some.inj ei3
  obtain ⟨n0, nr0⟩ := and_e hn
  obtain ⟨n1, nr1⟩ := and_e nr0
  obtain ⟨n2, nr2⟩ := and_e nr1
  obtain ⟨n3, nr3⟩ := and_e nr2
  obtain ⟨n4, nr4⟩ := and_e nr3
  obtain ⟨n5, nr5⟩ := and_e nr4
  obtain ⟨w_LEAD_PAYLOAD, ev_LEAD_PAYLOAD⟩ := arr_v n0
  have S_LEAD_PAYLOAD := Sta.start ev_LEAD_PAYLOAD (Or.inr ⟨(hw _ (List.mem_of_getElem? (i := 4) rfl)), (hw _ (List.mem_of_getElem? (i := 7) rfl))⟩)
  obtain ⟨cc_w_LEAD_PAYLOAD, AR_w_LEAD_PAYLOAD⟩ := Arr.start ev_LEAD_PAYLOAD n0
  obtain ⟨IN1_w_LEAD_PAYLOAD, AT1_w_LEAD_PAYLOAD⟩ := elem_in (own_eqI n3) ev_LEAD_PAYLOAD (Term.int_eval _) AR_w_LEAD_PAYLOAD.1
  obtain ⟨IN2_w_LEAD_PAYLOAD, AT2_w_LEAD_PAYLOAD⟩ := elem_in (own_eqI n4) ev_LEAD_PAYLOAD (Term.int_eval _) AR_w_LEAD_PAYLOAD.1
  obtain ⟨IN3_w_LEAD_PAYLOAD, AT3_w_LEAD_PAYLOAD⟩ := elem_in (own_eqI n5) ev_LEAD_PAYLOAD (Term.int_eval _) AR_w_LEAD_PAYLOAD.1
  obtain ⟨IN4_w_LEAD_PAYLOAD, AT4_w_LEAD_PAYLOAD⟩ := elem_in (own_eqI nr5) ev_LEAD_PAYLOAD (Term.int_eval _) AR_w_LEAD_PAYLOAD.1
  obtain ⟨n, o, h1, h2, h3, _, L, rfl, ⟨rfl, N⟩, hq⟩ := rm0 l s _ hw tables_1 i0 i1 i2 i3 w_LEAD_PAYLOAD cc_w_LEAD_PAYLOAD s.heap s.heap.size (Old.start s) S_LEAD_PAYLOAD AR_w_LEAD_PAYLOAD IN1_w_LEAD_PAYLOAD AT1_w_LEAD_PAYLOAD IN2_w_LEAD_PAYLOAD AT2_w_LEAD_PAYLOAD IN3_w_LEAD_PAYLOAD AT3_w_LEAD_PAYLOAD IN4_w_LEAD_PAYLOAD AT4_w_LEAD_PAYLOAD p e ha hc hk s m _ below hf ((Spec.applies_iff_loose hf).mp happ).1 ⟨rfl, State.Warmed39.refl s, rfl⟩ trivial
  refine ⟨n, _, h1, h2, h3, hpost _ _ _ _ _ _ ⟨Cond.after_iff.mpr rfl, Cond.after_iff.mpr (eq_i res_at (Term.int_eval (1)) rfl), trivial⟩ ⟨hq.1, hq.2.1, (hq.2.2.sift fun y hy => Or.inr (N y hy)).mono (by decide) (by decide)⟩⟩
theorem main_1_1 : Claimed_1_1 := comes_1 fun _ _ _ _ _ _ h hF => ⟨h.1, hF⟩
theorem main_1_2 : Claimed_1_2 := comes_1 fun _ _ _ _ _ _ h hF => ⟨h.2.1, hF⟩
end Jvm.Pilot.@@N@@
namespace Jvm.Pilot.@@N@@
open Jvm Jvm.ClassFile Sem Op Lib Jvm.Free Jvm.Stand Jvm.Pilot.@@N@@.Jvm.D
/-! MADE BY PROGRAM (witnessworld.py) out of the Statement's table words and the real class files: 9 classes; the members and pool entries that the words name. The judged class is class 1, her method 1. -/
namespace start1
open Jvm.ClassFile
def u (s : String) : CpInfo := .utf8 (stringToUtf16 s)
/-- a pool by its gaps: so many unusable entries, then the entry; so many at the end -/
def gap : Nat → List CpInfo → List CpInfo
  | 0, r => r
  | n + 1, r => .unusable :: gap n r
def poolList (es : List (Nat × CpInfo)) (last : Nat) : List CpInfo := es.foldr (fun e r => gap e.1 (e.2 :: r)) (gap last [])
def pool (es : List (Nat × CpInfo)) (last : Nat) : Array CpInfo := ⟨poolList es last⟩
def fileOf (pool : Array CpInfo) (this : Nat) (attrs : Array Attribute := #[]) (ms : Array MethodInfo := #[]) (fl : Nat := 33) (sup : Nat := 0) (ifs : Array Nat := #[]) (fds : Array FieldInfo := #[]) : ClassFile where
  minorVersion := 0
  majorVersion := 65
  constantPool := pool
  accessFlags := fl
  thisClass := this
  superClass := sup
  interfaces := ifs
  fields := fds
  methods := ms
  attributes := attrs
def plain (name : String) (sup : Option ClassId) : Class where
  name := name
  kind := .ordinary
  loader := none
  accessFlags := 33
  super := sup
  interfaces := #[]
  cf := none
  fields := #[]
  methods := #[]
  instanceTypes := #[]
  staticTypes := #[]
  resolved := #[]
  callSites := []
  init := .initialized
  statics := none
  mirror := none

def pool0 : Array CpInfo := pool [(5, u "<init>"), (0, u "()V"), (1, .class_ 10), (1, u "java/lang/Object")] 113

def k0m0 : Method := { name := "<init>", desc := "()V", sig := { parameters := [], returnType := none }, accessFlags := 1, code := none }
/-- java/lang/Object -/
def k0 : Class := { plain "java/lang/Object" none with
  accessFlags := 33
  interfaces := #[]
  cf := some (fileOf pool0 8 #[] #[{ accessFlags := 1, nameIndex := 5, descriptorIndex := 6, attributes := #[] }] 33 0 #[] #[])
  fields := #[]
  methods := #[k0m0]
  instanceTypes := #[]
  staticTypes := #[]
  resolved := Array.replicate 124 none
  statics := none }

def pool1 : Array CpInfo := pool [(2, .class_ 4), (1, u "java/lang/Object"), (0, u "<init>"), (0, u "()V"), (0, .integer 2147483647), (0, .integer 61440), (0, .integer 55296), (0, .integer 65536), (0, .integer 1048576), (0, .methodref 13 14), (0, .class_ 15), (0, .nameAndType 16 17), (0, u "com/example/strict_codec/strictcodec/Utf8Grammar"), (0, u "scalarValue"), (0, u "([BII)I"), (0, .class_ 19), (0, u "com/example/strict_codec/strictcodec/Utf8GrammarScalarValuePinLaw"), (2, u "law"), (0, u "(IIIJ)Z")] 5

def k1m0 : Method := { name := "<init>", desc := "()V", sig := { parameters := [], returnType := none }, accessFlags := 2, code := none }
def k1c1 : Code := { maxStack := 5, maxLocals := 10, code := code, exceptionTable := #[], attributes := #[] }
def k1m1 : Method := { name := "law", desc := "(IIIJ)Z", sig := { parameters := [.int, .int, .int, .long], returnType := some .boolean }, accessFlags := 9, code := some k1c1 }
/-- com/example/strict_codec/strictcodec/Utf8GrammarScalarValuePinLaw -/
def k1 : Class := { plain "com/example/strict_codec/strictcodec/Utf8GrammarScalarValuePinLaw" (some 0) with
  accessFlags := 49
  interfaces := #[]
  cf := some (fileOf pool1 18 #[] #[{ accessFlags := 2, nameIndex := 5, descriptorIndex := 6, attributes := #[] }, { accessFlags := 9, nameIndex := 22, descriptorIndex := 23, attributes := #[] }] 49 2 #[] #[])
  fields := #[]
  methods := #[k1m0, k1m1]
  instanceTypes := #[]
  staticTypes := #[]
  resolved := Array.replicate 29 none
  statics := none }

def pool2 : Array CpInfo := pool [(2, .class_ 4), (1, u "java/lang/Object"), (0, u "<init>"), (0, u "()V"), (0, .class_ 8), (0, u "com/example/strict_codec/strictcodec/Utf8Grammar"), (2, u "SEQUENCE_LENGTH"), (0, u "[B"), (2, u "SECOND_LOW"), (0, u "[I"), (2, u "SECOND_HIGH"), (6, u "REFUSAL"), (0, u "[Lcom/example/strict_codec/strictcodec/Reason;"), (0, .fieldref 7 29), (0, .nameAndType 30 16), (0, u "LEAD_PAYLOAD"), (2, u "LEAD_MARK"), (2, u "$assertionsDisabled"), (0, u "Z"), (45, u "LONGS"), (0, u "Ljava/lang/invoke/VarHandle;"), (11, u "([BII)I"), (4, u "NEXT"), (0, u "[J"), (2, u "REJECT"), (0, u "I"), (9, u "FIXED_2"), (2, u "FORM_2"), (12, u "FIXED_3"), (2, u "FORM_3"), (5, u "INTS"), (5, u "FIXED_1_3"), (2, u "FORM_1_3"), (2, u "FIXED_4"), (2, u "FORM_4"), (3, u "FOUR_BYTE_LEAST"), (2, u "FOUR_BYTE_MOST"), (15, u "LANE_PAYLOADS"), (0, u "J"), (2, u "LANE_FIXED"), (2, u "LANE_FORM"), (2, u "LANE_FLOOR"), (2, u "LANE_CEILING"), (2, u "LANE_GUARDS"), (11, u "THREE_BYTE_LEAST"), (2, u "THREE_BYTE_MOST"), (2, u "THREE_BYTE_GAP_FIRST"), (2, u "THREE_BYTE_GAP_LAST"), (113, u "CONTINUATION_PAYLOAD"), (2, u "CONTINUATION_MARK"), (1, u "STATE_BITS"), (0, u "ACCEPT"), (1, u "REFUSED"), (1, u "HIGH_BITS"), (10, u "scalarValue")] 27

def k2m0 : Method := { name := "<init>", desc := "()V", sig := { parameters := [], returnType := none }, accessFlags := 2, code := none }
def k2c1 : Code := { maxStack := 4, maxLocals := 5, code := prog_19_method_14_code, exceptionTable := #[], attributes := #[] }
def k2m1 : Method := { name := "scalarValue", desc := "([BII)I", sig := { parameters := [(.array .byte), .int, .int], returnType := some .int }, accessFlags := 8, code := some k2c1 }
/-- com/example/strict_codec/strictcodec/Utf8Grammar -/
def k2 : Class := { plain "com/example/strict_codec/strictcodec/Utf8Grammar" (some 0) with
  accessFlags := 48
  interfaces := #[]
  cf := some (fileOf pool2 7 #[] #[{ accessFlags := 2, nameIndex := 5, descriptorIndex := 6, attributes := #[] }, { accessFlags := 8, nameIndex := 351, descriptorIndex := 96, attributes := #[] }] 48 2 #[] #[{ accessFlags := 26, nameIndex := 11, descriptorIndex := 12, attributes := #[] }, { accessFlags := 26, nameIndex := 15, descriptorIndex := 16, attributes := #[] }, { accessFlags := 26, nameIndex := 19, descriptorIndex := 16, attributes := #[] }, { accessFlags := 26, nameIndex := 26, descriptorIndex := 27, attributes := #[] }, { accessFlags := 26, nameIndex := 30, descriptorIndex := 16, attributes := #[] }, { accessFlags := 26, nameIndex := 33, descriptorIndex := 16, attributes := #[] }, { accessFlags := 26, nameIndex := 330, descriptorIndex := 106, attributes := #[] }, { accessFlags := 26, nameIndex := 333, descriptorIndex := 106, attributes := #[] }, { accessFlags := 26, nameIndex := 101, descriptorIndex := 102, attributes := #[] }, { accessFlags := 26, nameIndex := 335, descriptorIndex := 106, attributes := #[] }, { accessFlags := 26, nameIndex := 336, descriptorIndex := 106, attributes := #[] }, { accessFlags := 26, nameIndex := 105, descriptorIndex := 106, attributes := #[] }, { accessFlags := 26, nameIndex := 338, descriptorIndex := 106, attributes := #[] }, { accessFlags := 26, nameIndex := 141, descriptorIndex := 84, attributes := #[] }, { accessFlags := 26, nameIndex := 83, descriptorIndex := 84, attributes := #[] }, { accessFlags := 26, nameIndex := 340, descriptorIndex := 180, attributes := #[] }, { accessFlags := 26, nameIndex := 207, descriptorIndex := 106, attributes := #[] }, { accessFlags := 26, nameIndex := 210, descriptorIndex := 106, attributes := #[] }, { accessFlags := 26, nameIndex := 213, descriptorIndex := 106, attributes := #[] }, { accessFlags := 26, nameIndex := 216, descriptorIndex := 106, attributes := #[] }, { accessFlags := 26, nameIndex := 160, descriptorIndex := 106, attributes := #[] }, { accessFlags := 26, nameIndex := 163, descriptorIndex := 106, attributes := #[] }, { accessFlags := 26, nameIndex := 116, descriptorIndex := 106, attributes := #[] }, { accessFlags := 26, nameIndex := 119, descriptorIndex := 106, attributes := #[] }, { accessFlags := 26, nameIndex := 132, descriptorIndex := 106, attributes := #[] }, { accessFlags := 26, nameIndex := 135, descriptorIndex := 106, attributes := #[] }, { accessFlags := 26, nameIndex := 147, descriptorIndex := 106, attributes := #[] }, { accessFlags := 26, nameIndex := 150, descriptorIndex := 106, attributes := #[] }, { accessFlags := 26, nameIndex := 153, descriptorIndex := 106, attributes := #[] }, { accessFlags := 26, nameIndex := 156, descriptorIndex := 106, attributes := #[] }, { accessFlags := 26, nameIndex := 183, descriptorIndex := 180, attributes := #[] }, { accessFlags := 26, nameIndex := 186, descriptorIndex := 180, attributes := #[] }, { accessFlags := 26, nameIndex := 179, descriptorIndex := 180, attributes := #[] }, { accessFlags := 26, nameIndex := 195, descriptorIndex := 180, attributes := #[] }, { accessFlags := 26, nameIndex := 189, descriptorIndex := 180, attributes := #[] }, { accessFlags := 26, nameIndex := 192, descriptorIndex := 180, attributes := #[] }, { accessFlags := 4120, nameIndex := 36, descriptorIndex := 37, attributes := #[] }])
  fields := #[{ name := "SEQUENCE_LENGTH", type := (.array .byte), accessFlags := 26, slot := 0, constantValue := 0 }, { name := "SECOND_LOW", type := (.array .int), accessFlags := 26, slot := 1, constantValue := 0 }, { name := "SECOND_HIGH", type := (.array .int), accessFlags := 26, slot := 2, constantValue := 0 }, { name := "REFUSAL", type := (.array (.object "com/example/strict_codec/strictcodec/Reason")), accessFlags := 26, slot := 3, constantValue := 0 }, { name := "LEAD_PAYLOAD", type := (.array .int), accessFlags := 26, slot := 4, constantValue := 0 }, { name := "LEAD_MARK", type := (.array .int), accessFlags := 26, slot := 5, constantValue := 0 }, { name := "CONTINUATION_PAYLOAD", type := .int, accessFlags := 26, slot := 6, constantValue := 0 }, { name := "CONTINUATION_MARK", type := .int, accessFlags := 26, slot := 7, constantValue := 0 }, { name := "NEXT", type := (.array .long), accessFlags := 26, slot := 8, constantValue := 0 }, { name := "STATE_BITS", type := .int, accessFlags := 26, slot := 9, constantValue := 0 }, { name := "ACCEPT", type := .int, accessFlags := 26, slot := 10, constantValue := 0 }, { name := "REJECT", type := .int, accessFlags := 26, slot := 11, constantValue := 0 }, { name := "REFUSED", type := .int, accessFlags := 26, slot := 12, constantValue := 0 }, { name := "INTS", type := (.object "java/lang/invoke/VarHandle"), accessFlags := 26, slot := 13, constantValue := 0 }, { name := "LONGS", type := (.object "java/lang/invoke/VarHandle"), accessFlags := 26, slot := 14, constantValue := 0 }, { name := "HIGH_BITS", type := .long, accessFlags := 26, slot := 15, constantValue := 0 }, { name := "THREE_BYTE_LEAST", type := .int, accessFlags := 26, slot := 16, constantValue := 0 }, { name := "THREE_BYTE_MOST", type := .int, accessFlags := 26, slot := 17, constantValue := 0 }, { name := "THREE_BYTE_GAP_FIRST", type := .int, accessFlags := 26, slot := 18, constantValue := 0 }, { name := "THREE_BYTE_GAP_LAST", type := .int, accessFlags := 26, slot := 19, constantValue := 0 }, { name := "FOUR_BYTE_LEAST", type := .int, accessFlags := 26, slot := 20, constantValue := 0 }, { name := "FOUR_BYTE_MOST", type := .int, accessFlags := 26, slot := 21, constantValue := 0 }, { name := "FIXED_2", type := .int, accessFlags := 26, slot := 22, constantValue := 0 }, { name := "FORM_2", type := .int, accessFlags := 26, slot := 23, constantValue := 0 }, { name := "FIXED_3", type := .int, accessFlags := 26, slot := 24, constantValue := 0 }, { name := "FORM_3", type := .int, accessFlags := 26, slot := 25, constantValue := 0 }, { name := "FIXED_1_3", type := .int, accessFlags := 26, slot := 26, constantValue := 0 }, { name := "FORM_1_3", type := .int, accessFlags := 26, slot := 27, constantValue := 0 }, { name := "FIXED_4", type := .int, accessFlags := 26, slot := 28, constantValue := 0 }, { name := "FORM_4", type := .int, accessFlags := 26, slot := 29, constantValue := 0 }, { name := "LANE_FIXED", type := .long, accessFlags := 26, slot := 30, constantValue := 0 }, { name := "LANE_FORM", type := .long, accessFlags := 26, slot := 31, constantValue := 0 }, { name := "LANE_PAYLOADS", type := .long, accessFlags := 26, slot := 32, constantValue := 0 }, { name := "LANE_GUARDS", type := .long, accessFlags := 26, slot := 33, constantValue := 0 }, { name := "LANE_FLOOR", type := .long, accessFlags := 26, slot := 34, constantValue := 0 }, { name := "LANE_CEILING", type := .long, accessFlags := 26, slot := 35, constantValue := 0 }, { name := "$assertionsDisabled", type := .boolean, accessFlags := 4120, slot := 36, constantValue := 0 }]
  methods := #[k2m0, k2m1]
  instanceTypes := #[]
  staticTypes := #[(.array .byte), (.array .int), (.array .int), (.array (.object "com/example/strict_codec/strictcodec/Reason")), (.array .int), (.array .int), .int, .int, (.array .long), .int, .int, .int, .int, (.object "java/lang/invoke/VarHandle"), (.object "java/lang/invoke/VarHandle"), .long, .int, .int, .int, .int, .int, .int, .int, .int, .int, .int, .int, .int, .int, .int, .long, .long, .long, .long, .long, .long, .boolean]
  resolved := Array.replicate 379 none
  statics := some 0 }

def pool3 : Array CpInfo := pool [(1, u "java/lang/Cloneable"), (0, .class_ 1), (0, u "java/lang/Object"), (0, .class_ 3)] 3

/-- java/lang/Cloneable -/
def k3 : Class := { plain "java/lang/Cloneable" (some 0) with
  accessFlags := 1537
  interfaces := #[]
  cf := some (fileOf pool3 2 #[] #[] 1537 4 #[] #[])
  fields := #[]
  methods := #[]
  instanceTypes := #[]
  staticTypes := #[]
  resolved := Array.replicate 8 none
  statics := none }

def pool4 : Array CpInfo := pool [(1, u "java/io/Serializable"), (0, .class_ 1), (0, u "java/lang/Object"), (0, .class_ 3)] 3

/-- java/io/Serializable -/
def k4 : Class := { plain "java/io/Serializable" (some 0) with
  accessFlags := 1537
  interfaces := #[]
  cf := some (fileOf pool4 2 #[] #[] 1537 4 #[] #[])
  fields := #[]
  methods := #[]
  instanceTypes := #[]
  staticTypes := #[]
  resolved := Array.replicate 8 none
  statics := none }

/-- the primitive byte -/
def k5 : Class := { plain "byte" none with kind := .primitive 'B', accessFlags := 0x411 }
/-- [B -/
def k6 : Class := { plain "[B" (some 0) with kind := .array 5 .byte, interfaces := #[3, 4], accessFlags := 1041 }

/-- the primitive int -/
def k7 : Class := { plain "int" none with kind := .primitive 'I', accessFlags := 0x411 }
/-- [I -/
def k8 : Class := { plain "[I" (some 0) with kind := .array 7 .int, interfaces := #[3, 4], accessFlags := 1041 }

def heap : Heap := #[{ cls := 2, slots := #[.null, .null, .null, .null, .ref 1, .null, .int 0, .int 0, .null, .int 0, .int 0, .int 0, .int 0, .null, .null, .long 0, .int 0, .int 0, .int 0, .int 0, .int 0, .int 0, .int 0, .int 0, .int 0, .int 0, .int 0, .int 0, .int 0, .int 0, .long 0, .long 0, .long 0, .long 0, .long 0, .long 0, .int 0], vm := .statics 2 },
  { cls := 8, slots := #[.int 0, .int 127, .int 31, .int 15, .int 7], vm := .none }]
def classes : Array Class := #[k0, k1, k2, k3, k4, k5, k6, k7, k8]
def interned : List (Array UInt16 × Addr) := []
def slotsUsed : Nat := 42
def theMethod : MethodId := ⟨1, 1⟩
def args0 : Array Value := #[.int 1, .int 2, .int 3, .long 5]
def aboutOver (below : List Frame) : State where
  vm := { classes := classes, interned := interned.toArray }
  heap := heap
  slotsUsed := slotsUsed
  threads := #[{ frames := .invoking theMethod args0 :: below }]
def below0 : List Frame := [.native { method := ⟨0, 0⟩, args := #[] }]
def about1 : State := aboutOver below0
def p0 : Program := .bare "" "" ""
def e0 : Env := launch0.env 0 0 0
theorem w_frames : about1.frames = Frame.invoking theMethod args0 :: below0 := rfl
set_option maxRecDepth 65536 in
theorem w_args : argsFit about1.vm theMethod args0 = true := by decide +kernel
set_option maxRecDepth 65536 in
theorem w_heap : heapFits about1 = true := by decide +kernel
set_option maxRecDepth 65536 in
theorem w_runnable : about1.curStatus? = some .runnable := by decide +kernel
set_option maxRecDepth 65536 in
theorem w_alone : about1.alone = true := by decide +kernel
set_option maxRecDepth 65536 in
theorem w_named : about1.methodNamed? x = some theMethod := by decide +kernel
set_option maxRecDepth 65536 in
theorem w_hears : about1.hears theMethod below0 = true := by decide +kernel
set_option maxRecDepth 65536 in
theorem w_ripe : about1.ripe theMethod args0 below0 = true := by decide +kernel
theorem w_running : about1.status = .running := rfl
set_option maxRecDepth 65536 in
theorem w_room : about1.hasRoom e0.platform room_1 = true :=
  launch0.hasRoom_least _ room_1 (by decide +kernel) (by decide +kernel) (by decide +kernel) (by decide +kernel) (by decide +kernel) (by decide +kernel)
theorem allAtoms_all (ts : List Jvm.Cond) (a : Array Jvm.Value) (st : Jvm.State) : (allAtoms ts).before a st = ts.all (fun c => c.before a st) := by
  induction ts with
  | nil => rfl
  | cons c t ih =>
    show (Jvm.Cond.and c (allAtoms t)).before a st = _
    rw [Jvm.Cond.before_and, ih, List.all_cons]
def words1 : List Jvm.Cond := Jvm.Cond.code x code maxLocals ret :: tables_1
/-- a 'code' word, met by the world's own term for the bytes: nothing is compared byte by byte -/
theorem code_word {y : MethodName} {bytes : ByteArray} {mx : Nat} {rt : Option FieldType} {a : Array Value} {s : State} {m : MethodId} {meth : Method} {c : Code} (h1 : s.methodNamed? y = some m) (h2 : s.vm.method? m = some meth) (h3 : meth.code = some c) (h4 : c.code = bytes)
    (h5 : (c.maxLocals == mx && c.exceptionTable.isEmpty && decide (c.maxStack ≤ mostOperands) && decide (meth.sig.returnType = rt) && !meth.locks && decide (parseMethodDescriptor y.desc = some meth.sig)) = true) : (Jvm.Cond.code y bytes mx rt).before a s = true := by
  simp only [Bool.and_eq_true, beq_iff_eq, Bool.not_eq_true', decide_eq_true_eq] at h5
  obtain ⟨⟨⟨⟨⟨g1, g2⟩, g3⟩, g4⟩, g5⟩, g6⟩ := h5
  simp [Cond.before, Cond.holds, Cond.value, h1, h2, h3, h4, g1, g2, g3, g4, g5, g6]
def isCode : Jvm.Cond → Bool
  | .code _ _ _ _ => true
  | _ => false
theorem all_split {L : List Jvm.Cond} {P : Jvm.Cond → Bool} (h1 : L.all (fun c => isCode c || P c) = true) (h2 : ∀ c ∈ L.filter isCode, P c = true) : L.all P = true := by
  refine List.all_eq_true.mpr fun c hc => ?_
  have h := List.all_eq_true.mp h1 c hc
  rcases Bool.eq_false_or_eq_true (isCode c) with hi | hi
  · exact h2 c (List.mem_filter.mpr ⟨hc, hi⟩)
  · simpa [hi] using h
set_option maxRecDepth 65536 in
theorem w_c0 : (Jvm.Cond.code x code maxLocals ret).before args0 about1 = true := code_word (m := ⟨1, 1⟩) (meth := k1m1) (c := k1c1) (by decide +kernel) rfl rfl rfl (by decide +kernel)
set_option maxRecDepth 65536 in
theorem w_c1 : (Jvm.Cond.code ({ cls := "com/example/strict_codec/strictcodec/Utf8Grammar", name := "scalarValue", desc := "([BII)I" } : Jvm.MethodName) prog_19_method_14_code (5 : Nat) (Option.some Jvm.ClassFile.FieldType.int)).before args0 about1 = true := code_word (m := ⟨2, 1⟩) (meth := k2m1) (c := k2c1) (by decide +kernel) rfl rfl rfl (by decide +kernel)
def codes1 : List Jvm.Cond := [Jvm.Cond.code x code maxLocals ret, Jvm.Cond.code ({ cls := "com/example/strict_codec/strictcodec/Utf8Grammar", name := "scalarValue", desc := "([BII)I" } : Jvm.MethodName) prog_19_method_14_code (5 : Nat) (Option.some Jvm.ClassFile.FieldType.int)]
set_option maxRecDepth 65536 in
theorem codes_eq : words1.filter isCode = codes1 := rfl
theorem w_codes : ∀ c ∈ words1.filter isCode, c.before args0 about1 = true := by
  rw [codes_eq]
  intro c hc
  simp only [codes1, List.mem_cons, List.not_mem_nil, or_false] at hc
  rcases hc with rfl | rfl
  · exact w_c0
  · exact w_c1
set_option maxRecDepth 65536 in
theorem w_t1 : words1.all (fun c => isCode c || c.before args0 about1) = true := by decide +kernel
theorem w_tables : (allAtoms (Jvm.Cond.code x code maxLocals ret :: tables_1)).before args0 about1 = true := by
  rw [allAtoms_all]
  show words1.all (fun c => c.before args0 about1) = true
  refine all_split ?_ w_codes
  rw [w_t1]
set_option maxRecDepth 65536 in
theorem w_case : (Jvm.Cond.and given_1 narrow_1).before args0 about1 = true := by decide +kernel
theorem w_applies : (headSpec (Jvm.Cond.code x code maxLocals ret :: tables_1) room_1).applies x e0.platform about1 = true :=
  (Spec.applies_iff w_frames).mpr ⟨w_running, w_runnable, w_alone, w_named, w_hears, w_ripe, w_room, w_tables⟩
theorem atStart : AtStart classFile x code maxLocals ret World_1 tables_1 room_1 Calls_1 rest_1 Pre_1 launch0 p0 e0 about1 theMethod args0 below0 :=
  ⟨lists_1, trivial, launch0.admits_env _ _ _, launch0.least_env, fairChoices_fair.cas, fairChoices_fair.clock, w_frames, w_args, w_heap, w_applies, trivial, trivial, w_case⟩
end start1
theorem witness_1 : WitnessClaimed_1 := ⟨start1.p0, start1.e0, start1.about1, start1.theMethod, start1.args0, start1.below0, start1.atStart⟩
end Jvm.Pilot.@@N@@
