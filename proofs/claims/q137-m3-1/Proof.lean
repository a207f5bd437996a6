import JvmDerived
import JvmDerived.Pilot.@@N@@Statement
import JvmDerived.Pilot.@@N@@Code
set_option linter.unusedVariables false
set_option linter.unusedSimpArgs false
namespace Jvm.Pilot.@@N@@
open Jvm Jvm.ClassFile Sem Op Lib Jvm.Free Jvm.Stand Jvm.LawKit Jvm.RoadKit Bundle Jvm.Pilot.@@N@@.Jvm.D
/-- the run stands at T' as it stood at T: the heap is the same -/
def Nx {p : Program} {l : Launch} {e : Env} {R : Room} {s : State} {m : MethodId} {args : Array Value} {below : List Frame} {meth : Method} {c : Code} {T : State} {locs : List Loc} {cells slots : Nat} (X : Stand p l e R s m args below meth c T locs cells slots) (T' : State) : Prop := Stand p l e R s m args below meth c T' locs cells slots ∧ T'.heap = T.heap
theorem lq_eq {x y : Int64} (h : x = y) : lcmpW x y = 0 := (lcW x y).trans ((lc_eq x y).mpr h)
theorem lq_ne {x y : Int64} (h : ¬ x = y) : ¬ lcmpW x y = 0 := fun q => h ((lc_eq x y).mp ((lcW x y).symm.trans q))
theorem lq_lt {x y : Int64} (h : x < y) : lcmpW x y < 0 := by rw [lcW]; exact (lc_lt x y).mpr h
theorem lq_nlt {x y : Int64} (h : ¬ x < y) : ¬ lcmpW x y < 0 := by rw [lcW]; exact fun q => h ((lc_lt x y).mp q)
theorem lq_gt {x y : Int64} (h : y < x) : 0 < lcmpW x y := by rw [lcW]; exact (lc_gt x y).mpr h
theorem lq_ngt {x y : Int64} (h : ¬ y < x) : ¬ 0 < lcmpW x y := by rw [lcW]; exact fun q => h ((lc_gt x y).mp q)
theorem own_eqI {args : Array Value} {first s : State} {o : Option Outcome} {idx : List Nat} {t : Term} {k : Int32} (h : (Jvm.Cond.eq t (.int k)).value args first o s idx = some true) : t.eval args first o idx s = some (.int k) := by
  simp only [Cond.value, Term.eval] at h
  cases ht : t.eval args first o idx s with
  | none => simp [ht] at h
  | some x => cases x <;> simp [ht] at h ⊢; exact h
theorem own_eqL {args : Array Value} {first s : State} {o : Option Outcome} {idx : List Nat} {t : Term} {k : Int64} (h : (Jvm.Cond.eq t (.long k)).value args first o s idx = some true) : t.eval args first o idx s = some (.long k) := by
  simp only [Cond.value, Term.eval] at h
  cases ht : t.eval args first o idx s with
  | none => simp [ht] at h
  | some x => cases x <;> simp [ht] at h ⊢; exact h
abbrev jv (x : Int64) : Slot := .val (.long x)
theorem y_iloadN {tb : Tables} [Ours tb] {e : Env} {below : List Frame} {T target : State} {m : MethodId} {c : Code} (h : At T m c below) (hx : tb.exec = Jvm.exec) {pc pc' : Nat} {L : Array Slot} {S : List Value} {k : Fin 4} {v : Int32} (hd : decode c.code pc = .ok (.iload_n k, 1)) (hl : L[k.val]? = some (.val (.int v))) (hp : pc + 1 = pc') (hr : Steps tb e below (T.setTop (mkF m pc' L (.int v :: S))) target) : Steps tb e below (T.setTop (mkF m pc L S)) target := by subst hp; exact XS.iloadN h hx rfl hd hl hr
theorem y_lloadN {tb : Tables} [Ours tb] {e : Env} {below : List Frame} {T target : State} {m : MethodId} {c : Code} (h : At T m c below) (hx : tb.exec = Jvm.exec) {pc pc' : Nat} {L : Array Slot} {S : List Value} {k : Fin 4} {v : Int64} (hd : decode c.code pc = .ok (.lload_n k, 1)) (hl : L[k.val]? = some (.val (.long v))) (hp : pc + 1 = pc') (hr : Steps tb e below (T.setTop (mkF m pc' L (.long v :: S))) target) : Steps tb e below (T.setTop (mkF m pc L S)) target := by subst hp; exact XS.lloadN h hx rfl hd hl hr
theorem y_aloadN {tb : Tables} [Ours tb] {e : Env} {below : List Frame} {T target : State} {m : MethodId} {c : Code} (h : At T m c below) (hx : tb.exec = Jvm.exec) {pc pc' : Nat} {L : Array Slot} {S : List Value} {k : Fin 4} {v : Value} (hd : decode c.code pc = .ok (.aload_n k, 1)) (hl : L[k.val]? = some (.val v)) (hv : v.isRef = true) (hp : pc + 1 = pc') (hr : Steps tb e below (T.setTop (mkF m pc' L (v :: S))) target) : Steps tb e below (T.setTop (mkF m pc L S)) target := by subst hp; exact XS.aloadN h hx rfl hd hl hv hr
theorem y_istoreN {tb : Tables} [Ours tb] {e : Env} {below : List Frame} {T target : State} {m : MethodId} {c : Code} (h : At T m c below) (hx : tb.exec = Jvm.exec) {pc pc' : Nat} {L : Array Slot} {S : List Value} {k : Fin 4} {v : Int32} {l' : Array Slot} (hd : decode c.code pc = .ok (.istore_n k, 1)) (hl : storeLocals L k.val (.int v) = some l') (hp : pc + 1 = pc') (hr : Steps tb e below (T.setTop (mkF m pc' l' S)) target) : Steps tb e below (T.setTop (mkF m pc L (.int v :: S))) target := by subst hp; exact XS.istoreN h hx rfl hd rfl hl hr
theorem y_lstoreN {tb : Tables} [Ours tb] {e : Env} {below : List Frame} {T target : State} {m : MethodId} {c : Code} (h : At T m c below) (hx : tb.exec = Jvm.exec) {pc pc' : Nat} {L : Array Slot} {S : List Value} {k : Fin 4} {v : Int64} {l' : Array Slot} (hd : decode c.code pc = .ok (.lstore_n k, 1)) (hl : storeLocals L k.val (.long v) = some l') (hp : pc + 1 = pc') (hr : Steps tb e below (T.setTop (mkF m pc' l' S)) target) : Steps tb e below (T.setTop (mkF m pc L (.long v :: S))) target := by subst hp; exact XS.lstoreN h hx rfl hd rfl hl hr
theorem y_astoreN {tb : Tables} [Ours tb] {e : Env} {below : List Frame} {T target : State} {m : MethodId} {c : Code} (h : At T m c below) (hx : tb.exec = Jvm.exec) {pc pc' : Nat} {L : Array Slot} {S : List Value} {k : Fin 4} {v : Value} {l' : Array Slot} (hd : decode c.code pc = .ok (.astore_n k, 1)) (hv : v.isRef = true) (hl : storeLocals L k.val v = some l') (hp : pc + 1 = pc') (hr : Steps tb e below (T.setTop (mkF m pc' l' S)) target) : Steps tb e below (T.setTop (mkF m pc L (v :: S))) target := by subst hp; exact XS.astoreN h hx rfl hd rfl hv hl hr
theorem y_iload {tb : Tables} [Ours tb] {e : Env} {below : List Frame} {T target : State} {m : MethodId} {c : Code} (h : At T m c below) (hx : tb.exec = Jvm.exec) {pc pc' : Nat} {L : Array Slot} {S : List Value} {k : Nat} {v : Int32} (hd : decode c.code pc = .ok (.iload k, 2)) (hl : L[k]? = some (.val (.int v))) (hp : pc + 2 = pc') (hr : Steps tb e below (T.setTop (mkF m pc' L (.int v :: S))) target) : Steps tb e below (T.setTop (mkF m pc L S)) target := by subst hp; exact XS.iload h hx rfl hd hl hr
theorem y_lload {tb : Tables} [Ours tb] {e : Env} {below : List Frame} {T target : State} {m : MethodId} {c : Code} (h : At T m c below) (hx : tb.exec = Jvm.exec) {pc pc' : Nat} {L : Array Slot} {S : List Value} {k : Nat} {v : Int64} (hd : decode c.code pc = .ok (.lload k, 2)) (hl : L[k]? = some (.val (.long v))) (hp : pc + 2 = pc') (hr : Steps tb e below (T.setTop (mkF m pc' L (.long v :: S))) target) : Steps tb e below (T.setTop (mkF m pc L S)) target := by subst hp; exact XS.lload h hx rfl hd hl hr
theorem y_aload {tb : Tables} [Ours tb] {e : Env} {below : List Frame} {T target : State} {m : MethodId} {c : Code} (h : At T m c below) (hx : tb.exec = Jvm.exec) {pc pc' : Nat} {L : Array Slot} {S : List Value} {k : Nat} {v : Value} (hd : decode c.code pc = .ok (.aload k, 2)) (hl : L[k]? = some (.val v)) (hv : v.isRef = true) (hp : pc + 2 = pc') (hr : Steps tb e below (T.setTop (mkF m pc' L (v :: S))) target) : Steps tb e below (T.setTop (mkF m pc L S)) target := by subst hp; exact XS.aload h hx rfl hd hl hv hr
theorem y_istore {tb : Tables} [Ours tb] {e : Env} {below : List Frame} {T target : State} {m : MethodId} {c : Code} (h : At T m c below) (hx : tb.exec = Jvm.exec) {pc pc' : Nat} {L : Array Slot} {S : List Value} {k : Nat} {v : Int32} {l' : Array Slot} (hd : decode c.code pc = .ok (.istore k, 2)) (hl : storeLocals L k (.int v) = some l') (hp : pc + 2 = pc') (hr : Steps tb e below (T.setTop (mkF m pc' l' S)) target) : Steps tb e below (T.setTop (mkF m pc L (.int v :: S))) target := by subst hp; exact XS.istore h hx rfl hd rfl hl hr
theorem y_lstore {tb : Tables} [Ours tb] {e : Env} {below : List Frame} {T target : State} {m : MethodId} {c : Code} (h : At T m c below) (hx : tb.exec = Jvm.exec) {pc pc' : Nat} {L : Array Slot} {S : List Value} {k : Nat} {v : Int64} {l' : Array Slot} (hd : decode c.code pc = .ok (.lstore k, 2)) (hl : storeLocals L k (.long v) = some l') (hp : pc + 2 = pc') (hr : Steps tb e below (T.setTop (mkF m pc' l' S)) target) : Steps tb e below (T.setTop (mkF m pc L (.long v :: S))) target := by subst hp; exact XS.lstore h hx rfl hd rfl hl hr
theorem y_astore {tb : Tables} [Ours tb] {e : Env} {below : List Frame} {T target : State} {m : MethodId} {c : Code} (h : At T m c below) (hx : tb.exec = Jvm.exec) {pc pc' : Nat} {L : Array Slot} {S : List Value} {k : Nat} {v : Value} {l' : Array Slot} (hd : decode c.code pc = .ok (.astore k, 2)) (hv : v.isRef = true) (hl : storeLocals L k v = some l') (hp : pc + 2 = pc') (hr : Steps tb e below (T.setTop (mkF m pc' l' S)) target) : Steps tb e below (T.setTop (mkF m pc L (v :: S))) target := by subst hp; exact XS.astore h hx rfl hd rfl hv hl hr
theorem y_iconst {tb : Tables} [Ours tb] {e : Env} {below : List Frame} {T target : State} {m : MethodId} {c : Code} (h : At T m c below) (hx : tb.exec = Jvm.exec) {pc pc' : Nat} {L : Array Slot} {S : List Value} {i : Int} {v : Int32} (hd : decode c.code pc = .ok (.iconst i, 1)) (hv : Int32.ofInt i = v) (hp : pc + 1 = pc') (hr : Steps tb e below (T.setTop (mkF m pc' L (.int v :: S))) target) : Steps tb e below (T.setTop (mkF m pc L S)) target := by subst hp; exact XS.iconst h hx rfl hd (by rw [hv]; exact hr)
theorem y_bipush {tb : Tables} [Ours tb] {e : Env} {below : List Frame} {T target : State} {m : MethodId} {c : Code} (h : At T m c below) (hx : tb.exec = Jvm.exec) {pc pc' : Nat} {L : Array Slot} {S : List Value} {i : Int} {v : Int32} (hd : decode c.code pc = .ok (.bipush i, 2)) (hv : (Int8.ofInt i).toInt32 = v) (hp : pc + 2 = pc') (hr : Steps tb e below (T.setTop (mkF m pc' L (.int v :: S))) target) : Steps tb e below (T.setTop (mkF m pc L S)) target := by subst hp; exact XS.bipush h hx rfl hd (by rw [hv]; exact hr)
theorem y_sipush {tb : Tables} [Ours tb] {e : Env} {below : List Frame} {T target : State} {m : MethodId} {c : Code} (h : At T m c below) (hx : tb.exec = Jvm.exec) {pc pc' : Nat} {L : Array Slot} {S : List Value} {i : Int} {v : Int32} (hd : decode c.code pc = .ok (.sipush i, 3)) (hv : (Int16.ofInt i).toInt32 = v) (hp : pc + 3 = pc') (hr : Steps tb e below (T.setTop (mkF m pc' L (.int v :: S))) target) : Steps tb e below (T.setTop (mkF m pc L S)) target := by subst hp; exact XS.sipush h hx rfl hd (by rw [hv]; exact hr)
theorem y_lconst {tb : Tables} [Ours tb] {e : Env} {below : List Frame} {T target : State} {m : MethodId} {c : Code} (h : At T m c below) (hx : tb.exec = Jvm.exec) {pc pc' : Nat} {L : Array Slot} {S : List Value} {k : Fin 2} {v : Int64} (hd : decode c.code pc = .ok (.lconst k, 1)) (hv : Int64.ofNat k.val = v) (hp : pc + 1 = pc') (hr : Steps tb e below (T.setTop (mkF m pc' L (.long v :: S))) target) : Steps tb e below (T.setTop (mkF m pc L S)) target := by subst hp; exact XS.lconst h hx rfl hd (by first | exact hv ▸ hr | (rw [hv]; exact hr) | (subst hv; exact hr))
theorem y_aconstNull {tb : Tables} [Ours tb] {e : Env} {below : List Frame} {T target : State} {m : MethodId} {c : Code} (h : At T m c below) (hx : tb.exec = Jvm.exec) {pc pc' : Nat} {L : Array Slot} {S : List Value} (hd : decode c.code pc = .ok (.aconst_null, 1)) (hp : pc + 1 = pc') (hr : Steps tb e below (T.setTop (mkF m pc' L (.null :: S))) target) : Steps tb e below (T.setTop (mkF m pc L S)) target := by subst hp; exact XS.aconstNull h hx rfl hd hr
theorem y_iadd {tb : Tables} [Ours tb] {e : Env} {below : List Frame} {T target : State} {m : MethodId} {c : Code} (h : At T m c below) (hx : tb.exec = Jvm.exec) {pc pc' : Nat} {L : Array Slot} {S : List Value} {x y z : Int32} (hd : decode c.code pc = .ok (.iadd, 1)) (hz : x + y = z) (hp : pc + 1 = pc') (hr : Steps tb e below (T.setTop (mkF m pc' L (.int z :: S))) target) : Steps tb e below (T.setTop (mkF m pc L (.int y :: .int x :: S))) target := by subst hp; exact XS.iadd h hx rfl hd rfl (by rw [hz]; exact hr)
theorem y_isub {tb : Tables} [Ours tb] {e : Env} {below : List Frame} {T target : State} {m : MethodId} {c : Code} (h : At T m c below) (hx : tb.exec = Jvm.exec) {pc pc' : Nat} {L : Array Slot} {S : List Value} {x y z : Int32} (hd : decode c.code pc = .ok (.isub, 1)) (hz : x - y = z) (hp : pc + 1 = pc') (hr : Steps tb e below (T.setTop (mkF m pc' L (.int z :: S))) target) : Steps tb e below (T.setTop (mkF m pc L (.int y :: .int x :: S))) target := by subst hp; exact XS.isub h hx rfl hd rfl (by rw [hz]; exact hr)
theorem y_imul {tb : Tables} [Ours tb] {e : Env} {below : List Frame} {T target : State} {m : MethodId} {c : Code} (h : At T m c below) (hx : tb.exec = Jvm.exec) {pc pc' : Nat} {L : Array Slot} {S : List Value} {x y z : Int32} (hd : decode c.code pc = .ok (.imul, 1)) (hz : x * y = z) (hp : pc + 1 = pc') (hr : Steps tb e below (T.setTop (mkF m pc' L (.int z :: S))) target) : Steps tb e below (T.setTop (mkF m pc L (.int y :: .int x :: S))) target := by subst hp; exact XS.imul h hx rfl hd rfl (by rw [hz]; exact hr)
theorem y_iand {tb : Tables} [Ours tb] {e : Env} {below : List Frame} {T target : State} {m : MethodId} {c : Code} (h : At T m c below) (hx : tb.exec = Jvm.exec) {pc pc' : Nat} {L : Array Slot} {S : List Value} {x y z : Int32} (hd : decode c.code pc = .ok (.iand, 1)) (hz : x &&& y = z) (hp : pc + 1 = pc') (hr : Steps tb e below (T.setTop (mkF m pc' L (.int z :: S))) target) : Steps tb e below (T.setTop (mkF m pc L (.int y :: .int x :: S))) target := by subst hp; exact XS.iand h hx rfl hd rfl (by rw [hz]; exact hr)
theorem y_ior {tb : Tables} [Ours tb] {e : Env} {below : List Frame} {T target : State} {m : MethodId} {c : Code} (h : At T m c below) (hx : tb.exec = Jvm.exec) {pc pc' : Nat} {L : Array Slot} {S : List Value} {x y z : Int32} (hd : decode c.code pc = .ok (.ior, 1)) (hz : x ||| y = z) (hp : pc + 1 = pc') (hr : Steps tb e below (T.setTop (mkF m pc' L (.int z :: S))) target) : Steps tb e below (T.setTop (mkF m pc L (.int y :: .int x :: S))) target := by subst hp; exact XS.ior h hx rfl hd rfl (by rw [hz]; exact hr)
theorem y_ixor {tb : Tables} [Ours tb] {e : Env} {below : List Frame} {T target : State} {m : MethodId} {c : Code} (h : At T m c below) (hx : tb.exec = Jvm.exec) {pc pc' : Nat} {L : Array Slot} {S : List Value} {x y z : Int32} (hd : decode c.code pc = .ok (.ixor, 1)) (hz : x ^^^ y = z) (hp : pc + 1 = pc') (hr : Steps tb e below (T.setTop (mkF m pc' L (.int z :: S))) target) : Steps tb e below (T.setTop (mkF m pc L (.int y :: .int x :: S))) target := by subst hp; exact XS.ixor h hx rfl hd rfl (by rw [hz]; exact hr)
theorem y_ladd {tb : Tables} [Ours tb] {e : Env} {below : List Frame} {T target : State} {m : MethodId} {c : Code} (h : At T m c below) (hx : tb.exec = Jvm.exec) {pc pc' : Nat} {L : Array Slot} {S : List Value} {x y z : Int64} (hd : decode c.code pc = .ok (.ladd, 1)) (hz : x + y = z) (hp : pc + 1 = pc') (hr : Steps tb e below (T.setTop (mkF m pc' L (.long z :: S))) target) : Steps tb e below (T.setTop (mkF m pc L (.long y :: .long x :: S))) target := by subst hp; exact XS.ladd h hx rfl hd rfl (by rw [hz]; exact hr)
theorem y_lsub {tb : Tables} [Ours tb] {e : Env} {below : List Frame} {T target : State} {m : MethodId} {c : Code} (h : At T m c below) (hx : tb.exec = Jvm.exec) {pc pc' : Nat} {L : Array Slot} {S : List Value} {x y z : Int64} (hd : decode c.code pc = .ok (.lsub, 1)) (hz : x - y = z) (hp : pc + 1 = pc') (hr : Steps tb e below (T.setTop (mkF m pc' L (.long z :: S))) target) : Steps tb e below (T.setTop (mkF m pc L (.long y :: .long x :: S))) target := by subst hp; exact XS.lsub h hx rfl hd rfl (by rw [hz]; exact hr)
theorem y_lmul {tb : Tables} [Ours tb] {e : Env} {below : List Frame} {T target : State} {m : MethodId} {c : Code} (h : At T m c below) (hx : tb.exec = Jvm.exec) {pc pc' : Nat} {L : Array Slot} {S : List Value} {x y z : Int64} (hd : decode c.code pc = .ok (.lmul, 1)) (hz : x * y = z) (hp : pc + 1 = pc') (hr : Steps tb e below (T.setTop (mkF m pc' L (.long z :: S))) target) : Steps tb e below (T.setTop (mkF m pc L (.long y :: .long x :: S))) target := by subst hp; exact XS.lmul h hx rfl hd rfl (by rw [hz]; exact hr)
theorem y_land {tb : Tables} [Ours tb] {e : Env} {below : List Frame} {T target : State} {m : MethodId} {c : Code} (h : At T m c below) (hx : tb.exec = Jvm.exec) {pc pc' : Nat} {L : Array Slot} {S : List Value} {x y z : Int64} (hd : decode c.code pc = .ok (.land, 1)) (hz : x &&& y = z) (hp : pc + 1 = pc') (hr : Steps tb e below (T.setTop (mkF m pc' L (.long z :: S))) target) : Steps tb e below (T.setTop (mkF m pc L (.long y :: .long x :: S))) target := by subst hp; exact XS.land h hx rfl hd rfl (by rw [hz]; exact hr)
theorem y_lor {tb : Tables} [Ours tb] {e : Env} {below : List Frame} {T target : State} {m : MethodId} {c : Code} (h : At T m c below) (hx : tb.exec = Jvm.exec) {pc pc' : Nat} {L : Array Slot} {S : List Value} {x y z : Int64} (hd : decode c.code pc = .ok (.lor, 1)) (hz : x ||| y = z) (hp : pc + 1 = pc') (hr : Steps tb e below (T.setTop (mkF m pc' L (.long z :: S))) target) : Steps tb e below (T.setTop (mkF m pc L (.long y :: .long x :: S))) target := by subst hp; exact XS.lor h hx rfl hd rfl (by rw [hz]; exact hr)
theorem y_lxor {tb : Tables} [Ours tb] {e : Env} {below : List Frame} {T target : State} {m : MethodId} {c : Code} (h : At T m c below) (hx : tb.exec = Jvm.exec) {pc pc' : Nat} {L : Array Slot} {S : List Value} {x y z : Int64} (hd : decode c.code pc = .ok (.lxor, 1)) (hz : x ^^^ y = z) (hp : pc + 1 = pc') (hr : Steps tb e below (T.setTop (mkF m pc' L (.long z :: S))) target) : Steps tb e below (T.setTop (mkF m pc L (.long y :: .long x :: S))) target := by subst hp; exact XS.lxor h hx rfl hd rfl (by rw [hz]; exact hr)
theorem y_ineg {tb : Tables} [Ours tb] {e : Env} {below : List Frame} {T target : State} {m : MethodId} {c : Code} (h : At T m c below) (hx : tb.exec = Jvm.exec) {pc pc' : Nat} {L : Array Slot} {S : List Value} {x : Int32} {z : Int32} (hd : decode c.code pc = .ok (.ineg, 1)) (hz : -x = z) (hp : pc + 1 = pc') (hr : Steps tb e below (T.setTop (mkF m pc' L (.int z :: S))) target) : Steps tb e below (T.setTop (mkF m pc L (.int x :: S))) target := by subst hp; exact XS.ineg h hx rfl hd rfl (by subst hz; exact hr)
theorem y_lneg {tb : Tables} [Ours tb] {e : Env} {below : List Frame} {T target : State} {m : MethodId} {c : Code} (h : At T m c below) (hx : tb.exec = Jvm.exec) {pc pc' : Nat} {L : Array Slot} {S : List Value} {x : Int64} {z : Int64} (hd : decode c.code pc = .ok (.lneg, 1)) (hz : -x = z) (hp : pc + 1 = pc') (hr : Steps tb e below (T.setTop (mkF m pc' L (.long z :: S))) target) : Steps tb e below (T.setTop (mkF m pc L (.long x :: S))) target := by subst hp; exact XS.lneg h hx rfl hd rfl (by subst hz; exact hr)
theorem y_i2l {tb : Tables} [Ours tb] {e : Env} {below : List Frame} {T target : State} {m : MethodId} {c : Code} (h : At T m c below) (hx : tb.exec = Jvm.exec) {pc pc' : Nat} {L : Array Slot} {S : List Value} {x : Int32} {z : Int64} (hd : decode c.code pc = .ok (.i2l, 1)) (hz : x.toInt64 = z) (hp : pc + 1 = pc') (hr : Steps tb e below (T.setTop (mkF m pc' L (.long z :: S))) target) : Steps tb e below (T.setTop (mkF m pc L (.int x :: S))) target := by subst hp; exact XS.i2l h hx rfl hd rfl (by subst hz; exact hr)
theorem y_l2i {tb : Tables} [Ours tb] {e : Env} {below : List Frame} {T target : State} {m : MethodId} {c : Code} (h : At T m c below) (hx : tb.exec = Jvm.exec) {pc pc' : Nat} {L : Array Slot} {S : List Value} {x : Int64} {z : Int32} (hd : decode c.code pc = .ok (.l2i, 1)) (hz : x.toInt32 = z) (hp : pc + 1 = pc') (hr : Steps tb e below (T.setTop (mkF m pc' L (.int z :: S))) target) : Steps tb e below (T.setTop (mkF m pc L (.long x :: S))) target := by subst hp; exact XS.l2i h hx rfl hd rfl (by subst hz; exact hr)
theorem y_i2b {tb : Tables} [Ours tb] {e : Env} {below : List Frame} {T target : State} {m : MethodId} {c : Code} (h : At T m c below) (hx : tb.exec = Jvm.exec) {pc pc' : Nat} {L : Array Slot} {S : List Value} {x : Int32} {z : Int32} (hd : decode c.code pc = .ok (.i2b, 1)) (hz : x.toInt8.toInt32 = z) (hp : pc + 1 = pc') (hr : Steps tb e below (T.setTop (mkF m pc' L (.int z :: S))) target) : Steps tb e below (T.setTop (mkF m pc L (.int x :: S))) target := by subst hp; exact XS.i2b h hx rfl hd rfl (by subst hz; exact hr)
theorem y_i2s {tb : Tables} [Ours tb] {e : Env} {below : List Frame} {T target : State} {m : MethodId} {c : Code} (h : At T m c below) (hx : tb.exec = Jvm.exec) {pc pc' : Nat} {L : Array Slot} {S : List Value} {x : Int32} {z : Int32} (hd : decode c.code pc = .ok (.i2s, 1)) (hz : x.toInt16.toInt32 = z) (hp : pc + 1 = pc') (hr : Steps tb e below (T.setTop (mkF m pc' L (.int z :: S))) target) : Steps tb e below (T.setTop (mkF m pc L (.int x :: S))) target := by subst hp; exact XS.i2s h hx rfl hd rfl (by subst hz; exact hr)
theorem y_i2c {tb : Tables} [Ours tb] {e : Env} {below : List Frame} {T target : State} {m : MethodId} {c : Code} (h : At T m c below) (hx : tb.exec = Jvm.exec) {pc pc' : Nat} {L : Array Slot} {S : List Value} {x : Int32} {z : Int32} (hd : decode c.code pc = .ok (.i2c, 1)) (hz : x.toUInt32.toUInt16.toUInt32.toInt32 = z) (hp : pc + 1 = pc') (hr : Steps tb e below (T.setTop (mkF m pc' L (.int z :: S))) target) : Steps tb e below (T.setTop (mkF m pc L (.int x :: S))) target := by subst hp; exact XS.i2c h hx rfl hd rfl (by subst hz; exact hr)
theorem y_ishl {tb : Tables} [Ours tb] {e : Env} {below : List Frame} {T target : State} {m : MethodId} {c : Code} (h : At T m c below) (hx : tb.exec = Jvm.exec) {pc pc' : Nat} {L : Array Slot} {S : List Value} {x z : Int32} {y : Int32} (hd : decode c.code pc = .ok (.ishl, 1)) (hz : (x <<< (y &&& 31)) = z) (hp : pc + 1 = pc') (hr : Steps tb e below (T.setTop (mkF m pc' L (.int z :: S))) target) : Steps tb e below (T.setTop (mkF m pc L (.int y :: .int x :: S))) target := by subst hp; exact XS.ishl h hx rfl hd rfl (by subst hz; exact hr)
theorem y_ishr {tb : Tables} [Ours tb] {e : Env} {below : List Frame} {T target : State} {m : MethodId} {c : Code} (h : At T m c below) (hx : tb.exec = Jvm.exec) {pc pc' : Nat} {L : Array Slot} {S : List Value} {x z : Int32} {y : Int32} (hd : decode c.code pc = .ok (.ishr, 1)) (hz : (x >>> (y &&& 31)) = z) (hp : pc + 1 = pc') (hr : Steps tb e below (T.setTop (mkF m pc' L (.int z :: S))) target) : Steps tb e below (T.setTop (mkF m pc L (.int y :: .int x :: S))) target := by subst hp; exact XS.ishr h hx rfl hd rfl (by subst hz; exact hr)
theorem y_iushr {tb : Tables} [Ours tb] {e : Env} {below : List Frame} {T target : State} {m : MethodId} {c : Code} (h : At T m c below) (hx : tb.exec = Jvm.exec) {pc pc' : Nat} {L : Array Slot} {S : List Value} {x z : Int32} {y : Int32} (hd : decode c.code pc = .ok (.iushr, 1)) (hz : ((x.toUInt32 >>> (y &&& 31).toUInt32).toInt32) = z) (hp : pc + 1 = pc') (hr : Steps tb e below (T.setTop (mkF m pc' L (.int z :: S))) target) : Steps tb e below (T.setTop (mkF m pc L (.int y :: .int x :: S))) target := by subst hp; exact XS.iushr h hx rfl hd rfl (by subst hz; exact hr)
theorem y_lshl {tb : Tables} [Ours tb] {e : Env} {below : List Frame} {T target : State} {m : MethodId} {c : Code} (h : At T m c below) (hx : tb.exec = Jvm.exec) {pc pc' : Nat} {L : Array Slot} {S : List Value} {x z : Int64} {y : Int32} (hd : decode c.code pc = .ok (.lshl, 1)) (hz : (x <<< (y &&& 0x3f).toInt64) = z) (hp : pc + 1 = pc') (hr : Steps tb e below (T.setTop (mkF m pc' L (.long z :: S))) target) : Steps tb e below (T.setTop (mkF m pc L (.int y :: .long x :: S))) target := by subst hp; exact XS.lshl h hx rfl hd rfl (by subst hz; exact hr)
theorem y_lshr {tb : Tables} [Ours tb] {e : Env} {below : List Frame} {T target : State} {m : MethodId} {c : Code} (h : At T m c below) (hx : tb.exec = Jvm.exec) {pc pc' : Nat} {L : Array Slot} {S : List Value} {x z : Int64} {y : Int32} (hd : decode c.code pc = .ok (.lshr, 1)) (hz : (x >>> (y &&& 0x3f).toInt64) = z) (hp : pc + 1 = pc') (hr : Steps tb e below (T.setTop (mkF m pc' L (.long z :: S))) target) : Steps tb e below (T.setTop (mkF m pc L (.int y :: .long x :: S))) target := by subst hp; exact XS.lshr h hx rfl hd rfl (by subst hz; exact hr)
theorem y_lushr {tb : Tables} [Ours tb] {e : Env} {below : List Frame} {T target : State} {m : MethodId} {c : Code} (h : At T m c below) (hx : tb.exec = Jvm.exec) {pc pc' : Nat} {L : Array Slot} {S : List Value} {x z : Int64} {y : Int32} (hd : decode c.code pc = .ok (.lushr, 1)) (hz : ((x.toUInt64 >>> (y &&& 0x3f).toInt64.toUInt64).toInt64) = z) (hp : pc + 1 = pc') (hr : Steps tb e below (T.setTop (mkF m pc' L (.long z :: S))) target) : Steps tb e below (T.setTop (mkF m pc L (.int y :: .long x :: S))) target := by subst hp; exact XS.lushr h hx rfl hd rfl (by subst hz; exact hr)
theorem y_lcmp {tb : Tables} [Ours tb] {e : Env} {below : List Frame} {T target : State} {m : MethodId} {c : Code} (h : At T m c below) (hx : tb.exec = Jvm.exec) {pc pc' : Nat} {L : Array Slot} {S : List Value} {x y : Int64} (hd : decode c.code pc = .ok (.lcmp, 1)) (hp : pc + 1 = pc') (hr : Steps tb e below (T.setTop (mkF m pc' L (.int (lcmpW x y) :: S))) target) : Steps tb e below (T.setTop (mkF m pc L (.long y :: .long x :: S))) target := by subst hp; exact XS.lcmp h hx rfl hd rfl hr
theorem y_iinc {tb : Tables} [Ours tb] {e : Env} {below : List Frame} {T target : State} {m : MethodId} {c : Code} (h : At T m c below) (hx : tb.exec = Jvm.exec) {pc pc' : Nat} {L : Array Slot} {S : List Value} {k : Nat} {cst : Int} {x : Int32} {l' : Array Slot} (hd : decode c.code pc = .ok (.iinc k cst, 3)) (hl : L[k]? = some (.val (.int x))) (hl' : storeLocals L k (.int (x + Int32.ofInt cst)) = some l') (hp : pc + 3 = pc') (hr : Steps tb e below (T.setTop (mkF m pc' l' S)) target) : Steps tb e below (T.setTop (mkF m pc L S)) target := by subst hp; exact XS.iinc h hx rfl hd hl hl' hr
theorem y_dup {tb : Tables} [Ours tb] {e : Env} {below : List Frame} {T target : State} {m : MethodId} {c : Code} (h : At T m c below) (hx : tb.exec = Jvm.exec) {pc pc' : Nat} {L : Array Slot} {S : List Value} {v : Value} (hd : decode c.code pc = .ok (.dup, 1)) (hc : v.category = 1) (hp : pc + 1 = pc') (hr : Steps tb e below (T.setTop (mkF m pc' L (v :: v :: S))) target) : Steps tb e below (T.setTop (mkF m pc L (v :: S))) target := by subst hp; exact XS.dup h hx rfl hd rfl hc hr
theorem y_goto {tb : Tables} [Ours tb] {e : Env} {below : List Frame} {T target : State} {m : MethodId} {c : Code} (h : At T m c below) (hx : tb.exec = Jvm.exec) {pc pc' : Nat} {L : Array Slot} {S : List Value} {o : Int} (hd : decode c.code pc = .ok (.goto o, 3)) (ho : 0 ≤ (pc : Int) + o) (hp : ((pc : Int) + o).toNat = pc') (hr : Steps tb e below (T.setTop (mkF m pc' L S)) target) : Steps tb e below (T.setTop (mkF m pc L S)) target := XS.goto h hx rfl rfl hd ho hp hr
theorem y_ifYes {tb : Tables} [Ours tb] {e : Env} {below : List Frame} {T target : State} {m : MethodId} {c : Code} (h : At T m c below) (hx : tb.exec = Jvm.exec) {pc pc' : Nat} {L : Array Slot} {S : List Value} {cd : ClassFile.Cond} {x : Int32} {o : Int} (hd : decode c.code pc = .ok (.ifCond cd o, 3)) (hc : ifCond.holds cd x = true) (ho : 0 ≤ (pc : Int) + o) (hp : ((pc : Int) + o).toNat = pc') (hr : Steps tb e below (T.setTop (mkF m pc' L S)) target) : Steps tb e below (T.setTop (mkF m pc L (.int x :: S))) target := XS.ifYes h hx rfl rfl hd rfl hc ho hp hr
theorem y_ifNo {tb : Tables} [Ours tb] {e : Env} {below : List Frame} {T target : State} {m : MethodId} {c : Code} (h : At T m c below) (hx : tb.exec = Jvm.exec) {pc pc' : Nat} {L : Array Slot} {S : List Value} {cd : ClassFile.Cond} {x : Int32} {o : Int} (hd : decode c.code pc = .ok (.ifCond cd o, 3)) (hc : ifCond.holds cd x = false) (hp : pc + 3 = pc') (hr : Steps tb e below (T.setTop (mkF m pc' L S)) target) : Steps tb e below (T.setTop (mkF m pc L (.int x :: S))) target := by subst hp; exact XS.ifNo h hx rfl hd rfl hc hr
theorem y_icmpYes {tb : Tables} [Ours tb] {e : Env} {below : List Frame} {T target : State} {m : MethodId} {c : Code} (h : At T m c below) (hx : tb.exec = Jvm.exec) {pc pc' : Nat} {L : Array Slot} {S : List Value} {cd : ClassFile.Cond} {x y : Int32} {o : Int} (hd : decode c.code pc = .ok (.if_icmp cd o, 3)) (hc : if_icmp.holds cd x y = true) (ho : 0 ≤ (pc : Int) + o) (hp : ((pc : Int) + o).toNat = pc') (hr : Steps tb e below (T.setTop (mkF m pc' L S)) target) : Steps tb e below (T.setTop (mkF m pc L (.int y :: .int x :: S))) target := XS.icmpYes h hx rfl rfl hd rfl hc ho hp hr
theorem y_icmpNo {tb : Tables} [Ours tb] {e : Env} {below : List Frame} {T target : State} {m : MethodId} {c : Code} (h : At T m c below) (hx : tb.exec = Jvm.exec) {pc pc' : Nat} {L : Array Slot} {S : List Value} {cd : ClassFile.Cond} {x y : Int32} {o : Int} (hd : decode c.code pc = .ok (.if_icmp cd o, 3)) (hc : if_icmp.holds cd x y = false) (hp : pc + 3 = pc') (hr : Steps tb e below (T.setTop (mkF m pc' L S)) target) : Steps tb e below (T.setTop (mkF m pc L (.int y :: .int x :: S))) target := by subst hp; exact XS.icmpNo h hx rfl hd rfl hc hr
theorem own_eqR {args : Array Value} {first s : State} {o : Option Outcome} {idx : List Nat} {a b : Term} {y : Addr} (h : (Jvm.Cond.eq a b).value args first o s idx = some true) (hb : b.eval args first o idx s = some (.ref y)) : a.eval args first o idx s = some (.ref y) := by
  obtain ⟨x, z, h1, h2, k1, k2⟩ := cmp_v (Or.inl h)
  cases hb.symm.trans h2
  have q := gotT (eq_R h1 h2 k2.2 k2.1) h
  rw [h1, q]
theorem own_len {args : Array Value} {first s : State} {o : Option Outcome} {idx : List Nat} {t : Term} {a : Addr} {c : Cell} {k : Int32} (ht : t.eval args first o idx s = some (.ref a)) (ha : s.arrayAt? a = some c) (h : (Term.length t).eval args first o idx s = some (.int k)) : c.slots.size < 2 ^ 31 ∧ c.slots.size.toInt32 = k := by
  simp [Term.eval, ht, ha] at h
  exact h
theorem own_sz {c : Cell} {z : Int32} (h : c.slots.size < 2 ^ 31 ∧ c.slots.size.toInt32 = z) : c.slots.size = z.toNatClampNeg := by
  rw [← h.2]; simp only [Int32.toNatClampNeg, len_toInt h.1]; rfl
theorem own_nar01 {x : Int32} (h : x = 0 ∨ x = 1) : nar .boolean x = x := by rcases h with rfl | rfl <;> rfl
theorem own_ite01 {c : Prop} [Decidable c] : (if c then (0 : Int32) else (1 : Int32)) = 0 ∨ (if c then (0 : Int32) else (1 : Int32)) = 1 := by split <;> simp
theorem own_narI {c : Prop} [Decidable c] : nar .boolean (if c then (1 : Int32) else (0 : Int32)) = (if c then (1 : Int32) else (0 : Int32)) := by split <;> rfl
theorem own_ne1 (a : Int32) : ¬ a = a + 1 := fun h => by
  have q := c_iadd a 1
  rw [← h] at q
  have e : (1 : Int32).toInt = 1 := rfl
  omega
theorem own_of {x k : Int32} (h : x.toInt = k.toInt) : x = k := Int32.toInt_inj.mp h
theorem own_and3 (k : Int32) : k &&& 3 = 0 ∨ k &&& 3 = 1 ∨ k &&& 3 = 2 ∨ k &&& 3 = 3 := by
  have q : (k &&& 3).toInt = k.toInt % 4 := c_mask k 3 2 (by decide) (by decide)
  generalize k &&& 3 = x at q ⊢
  have : x.toInt = 0 ∨ x.toInt = 1 ∨ x.toInt = 2 ∨ x.toInt = 3 := by omega
  rcases this with h | h | h | h
  · exact Or.inl (own_of h)
  · exact Or.inr (Or.inl (own_of h))
  · exact Or.inr (Or.inr (Or.inl (own_of h)))
  · exact Or.inr (Or.inr (Or.inr (own_of h)))
def tb_SEQUENCE_LENGTH (x : Int32) : Int32 := if x < (128 : Int32) then (1 : Int32) else if x < (194 : Int32) then (0 : Int32) else if x < (224 : Int32) then (2 : Int32) else if x < (240 : Int32) then (3 : Int32) else if x < (245 : Int32) then (4 : Int32) else (0 : Int32)
def tb_SECOND_LOW (x : Int32) : Int32 := if x < (194 : Int32) then (0 : Int32) else if x < (224 : Int32) then (128 : Int32) else if x < (225 : Int32) then (160 : Int32) else if x < (240 : Int32) then (128 : Int32) else if x < (241 : Int32) then (144 : Int32) else if x < (245 : Int32) then (128 : Int32) else (0 : Int32)
def tb_SECOND_HIGH (x : Int32) : Int32 := if x < (194 : Int32) then (0 : Int32) else if x < (237 : Int32) then (191 : Int32) else if x < (238 : Int32) then (159 : Int32) else if x < (244 : Int32) then (191 : Int32) else if x < (245 : Int32) then (143 : Int32) else (0 : Int32)
theorem own_b (y : Int32) : ¬ (y &&& (255 : Int32)) < 0 ∧ (y &&& (255 : Int32)) < (256 : Int32) := by
  have q : (y &&& (255 : Int32)).toInt = y.toInt % 256 := c_mask y 255 8 (by decide) (by decide)
  have e0 : (0 : Int32).toInt = 0 := rfl
  have e1 : (256 : Int32).toInt = 256 := rfl
  simp only [Int32.lt_iff_toInt_lt]; omega
theorem own_wq (x : Int32) : ¬ (4 : Int32) < tb_SEQUENCE_LENGTH x := by
  unfold tb_SEQUENCE_LENGTH
  repeat' split
  all_goals decide
theorem own_nle {a b : Int32} (h : b < a) : ¬ a ≤ b := by
  rw [Int32.le_iff_toInt_le]; rw [Int32.lt_iff_toInt_lt] at h; omega
theorem own_sq {j lo hi : Int32} (h1 : ¬ j < lo) (h2 : j < hi) (e : hi.toInt = lo.toInt + 1) : j = lo := by
  rw [Int32.lt_iff_toInt_lt] at h1 h2; exact own_of (by omega)
theorem own_tb_SEQUENCE_LENGTH (j x : Int32) (hj : ¬ j < 0) (hj2 : j < (256 : Int32)) (c0 : (128 : Int32) ≤ j ∨ x = (1 : Int32)) (c1 : j < (128 : Int32) ∨ ¬ j < (194 : Int32) ∨ x = (0 : Int32)) (c2 : j < (194 : Int32) ∨ ¬ j < (224 : Int32) ∨ x = (2 : Int32)) (c3 : j < (224 : Int32) ∨ ¬ j < (240 : Int32) ∨ x = (3 : Int32)) (c4 : j < (240 : Int32) ∨ ¬ j < (245 : Int32) ∨ x = (4 : Int32)) (c5 : j < (245 : Int32) ∨ x = (0 : Int32)) : x = tb_SEQUENCE_LENGTH j := by
  unfold tb_SEQUENCE_LENGTH
  by_cases h0 : j < (128 : Int32)
  · rw [if_pos h0]; exact c0.resolve_left (own_nle h0)
  rw [if_neg h0]
  by_cases h1 : j < (194 : Int32)
  · rw [if_pos h1]; exact (c1.resolve_left h0).resolve_left (fun q => q h1)
  rw [if_neg h1]
  by_cases h2 : j < (224 : Int32)
  · rw [if_pos h2]; exact (c2.resolve_left h1).resolve_left (fun q => q h2)
  rw [if_neg h2]
  by_cases h3 : j < (240 : Int32)
  · rw [if_pos h3]; exact (c3.resolve_left h2).resolve_left (fun q => q h3)
  rw [if_neg h3]
  by_cases h4 : j < (245 : Int32)
  · rw [if_pos h4]; exact (c4.resolve_left h3).resolve_left (fun q => q h4)
  rw [if_neg h4]
  exact c5.resolve_left h4
theorem own_tb_SECOND_LOW (j x : Int32) (hj : ¬ j < 0) (hj2 : j < (256 : Int32)) (c0 : (194 : Int32) ≤ j ∨ x = (0 : Int32)) (c1 : j < (194 : Int32) ∨ ¬ j < (224 : Int32) ∨ x = (128 : Int32)) (c2 : j = (224 : Int32) → x = (160 : Int32)) (c3 : j < (225 : Int32) ∨ ¬ j < (240 : Int32) ∨ x = (128 : Int32)) (c4 : j = (240 : Int32) → x = (144 : Int32)) (c5 : j < (241 : Int32) ∨ ¬ j < (245 : Int32) ∨ x = (128 : Int32)) (c6 : j < (245 : Int32) ∨ x = (0 : Int32)) : x = tb_SECOND_LOW j := by
  unfold tb_SECOND_LOW
  by_cases h0 : j < (194 : Int32)
  · rw [if_pos h0]; exact c0.resolve_left (own_nle h0)
  rw [if_neg h0]
  by_cases h1 : j < (224 : Int32)
  · rw [if_pos h1]; exact (c1.resolve_left h0).resolve_left (fun q => q h1)
  rw [if_neg h1]
  by_cases h2 : j < (225 : Int32)
  · rw [if_pos h2]; exact c2 (own_sq h1 h2 rfl)
  rw [if_neg h2]
  by_cases h3 : j < (240 : Int32)
  · rw [if_pos h3]; exact (c3.resolve_left h2).resolve_left (fun q => q h3)
  rw [if_neg h3]
  by_cases h4 : j < (241 : Int32)
  · rw [if_pos h4]; exact c4 (own_sq h3 h4 rfl)
  rw [if_neg h4]
  by_cases h5 : j < (245 : Int32)
  · rw [if_pos h5]; exact (c5.resolve_left h4).resolve_left (fun q => q h5)
  rw [if_neg h5]
  exact c6.resolve_left h5
theorem own_tb_SECOND_HIGH (j x : Int32) (hj : ¬ j < 0) (hj2 : j < (256 : Int32)) (c0 : (194 : Int32) ≤ j ∨ x = (0 : Int32)) (c1 : j < (194 : Int32) ∨ ¬ j < (237 : Int32) ∨ x = (191 : Int32)) (c2 : j = (237 : Int32) → x = (159 : Int32)) (c3 : j < (238 : Int32) ∨ ¬ j < (244 : Int32) ∨ x = (191 : Int32)) (c4 : j = (244 : Int32) → x = (143 : Int32)) (c5 : j < (245 : Int32) ∨ x = (0 : Int32)) : x = tb_SECOND_HIGH j := by
  unfold tb_SECOND_HIGH
  by_cases h0 : j < (194 : Int32)
  · rw [if_pos h0]; exact c0.resolve_left (own_nle h0)
  rw [if_neg h0]
  by_cases h1 : j < (237 : Int32)
  · rw [if_pos h1]; exact (c1.resolve_left h0).resolve_left (fun q => q h1)
  rw [if_neg h1]
  by_cases h2 : j < (238 : Int32)
  · rw [if_pos h2]; exact c2 (own_sq h1 h2 rfl)
  rw [if_neg h2]
  by_cases h3 : j < (244 : Int32)
  · rw [if_pos h3]; exact (c3.resolve_left h2).resolve_left (fun q => q h3)
  rw [if_neg h3]
  by_cases h4 : j < (245 : Int32)
  · rw [if_pos h4]; exact c4 (own_sq h3 h4 rfl)
  rw [if_neg h4]
  exact c5.resolve_left h4
theorem own_lt (x c : Int32) (C : Int) (hc : c.toInt = C) (h : x.toInt < C) : (x < c) = True := eq_true (by rw [Int32.lt_iff_toInt_lt, hc]; exact h)
theorem own_nlt (x c : Int32) (C : Int) (hc : c.toInt = C) (h : C ≤ x.toInt) : (x < c) = False := eq_false (by rw [Int32.lt_iff_toInt_lt, hc]; omega)
theorem own_gt (x c : Int32) (C : Int) (hc : c.toInt = C) (h : C < x.toInt) : (c < x) = True := eq_true (by rw [Int32.lt_iff_toInt_lt, hc]; exact h)
theorem own_ngt (x c : Int32) (C : Int) (hc : c.toInt = C) (h : x.toInt ≤ C) : (c < x) = False := eq_false (by rw [Int32.lt_iff_toInt_lt, hc]; omega)
theorem own_eq (x c : Int32) (C : Int) (hc : c.toInt = C) (h : x.toInt = C) : (x = c) = True := eq_true (own_of (h.trans hc.symm))
theorem own_neq (x c : Int32) (C : Int) (hc : c.toInt = C) (h : x.toInt ≠ C) : (x = c) = False := eq_false (fun q => h (by rw [q]; exact hc))
theorem own_b127 (o : Int32) : ((nar .byte (o.toInt8.toInt32)) &&& (127 : Int32)).toInt = o.toInt % 128 := by
  have q1 := c_i2b o
  have q2 := c_i2b (o.toInt8.toInt32)
  have q3 : ((nar .byte (o.toInt8.toInt32)) &&& (127 : Int32)).toInt = (o.toInt8.toInt32.toInt8.toInt32).toInt % 128 := c_mask (o.toInt8.toInt32.toInt8.toInt32) 127 7 (by decide) (by decide)
  omega
theorem own_b63 (o : Int32) : ((nar .byte (o.toInt8.toInt32)) &&& (63 : Int32)).toInt = o.toInt % 64 := by
  have q1 := c_i2b o
  have q2 := c_i2b (o.toInt8.toInt32)
  have q3 : ((nar .byte (o.toInt8.toInt32)) &&& (63 : Int32)).toInt = (o.toInt8.toInt32.toInt8.toInt32).toInt % 64 := c_mask (o.toInt8.toInt32.toInt8.toInt32) 63 6 (by decide) (by decide)
  omega
theorem own_b31 (o : Int32) : ((nar .byte (o.toInt8.toInt32)) &&& (31 : Int32)).toInt = o.toInt % 32 := by
  have q1 := c_i2b o
  have q2 := c_i2b (o.toInt8.toInt32)
  have q3 : ((nar .byte (o.toInt8.toInt32)) &&& (31 : Int32)).toInt = (o.toInt8.toInt32.toInt8.toInt32).toInt % 32 := c_mask (o.toInt8.toInt32.toInt8.toInt32) 31 5 (by decide) (by decide)
  omega
theorem own_b15 (o : Int32) : ((nar .byte (o.toInt8.toInt32)) &&& (15 : Int32)).toInt = o.toInt % 16 := by
  have q1 := c_i2b o
  have q2 := c_i2b (o.toInt8.toInt32)
  have q3 : ((nar .byte (o.toInt8.toInt32)) &&& (15 : Int32)).toInt = (o.toInt8.toInt32.toInt8.toInt32).toInt % 16 := c_mask (o.toInt8.toInt32.toInt8.toInt32) 15 4 (by decide) (by decide)
  omega
theorem own_b7 (o : Int32) : ((nar .byte (o.toInt8.toInt32)) &&& (7 : Int32)).toInt = o.toInt % 8 := by
  have q1 := c_i2b o
  have q2 := c_i2b (o.toInt8.toInt32)
  have q3 : ((nar .byte (o.toInt8.toInt32)) &&& (7 : Int32)).toInt = (o.toInt8.toInt32.toInt8.toInt32).toInt % 8 := c_mask (o.toInt8.toInt32.toInt8.toInt32) 7 3 (by decide) (by decide)
  omega
theorem own_c6 (p : Int32) : ((nar .byte (((128 : Int32) ||| (p &&& (63 : Int32))).toInt8.toInt32)) &&& (63 : Int32)).toInt = p.toInt % 64 := by
  have a : (p &&& (63 : Int32)).toInt = p.toInt % 64 := c_mask p 63 6 (by decide) (by decide)
  have e : (128 : Int32).toInt = 128 := rfl
  have q := c_or 128 (p &&& (63 : Int32)) 6 (by decide) 64 rfl (by decide) (by omega) (by omega)
  have q1 := own_b63 ((128 : Int32) ||| (p &&& (63 : Int32)))
  omega
theorem own_h31 (t : Int32) (h : 0 ≤ t.toInt ∧ t.toInt < 32) : ((nar .byte (((192 : Int32) ||| t).toInt8.toInt32)) &&& (31 : Int32)).toInt = t.toInt := by
  have e : (192 : Int32).toInt = 192 := rfl
  have q := c_or 192 t 5 (by decide) 32 rfl (by decide) h.1 h.2
  have q1 := own_b31 ((192 : Int32) ||| t)
  omega
theorem own_h15 (t : Int32) (h : 0 ≤ t.toInt ∧ t.toInt < 16) : ((nar .byte (((224 : Int32) ||| t).toInt8.toInt32)) &&& (15 : Int32)).toInt = t.toInt := by
  have e : (224 : Int32).toInt = 224 := rfl
  have q := c_or 224 t 4 (by decide) 16 rfl (by decide) h.1 h.2
  have q1 := own_b15 ((224 : Int32) ||| t)
  omega
theorem own_h7 (t : Int32) (h : 0 ≤ t.toInt ∧ t.toInt < 8) : ((nar .byte (((240 : Int32) ||| t).toInt8.toInt32)) &&& (7 : Int32)).toInt = t.toInt := by
  have e : (240 : Int32).toInt = 240 := rfl
  have q := c_or 240 t 3 (by decide) 8 rfl (by decide) h.1 h.2
  have q1 := own_b7 ((240 : Int32) ||| t)
  omega
theorem own_jn {a b : Int32} {u v : Int} (ha : a.toInt = u) (hb : b.toInt = v) (hu : 0 ≤ u ∧ u < 1048576) (hv : 0 ≤ v ∧ v < 64) : ((a <<< ((6 : Int32) &&& 31)) ||| b).toInt = u * 64 + v := by
  subst ha hb
  have q : ((a <<< ((6 : Int32) &&& 31)).toInt - a.toInt * 64) % 4294967296 = 0 := c_ishl a 6 6 (by decide)
  have q1 := (a <<< ((6 : Int32) &&& 31)).le_toInt
  have q2 := (a <<< ((6 : Int32) &&& 31)).toInt_lt
  have e : (a <<< ((6 : Int32) &&& 31)).toInt = a.toInt * 64 := by omega
  have q3 := c_or (a <<< ((6 : Int32) &&& 31)) b 6 (by decide) 64 rfl (by omega) hv.1 hv.2
  have q4 := ((a <<< ((6 : Int32) &&& 31)) ||| b).le_toInt
  have q5 := ((a <<< ((6 : Int32) &&& 31)) ||| b).toInt_lt
  omega
theorem own_v1 (s : Int32) (h : 0 ≤ s.toInt ∧ s.toInt < 128) : ((nar .byte (s.toInt8.toInt32)) &&& (127 : Int32)) = s := own_of ((own_b127 s).trans (by omega))
theorem own_w2 (s t6 : Int32) (h : 0 ≤ s.toInt ∧ s.toInt < 2048) (h6 : t6.toInt = s.toInt / 64) : ((((nar .byte (((192 : Int32) ||| t6).toInt8.toInt32)) &&& (31 : Int32)) <<< ((6 : Int32) &&& 31)) ||| ((nar .byte (((128 : Int32) ||| (s &&& (63 : Int32))).toInt8.toInt32)) &&& (63 : Int32))) = s := by
  have j := own_h31 t6 (by omega)
  have j := own_jn j (own_c6 s) (by omega) (by omega)
  exact own_of (j.trans (by omega))
theorem own_w3 (s t6 t12 : Int32) (h : 0 ≤ s.toInt ∧ s.toInt < 65536) (h6 : t6.toInt = s.toInt / 64) (h12 : t12.toInt = s.toInt / 4096) : ((((((nar .byte (((224 : Int32) ||| t12).toInt8.toInt32)) &&& (15 : Int32)) <<< ((6 : Int32) &&& 31)) ||| ((nar .byte (((128 : Int32) ||| (t6 &&& (63 : Int32))).toInt8.toInt32)) &&& (63 : Int32))) <<< ((6 : Int32) &&& 31)) ||| ((nar .byte (((128 : Int32) ||| (s &&& (63 : Int32))).toInt8.toInt32)) &&& (63 : Int32))) = s := by
  have j := own_h15 t12 (by omega)
  have j := own_jn j (own_c6 t6) (by omega) (by omega)
  have j := own_jn j (own_c6 s) (by omega) (by omega)
  exact own_of (j.trans (by omega))
theorem own_w4 (s t6 t12 t18 : Int32) (h : 0 ≤ s.toInt ∧ s.toInt < 2097152) (h6 : t6.toInt = s.toInt / 64) (h12 : t12.toInt = s.toInt / 4096) (h18 : t18.toInt = s.toInt / 262144) : ((((((((nar .byte (((240 : Int32) ||| t18).toInt8.toInt32)) &&& (7 : Int32)) <<< ((6 : Int32) &&& 31)) ||| ((nar .byte (((128 : Int32) ||| (t12 &&& (63 : Int32))).toInt8.toInt32)) &&& (63 : Int32))) <<< ((6 : Int32) &&& 31)) ||| ((nar .byte (((128 : Int32) ||| (t6 &&& (63 : Int32))).toInt8.toInt32)) &&& (63 : Int32))) <<< ((6 : Int32) &&& 31)) ||| ((nar .byte (((128 : Int32) ||| (s &&& (63 : Int32))).toInt8.toInt32)) &&& (63 : Int32))) = s := by
  have j := own_h7 t18 (by omega)
  have j := own_jn j (own_c6 t12) (by omega) (by omega)
  have j := own_jn j (own_c6 t6) (by omega) (by omega)
  have j := own_jn j (own_c6 s) (by omega) (by omega)
  exact own_of (j.trans (by omega))
theorem own_b255 (o : Int32) : ((nar .byte (o.toInt8.toInt32)) &&& (255 : Int32)) = (o &&& (255 : Int32)) := by
  have q1 := c_i2b o
  have q2 := c_i2b (o.toInt8.toInt32)
  have q3 : ((nar .byte (o.toInt8.toInt32)) &&& (255 : Int32)).toInt = (o.toInt8.toInt32.toInt8.toInt32).toInt % 256 := c_mask (o.toInt8.toInt32.toInt8.toInt32) 255 8 (by decide) (by decide)
  have q4 : (o &&& (255 : Int32)).toInt = o.toInt % 256 := c_mask o 255 8 (by decide) (by decide)
  exact own_of (by omega)
theorem own_l (k : Int32) : 0 ≤ (k &&& (255 : Int32)).toInt ∧ (k &&& (255 : Int32)).toInt < 256 := by
  have q : (k &&& (255 : Int32)).toInt = k.toInt % 256 := c_mask k 255 8 (by decide) (by decide)
  omega
theorem own_r (k : Int32) : 0 ≤ (k &&& (2147483647 : Int32)).toInt := by
  have q : (k &&& (2147483647 : Int32)).toInt = k.toInt % 2147483648 := c_mask k 2147483647 31 (by decide) (by decide)
  omega
theorem own_zor (a : Int32) : (0 : Int32) ||| a = a := by simp
theorem own_xn : ∀ n : Nat, n < 2048 → (55296 + n) ^^^ 2048 = 53248 + n := by decide +kernel
theorem own_ti (y : Int32) : (y.toBitVec.toNat < 2147483648 ∧ y.toInt = (y.toBitVec.toNat : Int)) ∨ (2147483648 ≤ y.toBitVec.toNat ∧ y.toInt = (y.toBitVec.toNat : Int) - 4294967296 ∧ y.toBitVec.toNat < 4294967296) := by
  have e : y.toInt = if 2 * y.toBitVec.toNat < 2 ^ 32 then (y.toBitVec.toNat : Int) else (y.toBitVec.toNat : Int) - ((2 ^ 32 : Nat) : Int) := BitVec.toInt_eq_toNat_cond y.toBitVec
  have b := y.toBitVec.isLt
  split at e <;> omega
theorem own_xor (x : Int32) (h : 55296 ≤ x.toInt ∧ x.toInt ≤ 57343) : (x ^^^ (2048 : Int32)).toInt = x.toInt - 2048 := by
  have hx : (x ^^^ (2048 : Int32)).toBitVec.toNat = x.toBitVec.toNat ^^^ 2048 := (BitVec.toNat_xor x.toBitVec (2048 : Int32).toBitVec).trans rfl
  have e1 := own_ti x
  have e2 := own_ti (x ^^^ (2048 : Int32))
  have q := own_xn (x.toBitVec.toNat - 55296) (by omega)
  rw [show 55296 + (x.toBitVec.toNat - 55296) = x.toBitVec.toNat by omega] at q
  rw [hx, q] at e2
  omega
theorem own_us (a m : Int32) (h : 0 ≤ a.toInt) : 0 ≤ ((a.toUInt32 >>> m.toUInt32).toInt32).toInt ∧ ((a.toUInt32 >>> m.toUInt32).toInt32).toInt ≤ a.toInt := by
  have n : ((a.toUInt32 >>> m.toUInt32).toInt32).toBitVec.toNat = a.toBitVec.toNat >>> (m.toUInt32.toNat % 32) := UInt32.toNat_shiftRight a.toUInt32 m.toUInt32
  have le : a.toBitVec.toNat >>> (m.toUInt32.toNat % 32) ≤ a.toBitVec.toNat := by rw [Nat.shiftRight_eq_div_pow]; exact Nat.div_le_self _ _
  have e1 := own_ti a
  have e2 := own_ti ((a.toUInt32 >>> m.toUInt32).toInt32)
  rw [n] at e2
  generalize a.toBitVec.toNat >>> (m.toUInt32.toNat % 32) = w at le e2
  omega
theorem own_x1 (k m : Int32) : 0 ≤ ((((k &&& (2147483647 : Int32)) % (1114112 : Int32)).toUInt32 >>> m.toUInt32).toInt32).toInt ∧ ((((k &&& (2147483647 : Int32)) % (1114112 : Int32)).toUInt32 >>> m.toUInt32).toInt32).toInt ≤ 1114111 := by
  have r := own_r k
  have q := (c_irem (k &&& (2147483647 : Int32)) 1114112 1114112 rfl).1 r
  have u := own_us ((k &&& (2147483647 : Int32)) % (1114112 : Int32)) m (by omega)
  omega
theorem own_x4 {x : Int32} (h : 0 ≤ x.toInt ∧ x.toInt ≤ 1114111) : 0 ≤ (if x < (55296 : Int32) then x else (if (57343 : Int32) < x then x else (x ^^^ (2048 : Int32)))).toInt ∧ (if x < (55296 : Int32) then x else (if (57343 : Int32) < x then x else (x ^^^ (2048 : Int32)))).toInt ≤ 1114111 ∧ ((if x < (55296 : Int32) then x else (if (57343 : Int32) < x then x else (x ^^^ (2048 : Int32)))).toInt < 55296 ∨ 57343 < (if x < (55296 : Int32) then x else (if (57343 : Int32) < x then x else (x ^^^ (2048 : Int32)))).toInt) := by
  have e1 : (55296 : Int32).toInt = 55296 := rfl
  have e2 : (57343 : Int32).toInt = 57343 := rfl
  by_cases a : x < (55296 : Int32)
  · rw [if_pos a]; rw [Int32.lt_iff_toInt_lt] at a; omega
  rw [if_neg a]
  by_cases b : (57343 : Int32) < x
  · rw [if_pos b]; rw [Int32.lt_iff_toInt_lt] at b; omega
  rw [if_neg b]
  rw [Int32.lt_iff_toInt_lt] at a b
  have q := own_xor x (by omega)
  omega
theorem own_u6 (x : Int32) (h : 0 ≤ x.toInt) : ((x.toUInt32 >>> ((6 : Int32) &&& 31).toUInt32).toInt32).toInt = x.toInt / 64 := by
  have q : ((x.toUInt32 >>> ((6 : Int32) &&& 31).toUInt32).toInt32).toInt = (x.toInt % 4294967296) / 64 := c_iushr x 6 6 (by decide) (by decide)
  have l := x.toInt_lt
  omega
def fr1 (pi0 : Int32) : Int32 := (if pi0 < (128 : Int32) then (1 : Int32) else (if pi0 < (2048 : Int32) then (2 : Int32) else (if pi0 < (65536 : Int32) then (3 : Int32) else (4 : Int32))))
theorem d1_0 : decode prog_19_method_11_code 0 = .ok (.iload_n 0, 1) := by decide +kernel
theorem d1_1 : decode prog_19_method_11_code 1 = .ok (.sipush 128, 3) := by decide +kernel
theorem d1_4 : decode prog_19_method_11_code 4 = .ok (.if_icmp .ge 8, 3) := by decide +kernel
theorem d1_7 : decode prog_19_method_11_code 7 = .ok (.iconst 1, 1) := by decide +kernel
theorem d1_8 : decode prog_19_method_11_code 8 = .ok (.istore_n 1, 1) := by decide +kernel
theorem d1_9 : decode prog_19_method_11_code 9 = .ok (.goto 28, 3) := by decide +kernel
theorem d1_12 : decode prog_19_method_11_code 12 = .ok (.iload_n 0, 1) := by decide +kernel
theorem d1_13 : decode prog_19_method_11_code 13 = .ok (.sipush 2048, 3) := by decide +kernel
theorem d1_16 : decode prog_19_method_11_code 16 = .ok (.if_icmp .ge 8, 3) := by decide +kernel
theorem d1_19 : decode prog_19_method_11_code 19 = .ok (.iconst 2, 1) := by decide +kernel
theorem d1_20 : decode prog_19_method_11_code 20 = .ok (.istore_n 1, 1) := by decide +kernel
theorem d1_21 : decode prog_19_method_11_code 21 = .ok (.goto 16, 3) := by decide +kernel
theorem d1_24 : decode prog_19_method_11_code 24 = .ok (.iload_n 0, 1) := by decide +kernel
theorem d1_25 : decode prog_19_method_11_code 25 = .ok (.ldc 49, 2) := by decide +kernel
theorem d1_27 : decode prog_19_method_11_code 27 = .ok (.if_icmp .ge 8, 3) := by decide +kernel
theorem d1_30 : decode prog_19_method_11_code 30 = .ok (.iconst 3, 1) := by decide +kernel
theorem d1_31 : decode prog_19_method_11_code 31 = .ok (.istore_n 1, 1) := by decide +kernel
theorem d1_32 : decode prog_19_method_11_code 32 = .ok (.goto 5, 3) := by decide +kernel
theorem d1_35 : decode prog_19_method_11_code 35 = .ok (.iconst 4, 1) := by decide +kernel
theorem d1_36 : decode prog_19_method_11_code 36 = .ok (.istore_n 1, 1) := by decide +kernel
theorem d1_37 : decode prog_19_method_11_code 37 = .ok (.iload_n 1, 1) := by decide +kernel
theorem d1_38 : decode prog_19_method_11_code 38 = .ok (.ireturn, 1) := by decide +kernel
theorem pn_com_example_strict_codec_strictcodec_Utf8Grammar : plainName "com/example/strict_codec/strictcodec/Utf8Grammar" = true := by first | (simp [plainName, overriddenIn]; done) | decide +kernel
theorem ef_1 (m : MethodId) (x0 : Int32) : entryFrame m #[(.int x0)] 2 = mkF m 0 #[iv x0, .unset] [] := by first | (simp [entryFrame, mkF, argsToLocals, Value.category]; done) | rfl
def Q1 (Z : State) (pi0 : Int32) (h0 : Heap) (n0 : Nat) (v : Option Value) (h : Heap) (L : List Loc) : Prop := v = some (.int (fr1 pi0)) ∧ Fr n0 L ∧ h = h0
set_option maxRecDepth 65536 in
set_option maxHeartbeats 40000000 in
theorem rm1 (l : Launch) (Z : State) (a0 : Array Value) (hw : ∀ d ∈ tables_1, d.before a0 Z = true) (ws : List Jvm.Cond) (pi0 : Int32) (h0 : Heap) (n0 : Nat) (O0 : Old Z n0 h0) :
    MetFree l (⟨"com/example/strict_codec/strictcodec/Utf8Grammar", "scalarLength", "(I)I"⟩ : MethodName) (head1 (Jvm.Cond.code (⟨"com/example/strict_codec/strictcodec/Utf8Grammar", "scalarLength", "(I)I"⟩ : MethodName) prog_19_method_11_code 2 (some .int) :: ws) ({ frames := 0, cells := 0, slots := 0, locals := 0 } : Room)) (fun a U => a = #[(.int pi0)] ∧ Z.Warmed39 U.vm ∧ U.heap = h0) (fun _ _ _ _ _ => True) (fun _ U o U' => ∃ v L, o = .returned v ∧ Q1 Z pi0 h0 n0 v U'.heap L ∧ FrameEnd U o U' L ({ frames := 0, cells := 0, slots := 0, locals := 0 } : Room).cells ({ frames := 0, cells := 0, slots := 0, locals := 0 } : Room).slots) := by
  refine MetFree.of_bodySF (plainFor_of_name pn_com_example_strict_codec_strictcodec_Utf8Grammar) hisR ?_
  intro p e s m args below meth c s₁ Bd hml0 hP hK
  obtain ⟨rfl, hZ, hh⟩ := hP
  have hx := Bd.exec
  have hby := Bd.bytes
  have hml : c.maxLocals = 2 := hml0
  have hown : s.vm.findClass "com/example/strict_codec/strictcodec/Utf8Grammar" = some m.cls := findClass_of_methodNamed Bd.named
  have hnm := (name_of_methodNamed Bd.named Bd.method).1
  have X0 : Stand p l e ({ frames := 0, cells := 0, slots := 0, locals := 0 } : Room) s m #[(.int pi0)] below meth c s₁ [] 0 0 := Stand.of_body Bd
  have e0 : s₁.heap = h0 := by rw [← hh, Bd.state]; rfl
  have N0 := Fr.nil n0
  obtain ⟨Go, hGo⟩ : ∃ P : State → Prop, ∀ t, P t ↔ Steps p.tables e below (s₁.setTop (entryFrame m #[(.int pi0)] 2)) t := ⟨_, fun _ => Iff.rfl⟩
  have pre0 : ∀ t, Steps p.tables e below (s₁.setTop (mkF m 0 #[iv pi0, .unset] [])) t → Go t := fun t k => (hGo t).mpr (castTop (ef_1 m pi0) k)
  have pre1 : ∀ t, Steps p.tables e below (s₁.setTop (mkF m 4 #[iv pi0, .unset] [(.int (128 : Int32)), (.int pi0)])) t → Go t := fun t kt => pre0 t (by
      refine y_iloadN X0.here hx (hb hby d1_0) rfl (pc' := 1) rfl ?_
      refine y_sipush X0.here hx (hb hby d1_1) (v := (128 : Int32)) rfl (pc' := 4) rfl ?_
      exact kt)
  by_cases hc4_2 : pi0 < (128 : Int32)
  · have pre3 : ∀ t, Steps p.tables e below (s₁.setTop (mkF m 38 #[iv pi0, iv (1 : Int32)] [(.int (1 : Int32))])) t → Go t := fun t kt => pre1 t (by
        refine y_icmpNo X0.here hx (hb hby d1_4) (tlt hc4_2).2.1 (pc' := 7) rfl ?_
        refine y_iconst X0.here hx (hb hby d1_7) (v := (1 : Int32)) rfl (pc' := 8) rfl ?_
        refine y_istoreN X0.here hx (hb hby d1_8) (l' := #[iv pi0, iv (1 : Int32)]) rfl (pc' := 9) rfl ?_
        refine y_goto X0.here hx (hb hby d1_9) (pc' := 37) (by decide) rfl ?_
        refine y_iloadN X0.here hx (hb hby d1_37) rfl (pc' := 38) rfl ?_
        exact kt)
    obtain ⟨fs, hr, hrun, hended, hW, hsame⟩ := X0.leave (v := some (.int (1 : Int32))) (fun h => by rw [Bd.returns] at h; cases h)
    refine ⟨_, _, (hGo _).mp (pre3 _ ?_), hrun, hended, _, _, rfl, ?_, ⟨_, rfl⟩, hW, hsame.mono (by decide) (by decide)⟩
    · exact retOut X0 hx Bd.returns rfl (Or.inl ⟨rfl, Or.inl rfl, _, rfl⟩) (hb hby d1_38) hr
    · show Q1 Z pi0 h0 n0 _ s₁.heap _
      rw [e0]
      exact ⟨(by first | (simp only [fr1, if_pos hc4_2]; done) | (simp only [fr1, if_pos hc4_2]; exact rfl) | exact rfl), N0, rfl⟩
  · have pre4 : ∀ t, Steps p.tables e below (s₁.setTop (mkF m 16 #[iv pi0, .unset] [(.int (2048 : Int32)), (.int pi0)])) t → Go t := fun t kt => pre1 t (by
        refine y_icmpYes X0.here hx (hb hby d1_4) (flt hc4_2).2.1 (pc' := 12) (by decide) rfl ?_
        refine y_iloadN X0.here hx (hb hby d1_12) rfl (pc' := 13) rfl ?_
        refine y_sipush X0.here hx (hb hby d1_13) (v := (2048 : Int32)) rfl (pc' := 16) rfl ?_
        exact kt)
    by_cases hc16_5 : pi0 < (2048 : Int32)
    · have pre6 : ∀ t, Steps p.tables e below (s₁.setTop (mkF m 38 #[iv pi0, iv (2 : Int32)] [(.int (2 : Int32))])) t → Go t := fun t kt => pre4 t (by
          refine y_icmpNo X0.here hx (hb hby d1_16) (tlt hc16_5).2.1 (pc' := 19) rfl ?_
          refine y_iconst X0.here hx (hb hby d1_19) (v := (2 : Int32)) rfl (pc' := 20) rfl ?_
          refine y_istoreN X0.here hx (hb hby d1_20) (l' := #[iv pi0, iv (2 : Int32)]) rfl (pc' := 21) rfl ?_
          refine y_goto X0.here hx (hb hby d1_21) (pc' := 37) (by decide) rfl ?_
          refine y_iloadN X0.here hx (hb hby d1_37) rfl (pc' := 38) rfl ?_
          exact kt)
      obtain ⟨fs, hr, hrun, hended, hW, hsame⟩ := X0.leave (v := some (.int (2 : Int32))) (fun h => by rw [Bd.returns] at h; cases h)
      refine ⟨_, _, (hGo _).mp (pre6 _ ?_), hrun, hended, _, _, rfl, ?_, ⟨_, rfl⟩, hW, hsame.mono (by decide) (by decide)⟩
      · exact retOut X0 hx Bd.returns rfl (Or.inl ⟨rfl, Or.inl rfl, _, rfl⟩) (hb hby d1_38) hr
      · show Q1 Z pi0 h0 n0 _ s₁.heap _
        rw [e0]
        exact ⟨(by first | (simp only [fr1, if_neg hc4_2, if_pos hc16_5]; done) | (simp only [fr1, if_neg hc4_2, if_pos hc16_5]; exact rfl) | exact rfl), N0, rfl⟩
    · have pre7 : ∀ t, Steps p.tables e below (s₁.setTop (mkF m 27 #[iv pi0, .unset] [(.int (65536 : Int32)), (.int pi0)])) t → Go t := fun t kt => pre4 t (by
          refine y_icmpYes X0.here hx (hb hby d1_16) (flt hc16_5).2.1 (pc' := 24) (by decide) rfl ?_
          refine y_iloadN X0.here hx (hb hby d1_24) rfl (pc' := 25) rfl ?_
          refine X0.ldcInt hx hown (mvT hZ (hw _ (List.mem_of_getElem? (i := 28) rfl))) (g := (mkF m 25 #[iv pi0, .unset] [(.int pi0)])) rfl (hb hby d1_25) _ ?_
          show Steps p.tables e below (s₁.setTop (mkF m 27 #[iv pi0, .unset] [(.int (65536 : Int32)), (.int pi0)])) _
          exact kt)
      by_cases hc27_8 : pi0 < (65536 : Int32)
      · have pre9 : ∀ t, Steps p.tables e below (s₁.setTop (mkF m 38 #[iv pi0, iv (3 : Int32)] [(.int (3 : Int32))])) t → Go t := fun t kt => pre7 t (by
            refine y_icmpNo X0.here hx (hb hby d1_27) (tlt hc27_8).2.1 (pc' := 30) rfl ?_
            refine y_iconst X0.here hx (hb hby d1_30) (v := (3 : Int32)) rfl (pc' := 31) rfl ?_
            refine y_istoreN X0.here hx (hb hby d1_31) (l' := #[iv pi0, iv (3 : Int32)]) rfl (pc' := 32) rfl ?_
            refine y_goto X0.here hx (hb hby d1_32) (pc' := 37) (by decide) rfl ?_
            refine y_iloadN X0.here hx (hb hby d1_37) rfl (pc' := 38) rfl ?_
            exact kt)
        obtain ⟨fs, hr, hrun, hended, hW, hsame⟩ := X0.leave (v := some (.int (3 : Int32))) (fun h => by rw [Bd.returns] at h; cases h)
        refine ⟨_, _, (hGo _).mp (pre9 _ ?_), hrun, hended, _, _, rfl, ?_, ⟨_, rfl⟩, hW, hsame.mono (by decide) (by decide)⟩
        · exact retOut X0 hx Bd.returns rfl (Or.inl ⟨rfl, Or.inl rfl, _, rfl⟩) (hb hby d1_38) hr
        · show Q1 Z pi0 h0 n0 _ s₁.heap _
          rw [e0]
          exact ⟨(by first | (simp only [fr1, if_neg hc4_2, if_neg hc16_5, if_pos hc27_8]; done) | (simp only [fr1, if_neg hc4_2, if_neg hc16_5, if_pos hc27_8]; exact rfl) | exact rfl), N0, rfl⟩
      · have pre10 : ∀ t, Steps p.tables e below (s₁.setTop (mkF m 38 #[iv pi0, iv (4 : Int32)] [(.int (4 : Int32))])) t → Go t := fun t kt => pre7 t (by
            refine y_icmpYes X0.here hx (hb hby d1_27) (flt hc27_8).2.1 (pc' := 35) (by decide) rfl ?_
            refine y_iconst X0.here hx (hb hby d1_35) (v := (4 : Int32)) rfl (pc' := 36) rfl ?_
            refine y_istoreN X0.here hx (hb hby d1_36) (l' := #[iv pi0, iv (4 : Int32)]) rfl (pc' := 37) rfl ?_
            refine y_iloadN X0.here hx (hb hby d1_37) rfl (pc' := 38) rfl ?_
            exact kt)
        obtain ⟨fs, hr, hrun, hended, hW, hsame⟩ := X0.leave (v := some (.int (4 : Int32))) (fun h => by rw [Bd.returns] at h; cases h)
        refine ⟨_, _, (hGo _).mp (pre10 _ ?_), hrun, hended, _, _, rfl, ?_, ⟨_, rfl⟩, hW, hsame.mono (by decide) (by decide)⟩
        · exact retOut X0 hx Bd.returns rfl (Or.inl ⟨rfl, Or.inl rfl, _, rfl⟩) (hb hby d1_38) hr
        · show Q1 Z pi0 h0 n0 _ s₁.heap _
          rw [e0]
          exact ⟨(by first | (simp only [fr1, if_neg hc4_2, if_neg hc16_5, if_neg hc27_8]; done) | (simp only [fr1, if_neg hc4_2, if_neg hc16_5, if_neg hc27_8]; exact rfl) | exact rfl), N0, rfl⟩
def fr3a0 (pi2 : Int32) (yW : Int32) (yL : Int32) (yH : Int32) (y1 : Int32) (y2 : Int32) (y3 : Int32) : Int32 := (if (1 : Int32) < yW then (if (1 : Int32) < pi2 then (if (y1 &&& (255 : Int32)) < yL then (if (1 : Int32) = yW then yW else (-1 : Int32)) else (if yH < (y1 &&& (255 : Int32)) then (if (1 : Int32) = yW then yW else (-1 : Int32)) else (if (2 : Int32) < yW then (if (2 : Int32) < pi2 then (if (y2 &&& (255 : Int32)) < (128 : Int32) then (if (2 : Int32) = yW then yW else (-2 : Int32)) else (if (191 : Int32) < (y2 &&& (255 : Int32)) then (if (2 : Int32) = yW then yW else (-2 : Int32)) else (if (3 : Int32) < yW then (if (3 : Int32) < pi2 then (if (y3 &&& (255 : Int32)) < (128 : Int32) then (if (3 : Int32) = yW then yW else (-3 : Int32)) else (if (191 : Int32) < (y3 &&& (255 : Int32)) then (if (3 : Int32) = yW then yW else (-3 : Int32)) else (if (4 : Int32) = yW then yW else (-4 : Int32)))) else (if (3 : Int32) = yW then yW else (-3 : Int32))) else (if (3 : Int32) = yW then yW else (-3 : Int32))))) else (if (2 : Int32) = yW then yW else (-2 : Int32))) else (if (2 : Int32) = yW then yW else (-2 : Int32))))) else (if (1 : Int32) = yW then yW else (-1 : Int32))) else (if (1 : Int32) = yW then yW else (-1 : Int32)))
theorem d3_0 : decode prog_19_method_13_code 0 = .ok (.aload_n 0, 1) := by decide +kernel
theorem d3_1 : decode prog_19_method_13_code 1 = .ok (.iload_n 1, 1) := by decide +kernel
theorem d3_2 : decode prog_19_method_13_code 2 = .ok (.baload, 1) := by decide +kernel
theorem d3_3 : decode prog_19_method_13_code 3 = .ok (.sipush 255, 3) := by decide +kernel
theorem d3_6 : decode prog_19_method_13_code 6 = .ok (.iand, 1) := by decide +kernel
theorem d3_7 : decode prog_19_method_13_code 7 = .ok (.istore_n 3, 1) := by decide +kernel
theorem d3_8 : decode prog_19_method_13_code 8 = .ok (.getstatic 9, 3) := by decide +kernel
theorem d3_11 : decode prog_19_method_13_code 11 = .ok (.iload_n 3, 1) := by decide +kernel
theorem d3_12 : decode prog_19_method_13_code 12 = .ok (.baload, 1) := by decide +kernel
theorem d3_13 : decode prog_19_method_13_code 13 = .ok (.istore 4, 2) := by decide +kernel
theorem d3_15 : decode prog_19_method_13_code 15 = .ok (.getstatic 13, 3) := by decide +kernel
theorem d3_18 : decode prog_19_method_13_code 18 = .ok (.iload_n 3, 1) := by decide +kernel
theorem d3_19 : decode prog_19_method_13_code 19 = .ok (.iaload, 1) := by decide +kernel
theorem d3_20 : decode prog_19_method_13_code 20 = .ok (.istore 5, 2) := by decide +kernel
theorem d3_22 : decode prog_19_method_13_code 22 = .ok (.getstatic 17, 3) := by decide +kernel
theorem d3_25 : decode prog_19_method_13_code 25 = .ok (.iload_n 3, 1) := by decide +kernel
theorem d3_26 : decode prog_19_method_13_code 26 = .ok (.iaload, 1) := by decide +kernel
theorem d3_27 : decode prog_19_method_13_code 27 = .ok (.istore 6, 2) := by decide +kernel
theorem d3_29 : decode prog_19_method_13_code 29 = .ok (.iconst 1, 1) := by decide +kernel
theorem d3_30 : decode prog_19_method_13_code 30 = .ok (.istore 7, 2) := by decide +kernel
theorem d3_32 : decode prog_19_method_13_code 32 = .ok (.iload 7, 2) := by decide +kernel
theorem d3_34 : decode prog_19_method_13_code 34 = .ok (.iload 4, 2) := by decide +kernel
theorem d3_36 : decode prog_19_method_13_code 36 = .ok (.if_icmp .ge 56, 3) := by decide +kernel
theorem d3_39 : decode prog_19_method_13_code 39 = .ok (.iload_n 1, 1) := by decide +kernel
theorem d3_40 : decode prog_19_method_13_code 40 = .ok (.iload 7, 2) := by decide +kernel
theorem d3_42 : decode prog_19_method_13_code 42 = .ok (.iadd, 1) := by decide +kernel
theorem d3_43 : decode prog_19_method_13_code 43 = .ok (.iload_n 2, 1) := by decide +kernel
theorem d3_44 : decode prog_19_method_13_code 44 = .ok (.if_icmp .ge 48, 3) := by decide +kernel
theorem d3_47 : decode prog_19_method_13_code 47 = .ok (.aload_n 0, 1) := by decide +kernel
theorem d3_48 : decode prog_19_method_13_code 48 = .ok (.iload_n 1, 1) := by decide +kernel
theorem d3_49 : decode prog_19_method_13_code 49 = .ok (.iload 7, 2) := by decide +kernel
theorem d3_51 : decode prog_19_method_13_code 51 = .ok (.iadd, 1) := by decide +kernel
theorem d3_52 : decode prog_19_method_13_code 52 = .ok (.baload, 1) := by decide +kernel
theorem d3_53 : decode prog_19_method_13_code 53 = .ok (.sipush 255, 3) := by decide +kernel
theorem d3_56 : decode prog_19_method_13_code 56 = .ok (.iand, 1) := by decide +kernel
theorem d3_57 : decode prog_19_method_13_code 57 = .ok (.istore 8, 2) := by decide +kernel
theorem d3_59 : decode prog_19_method_13_code 59 = .ok (.iload 8, 2) := by decide +kernel
theorem d3_61 : decode prog_19_method_13_code 61 = .ok (.iload 5, 2) := by decide +kernel
theorem d3_63 : decode prog_19_method_13_code 63 = .ok (.if_icmp .lt 29, 3) := by decide +kernel
theorem d3_66 : decode prog_19_method_13_code 66 = .ok (.iload 8, 2) := by decide +kernel
theorem d3_68 : decode prog_19_method_13_code 68 = .ok (.iload 6, 2) := by decide +kernel
theorem d3_70 : decode prog_19_method_13_code 70 = .ok (.if_icmp .le 6, 3) := by decide +kernel
theorem d3_73 : decode prog_19_method_13_code 73 = .ok (.goto 19, 3) := by decide +kernel
theorem d3_76 : decode prog_19_method_13_code 76 = .ok (.iinc 7 1, 3) := by decide +kernel
theorem d3_79 : decode prog_19_method_13_code 79 = .ok (.sipush 128, 3) := by decide +kernel
theorem d3_82 : decode prog_19_method_13_code 82 = .ok (.istore 5, 2) := by decide +kernel
theorem d3_84 : decode prog_19_method_13_code 84 = .ok (.sipush 191, 3) := by decide +kernel
theorem d3_87 : decode prog_19_method_13_code 87 = .ok (.istore 6, 2) := by decide +kernel
theorem d3_89 : decode prog_19_method_13_code 89 = .ok (.goto (-57), 3) := by decide +kernel
theorem d3_92 : decode prog_19_method_13_code 92 = .ok (.iload 7, 2) := by decide +kernel
theorem d3_94 : decode prog_19_method_13_code 94 = .ok (.iload 4, 2) := by decide +kernel
theorem d3_96 : decode prog_19_method_13_code 96 = .ok (.if_icmp .ne 8, 3) := by decide +kernel
theorem d3_99 : decode prog_19_method_13_code 99 = .ok (.iload 4, 2) := by decide +kernel
theorem d3_101 : decode prog_19_method_13_code 101 = .ok (.goto 6, 3) := by decide +kernel
theorem d3_104 : decode prog_19_method_13_code 104 = .ok (.iload 7, 2) := by decide +kernel
theorem d3_106 : decode prog_19_method_13_code 106 = .ok (.ineg, 1) := by decide +kernel
theorem d3_107 : decode prog_19_method_13_code 107 = .ok (.ireturn, 1) := by decide +kernel
theorem ef_3a0 (m : MethodId) (x0 : Addr) (x2 : Int32) : entryFrame m #[(.ref x0), (.int (0 : Int32)), (.int x2)] 9 = mkF m 0 #[rv x0, iv (0 : Int32), iv x2, .unset, .unset, .unset, .unset, .unset, .unset] [] := by first | (simp [entryFrame, mkF, argsToLocals, Value.category]; done) | rfl
def Q3a0 (Z : State) (pr0 : Addr) (pi2 : Int32) (w_SEQUENCE_LENGTH : Addr) (w_SECOND_LOW : Addr) (w_SECOND_HIGH : Addr) (yW : Int32) (yL : Int32) (yH : Int32) (kk_pr0 : ClassId) (y0 : Int32) (y1 : Int32) (y2 : Int32) (y3 : Int32) (y4 : Int32) (y5 : Int32) (y6 : Int32) (y7 : Int32) (cc_w_SEQUENCE_LENGTH : Cell) (cc_w_SECOND_LOW : Cell) (cc_w_SECOND_HIGH : Cell) (h0 : Heap) (n0 : Nat) (v : Option Value) (h : Heap) (L : List Loc) : Prop := v = some (.int (fr3a0 pi2 yW yL yH y1 y2 y3)) ∧ Fr n0 L ∧ h = h0
set_option maxRecDepth 65536 in
set_option maxHeartbeats 40000000 in
theorem rm3a0 (l : Launch) (Z : State) (a0 : Array Value) (hw : ∀ d ∈ tables_1, d.before a0 Z = true) (ws : List Jvm.Cond) (pr0 : Addr) (pi2 : Int32) (w_SEQUENCE_LENGTH : Addr) (w_SECOND_LOW : Addr) (w_SECOND_HIGH : Addr) (yW : Int32) (yL : Int32) (yH : Int32) (kk_pr0 : ClassId) (y0 : Int32) (y1 : Int32) (y2 : Int32) (y3 : Int32) (y4 : Int32) (y5 : Int32) (y6 : Int32) (y7 : Int32) (cc_w_SEQUENCE_LENGTH : Cell) (cc_w_SECOND_LOW : Cell) (cc_w_SECOND_HIGH : Cell) (h0 : Heap) (n0 : Nat) (O0 : Old Z n0 h0) (S_SEQUENCE_LENGTH : Sta Z Z.heap "com/example/strict_codec/strictcodec/Utf8Grammar" "SEQUENCE_LENGTH" "[B" (.ref w_SEQUENCE_LENGTH)) (S_SECOND_LOW : Sta Z Z.heap "com/example/strict_codec/strictcodec/Utf8Grammar" "SECOND_LOW" "[I" (.ref w_SECOND_LOW)) (S_SECOND_HIGH : Sta Z Z.heap "com/example/strict_codec/strictcodec/Utf8Grammar" "SECOND_HIGH" "[I" (.ref w_SECOND_HIGH)) (IN_SEQUENCE_LENGTH : ¬ ((y0 &&& (255 : Int32)) < 0 ∨ cc_w_SEQUENCE_LENGTH.slots.size ≤ (y0 &&& (255 : Int32)).toNatClampNeg)) (AT_SEQUENCE_LENGTH : cc_w_SEQUENCE_LENGTH.slots[(y0 &&& (255 : Int32)).toNatClampNeg]? = some (.int yW)) (IN_SECOND_LOW : ¬ ((y0 &&& (255 : Int32)) < 0 ∨ cc_w_SECOND_LOW.slots.size ≤ (y0 &&& (255 : Int32)).toNatClampNeg)) (AT_SECOND_LOW : cc_w_SECOND_LOW.slots[(y0 &&& (255 : Int32)).toNatClampNeg]? = some (.int yL)) (IN_SECOND_HIGH : ¬ ((y0 &&& (255 : Int32)) < 0 ∨ cc_w_SECOND_HIGH.slots.size ≤ (y0 &&& (255 : Int32)).toNatClampNeg)) (AT_SECOND_HIGH : cc_w_SECOND_HIGH.slots[(y0 &&& (255 : Int32)).toNatClampNeg]? = some (.int yH)) (W4 : ¬ (4 : Int32) < yW) (V_pr0 : Arv Z h0 pr0 kk_pr0 .byte (8 : Int32) [(.int y0), (.int y1), (.int y2), (.int y3), (.int y4), (.int y5), (.int y6), (.int y7)] (.int (0 : Int32))) (AR_w_SEQUENCE_LENGTH : Arr Z Z.heap w_SEQUENCE_LENGTH cc_w_SEQUENCE_LENGTH .byte) (AR_w_SECOND_LOW : Arr Z Z.heap w_SECOND_LOW cc_w_SECOND_LOW .int) (AR_w_SECOND_HIGH : Arr Z Z.heap w_SECOND_HIGH cc_w_SECOND_HIGH .int) :
    MetFree l (⟨"com/example/strict_codec/strictcodec/Utf8Grammar", "span", "([BII)I"⟩ : MethodName) (head1 (Jvm.Cond.code (⟨"com/example/strict_codec/strictcodec/Utf8Grammar", "span", "([BII)I"⟩ : MethodName) prog_19_method_13_code 9 (some .int) :: ws) ({ frames := 0, cells := 0, slots := 0, locals := 0 } : Room)) (fun a U => a = #[(.ref pr0), (.int (0 : Int32)), (.int pi2)] ∧ Z.Warmed39 U.vm ∧ U.heap = h0) (fun _ _ _ _ _ => True) (fun _ U o U' => ∃ v L, o = .returned v ∧ Q3a0 Z pr0 pi2 w_SEQUENCE_LENGTH w_SECOND_LOW w_SECOND_HIGH yW yL yH kk_pr0 y0 y1 y2 y3 y4 y5 y6 y7 cc_w_SEQUENCE_LENGTH cc_w_SECOND_LOW cc_w_SECOND_HIGH h0 n0 v U'.heap L ∧ FrameEnd U o U' L ({ frames := 0, cells := 0, slots := 0, locals := 0 } : Room).cells ({ frames := 0, cells := 0, slots := 0, locals := 0 } : Room).slots) := by
  refine MetFree.of_bodySF (plainFor_of_name pn_com_example_strict_codec_strictcodec_Utf8Grammar) hisR ?_
  intro p e s m args below meth c s₁ Bd hml0 hP hK
  obtain ⟨rfl, hZ, hh⟩ := hP
  have hx := Bd.exec
  have hby := Bd.bytes
  have hml : c.maxLocals = 9 := hml0
  have hown : s.vm.findClass "com/example/strict_codec/strictcodec/Utf8Grammar" = some m.cls := findClass_of_methodNamed Bd.named
  have hnm := (name_of_methodNamed Bd.named Bd.method).1
  have X0 : Stand p l e ({ frames := 0, cells := 0, slots := 0, locals := 0 } : Room) s m #[(.ref pr0), (.int (0 : Int32)), (.int pi2)] below meth c s₁ [] 0 0 := Stand.of_body Bd
  have e0 : s₁.heap = h0 := by rw [← hh, Bd.state]; rfl
  have N0 := Fr.nil n0
  obtain ⟨Go, hGo⟩ : ∃ P : State → Prop, ∀ t, P t ↔ Steps p.tables e below (s₁.setTop (entryFrame m #[(.ref pr0), (.int (0 : Int32)), (.int pi2)] 9)) t := ⟨_, fun _ => Iff.rfl⟩
  have pre0 : ∀ t, Steps p.tables e below (s₁.setTop (mkF m 0 #[rv pr0, iv (0 : Int32), iv pi2, .unset, .unset, .unset, .unset, .unset, .unset] [])) t → Go t := fun t k => (hGo t).mpr (castTop (ef_3a0 m pr0 pi2) k)
  have pre1 : ∀ t, Steps p.tables e below (s₁.setTop (mkF m 2 #[rv pr0, iv (0 : Int32), iv pi2, .unset, .unset, .unset, .unset, .unset, .unset] [(.int (0 : Int32)), (.ref pr0)])) t → Go t := fun t kt => pre0 t (by
      refine y_aloadN X0.here hx (hb hby d3_0) rfl rfl (pc' := 1) rfl ?_
      refine y_iloadN X0.here hx (hb hby d3_1) rfl (pc' := 2) rfl ?_
      exact kt)
  obtain ⟨c2, Ar2, q2, S2, M2, H2, G2⟩ := id V_pr0
  have hin2 : ¬ ((0 : Int32) < 0 ∨ c2.slots.size ≤ ((0 : Int32)).toNatClampNeg) := inb_of S2 ⟨by decide, by decide⟩
  have hat2 : c2.slots[((0 : Int32)).toNatClampNeg]? = some (.int y0) := Has.at H2 hin2 rfl
  obtain ⟨x3, hx3⟩ : ∃ z : Int32, z = (y0 &&& (255 : Int32)) := ⟨_, rfl⟩
  have pre4 : ∀ t, Steps p.tables e below (s₁.setTop (mkF m 8 #[rv pr0, iv (0 : Int32), iv pi2, iv x3, .unset, .unset, .unset, .unset, .unset] [])) t → Go t := fun t kt => pre1 t (by
      subst hx3
      refine X0.baloadBytes hx (j := (0 : Int32)) (v := (.int y0)) (by rw [e0]; exact Ar2.1) (State.isArrayOf_alike hZ.alike Ar2.2.1) Ar2.2.2 hin2 hat2 (g := (mkF m 2 #[rv pr0, iv (0 : Int32), iv pi2, .unset, .unset, .unset, .unset, .unset, .unset] [(.int (0 : Int32)), (.ref pr0)])) rfl rfl (hb hby d3_2) _ ?_
      show Steps p.tables e below (s₁.setTop (mkF m 3 #[rv pr0, iv (0 : Int32), iv pi2, .unset, .unset, .unset, .unset, .unset, .unset] [(.int y0)])) _
      refine y_sipush X0.here hx (hb hby d3_3) (v := (255 : Int32)) rfl (pc' := 6) rfl ?_
      refine y_iand X0.here hx (hb hby d3_6) rfl (pc' := 7) rfl ?_
      refine y_istoreN X0.here hx (hb hby d3_7) (l' := #[rv pr0, iv (0 : Int32), iv pi2, iv (y0 &&& (255 : Int32)), .unset, .unset, .unset, .unset, .unset]) rfl (pc' := 8) rfl ?_
      exact kt)
  obtain ⟨T5, X5, e5, st5⟩ := getS2 X0 hx hZ hown (host := "") (Or.inl (hw _ (List.mem_of_getElem? (i := 17) rfl))) Via.refl e0 (S_SEQUENCE_LENGTH.ext O0.2) (g := (mkF m 8 #[rv pr0, iv (0 : Int32), iv pi2, iv x3, .unset, .unset, .unset, .unset, .unset] [])) rfl (hb hby d3_8)
  have pre6 : ∀ t, Steps p.tables e below (T5.setTop (mkF m 11 #[rv pr0, iv (0 : Int32), iv pi2, iv x3, .unset, .unset, .unset, .unset, .unset] [(.ref w_SEQUENCE_LENGTH)])) t → Go t := fun t kt => pre4 t (st5 t kt)
  have pre7 : ∀ t, Steps p.tables e below (T5.setTop (mkF m 12 #[rv pr0, iv (0 : Int32), iv pi2, iv x3, .unset, .unset, .unset, .unset, .unset] [(.int x3), (.ref w_SEQUENCE_LENGTH)])) t → Go t := fun t kt => pre6 t (by
      refine y_iloadN X5.here hx (hb hby d3_11) rfl (pc' := 12) rfl ?_
      exact kt)
  have A8 := AR_w_SEQUENCE_LENGTH.ext O0.2
  have pre9 : ∀ t, Steps p.tables e below (T5.setTop (mkF m 13 #[rv pr0, iv (0 : Int32), iv pi2, iv x3, .unset, .unset, .unset, .unset, .unset] [(.int yW)])) t → Go t := fun t kt => pre7 t (by
      refine X5.baloadBytes hx (j := x3) (v := (.int yW)) (by rw [e5]; exact A8.1) (State.isArrayOf_alike hZ.alike A8.2.1) A8.2.2 (by rw [hx3]; exact IN_SEQUENCE_LENGTH) (by rw [hx3]; exact AT_SEQUENCE_LENGTH) (g := (mkF m 12 #[rv pr0, iv (0 : Int32), iv pi2, iv x3, .unset, .unset, .unset, .unset, .unset] [(.int x3), (.ref w_SEQUENCE_LENGTH)])) rfl rfl (hb hby d3_12) _ ?_
      show Steps p.tables e below (T5.setTop (mkF m 13 #[rv pr0, iv (0 : Int32), iv pi2, iv x3, .unset, .unset, .unset, .unset, .unset] [(.int yW)])) _
      exact kt)
  have pre10 : ∀ t, Steps p.tables e below (T5.setTop (mkF m 15 #[rv pr0, iv (0 : Int32), iv pi2, iv x3, iv yW, .unset, .unset, .unset, .unset] [])) t → Go t := fun t kt => pre9 t (by
      refine y_istore X5.here hx (hb hby d3_13) (l' := #[rv pr0, iv (0 : Int32), iv pi2, iv x3, iv yW, .unset, .unset, .unset, .unset]) rfl (pc' := 15) rfl ?_
      exact kt)
  obtain ⟨T11, X11, e11, st11⟩ := getS2 X5 hx hZ hown (host := "") (Or.inl (hw _ (List.mem_of_getElem? (i := 19) rfl))) Via.refl e5 (S_SECOND_LOW.ext O0.2) (g := (mkF m 15 #[rv pr0, iv (0 : Int32), iv pi2, iv x3, iv yW, .unset, .unset, .unset, .unset] [])) rfl (hb hby d3_15)
  have pre12 : ∀ t, Steps p.tables e below (T11.setTop (mkF m 18 #[rv pr0, iv (0 : Int32), iv pi2, iv x3, iv yW, .unset, .unset, .unset, .unset] [(.ref w_SECOND_LOW)])) t → Go t := fun t kt => pre10 t (st11 t kt)
  have pre13 : ∀ t, Steps p.tables e below (T11.setTop (mkF m 19 #[rv pr0, iv (0 : Int32), iv pi2, iv x3, iv yW, .unset, .unset, .unset, .unset] [(.int x3), (.ref w_SECOND_LOW)])) t → Go t := fun t kt => pre12 t (by
      refine y_iloadN X11.here hx (hb hby d3_18) rfl (pc' := 19) rfl ?_
      exact kt)
  have A14 := AR_w_SECOND_LOW.ext O0.2
  have pre15 : ∀ t, Steps p.tables e below (T11.setTop (mkF m 20 #[rv pr0, iv (0 : Int32), iv pi2, iv x3, iv yW, .unset, .unset, .unset, .unset] [(.int yL)])) t → Go t := fun t kt => pre13 t (by
      refine X11.iaload hx (j := x3) (v := (.int yL)) (by rw [e11]; exact A14.1) (State.isArrayOf_alike hZ.alike A14.2.1) A14.2.2 (by rw [hx3]; exact IN_SECOND_LOW) (by rw [hx3]; exact AT_SECOND_LOW) (g := (mkF m 19 #[rv pr0, iv (0 : Int32), iv pi2, iv x3, iv yW, .unset, .unset, .unset, .unset] [(.int x3), (.ref w_SECOND_LOW)])) rfl rfl (hb hby d3_19) _ ?_
      show Steps p.tables e below (T11.setTop (mkF m 20 #[rv pr0, iv (0 : Int32), iv pi2, iv x3, iv yW, .unset, .unset, .unset, .unset] [(.int yL)])) _
      exact kt)
  have pre16 : ∀ t, Steps p.tables e below (T11.setTop (mkF m 22 #[rv pr0, iv (0 : Int32), iv pi2, iv x3, iv yW, iv yL, .unset, .unset, .unset] [])) t → Go t := fun t kt => pre15 t (by
      refine y_istore X11.here hx (hb hby d3_20) (l' := #[rv pr0, iv (0 : Int32), iv pi2, iv x3, iv yW, iv yL, .unset, .unset, .unset]) rfl (pc' := 22) rfl ?_
      exact kt)
  obtain ⟨T17, X17, e17, st17⟩ := getS2 X11 hx hZ hown (host := "") (Or.inl (hw _ (List.mem_of_getElem? (i := 21) rfl))) Via.refl e11 (S_SECOND_HIGH.ext O0.2) (g := (mkF m 22 #[rv pr0, iv (0 : Int32), iv pi2, iv x3, iv yW, iv yL, .unset, .unset, .unset] [])) rfl (hb hby d3_22)
  have pre18 : ∀ t, Steps p.tables e below (T17.setTop (mkF m 25 #[rv pr0, iv (0 : Int32), iv pi2, iv x3, iv yW, iv yL, .unset, .unset, .unset] [(.ref w_SECOND_HIGH)])) t → Go t := fun t kt => pre16 t (st17 t kt)
  have pre19 : ∀ t, Steps p.tables e below (T17.setTop (mkF m 26 #[rv pr0, iv (0 : Int32), iv pi2, iv x3, iv yW, iv yL, .unset, .unset, .unset] [(.int x3), (.ref w_SECOND_HIGH)])) t → Go t := fun t kt => pre18 t (by
      refine y_iloadN X17.here hx (hb hby d3_25) rfl (pc' := 26) rfl ?_
      exact kt)
  have A20 := AR_w_SECOND_HIGH.ext O0.2
  have pre21 : ∀ t, Steps p.tables e below (T17.setTop (mkF m 27 #[rv pr0, iv (0 : Int32), iv pi2, iv x3, iv yW, iv yL, .unset, .unset, .unset] [(.int yH)])) t → Go t := fun t kt => pre19 t (by
      refine X17.iaload hx (j := x3) (v := (.int yH)) (by rw [e17]; exact A20.1) (State.isArrayOf_alike hZ.alike A20.2.1) A20.2.2 (by rw [hx3]; exact IN_SECOND_HIGH) (by rw [hx3]; exact AT_SECOND_HIGH) (g := (mkF m 26 #[rv pr0, iv (0 : Int32), iv pi2, iv x3, iv yW, iv yL, .unset, .unset, .unset] [(.int x3), (.ref w_SECOND_HIGH)])) rfl rfl (hb hby d3_26) _ ?_
      show Steps p.tables e below (T17.setTop (mkF m 27 #[rv pr0, iv (0 : Int32), iv pi2, iv x3, iv yW, iv yL, .unset, .unset, .unset] [(.int yH)])) _
      exact kt)
  have pre22 : ∀ t, Steps p.tables e below (T17.setTop (mkF m 36 #[rv pr0, iv (0 : Int32), iv pi2, iv x3, iv yW, iv yL, iv yH, iv (1 : Int32), .unset] [(.int yW), (.int (1 : Int32))])) t → Go t := fun t kt => pre21 t (by
      refine y_istore X17.here hx (hb hby d3_27) (l' := #[rv pr0, iv (0 : Int32), iv pi2, iv x3, iv yW, iv yL, iv yH, .unset, .unset]) rfl (pc' := 29) rfl ?_
      refine y_iconst X17.here hx (hb hby d3_29) (v := (1 : Int32)) rfl (pc' := 30) rfl ?_
      refine y_istore X17.here hx (hb hby d3_30) (l' := #[rv pr0, iv (0 : Int32), iv pi2, iv x3, iv yW, iv yL, iv yH, iv (1 : Int32), .unset]) rfl (pc' := 32) rfl ?_
      refine y_iload X17.here hx (hb hby d3_32) rfl (pc' := 34) rfl ?_
      refine y_iload X17.here hx (hb hby d3_34) rfl (pc' := 36) rfl ?_
      exact kt)
  by_cases hc36_23 : (1 : Int32) < yW
  · have pre24 : ∀ t, Steps p.tables e below (T17.setTop (mkF m 44 #[rv pr0, iv (0 : Int32), iv pi2, iv x3, iv yW, iv yL, iv yH, iv (1 : Int32), .unset] [(.int pi2), (.int (1 : Int32))])) t → Go t := fun t kt => pre22 t (by
        refine y_icmpNo X17.here hx (hb hby d3_36) (tlt hc36_23).2.1 (pc' := 39) rfl ?_
        refine y_iloadN X17.here hx (hb hby d3_39) rfl (pc' := 40) rfl ?_
        refine y_iload X17.here hx (hb hby d3_40) rfl (pc' := 42) rfl ?_
        refine y_iadd X17.here hx (hb hby d3_42) (z := (1 : Int32)) rfl (pc' := 43) rfl ?_
        refine y_iloadN X17.here hx (hb hby d3_43) rfl (pc' := 44) rfl ?_
        exact kt)
    by_cases hc44_25 : (1 : Int32) < pi2
    · have pre26 : ∀ t, Steps p.tables e below (T17.setTop (mkF m 52 #[rv pr0, iv (0 : Int32), iv pi2, iv x3, iv yW, iv yL, iv yH, iv (1 : Int32), .unset] [(.int (1 : Int32)), (.ref pr0)])) t → Go t := fun t kt => pre24 t (by
          refine y_icmpNo X17.here hx (hb hby d3_44) (tlt hc44_25).2.1 (pc' := 47) rfl ?_
          refine y_aloadN X17.here hx (hb hby d3_47) rfl rfl (pc' := 48) rfl ?_
          refine y_iloadN X17.here hx (hb hby d3_48) rfl (pc' := 49) rfl ?_
          refine y_iload X17.here hx (hb hby d3_49) rfl (pc' := 51) rfl ?_
          refine y_iadd X17.here hx (hb hby d3_51) (z := (1 : Int32)) rfl (pc' := 52) rfl ?_
          exact kt)
      obtain ⟨c27, Ar27, q27, S27, M27, H27, G27⟩ := id V_pr0
      have hin27 : ¬ ((1 : Int32) < 0 ∨ c27.slots.size ≤ ((1 : Int32)).toNatClampNeg) := inb_of S27 ⟨by decide, by decide⟩
      have hat27 : c27.slots[((1 : Int32)).toNatClampNeg]? = some (.int y1) := Has.at H27 hin27 rfl
      obtain ⟨x28, hx28⟩ : ∃ z : Int32, z = (y1 &&& (255 : Int32)) := ⟨_, rfl⟩
      have pre29 : ∀ t, Steps p.tables e below (T17.setTop (mkF m 59 #[rv pr0, iv (0 : Int32), iv pi2, iv x3, iv yW, iv yL, iv yH, iv (1 : Int32), iv x28] [])) t → Go t := fun t kt => pre26 t (by
          subst hx28
          refine X17.baloadBytes hx (j := (1 : Int32)) (v := (.int y1)) (by rw [e17]; exact Ar27.1) (State.isArrayOf_alike hZ.alike Ar27.2.1) Ar27.2.2 hin27 hat27 (g := (mkF m 52 #[rv pr0, iv (0 : Int32), iv pi2, iv x3, iv yW, iv yL, iv yH, iv (1 : Int32), .unset] [(.int (1 : Int32)), (.ref pr0)])) rfl rfl (hb hby d3_52) _ ?_
          show Steps p.tables e below (T17.setTop (mkF m 53 #[rv pr0, iv (0 : Int32), iv pi2, iv x3, iv yW, iv yL, iv yH, iv (1 : Int32), .unset] [(.int y1)])) _
          refine y_sipush X17.here hx (hb hby d3_53) (v := (255 : Int32)) rfl (pc' := 56) rfl ?_
          refine y_iand X17.here hx (hb hby d3_56) rfl (pc' := 57) rfl ?_
          refine y_istore X17.here hx (hb hby d3_57) (l' := #[rv pr0, iv (0 : Int32), iv pi2, iv x3, iv yW, iv yL, iv yH, iv (1 : Int32), iv (y1 &&& (255 : Int32))]) rfl (pc' := 59) rfl ?_
          exact kt)
      have pre30 : ∀ t, Steps p.tables e below (T17.setTop (mkF m 63 #[rv pr0, iv (0 : Int32), iv pi2, iv x3, iv yW, iv yL, iv yH, iv (1 : Int32), iv x28] [(.int yL), (.int x28)])) t → Go t := fun t kt => pre29 t (by
          refine y_iload X17.here hx (hb hby d3_59) rfl (pc' := 61) rfl ?_
          refine y_iload X17.here hx (hb hby d3_61) rfl (pc' := 63) rfl ?_
          exact kt)
      by_cases hc63_31 : x28 < yL
      · have pre32 : ∀ t, Steps p.tables e below (T17.setTop (mkF m 96 #[rv pr0, iv (0 : Int32), iv pi2, iv x3, iv yW, iv yL, iv yH, iv (1 : Int32), iv x28] [(.int yW), (.int (1 : Int32))])) t → Go t := fun t kt => pre30 t (by
            refine y_icmpYes X17.here hx (hb hby d3_63) (tlt hc63_31).1 (pc' := 92) (by decide) rfl ?_
            refine y_iload X17.here hx (hb hby d3_92) rfl (pc' := 94) rfl ?_
            refine y_iload X17.here hx (hb hby d3_94) rfl (pc' := 96) rfl ?_
            exact kt)
        by_cases hc96_33 : (1 : Int32) = yW
        · have pre34 : ∀ t, Steps p.tables e below (T17.setTop (mkF m 107 #[rv pr0, iv (0 : Int32), iv pi2, iv x3, iv yW, iv yL, iv yH, iv (1 : Int32), iv x28] [(.int yW)])) t → Go t := fun t kt => pre32 t (by
              refine y_icmpNo X17.here hx (hb hby d3_96) (teq hc96_33).2 (pc' := 99) rfl ?_
              refine y_iload X17.here hx (hb hby d3_99) rfl (pc' := 101) rfl ?_
              refine y_goto X17.here hx (hb hby d3_101) (pc' := 107) (by decide) rfl ?_
              exact kt)
          obtain ⟨fs, hr, hrun, hended, hW, hsame⟩ := X17.leave (v := some (.int yW)) (fun h => by rw [Bd.returns] at h; cases h)
          refine ⟨_, _, (hGo _).mp (pre34 _ ?_), hrun, hended, _, _, rfl, ?_, ⟨_, rfl⟩, hW, hsame.mono (by decide) (by decide)⟩
          · exact retOut X17 hx Bd.returns rfl (Or.inl ⟨rfl, Or.inl rfl, _, rfl⟩) (hb hby d3_107) hr
          · show Q3a0 Z pr0 pi2 w_SEQUENCE_LENGTH w_SECOND_LOW w_SECOND_HIGH yW yL yH kk_pr0 y0 y1 y2 y3 y4 y5 y6 y7 cc_w_SEQUENCE_LENGTH cc_w_SECOND_LOW cc_w_SECOND_HIGH h0 n0 _ T17.heap _
            rw [e17]
            subst hx3 hx28
            exact ⟨(by first | (simp only [fr3a0, if_pos hc36_23, if_pos hc44_25, if_pos hc63_31, if_pos hc96_33]; done) | (simp only [fr3a0, if_pos hc36_23, if_pos hc44_25, if_pos hc63_31, if_pos hc96_33]; exact rfl) | exact rfl), N0, rfl⟩
        · have pre35 : ∀ t, Steps p.tables e below (T17.setTop (mkF m 107 #[rv pr0, iv (0 : Int32), iv pi2, iv x3, iv yW, iv yL, iv yH, iv (1 : Int32), iv x28] [(.int (-1 : Int32))])) t → Go t := fun t kt => pre32 t (by
              refine y_icmpYes X17.here hx (hb hby d3_96) (feq hc96_33).2 (pc' := 104) (by decide) rfl ?_
              refine y_iload X17.here hx (hb hby d3_104) rfl (pc' := 106) rfl ?_
              refine y_ineg X17.here hx (hb hby d3_106) (z := (-1 : Int32)) rfl (pc' := 107) rfl ?_
              exact kt)
          obtain ⟨fs, hr, hrun, hended, hW, hsame⟩ := X17.leave (v := some (.int (-1 : Int32))) (fun h => by rw [Bd.returns] at h; cases h)
          refine ⟨_, _, (hGo _).mp (pre35 _ ?_), hrun, hended, _, _, rfl, ?_, ⟨_, rfl⟩, hW, hsame.mono (by decide) (by decide)⟩
          · exact retOut X17 hx Bd.returns rfl (Or.inl ⟨rfl, Or.inl rfl, _, rfl⟩) (hb hby d3_107) hr
          · show Q3a0 Z pr0 pi2 w_SEQUENCE_LENGTH w_SECOND_LOW w_SECOND_HIGH yW yL yH kk_pr0 y0 y1 y2 y3 y4 y5 y6 y7 cc_w_SEQUENCE_LENGTH cc_w_SECOND_LOW cc_w_SECOND_HIGH h0 n0 _ T17.heap _
            rw [e17]
            subst hx3 hx28
            exact ⟨(by first | (simp only [fr3a0, if_pos hc36_23, if_pos hc44_25, if_pos hc63_31, if_neg hc96_33]; done) | (simp only [fr3a0, if_pos hc36_23, if_pos hc44_25, if_pos hc63_31, if_neg hc96_33]; exact rfl) | exact rfl), N0, rfl⟩
      · have pre36 : ∀ t, Steps p.tables e below (T17.setTop (mkF m 70 #[rv pr0, iv (0 : Int32), iv pi2, iv x3, iv yW, iv yL, iv yH, iv (1 : Int32), iv x28] [(.int yH), (.int x28)])) t → Go t := fun t kt => pre30 t (by
            refine y_icmpNo X17.here hx (hb hby d3_63) (flt hc63_31).1 (pc' := 66) rfl ?_
            refine y_iload X17.here hx (hb hby d3_66) rfl (pc' := 68) rfl ?_
            refine y_iload X17.here hx (hb hby d3_68) rfl (pc' := 70) rfl ?_
            exact kt)
        by_cases hc70_37 : yH < x28
        · have pre38 : ∀ t, Steps p.tables e below (T17.setTop (mkF m 96 #[rv pr0, iv (0 : Int32), iv pi2, iv x3, iv yW, iv yL, iv yH, iv (1 : Int32), iv x28] [(.int yW), (.int (1 : Int32))])) t → Go t := fun t kt => pre36 t (by
              refine y_icmpNo X17.here hx (hb hby d3_70) (tlt hc70_37).2.2.2 (pc' := 73) rfl ?_
              refine y_goto X17.here hx (hb hby d3_73) (pc' := 92) (by decide) rfl ?_
              refine y_iload X17.here hx (hb hby d3_92) rfl (pc' := 94) rfl ?_
              refine y_iload X17.here hx (hb hby d3_94) rfl (pc' := 96) rfl ?_
              exact kt)
          by_cases hc96_39 : (1 : Int32) = yW
          · have pre40 : ∀ t, Steps p.tables e below (T17.setTop (mkF m 107 #[rv pr0, iv (0 : Int32), iv pi2, iv x3, iv yW, iv yL, iv yH, iv (1 : Int32), iv x28] [(.int yW)])) t → Go t := fun t kt => pre38 t (by
                refine y_icmpNo X17.here hx (hb hby d3_96) (teq hc96_39).2 (pc' := 99) rfl ?_
                refine y_iload X17.here hx (hb hby d3_99) rfl (pc' := 101) rfl ?_
                refine y_goto X17.here hx (hb hby d3_101) (pc' := 107) (by decide) rfl ?_
                exact kt)
            obtain ⟨fs, hr, hrun, hended, hW, hsame⟩ := X17.leave (v := some (.int yW)) (fun h => by rw [Bd.returns] at h; cases h)
            refine ⟨_, _, (hGo _).mp (pre40 _ ?_), hrun, hended, _, _, rfl, ?_, ⟨_, rfl⟩, hW, hsame.mono (by decide) (by decide)⟩
            · exact retOut X17 hx Bd.returns rfl (Or.inl ⟨rfl, Or.inl rfl, _, rfl⟩) (hb hby d3_107) hr
            · show Q3a0 Z pr0 pi2 w_SEQUENCE_LENGTH w_SECOND_LOW w_SECOND_HIGH yW yL yH kk_pr0 y0 y1 y2 y3 y4 y5 y6 y7 cc_w_SEQUENCE_LENGTH cc_w_SECOND_LOW cc_w_SECOND_HIGH h0 n0 _ T17.heap _
              rw [e17]
              subst hx3 hx28
              exact ⟨(by first | (simp only [fr3a0, if_pos hc36_23, if_pos hc44_25, if_neg hc63_31, if_pos hc70_37, if_pos hc96_39]; done) | (simp only [fr3a0, if_pos hc36_23, if_pos hc44_25, if_neg hc63_31, if_pos hc70_37, if_pos hc96_39]; exact rfl) | exact rfl), N0, rfl⟩
          · have pre41 : ∀ t, Steps p.tables e below (T17.setTop (mkF m 107 #[rv pr0, iv (0 : Int32), iv pi2, iv x3, iv yW, iv yL, iv yH, iv (1 : Int32), iv x28] [(.int (-1 : Int32))])) t → Go t := fun t kt => pre38 t (by
                refine y_icmpYes X17.here hx (hb hby d3_96) (feq hc96_39).2 (pc' := 104) (by decide) rfl ?_
                refine y_iload X17.here hx (hb hby d3_104) rfl (pc' := 106) rfl ?_
                refine y_ineg X17.here hx (hb hby d3_106) (z := (-1 : Int32)) rfl (pc' := 107) rfl ?_
                exact kt)
            obtain ⟨fs, hr, hrun, hended, hW, hsame⟩ := X17.leave (v := some (.int (-1 : Int32))) (fun h => by rw [Bd.returns] at h; cases h)
            refine ⟨_, _, (hGo _).mp (pre41 _ ?_), hrun, hended, _, _, rfl, ?_, ⟨_, rfl⟩, hW, hsame.mono (by decide) (by decide)⟩
            · exact retOut X17 hx Bd.returns rfl (Or.inl ⟨rfl, Or.inl rfl, _, rfl⟩) (hb hby d3_107) hr
            · show Q3a0 Z pr0 pi2 w_SEQUENCE_LENGTH w_SECOND_LOW w_SECOND_HIGH yW yL yH kk_pr0 y0 y1 y2 y3 y4 y5 y6 y7 cc_w_SEQUENCE_LENGTH cc_w_SECOND_LOW cc_w_SECOND_HIGH h0 n0 _ T17.heap _
              rw [e17]
              subst hx3 hx28
              exact ⟨(by first | (simp only [fr3a0, if_pos hc36_23, if_pos hc44_25, if_neg hc63_31, if_pos hc70_37, if_neg hc96_39]; done) | (simp only [fr3a0, if_pos hc36_23, if_pos hc44_25, if_neg hc63_31, if_pos hc70_37, if_neg hc96_39]; exact rfl) | exact rfl), N0, rfl⟩
        · have pre42 : ∀ t, Steps p.tables e below (T17.setTop (mkF m 36 #[rv pr0, iv (0 : Int32), iv pi2, iv x3, iv yW, iv (128 : Int32), iv (191 : Int32), iv (2 : Int32), iv x28] [(.int yW), (.int (2 : Int32))])) t → Go t := fun t kt => pre36 t (by
              refine y_icmpYes X17.here hx (hb hby d3_70) (flt hc70_37).2.2.2 (pc' := 76) (by decide) rfl ?_
              refine y_iinc X17.here hx (hb hby d3_76) rfl (l' := #[rv pr0, iv (0 : Int32), iv pi2, iv x3, iv yW, iv yL, iv yH, iv (2 : Int32), iv x28]) rfl (pc' := 79) rfl ?_
              refine y_sipush X17.here hx (hb hby d3_79) (v := (128 : Int32)) rfl (pc' := 82) rfl ?_
              refine y_istore X17.here hx (hb hby d3_82) (l' := #[rv pr0, iv (0 : Int32), iv pi2, iv x3, iv yW, iv (128 : Int32), iv yH, iv (2 : Int32), iv x28]) rfl (pc' := 84) rfl ?_
              refine y_sipush X17.here hx (hb hby d3_84) (v := (191 : Int32)) rfl (pc' := 87) rfl ?_
              refine y_istore X17.here hx (hb hby d3_87) (l' := #[rv pr0, iv (0 : Int32), iv pi2, iv x3, iv yW, iv (128 : Int32), iv (191 : Int32), iv (2 : Int32), iv x28]) rfl (pc' := 89) rfl ?_
              refine y_goto X17.here hx (hb hby d3_89) (pc' := 32) (by decide) rfl ?_
              refine y_iload X17.here hx (hb hby d3_32) rfl (pc' := 34) rfl ?_
              refine y_iload X17.here hx (hb hby d3_34) rfl (pc' := 36) rfl ?_
              exact kt)
          by_cases hc36_43 : (2 : Int32) < yW
          · have pre44 : ∀ t, Steps p.tables e below (T17.setTop (mkF m 44 #[rv pr0, iv (0 : Int32), iv pi2, iv x3, iv yW, iv (128 : Int32), iv (191 : Int32), iv (2 : Int32), iv x28] [(.int pi2), (.int (2 : Int32))])) t → Go t := fun t kt => pre42 t (by
                refine y_icmpNo X17.here hx (hb hby d3_36) (tlt hc36_43).2.1 (pc' := 39) rfl ?_
                refine y_iloadN X17.here hx (hb hby d3_39) rfl (pc' := 40) rfl ?_
                refine y_iload X17.here hx (hb hby d3_40) rfl (pc' := 42) rfl ?_
                refine y_iadd X17.here hx (hb hby d3_42) (z := (2 : Int32)) rfl (pc' := 43) rfl ?_
                refine y_iloadN X17.here hx (hb hby d3_43) rfl (pc' := 44) rfl ?_
                exact kt)
            by_cases hc44_45 : (2 : Int32) < pi2
            · have pre46 : ∀ t, Steps p.tables e below (T17.setTop (mkF m 52 #[rv pr0, iv (0 : Int32), iv pi2, iv x3, iv yW, iv (128 : Int32), iv (191 : Int32), iv (2 : Int32), iv x28] [(.int (2 : Int32)), (.ref pr0)])) t → Go t := fun t kt => pre44 t (by
                  refine y_icmpNo X17.here hx (hb hby d3_44) (tlt hc44_45).2.1 (pc' := 47) rfl ?_
                  refine y_aloadN X17.here hx (hb hby d3_47) rfl rfl (pc' := 48) rfl ?_
                  refine y_iloadN X17.here hx (hb hby d3_48) rfl (pc' := 49) rfl ?_
                  refine y_iload X17.here hx (hb hby d3_49) rfl (pc' := 51) rfl ?_
                  refine y_iadd X17.here hx (hb hby d3_51) (z := (2 : Int32)) rfl (pc' := 52) rfl ?_
                  exact kt)
              obtain ⟨c47, Ar47, q47, S47, M47, H47, G47⟩ := id V_pr0
              have hin47 : ¬ ((2 : Int32) < 0 ∨ c47.slots.size ≤ ((2 : Int32)).toNatClampNeg) := inb_of S47 ⟨by decide, by decide⟩
              have hat47 : c47.slots[((2 : Int32)).toNatClampNeg]? = some (.int y2) := Has.at H47 hin47 rfl
              obtain ⟨x48, hx48⟩ : ∃ z : Int32, z = (y2 &&& (255 : Int32)) := ⟨_, rfl⟩
              have pre49 : ∀ t, Steps p.tables e below (T17.setTop (mkF m 59 #[rv pr0, iv (0 : Int32), iv pi2, iv x3, iv yW, iv (128 : Int32), iv (191 : Int32), iv (2 : Int32), iv x48] [])) t → Go t := fun t kt => pre46 t (by
                  subst hx48
                  refine X17.baloadBytes hx (j := (2 : Int32)) (v := (.int y2)) (by rw [e17]; exact Ar47.1) (State.isArrayOf_alike hZ.alike Ar47.2.1) Ar47.2.2 hin47 hat47 (g := (mkF m 52 #[rv pr0, iv (0 : Int32), iv pi2, iv x3, iv yW, iv (128 : Int32), iv (191 : Int32), iv (2 : Int32), iv x28] [(.int (2 : Int32)), (.ref pr0)])) rfl rfl (hb hby d3_52) _ ?_
                  show Steps p.tables e below (T17.setTop (mkF m 53 #[rv pr0, iv (0 : Int32), iv pi2, iv x3, iv yW, iv (128 : Int32), iv (191 : Int32), iv (2 : Int32), iv x28] [(.int y2)])) _
                  refine y_sipush X17.here hx (hb hby d3_53) (v := (255 : Int32)) rfl (pc' := 56) rfl ?_
                  refine y_iand X17.here hx (hb hby d3_56) rfl (pc' := 57) rfl ?_
                  refine y_istore X17.here hx (hb hby d3_57) (l' := #[rv pr0, iv (0 : Int32), iv pi2, iv x3, iv yW, iv (128 : Int32), iv (191 : Int32), iv (2 : Int32), iv (y2 &&& (255 : Int32))]) rfl (pc' := 59) rfl ?_
                  exact kt)
              have pre50 : ∀ t, Steps p.tables e below (T17.setTop (mkF m 63 #[rv pr0, iv (0 : Int32), iv pi2, iv x3, iv yW, iv (128 : Int32), iv (191 : Int32), iv (2 : Int32), iv x48] [(.int (128 : Int32)), (.int x48)])) t → Go t := fun t kt => pre49 t (by
                  refine y_iload X17.here hx (hb hby d3_59) rfl (pc' := 61) rfl ?_
                  refine y_iload X17.here hx (hb hby d3_61) rfl (pc' := 63) rfl ?_
                  exact kt)
              by_cases hc63_51 : x48 < (128 : Int32)
              · have pre52 : ∀ t, Steps p.tables e below (T17.setTop (mkF m 96 #[rv pr0, iv (0 : Int32), iv pi2, iv x3, iv yW, iv (128 : Int32), iv (191 : Int32), iv (2 : Int32), iv x48] [(.int yW), (.int (2 : Int32))])) t → Go t := fun t kt => pre50 t (by
                    refine y_icmpYes X17.here hx (hb hby d3_63) (tlt hc63_51).1 (pc' := 92) (by decide) rfl ?_
                    refine y_iload X17.here hx (hb hby d3_92) rfl (pc' := 94) rfl ?_
                    refine y_iload X17.here hx (hb hby d3_94) rfl (pc' := 96) rfl ?_
                    exact kt)
                by_cases hc96_53 : (2 : Int32) = yW
                · have pre54 : ∀ t, Steps p.tables e below (T17.setTop (mkF m 107 #[rv pr0, iv (0 : Int32), iv pi2, iv x3, iv yW, iv (128 : Int32), iv (191 : Int32), iv (2 : Int32), iv x48] [(.int yW)])) t → Go t := fun t kt => pre52 t (by
                      refine y_icmpNo X17.here hx (hb hby d3_96) (teq hc96_53).2 (pc' := 99) rfl ?_
                      refine y_iload X17.here hx (hb hby d3_99) rfl (pc' := 101) rfl ?_
                      refine y_goto X17.here hx (hb hby d3_101) (pc' := 107) (by decide) rfl ?_
                      exact kt)
                  obtain ⟨fs, hr, hrun, hended, hW, hsame⟩ := X17.leave (v := some (.int yW)) (fun h => by rw [Bd.returns] at h; cases h)
                  refine ⟨_, _, (hGo _).mp (pre54 _ ?_), hrun, hended, _, _, rfl, ?_, ⟨_, rfl⟩, hW, hsame.mono (by decide) (by decide)⟩
                  · exact retOut X17 hx Bd.returns rfl (Or.inl ⟨rfl, Or.inl rfl, _, rfl⟩) (hb hby d3_107) hr
                  · show Q3a0 Z pr0 pi2 w_SEQUENCE_LENGTH w_SECOND_LOW w_SECOND_HIGH yW yL yH kk_pr0 y0 y1 y2 y3 y4 y5 y6 y7 cc_w_SEQUENCE_LENGTH cc_w_SECOND_LOW cc_w_SECOND_HIGH h0 n0 _ T17.heap _
                    rw [e17]
                    subst hx3 hx28 hx48
                    exact ⟨(by first | (simp only [fr3a0, if_pos hc36_23, if_pos hc44_25, if_neg hc63_31, if_neg hc70_37, if_pos hc36_43, if_pos hc44_45, if_pos hc63_51, if_pos hc96_53]; done) | (simp only [fr3a0, if_pos hc36_23, if_pos hc44_25, if_neg hc63_31, if_neg hc70_37, if_pos hc36_43, if_pos hc44_45, if_pos hc63_51, if_pos hc96_53]; exact rfl) | exact rfl), N0, rfl⟩
                · have pre55 : ∀ t, Steps p.tables e below (T17.setTop (mkF m 107 #[rv pr0, iv (0 : Int32), iv pi2, iv x3, iv yW, iv (128 : Int32), iv (191 : Int32), iv (2 : Int32), iv x48] [(.int (-2 : Int32))])) t → Go t := fun t kt => pre52 t (by
                      refine y_icmpYes X17.here hx (hb hby d3_96) (feq hc96_53).2 (pc' := 104) (by decide) rfl ?_
                      refine y_iload X17.here hx (hb hby d3_104) rfl (pc' := 106) rfl ?_
                      refine y_ineg X17.here hx (hb hby d3_106) (z := (-2 : Int32)) rfl (pc' := 107) rfl ?_
                      exact kt)
                  obtain ⟨fs, hr, hrun, hended, hW, hsame⟩ := X17.leave (v := some (.int (-2 : Int32))) (fun h => by rw [Bd.returns] at h; cases h)
                  refine ⟨_, _, (hGo _).mp (pre55 _ ?_), hrun, hended, _, _, rfl, ?_, ⟨_, rfl⟩, hW, hsame.mono (by decide) (by decide)⟩
                  · exact retOut X17 hx Bd.returns rfl (Or.inl ⟨rfl, Or.inl rfl, _, rfl⟩) (hb hby d3_107) hr
                  · show Q3a0 Z pr0 pi2 w_SEQUENCE_LENGTH w_SECOND_LOW w_SECOND_HIGH yW yL yH kk_pr0 y0 y1 y2 y3 y4 y5 y6 y7 cc_w_SEQUENCE_LENGTH cc_w_SECOND_LOW cc_w_SECOND_HIGH h0 n0 _ T17.heap _
                    rw [e17]
                    subst hx3 hx28 hx48
                    exact ⟨(by first | (simp only [fr3a0, if_pos hc36_23, if_pos hc44_25, if_neg hc63_31, if_neg hc70_37, if_pos hc36_43, if_pos hc44_45, if_pos hc63_51, if_neg hc96_53]; done) | (simp only [fr3a0, if_pos hc36_23, if_pos hc44_25, if_neg hc63_31, if_neg hc70_37, if_pos hc36_43, if_pos hc44_45, if_pos hc63_51, if_neg hc96_53]; exact rfl) | exact rfl), N0, rfl⟩
              · have pre56 : ∀ t, Steps p.tables e below (T17.setTop (mkF m 70 #[rv pr0, iv (0 : Int32), iv pi2, iv x3, iv yW, iv (128 : Int32), iv (191 : Int32), iv (2 : Int32), iv x48] [(.int (191 : Int32)), (.int x48)])) t → Go t := fun t kt => pre50 t (by
                    refine y_icmpNo X17.here hx (hb hby d3_63) (flt hc63_51).1 (pc' := 66) rfl ?_
                    refine y_iload X17.here hx (hb hby d3_66) rfl (pc' := 68) rfl ?_
                    refine y_iload X17.here hx (hb hby d3_68) rfl (pc' := 70) rfl ?_
                    exact kt)
                by_cases hc70_57 : (191 : Int32) < x48
                · have pre58 : ∀ t, Steps p.tables e below (T17.setTop (mkF m 96 #[rv pr0, iv (0 : Int32), iv pi2, iv x3, iv yW, iv (128 : Int32), iv (191 : Int32), iv (2 : Int32), iv x48] [(.int yW), (.int (2 : Int32))])) t → Go t := fun t kt => pre56 t (by
                      refine y_icmpNo X17.here hx (hb hby d3_70) (tlt hc70_57).2.2.2 (pc' := 73) rfl ?_
                      refine y_goto X17.here hx (hb hby d3_73) (pc' := 92) (by decide) rfl ?_
                      refine y_iload X17.here hx (hb hby d3_92) rfl (pc' := 94) rfl ?_
                      refine y_iload X17.here hx (hb hby d3_94) rfl (pc' := 96) rfl ?_
                      exact kt)
                  by_cases hc96_59 : (2 : Int32) = yW
                  · have pre60 : ∀ t, Steps p.tables e below (T17.setTop (mkF m 107 #[rv pr0, iv (0 : Int32), iv pi2, iv x3, iv yW, iv (128 : Int32), iv (191 : Int32), iv (2 : Int32), iv x48] [(.int yW)])) t → Go t := fun t kt => pre58 t (by
                        refine y_icmpNo X17.here hx (hb hby d3_96) (teq hc96_59).2 (pc' := 99) rfl ?_
                        refine y_iload X17.here hx (hb hby d3_99) rfl (pc' := 101) rfl ?_
                        refine y_goto X17.here hx (hb hby d3_101) (pc' := 107) (by decide) rfl ?_
                        exact kt)
                    obtain ⟨fs, hr, hrun, hended, hW, hsame⟩ := X17.leave (v := some (.int yW)) (fun h => by rw [Bd.returns] at h; cases h)
                    refine ⟨_, _, (hGo _).mp (pre60 _ ?_), hrun, hended, _, _, rfl, ?_, ⟨_, rfl⟩, hW, hsame.mono (by decide) (by decide)⟩
                    · exact retOut X17 hx Bd.returns rfl (Or.inl ⟨rfl, Or.inl rfl, _, rfl⟩) (hb hby d3_107) hr
                    · show Q3a0 Z pr0 pi2 w_SEQUENCE_LENGTH w_SECOND_LOW w_SECOND_HIGH yW yL yH kk_pr0 y0 y1 y2 y3 y4 y5 y6 y7 cc_w_SEQUENCE_LENGTH cc_w_SECOND_LOW cc_w_SECOND_HIGH h0 n0 _ T17.heap _
                      rw [e17]
                      subst hx3 hx28 hx48
                      exact ⟨(by first | (simp only [fr3a0, if_pos hc36_23, if_pos hc44_25, if_neg hc63_31, if_neg hc70_37, if_pos hc36_43, if_pos hc44_45, if_neg hc63_51, if_pos hc70_57, if_pos hc96_59]; done) | (simp only [fr3a0, if_pos hc36_23, if_pos hc44_25, if_neg hc63_31, if_neg hc70_37, if_pos hc36_43, if_pos hc44_45, if_neg hc63_51, if_pos hc70_57, if_pos hc96_59]; exact rfl) | exact rfl), N0, rfl⟩
                  · have pre61 : ∀ t, Steps p.tables e below (T17.setTop (mkF m 107 #[rv pr0, iv (0 : Int32), iv pi2, iv x3, iv yW, iv (128 : Int32), iv (191 : Int32), iv (2 : Int32), iv x48] [(.int (-2 : Int32))])) t → Go t := fun t kt => pre58 t (by
                        refine y_icmpYes X17.here hx (hb hby d3_96) (feq hc96_59).2 (pc' := 104) (by decide) rfl ?_
                        refine y_iload X17.here hx (hb hby d3_104) rfl (pc' := 106) rfl ?_
                        refine y_ineg X17.here hx (hb hby d3_106) (z := (-2 : Int32)) rfl (pc' := 107) rfl ?_
                        exact kt)
                    obtain ⟨fs, hr, hrun, hended, hW, hsame⟩ := X17.leave (v := some (.int (-2 : Int32))) (fun h => by rw [Bd.returns] at h; cases h)
                    refine ⟨_, _, (hGo _).mp (pre61 _ ?_), hrun, hended, _, _, rfl, ?_, ⟨_, rfl⟩, hW, hsame.mono (by decide) (by decide)⟩
                    · exact retOut X17 hx Bd.returns rfl (Or.inl ⟨rfl, Or.inl rfl, _, rfl⟩) (hb hby d3_107) hr
                    · show Q3a0 Z pr0 pi2 w_SEQUENCE_LENGTH w_SECOND_LOW w_SECOND_HIGH yW yL yH kk_pr0 y0 y1 y2 y3 y4 y5 y6 y7 cc_w_SEQUENCE_LENGTH cc_w_SECOND_LOW cc_w_SECOND_HIGH h0 n0 _ T17.heap _
                      rw [e17]
                      subst hx3 hx28 hx48
                      exact ⟨(by first | (simp only [fr3a0, if_pos hc36_23, if_pos hc44_25, if_neg hc63_31, if_neg hc70_37, if_pos hc36_43, if_pos hc44_45, if_neg hc63_51, if_pos hc70_57, if_neg hc96_59]; done) | (simp only [fr3a0, if_pos hc36_23, if_pos hc44_25, if_neg hc63_31, if_neg hc70_37, if_pos hc36_43, if_pos hc44_45, if_neg hc63_51, if_pos hc70_57, if_neg hc96_59]; exact rfl) | exact rfl), N0, rfl⟩
                · have pre62 : ∀ t, Steps p.tables e below (T17.setTop (mkF m 36 #[rv pr0, iv (0 : Int32), iv pi2, iv x3, iv yW, iv (128 : Int32), iv (191 : Int32), iv (3 : Int32), iv x48] [(.int yW), (.int (3 : Int32))])) t → Go t := fun t kt => pre56 t (by
                      refine y_icmpYes X17.here hx (hb hby d3_70) (flt hc70_57).2.2.2 (pc' := 76) (by decide) rfl ?_
                      refine y_iinc X17.here hx (hb hby d3_76) rfl (l' := #[rv pr0, iv (0 : Int32), iv pi2, iv x3, iv yW, iv (128 : Int32), iv (191 : Int32), iv (3 : Int32), iv x48]) rfl (pc' := 79) rfl ?_
                      refine y_sipush X17.here hx (hb hby d3_79) (v := (128 : Int32)) rfl (pc' := 82) rfl ?_
                      refine y_istore X17.here hx (hb hby d3_82) (l' := #[rv pr0, iv (0 : Int32), iv pi2, iv x3, iv yW, iv (128 : Int32), iv (191 : Int32), iv (3 : Int32), iv x48]) rfl (pc' := 84) rfl ?_
                      refine y_sipush X17.here hx (hb hby d3_84) (v := (191 : Int32)) rfl (pc' := 87) rfl ?_
                      refine y_istore X17.here hx (hb hby d3_87) (l' := #[rv pr0, iv (0 : Int32), iv pi2, iv x3, iv yW, iv (128 : Int32), iv (191 : Int32), iv (3 : Int32), iv x48]) rfl (pc' := 89) rfl ?_
                      refine y_goto X17.here hx (hb hby d3_89) (pc' := 32) (by decide) rfl ?_
                      refine y_iload X17.here hx (hb hby d3_32) rfl (pc' := 34) rfl ?_
                      refine y_iload X17.here hx (hb hby d3_34) rfl (pc' := 36) rfl ?_
                      exact kt)
                  by_cases hc36_63 : (3 : Int32) < yW
                  · have pre64 : ∀ t, Steps p.tables e below (T17.setTop (mkF m 44 #[rv pr0, iv (0 : Int32), iv pi2, iv x3, iv yW, iv (128 : Int32), iv (191 : Int32), iv (3 : Int32), iv x48] [(.int pi2), (.int (3 : Int32))])) t → Go t := fun t kt => pre62 t (by
                        refine y_icmpNo X17.here hx (hb hby d3_36) (tlt hc36_63).2.1 (pc' := 39) rfl ?_
                        refine y_iloadN X17.here hx (hb hby d3_39) rfl (pc' := 40) rfl ?_
                        refine y_iload X17.here hx (hb hby d3_40) rfl (pc' := 42) rfl ?_
                        refine y_iadd X17.here hx (hb hby d3_42) (z := (3 : Int32)) rfl (pc' := 43) rfl ?_
                        refine y_iloadN X17.here hx (hb hby d3_43) rfl (pc' := 44) rfl ?_
                        exact kt)
                    by_cases hc44_65 : (3 : Int32) < pi2
                    · have pre66 : ∀ t, Steps p.tables e below (T17.setTop (mkF m 52 #[rv pr0, iv (0 : Int32), iv pi2, iv x3, iv yW, iv (128 : Int32), iv (191 : Int32), iv (3 : Int32), iv x48] [(.int (3 : Int32)), (.ref pr0)])) t → Go t := fun t kt => pre64 t (by
                          refine y_icmpNo X17.here hx (hb hby d3_44) (tlt hc44_65).2.1 (pc' := 47) rfl ?_
                          refine y_aloadN X17.here hx (hb hby d3_47) rfl rfl (pc' := 48) rfl ?_
                          refine y_iloadN X17.here hx (hb hby d3_48) rfl (pc' := 49) rfl ?_
                          refine y_iload X17.here hx (hb hby d3_49) rfl (pc' := 51) rfl ?_
                          refine y_iadd X17.here hx (hb hby d3_51) (z := (3 : Int32)) rfl (pc' := 52) rfl ?_
                          exact kt)
                      obtain ⟨c67, Ar67, q67, S67, M67, H67, G67⟩ := id V_pr0
                      have hin67 : ¬ ((3 : Int32) < 0 ∨ c67.slots.size ≤ ((3 : Int32)).toNatClampNeg) := inb_of S67 ⟨by decide, by decide⟩
                      have hat67 : c67.slots[((3 : Int32)).toNatClampNeg]? = some (.int y3) := Has.at H67 hin67 rfl
                      obtain ⟨x68, hx68⟩ : ∃ z : Int32, z = (y3 &&& (255 : Int32)) := ⟨_, rfl⟩
                      have pre69 : ∀ t, Steps p.tables e below (T17.setTop (mkF m 59 #[rv pr0, iv (0 : Int32), iv pi2, iv x3, iv yW, iv (128 : Int32), iv (191 : Int32), iv (3 : Int32), iv x68] [])) t → Go t := fun t kt => pre66 t (by
                          subst hx68
                          refine X17.baloadBytes hx (j := (3 : Int32)) (v := (.int y3)) (by rw [e17]; exact Ar67.1) (State.isArrayOf_alike hZ.alike Ar67.2.1) Ar67.2.2 hin67 hat67 (g := (mkF m 52 #[rv pr0, iv (0 : Int32), iv pi2, iv x3, iv yW, iv (128 : Int32), iv (191 : Int32), iv (3 : Int32), iv x48] [(.int (3 : Int32)), (.ref pr0)])) rfl rfl (hb hby d3_52) _ ?_
                          show Steps p.tables e below (T17.setTop (mkF m 53 #[rv pr0, iv (0 : Int32), iv pi2, iv x3, iv yW, iv (128 : Int32), iv (191 : Int32), iv (3 : Int32), iv x48] [(.int y3)])) _
                          refine y_sipush X17.here hx (hb hby d3_53) (v := (255 : Int32)) rfl (pc' := 56) rfl ?_
                          refine y_iand X17.here hx (hb hby d3_56) rfl (pc' := 57) rfl ?_
                          refine y_istore X17.here hx (hb hby d3_57) (l' := #[rv pr0, iv (0 : Int32), iv pi2, iv x3, iv yW, iv (128 : Int32), iv (191 : Int32), iv (3 : Int32), iv (y3 &&& (255 : Int32))]) rfl (pc' := 59) rfl ?_
                          exact kt)
                      have pre70 : ∀ t, Steps p.tables e below (T17.setTop (mkF m 63 #[rv pr0, iv (0 : Int32), iv pi2, iv x3, iv yW, iv (128 : Int32), iv (191 : Int32), iv (3 : Int32), iv x68] [(.int (128 : Int32)), (.int x68)])) t → Go t := fun t kt => pre69 t (by
                          refine y_iload X17.here hx (hb hby d3_59) rfl (pc' := 61) rfl ?_
                          refine y_iload X17.here hx (hb hby d3_61) rfl (pc' := 63) rfl ?_
                          exact kt)
                      by_cases hc63_71 : x68 < (128 : Int32)
                      · have pre72 : ∀ t, Steps p.tables e below (T17.setTop (mkF m 96 #[rv pr0, iv (0 : Int32), iv pi2, iv x3, iv yW, iv (128 : Int32), iv (191 : Int32), iv (3 : Int32), iv x68] [(.int yW), (.int (3 : Int32))])) t → Go t := fun t kt => pre70 t (by
                            refine y_icmpYes X17.here hx (hb hby d3_63) (tlt hc63_71).1 (pc' := 92) (by decide) rfl ?_
                            refine y_iload X17.here hx (hb hby d3_92) rfl (pc' := 94) rfl ?_
                            refine y_iload X17.here hx (hb hby d3_94) rfl (pc' := 96) rfl ?_
                            exact kt)
                        by_cases hc96_73 : (3 : Int32) = yW
                        · have pre74 : ∀ t, Steps p.tables e below (T17.setTop (mkF m 107 #[rv pr0, iv (0 : Int32), iv pi2, iv x3, iv yW, iv (128 : Int32), iv (191 : Int32), iv (3 : Int32), iv x68] [(.int yW)])) t → Go t := fun t kt => pre72 t (by
                              refine y_icmpNo X17.here hx (hb hby d3_96) (teq hc96_73).2 (pc' := 99) rfl ?_
                              refine y_iload X17.here hx (hb hby d3_99) rfl (pc' := 101) rfl ?_
                              refine y_goto X17.here hx (hb hby d3_101) (pc' := 107) (by decide) rfl ?_
                              exact kt)
                          obtain ⟨fs, hr, hrun, hended, hW, hsame⟩ := X17.leave (v := some (.int yW)) (fun h => by rw [Bd.returns] at h; cases h)
                          refine ⟨_, _, (hGo _).mp (pre74 _ ?_), hrun, hended, _, _, rfl, ?_, ⟨_, rfl⟩, hW, hsame.mono (by decide) (by decide)⟩
                          · exact retOut X17 hx Bd.returns rfl (Or.inl ⟨rfl, Or.inl rfl, _, rfl⟩) (hb hby d3_107) hr
                          · show Q3a0 Z pr0 pi2 w_SEQUENCE_LENGTH w_SECOND_LOW w_SECOND_HIGH yW yL yH kk_pr0 y0 y1 y2 y3 y4 y5 y6 y7 cc_w_SEQUENCE_LENGTH cc_w_SECOND_LOW cc_w_SECOND_HIGH h0 n0 _ T17.heap _
                            rw [e17]
                            subst hx3 hx28 hx48 hx68
                            exact ⟨(by first | (simp only [fr3a0, if_pos hc36_23, if_pos hc44_25, if_neg hc63_31, if_neg hc70_37, if_pos hc36_43, if_pos hc44_45, if_neg hc63_51, if_neg hc70_57, if_pos hc36_63, if_pos hc44_65, if_pos hc63_71, if_pos hc96_73]; done) | (simp only [fr3a0, if_pos hc36_23, if_pos hc44_25, if_neg hc63_31, if_neg hc70_37, if_pos hc36_43, if_pos hc44_45, if_neg hc63_51, if_neg hc70_57, if_pos hc36_63, if_pos hc44_65, if_pos hc63_71, if_pos hc96_73]; exact rfl) | exact rfl), N0, rfl⟩
                        · have pre75 : ∀ t, Steps p.tables e below (T17.setTop (mkF m 107 #[rv pr0, iv (0 : Int32), iv pi2, iv x3, iv yW, iv (128 : Int32), iv (191 : Int32), iv (3 : Int32), iv x68] [(.int (-3 : Int32))])) t → Go t := fun t kt => pre72 t (by
                              refine y_icmpYes X17.here hx (hb hby d3_96) (feq hc96_73).2 (pc' := 104) (by decide) rfl ?_
                              refine y_iload X17.here hx (hb hby d3_104) rfl (pc' := 106) rfl ?_
                              refine y_ineg X17.here hx (hb hby d3_106) (z := (-3 : Int32)) rfl (pc' := 107) rfl ?_
                              exact kt)
                          obtain ⟨fs, hr, hrun, hended, hW, hsame⟩ := X17.leave (v := some (.int (-3 : Int32))) (fun h => by rw [Bd.returns] at h; cases h)
                          refine ⟨_, _, (hGo _).mp (pre75 _ ?_), hrun, hended, _, _, rfl, ?_, ⟨_, rfl⟩, hW, hsame.mono (by decide) (by decide)⟩
                          · exact retOut X17 hx Bd.returns rfl (Or.inl ⟨rfl, Or.inl rfl, _, rfl⟩) (hb hby d3_107) hr
                          · show Q3a0 Z pr0 pi2 w_SEQUENCE_LENGTH w_SECOND_LOW w_SECOND_HIGH yW yL yH kk_pr0 y0 y1 y2 y3 y4 y5 y6 y7 cc_w_SEQUENCE_LENGTH cc_w_SECOND_LOW cc_w_SECOND_HIGH h0 n0 _ T17.heap _
                            rw [e17]
                            subst hx3 hx28 hx48 hx68
                            exact ⟨(by first | (simp only [fr3a0, if_pos hc36_23, if_pos hc44_25, if_neg hc63_31, if_neg hc70_37, if_pos hc36_43, if_pos hc44_45, if_neg hc63_51, if_neg hc70_57, if_pos hc36_63, if_pos hc44_65, if_pos hc63_71, if_neg hc96_73]; done) | (simp only [fr3a0, if_pos hc36_23, if_pos hc44_25, if_neg hc63_31, if_neg hc70_37, if_pos hc36_43, if_pos hc44_45, if_neg hc63_51, if_neg hc70_57, if_pos hc36_63, if_pos hc44_65, if_pos hc63_71, if_neg hc96_73]; exact rfl) | exact rfl), N0, rfl⟩
                      · have pre76 : ∀ t, Steps p.tables e below (T17.setTop (mkF m 70 #[rv pr0, iv (0 : Int32), iv pi2, iv x3, iv yW, iv (128 : Int32), iv (191 : Int32), iv (3 : Int32), iv x68] [(.int (191 : Int32)), (.int x68)])) t → Go t := fun t kt => pre70 t (by
                            refine y_icmpNo X17.here hx (hb hby d3_63) (flt hc63_71).1 (pc' := 66) rfl ?_
                            refine y_iload X17.here hx (hb hby d3_66) rfl (pc' := 68) rfl ?_
                            refine y_iload X17.here hx (hb hby d3_68) rfl (pc' := 70) rfl ?_
                            exact kt)
                        by_cases hc70_77 : (191 : Int32) < x68
                        · have pre78 : ∀ t, Steps p.tables e below (T17.setTop (mkF m 96 #[rv pr0, iv (0 : Int32), iv pi2, iv x3, iv yW, iv (128 : Int32), iv (191 : Int32), iv (3 : Int32), iv x68] [(.int yW), (.int (3 : Int32))])) t → Go t := fun t kt => pre76 t (by
                              refine y_icmpNo X17.here hx (hb hby d3_70) (tlt hc70_77).2.2.2 (pc' := 73) rfl ?_
                              refine y_goto X17.here hx (hb hby d3_73) (pc' := 92) (by decide) rfl ?_
                              refine y_iload X17.here hx (hb hby d3_92) rfl (pc' := 94) rfl ?_
                              refine y_iload X17.here hx (hb hby d3_94) rfl (pc' := 96) rfl ?_
                              exact kt)
                          by_cases hc96_79 : (3 : Int32) = yW
                          · have pre80 : ∀ t, Steps p.tables e below (T17.setTop (mkF m 107 #[rv pr0, iv (0 : Int32), iv pi2, iv x3, iv yW, iv (128 : Int32), iv (191 : Int32), iv (3 : Int32), iv x68] [(.int yW)])) t → Go t := fun t kt => pre78 t (by
                                refine y_icmpNo X17.here hx (hb hby d3_96) (teq hc96_79).2 (pc' := 99) rfl ?_
                                refine y_iload X17.here hx (hb hby d3_99) rfl (pc' := 101) rfl ?_
                                refine y_goto X17.here hx (hb hby d3_101) (pc' := 107) (by decide) rfl ?_
                                exact kt)
                            obtain ⟨fs, hr, hrun, hended, hW, hsame⟩ := X17.leave (v := some (.int yW)) (fun h => by rw [Bd.returns] at h; cases h)
                            refine ⟨_, _, (hGo _).mp (pre80 _ ?_), hrun, hended, _, _, rfl, ?_, ⟨_, rfl⟩, hW, hsame.mono (by decide) (by decide)⟩
                            · exact retOut X17 hx Bd.returns rfl (Or.inl ⟨rfl, Or.inl rfl, _, rfl⟩) (hb hby d3_107) hr
                            · show Q3a0 Z pr0 pi2 w_SEQUENCE_LENGTH w_SECOND_LOW w_SECOND_HIGH yW yL yH kk_pr0 y0 y1 y2 y3 y4 y5 y6 y7 cc_w_SEQUENCE_LENGTH cc_w_SECOND_LOW cc_w_SECOND_HIGH h0 n0 _ T17.heap _
                              rw [e17]
                              subst hx3 hx28 hx48 hx68
                              exact ⟨(by first | (simp only [fr3a0, if_pos hc36_23, if_pos hc44_25, if_neg hc63_31, if_neg hc70_37, if_pos hc36_43, if_pos hc44_45, if_neg hc63_51, if_neg hc70_57, if_pos hc36_63, if_pos hc44_65, if_neg hc63_71, if_pos hc70_77, if_pos hc96_79]; done) | (simp only [fr3a0, if_pos hc36_23, if_pos hc44_25, if_neg hc63_31, if_neg hc70_37, if_pos hc36_43, if_pos hc44_45, if_neg hc63_51, if_neg hc70_57, if_pos hc36_63, if_pos hc44_65, if_neg hc63_71, if_pos hc70_77, if_pos hc96_79]; exact rfl) | exact rfl), N0, rfl⟩
                          · have pre81 : ∀ t, Steps p.tables e below (T17.setTop (mkF m 107 #[rv pr0, iv (0 : Int32), iv pi2, iv x3, iv yW, iv (128 : Int32), iv (191 : Int32), iv (3 : Int32), iv x68] [(.int (-3 : Int32))])) t → Go t := fun t kt => pre78 t (by
                                refine y_icmpYes X17.here hx (hb hby d3_96) (feq hc96_79).2 (pc' := 104) (by decide) rfl ?_
                                refine y_iload X17.here hx (hb hby d3_104) rfl (pc' := 106) rfl ?_
                                refine y_ineg X17.here hx (hb hby d3_106) (z := (-3 : Int32)) rfl (pc' := 107) rfl ?_
                                exact kt)
                            obtain ⟨fs, hr, hrun, hended, hW, hsame⟩ := X17.leave (v := some (.int (-3 : Int32))) (fun h => by rw [Bd.returns] at h; cases h)
                            refine ⟨_, _, (hGo _).mp (pre81 _ ?_), hrun, hended, _, _, rfl, ?_, ⟨_, rfl⟩, hW, hsame.mono (by decide) (by decide)⟩
                            · exact retOut X17 hx Bd.returns rfl (Or.inl ⟨rfl, Or.inl rfl, _, rfl⟩) (hb hby d3_107) hr
                            · show Q3a0 Z pr0 pi2 w_SEQUENCE_LENGTH w_SECOND_LOW w_SECOND_HIGH yW yL yH kk_pr0 y0 y1 y2 y3 y4 y5 y6 y7 cc_w_SEQUENCE_LENGTH cc_w_SECOND_LOW cc_w_SECOND_HIGH h0 n0 _ T17.heap _
                              rw [e17]
                              subst hx3 hx28 hx48 hx68
                              exact ⟨(by first | (simp only [fr3a0, if_pos hc36_23, if_pos hc44_25, if_neg hc63_31, if_neg hc70_37, if_pos hc36_43, if_pos hc44_45, if_neg hc63_51, if_neg hc70_57, if_pos hc36_63, if_pos hc44_65, if_neg hc63_71, if_pos hc70_77, if_neg hc96_79]; done) | (simp only [fr3a0, if_pos hc36_23, if_pos hc44_25, if_neg hc63_31, if_neg hc70_37, if_pos hc36_43, if_pos hc44_45, if_neg hc63_51, if_neg hc70_57, if_pos hc36_63, if_pos hc44_65, if_neg hc63_71, if_pos hc70_77, if_neg hc96_79]; exact rfl) | exact rfl), N0, rfl⟩
                        · have pre82 : ∀ t, Steps p.tables e below (T17.setTop (mkF m 96 #[rv pr0, iv (0 : Int32), iv pi2, iv x3, iv yW, iv (128 : Int32), iv (191 : Int32), iv (4 : Int32), iv x68] [(.int yW), (.int (4 : Int32))])) t → Go t := fun t kt => pre76 t (by
                              refine y_icmpYes X17.here hx (hb hby d3_70) (flt hc70_77).2.2.2 (pc' := 76) (by decide) rfl ?_
                              refine y_iinc X17.here hx (hb hby d3_76) rfl (l' := #[rv pr0, iv (0 : Int32), iv pi2, iv x3, iv yW, iv (128 : Int32), iv (191 : Int32), iv (4 : Int32), iv x68]) rfl (pc' := 79) rfl ?_
                              refine y_sipush X17.here hx (hb hby d3_79) (v := (128 : Int32)) rfl (pc' := 82) rfl ?_
                              refine y_istore X17.here hx (hb hby d3_82) (l' := #[rv pr0, iv (0 : Int32), iv pi2, iv x3, iv yW, iv (128 : Int32), iv (191 : Int32), iv (4 : Int32), iv x68]) rfl (pc' := 84) rfl ?_
                              refine y_sipush X17.here hx (hb hby d3_84) (v := (191 : Int32)) rfl (pc' := 87) rfl ?_
                              refine y_istore X17.here hx (hb hby d3_87) (l' := #[rv pr0, iv (0 : Int32), iv pi2, iv x3, iv yW, iv (128 : Int32), iv (191 : Int32), iv (4 : Int32), iv x68]) rfl (pc' := 89) rfl ?_
                              refine y_goto X17.here hx (hb hby d3_89) (pc' := 32) (by decide) rfl ?_
                              refine y_iload X17.here hx (hb hby d3_32) rfl (pc' := 34) rfl ?_
                              refine y_iload X17.here hx (hb hby d3_34) rfl (pc' := 36) rfl ?_
                              refine y_icmpYes X17.here hx (hb hby d3_36) (flt W4).2.1 (pc' := 92) (by decide) rfl ?_
                              refine y_iload X17.here hx (hb hby d3_92) rfl (pc' := 94) rfl ?_
                              refine y_iload X17.here hx (hb hby d3_94) rfl (pc' := 96) rfl ?_
                              exact kt)
                          by_cases hc96_83 : (4 : Int32) = yW
                          · have pre84 : ∀ t, Steps p.tables e below (T17.setTop (mkF m 107 #[rv pr0, iv (0 : Int32), iv pi2, iv x3, iv yW, iv (128 : Int32), iv (191 : Int32), iv (4 : Int32), iv x68] [(.int yW)])) t → Go t := fun t kt => pre82 t (by
                                refine y_icmpNo X17.here hx (hb hby d3_96) (teq hc96_83).2 (pc' := 99) rfl ?_
                                refine y_iload X17.here hx (hb hby d3_99) rfl (pc' := 101) rfl ?_
                                refine y_goto X17.here hx (hb hby d3_101) (pc' := 107) (by decide) rfl ?_
                                exact kt)
                            obtain ⟨fs, hr, hrun, hended, hW, hsame⟩ := X17.leave (v := some (.int yW)) (fun h => by rw [Bd.returns] at h; cases h)
                            refine ⟨_, _, (hGo _).mp (pre84 _ ?_), hrun, hended, _, _, rfl, ?_, ⟨_, rfl⟩, hW, hsame.mono (by decide) (by decide)⟩
                            · exact retOut X17 hx Bd.returns rfl (Or.inl ⟨rfl, Or.inl rfl, _, rfl⟩) (hb hby d3_107) hr
                            · show Q3a0 Z pr0 pi2 w_SEQUENCE_LENGTH w_SECOND_LOW w_SECOND_HIGH yW yL yH kk_pr0 y0 y1 y2 y3 y4 y5 y6 y7 cc_w_SEQUENCE_LENGTH cc_w_SECOND_LOW cc_w_SECOND_HIGH h0 n0 _ T17.heap _
                              rw [e17]
                              subst hx3 hx28 hx48 hx68
                              exact ⟨(by first | (simp only [fr3a0, if_pos hc36_23, if_pos hc44_25, if_neg hc63_31, if_neg hc70_37, if_pos hc36_43, if_pos hc44_45, if_neg hc63_51, if_neg hc70_57, if_pos hc36_63, if_pos hc44_65, if_neg hc63_71, if_neg hc70_77, if_pos hc96_83]; done) | (simp only [fr3a0, if_pos hc36_23, if_pos hc44_25, if_neg hc63_31, if_neg hc70_37, if_pos hc36_43, if_pos hc44_45, if_neg hc63_51, if_neg hc70_57, if_pos hc36_63, if_pos hc44_65, if_neg hc63_71, if_neg hc70_77, if_pos hc96_83]; exact rfl) | exact rfl), N0, rfl⟩
                          · have pre85 : ∀ t, Steps p.tables e below (T17.setTop (mkF m 107 #[rv pr0, iv (0 : Int32), iv pi2, iv x3, iv yW, iv (128 : Int32), iv (191 : Int32), iv (4 : Int32), iv x68] [(.int (-4 : Int32))])) t → Go t := fun t kt => pre82 t (by
                                refine y_icmpYes X17.here hx (hb hby d3_96) (feq hc96_83).2 (pc' := 104) (by decide) rfl ?_
                                refine y_iload X17.here hx (hb hby d3_104) rfl (pc' := 106) rfl ?_
                                refine y_ineg X17.here hx (hb hby d3_106) (z := (-4 : Int32)) rfl (pc' := 107) rfl ?_
                                exact kt)
                            obtain ⟨fs, hr, hrun, hended, hW, hsame⟩ := X17.leave (v := some (.int (-4 : Int32))) (fun h => by rw [Bd.returns] at h; cases h)
                            refine ⟨_, _, (hGo _).mp (pre85 _ ?_), hrun, hended, _, _, rfl, ?_, ⟨_, rfl⟩, hW, hsame.mono (by decide) (by decide)⟩
                            · exact retOut X17 hx Bd.returns rfl (Or.inl ⟨rfl, Or.inl rfl, _, rfl⟩) (hb hby d3_107) hr
                            · show Q3a0 Z pr0 pi2 w_SEQUENCE_LENGTH w_SECOND_LOW w_SECOND_HIGH yW yL yH kk_pr0 y0 y1 y2 y3 y4 y5 y6 y7 cc_w_SEQUENCE_LENGTH cc_w_SECOND_LOW cc_w_SECOND_HIGH h0 n0 _ T17.heap _
                              rw [e17]
                              subst hx3 hx28 hx48 hx68
                              exact ⟨(by first | (simp only [fr3a0, if_pos hc36_23, if_pos hc44_25, if_neg hc63_31, if_neg hc70_37, if_pos hc36_43, if_pos hc44_45, if_neg hc63_51, if_neg hc70_57, if_pos hc36_63, if_pos hc44_65, if_neg hc63_71, if_neg hc70_77, if_neg hc96_83]; done) | (simp only [fr3a0, if_pos hc36_23, if_pos hc44_25, if_neg hc63_31, if_neg hc70_37, if_pos hc36_43, if_pos hc44_45, if_neg hc63_51, if_neg hc70_57, if_pos hc36_63, if_pos hc44_65, if_neg hc63_71, if_neg hc70_77, if_neg hc96_83]; exact rfl) | exact rfl), N0, rfl⟩
                    · have pre86 : ∀ t, Steps p.tables e below (T17.setTop (mkF m 96 #[rv pr0, iv (0 : Int32), iv pi2, iv x3, iv yW, iv (128 : Int32), iv (191 : Int32), iv (3 : Int32), iv x48] [(.int yW), (.int (3 : Int32))])) t → Go t := fun t kt => pre64 t (by
                          refine y_icmpYes X17.here hx (hb hby d3_44) (flt hc44_65).2.1 (pc' := 92) (by decide) rfl ?_
                          refine y_iload X17.here hx (hb hby d3_92) rfl (pc' := 94) rfl ?_
                          refine y_iload X17.here hx (hb hby d3_94) rfl (pc' := 96) rfl ?_
                          exact kt)
                      by_cases hc96_87 : (3 : Int32) = yW
                      · have pre88 : ∀ t, Steps p.tables e below (T17.setTop (mkF m 107 #[rv pr0, iv (0 : Int32), iv pi2, iv x3, iv yW, iv (128 : Int32), iv (191 : Int32), iv (3 : Int32), iv x48] [(.int yW)])) t → Go t := fun t kt => pre86 t (by
                            refine y_icmpNo X17.here hx (hb hby d3_96) (teq hc96_87).2 (pc' := 99) rfl ?_
                            refine y_iload X17.here hx (hb hby d3_99) rfl (pc' := 101) rfl ?_
                            refine y_goto X17.here hx (hb hby d3_101) (pc' := 107) (by decide) rfl ?_
                            exact kt)
                        obtain ⟨fs, hr, hrun, hended, hW, hsame⟩ := X17.leave (v := some (.int yW)) (fun h => by rw [Bd.returns] at h; cases h)
                        refine ⟨_, _, (hGo _).mp (pre88 _ ?_), hrun, hended, _, _, rfl, ?_, ⟨_, rfl⟩, hW, hsame.mono (by decide) (by decide)⟩
                        · exact retOut X17 hx Bd.returns rfl (Or.inl ⟨rfl, Or.inl rfl, _, rfl⟩) (hb hby d3_107) hr
                        · show Q3a0 Z pr0 pi2 w_SEQUENCE_LENGTH w_SECOND_LOW w_SECOND_HIGH yW yL yH kk_pr0 y0 y1 y2 y3 y4 y5 y6 y7 cc_w_SEQUENCE_LENGTH cc_w_SECOND_LOW cc_w_SECOND_HIGH h0 n0 _ T17.heap _
                          rw [e17]
                          subst hx3 hx28 hx48
                          exact ⟨(by first | (simp only [fr3a0, if_pos hc36_23, if_pos hc44_25, if_neg hc63_31, if_neg hc70_37, if_pos hc36_43, if_pos hc44_45, if_neg hc63_51, if_neg hc70_57, if_pos hc36_63, if_neg hc44_65, if_pos hc96_87]; done) | (simp only [fr3a0, if_pos hc36_23, if_pos hc44_25, if_neg hc63_31, if_neg hc70_37, if_pos hc36_43, if_pos hc44_45, if_neg hc63_51, if_neg hc70_57, if_pos hc36_63, if_neg hc44_65, if_pos hc96_87]; exact rfl) | exact rfl), N0, rfl⟩
                      · have pre89 : ∀ t, Steps p.tables e below (T17.setTop (mkF m 107 #[rv pr0, iv (0 : Int32), iv pi2, iv x3, iv yW, iv (128 : Int32), iv (191 : Int32), iv (3 : Int32), iv x48] [(.int (-3 : Int32))])) t → Go t := fun t kt => pre86 t (by
                            refine y_icmpYes X17.here hx (hb hby d3_96) (feq hc96_87).2 (pc' := 104) (by decide) rfl ?_
                            refine y_iload X17.here hx (hb hby d3_104) rfl (pc' := 106) rfl ?_
                            refine y_ineg X17.here hx (hb hby d3_106) (z := (-3 : Int32)) rfl (pc' := 107) rfl ?_
                            exact kt)
                        obtain ⟨fs, hr, hrun, hended, hW, hsame⟩ := X17.leave (v := some (.int (-3 : Int32))) (fun h => by rw [Bd.returns] at h; cases h)
                        refine ⟨_, _, (hGo _).mp (pre89 _ ?_), hrun, hended, _, _, rfl, ?_, ⟨_, rfl⟩, hW, hsame.mono (by decide) (by decide)⟩
                        · exact retOut X17 hx Bd.returns rfl (Or.inl ⟨rfl, Or.inl rfl, _, rfl⟩) (hb hby d3_107) hr
                        · show Q3a0 Z pr0 pi2 w_SEQUENCE_LENGTH w_SECOND_LOW w_SECOND_HIGH yW yL yH kk_pr0 y0 y1 y2 y3 y4 y5 y6 y7 cc_w_SEQUENCE_LENGTH cc_w_SECOND_LOW cc_w_SECOND_HIGH h0 n0 _ T17.heap _
                          rw [e17]
                          subst hx3 hx28 hx48
                          exact ⟨(by first | (simp only [fr3a0, if_pos hc36_23, if_pos hc44_25, if_neg hc63_31, if_neg hc70_37, if_pos hc36_43, if_pos hc44_45, if_neg hc63_51, if_neg hc70_57, if_pos hc36_63, if_neg hc44_65, if_neg hc96_87]; done) | (simp only [fr3a0, if_pos hc36_23, if_pos hc44_25, if_neg hc63_31, if_neg hc70_37, if_pos hc36_43, if_pos hc44_45, if_neg hc63_51, if_neg hc70_57, if_pos hc36_63, if_neg hc44_65, if_neg hc96_87]; exact rfl) | exact rfl), N0, rfl⟩
                  · have pre90 : ∀ t, Steps p.tables e below (T17.setTop (mkF m 96 #[rv pr0, iv (0 : Int32), iv pi2, iv x3, iv yW, iv (128 : Int32), iv (191 : Int32), iv (3 : Int32), iv x48] [(.int yW), (.int (3 : Int32))])) t → Go t := fun t kt => pre62 t (by
                        refine y_icmpYes X17.here hx (hb hby d3_36) (flt hc36_63).2.1 (pc' := 92) (by decide) rfl ?_
                        refine y_iload X17.here hx (hb hby d3_92) rfl (pc' := 94) rfl ?_
                        refine y_iload X17.here hx (hb hby d3_94) rfl (pc' := 96) rfl ?_
                        exact kt)
                    by_cases hc96_91 : (3 : Int32) = yW
                    · have pre92 : ∀ t, Steps p.tables e below (T17.setTop (mkF m 107 #[rv pr0, iv (0 : Int32), iv pi2, iv x3, iv yW, iv (128 : Int32), iv (191 : Int32), iv (3 : Int32), iv x48] [(.int yW)])) t → Go t := fun t kt => pre90 t (by
                          refine y_icmpNo X17.here hx (hb hby d3_96) (teq hc96_91).2 (pc' := 99) rfl ?_
                          refine y_iload X17.here hx (hb hby d3_99) rfl (pc' := 101) rfl ?_
                          refine y_goto X17.here hx (hb hby d3_101) (pc' := 107) (by decide) rfl ?_
                          exact kt)
                      obtain ⟨fs, hr, hrun, hended, hW, hsame⟩ := X17.leave (v := some (.int yW)) (fun h => by rw [Bd.returns] at h; cases h)
                      refine ⟨_, _, (hGo _).mp (pre92 _ ?_), hrun, hended, _, _, rfl, ?_, ⟨_, rfl⟩, hW, hsame.mono (by decide) (by decide)⟩
                      · exact retOut X17 hx Bd.returns rfl (Or.inl ⟨rfl, Or.inl rfl, _, rfl⟩) (hb hby d3_107) hr
                      · show Q3a0 Z pr0 pi2 w_SEQUENCE_LENGTH w_SECOND_LOW w_SECOND_HIGH yW yL yH kk_pr0 y0 y1 y2 y3 y4 y5 y6 y7 cc_w_SEQUENCE_LENGTH cc_w_SECOND_LOW cc_w_SECOND_HIGH h0 n0 _ T17.heap _
                        rw [e17]
                        subst hx3 hx28 hx48
                        exact ⟨(by first | (simp only [fr3a0, if_pos hc36_23, if_pos hc44_25, if_neg hc63_31, if_neg hc70_37, if_pos hc36_43, if_pos hc44_45, if_neg hc63_51, if_neg hc70_57, if_neg hc36_63, if_pos hc96_91]; done) | (simp only [fr3a0, if_pos hc36_23, if_pos hc44_25, if_neg hc63_31, if_neg hc70_37, if_pos hc36_43, if_pos hc44_45, if_neg hc63_51, if_neg hc70_57, if_neg hc36_63, if_pos hc96_91]; exact rfl) | exact rfl), N0, rfl⟩
                    · have pre93 : ∀ t, Steps p.tables e below (T17.setTop (mkF m 107 #[rv pr0, iv (0 : Int32), iv pi2, iv x3, iv yW, iv (128 : Int32), iv (191 : Int32), iv (3 : Int32), iv x48] [(.int (-3 : Int32))])) t → Go t := fun t kt => pre90 t (by
                          refine y_icmpYes X17.here hx (hb hby d3_96) (feq hc96_91).2 (pc' := 104) (by decide) rfl ?_
                          refine y_iload X17.here hx (hb hby d3_104) rfl (pc' := 106) rfl ?_
                          refine y_ineg X17.here hx (hb hby d3_106) (z := (-3 : Int32)) rfl (pc' := 107) rfl ?_
                          exact kt)
                      obtain ⟨fs, hr, hrun, hended, hW, hsame⟩ := X17.leave (v := some (.int (-3 : Int32))) (fun h => by rw [Bd.returns] at h; cases h)
                      refine ⟨_, _, (hGo _).mp (pre93 _ ?_), hrun, hended, _, _, rfl, ?_, ⟨_, rfl⟩, hW, hsame.mono (by decide) (by decide)⟩
                      · exact retOut X17 hx Bd.returns rfl (Or.inl ⟨rfl, Or.inl rfl, _, rfl⟩) (hb hby d3_107) hr
                      · show Q3a0 Z pr0 pi2 w_SEQUENCE_LENGTH w_SECOND_LOW w_SECOND_HIGH yW yL yH kk_pr0 y0 y1 y2 y3 y4 y5 y6 y7 cc_w_SEQUENCE_LENGTH cc_w_SECOND_LOW cc_w_SECOND_HIGH h0 n0 _ T17.heap _
                        rw [e17]
                        subst hx3 hx28 hx48
                        exact ⟨(by first | (simp only [fr3a0, if_pos hc36_23, if_pos hc44_25, if_neg hc63_31, if_neg hc70_37, if_pos hc36_43, if_pos hc44_45, if_neg hc63_51, if_neg hc70_57, if_neg hc36_63, if_neg hc96_91]; done) | (simp only [fr3a0, if_pos hc36_23, if_pos hc44_25, if_neg hc63_31, if_neg hc70_37, if_pos hc36_43, if_pos hc44_45, if_neg hc63_51, if_neg hc70_57, if_neg hc36_63, if_neg hc96_91]; exact rfl) | exact rfl), N0, rfl⟩
            · have pre94 : ∀ t, Steps p.tables e below (T17.setTop (mkF m 96 #[rv pr0, iv (0 : Int32), iv pi2, iv x3, iv yW, iv (128 : Int32), iv (191 : Int32), iv (2 : Int32), iv x28] [(.int yW), (.int (2 : Int32))])) t → Go t := fun t kt => pre44 t (by
                  refine y_icmpYes X17.here hx (hb hby d3_44) (flt hc44_45).2.1 (pc' := 92) (by decide) rfl ?_
                  refine y_iload X17.here hx (hb hby d3_92) rfl (pc' := 94) rfl ?_
                  refine y_iload X17.here hx (hb hby d3_94) rfl (pc' := 96) rfl ?_
                  exact kt)
              by_cases hc96_95 : (2 : Int32) = yW
              · have pre96 : ∀ t, Steps p.tables e below (T17.setTop (mkF m 107 #[rv pr0, iv (0 : Int32), iv pi2, iv x3, iv yW, iv (128 : Int32), iv (191 : Int32), iv (2 : Int32), iv x28] [(.int yW)])) t → Go t := fun t kt => pre94 t (by
                    refine y_icmpNo X17.here hx (hb hby d3_96) (teq hc96_95).2 (pc' := 99) rfl ?_
                    refine y_iload X17.here hx (hb hby d3_99) rfl (pc' := 101) rfl ?_
                    refine y_goto X17.here hx (hb hby d3_101) (pc' := 107) (by decide) rfl ?_
                    exact kt)
                obtain ⟨fs, hr, hrun, hended, hW, hsame⟩ := X17.leave (v := some (.int yW)) (fun h => by rw [Bd.returns] at h; cases h)
                refine ⟨_, _, (hGo _).mp (pre96 _ ?_), hrun, hended, _, _, rfl, ?_, ⟨_, rfl⟩, hW, hsame.mono (by decide) (by decide)⟩
                · exact retOut X17 hx Bd.returns rfl (Or.inl ⟨rfl, Or.inl rfl, _, rfl⟩) (hb hby d3_107) hr
                · show Q3a0 Z pr0 pi2 w_SEQUENCE_LENGTH w_SECOND_LOW w_SECOND_HIGH yW yL yH kk_pr0 y0 y1 y2 y3 y4 y5 y6 y7 cc_w_SEQUENCE_LENGTH cc_w_SECOND_LOW cc_w_SECOND_HIGH h0 n0 _ T17.heap _
                  rw [e17]
                  subst hx3 hx28
                  exact ⟨(by first | (simp only [fr3a0, if_pos hc36_23, if_pos hc44_25, if_neg hc63_31, if_neg hc70_37, if_pos hc36_43, if_neg hc44_45, if_pos hc96_95]; done) | (simp only [fr3a0, if_pos hc36_23, if_pos hc44_25, if_neg hc63_31, if_neg hc70_37, if_pos hc36_43, if_neg hc44_45, if_pos hc96_95]; exact rfl) | exact rfl), N0, rfl⟩
              · have pre97 : ∀ t, Steps p.tables e below (T17.setTop (mkF m 107 #[rv pr0, iv (0 : Int32), iv pi2, iv x3, iv yW, iv (128 : Int32), iv (191 : Int32), iv (2 : Int32), iv x28] [(.int (-2 : Int32))])) t → Go t := fun t kt => pre94 t (by
                    refine y_icmpYes X17.here hx (hb hby d3_96) (feq hc96_95).2 (pc' := 104) (by decide) rfl ?_
                    refine y_iload X17.here hx (hb hby d3_104) rfl (pc' := 106) rfl ?_
                    refine y_ineg X17.here hx (hb hby d3_106) (z := (-2 : Int32)) rfl (pc' := 107) rfl ?_
                    exact kt)
                obtain ⟨fs, hr, hrun, hended, hW, hsame⟩ := X17.leave (v := some (.int (-2 : Int32))) (fun h => by rw [Bd.returns] at h; cases h)
                refine ⟨_, _, (hGo _).mp (pre97 _ ?_), hrun, hended, _, _, rfl, ?_, ⟨_, rfl⟩, hW, hsame.mono (by decide) (by decide)⟩
                · exact retOut X17 hx Bd.returns rfl (Or.inl ⟨rfl, Or.inl rfl, _, rfl⟩) (hb hby d3_107) hr
                · show Q3a0 Z pr0 pi2 w_SEQUENCE_LENGTH w_SECOND_LOW w_SECOND_HIGH yW yL yH kk_pr0 y0 y1 y2 y3 y4 y5 y6 y7 cc_w_SEQUENCE_LENGTH cc_w_SECOND_LOW cc_w_SECOND_HIGH h0 n0 _ T17.heap _
                  rw [e17]
                  subst hx3 hx28
                  exact ⟨(by first | (simp only [fr3a0, if_pos hc36_23, if_pos hc44_25, if_neg hc63_31, if_neg hc70_37, if_pos hc36_43, if_neg hc44_45, if_neg hc96_95]; done) | (simp only [fr3a0, if_pos hc36_23, if_pos hc44_25, if_neg hc63_31, if_neg hc70_37, if_pos hc36_43, if_neg hc44_45, if_neg hc96_95]; exact rfl) | exact rfl), N0, rfl⟩
          · have pre98 : ∀ t, Steps p.tables e below (T17.setTop (mkF m 96 #[rv pr0, iv (0 : Int32), iv pi2, iv x3, iv yW, iv (128 : Int32), iv (191 : Int32), iv (2 : Int32), iv x28] [(.int yW), (.int (2 : Int32))])) t → Go t := fun t kt => pre42 t (by
                refine y_icmpYes X17.here hx (hb hby d3_36) (flt hc36_43).2.1 (pc' := 92) (by decide) rfl ?_
                refine y_iload X17.here hx (hb hby d3_92) rfl (pc' := 94) rfl ?_
                refine y_iload X17.here hx (hb hby d3_94) rfl (pc' := 96) rfl ?_
                exact kt)
            by_cases hc96_99 : (2 : Int32) = yW
            · have pre100 : ∀ t, Steps p.tables e below (T17.setTop (mkF m 107 #[rv pr0, iv (0 : Int32), iv pi2, iv x3, iv yW, iv (128 : Int32), iv (191 : Int32), iv (2 : Int32), iv x28] [(.int yW)])) t → Go t := fun t kt => pre98 t (by
                  refine y_icmpNo X17.here hx (hb hby d3_96) (teq hc96_99).2 (pc' := 99) rfl ?_
                  refine y_iload X17.here hx (hb hby d3_99) rfl (pc' := 101) rfl ?_
                  refine y_goto X17.here hx (hb hby d3_101) (pc' := 107) (by decide) rfl ?_
                  exact kt)
              obtain ⟨fs, hr, hrun, hended, hW, hsame⟩ := X17.leave (v := some (.int yW)) (fun h => by rw [Bd.returns] at h; cases h)
              refine ⟨_, _, (hGo _).mp (pre100 _ ?_), hrun, hended, _, _, rfl, ?_, ⟨_, rfl⟩, hW, hsame.mono (by decide) (by decide)⟩
              · exact retOut X17 hx Bd.returns rfl (Or.inl ⟨rfl, Or.inl rfl, _, rfl⟩) (hb hby d3_107) hr
              · show Q3a0 Z pr0 pi2 w_SEQUENCE_LENGTH w_SECOND_LOW w_SECOND_HIGH yW yL yH kk_pr0 y0 y1 y2 y3 y4 y5 y6 y7 cc_w_SEQUENCE_LENGTH cc_w_SECOND_LOW cc_w_SECOND_HIGH h0 n0 _ T17.heap _
                rw [e17]
                subst hx3 hx28
                exact ⟨(by first | (simp only [fr3a0, if_pos hc36_23, if_pos hc44_25, if_neg hc63_31, if_neg hc70_37, if_neg hc36_43, if_pos hc96_99]; done) | (simp only [fr3a0, if_pos hc36_23, if_pos hc44_25, if_neg hc63_31, if_neg hc70_37, if_neg hc36_43, if_pos hc96_99]; exact rfl) | exact rfl), N0, rfl⟩
            · have pre101 : ∀ t, Steps p.tables e below (T17.setTop (mkF m 107 #[rv pr0, iv (0 : Int32), iv pi2, iv x3, iv yW, iv (128 : Int32), iv (191 : Int32), iv (2 : Int32), iv x28] [(.int (-2 : Int32))])) t → Go t := fun t kt => pre98 t (by
                  refine y_icmpYes X17.here hx (hb hby d3_96) (feq hc96_99).2 (pc' := 104) (by decide) rfl ?_
                  refine y_iload X17.here hx (hb hby d3_104) rfl (pc' := 106) rfl ?_
                  refine y_ineg X17.here hx (hb hby d3_106) (z := (-2 : Int32)) rfl (pc' := 107) rfl ?_
                  exact kt)
              obtain ⟨fs, hr, hrun, hended, hW, hsame⟩ := X17.leave (v := some (.int (-2 : Int32))) (fun h => by rw [Bd.returns] at h; cases h)
              refine ⟨_, _, (hGo _).mp (pre101 _ ?_), hrun, hended, _, _, rfl, ?_, ⟨_, rfl⟩, hW, hsame.mono (by decide) (by decide)⟩
              · exact retOut X17 hx Bd.returns rfl (Or.inl ⟨rfl, Or.inl rfl, _, rfl⟩) (hb hby d3_107) hr
              · show Q3a0 Z pr0 pi2 w_SEQUENCE_LENGTH w_SECOND_LOW w_SECOND_HIGH yW yL yH kk_pr0 y0 y1 y2 y3 y4 y5 y6 y7 cc_w_SEQUENCE_LENGTH cc_w_SECOND_LOW cc_w_SECOND_HIGH h0 n0 _ T17.heap _
                rw [e17]
                subst hx3 hx28
                exact ⟨(by first | (simp only [fr3a0, if_pos hc36_23, if_pos hc44_25, if_neg hc63_31, if_neg hc70_37, if_neg hc36_43, if_neg hc96_99]; done) | (simp only [fr3a0, if_pos hc36_23, if_pos hc44_25, if_neg hc63_31, if_neg hc70_37, if_neg hc36_43, if_neg hc96_99]; exact rfl) | exact rfl), N0, rfl⟩
    · have pre102 : ∀ t, Steps p.tables e below (T17.setTop (mkF m 96 #[rv pr0, iv (0 : Int32), iv pi2, iv x3, iv yW, iv yL, iv yH, iv (1 : Int32), .unset] [(.int yW), (.int (1 : Int32))])) t → Go t := fun t kt => pre24 t (by
          refine y_icmpYes X17.here hx (hb hby d3_44) (flt hc44_25).2.1 (pc' := 92) (by decide) rfl ?_
          refine y_iload X17.here hx (hb hby d3_92) rfl (pc' := 94) rfl ?_
          refine y_iload X17.here hx (hb hby d3_94) rfl (pc' := 96) rfl ?_
          exact kt)
      by_cases hc96_103 : (1 : Int32) = yW
      · have pre104 : ∀ t, Steps p.tables e below (T17.setTop (mkF m 107 #[rv pr0, iv (0 : Int32), iv pi2, iv x3, iv yW, iv yL, iv yH, iv (1 : Int32), .unset] [(.int yW)])) t → Go t := fun t kt => pre102 t (by
            refine y_icmpNo X17.here hx (hb hby d3_96) (teq hc96_103).2 (pc' := 99) rfl ?_
            refine y_iload X17.here hx (hb hby d3_99) rfl (pc' := 101) rfl ?_
            refine y_goto X17.here hx (hb hby d3_101) (pc' := 107) (by decide) rfl ?_
            exact kt)
        obtain ⟨fs, hr, hrun, hended, hW, hsame⟩ := X17.leave (v := some (.int yW)) (fun h => by rw [Bd.returns] at h; cases h)
        refine ⟨_, _, (hGo _).mp (pre104 _ ?_), hrun, hended, _, _, rfl, ?_, ⟨_, rfl⟩, hW, hsame.mono (by decide) (by decide)⟩
        · exact retOut X17 hx Bd.returns rfl (Or.inl ⟨rfl, Or.inl rfl, _, rfl⟩) (hb hby d3_107) hr
        · show Q3a0 Z pr0 pi2 w_SEQUENCE_LENGTH w_SECOND_LOW w_SECOND_HIGH yW yL yH kk_pr0 y0 y1 y2 y3 y4 y5 y6 y7 cc_w_SEQUENCE_LENGTH cc_w_SECOND_LOW cc_w_SECOND_HIGH h0 n0 _ T17.heap _
          rw [e17]
          subst hx3
          exact ⟨(by first | (simp only [fr3a0, if_pos hc36_23, if_neg hc44_25, if_pos hc96_103]; done) | (simp only [fr3a0, if_pos hc36_23, if_neg hc44_25, if_pos hc96_103]; exact rfl) | exact rfl), N0, rfl⟩
      · have pre105 : ∀ t, Steps p.tables e below (T17.setTop (mkF m 107 #[rv pr0, iv (0 : Int32), iv pi2, iv x3, iv yW, iv yL, iv yH, iv (1 : Int32), .unset] [(.int (-1 : Int32))])) t → Go t := fun t kt => pre102 t (by
            refine y_icmpYes X17.here hx (hb hby d3_96) (feq hc96_103).2 (pc' := 104) (by decide) rfl ?_
            refine y_iload X17.here hx (hb hby d3_104) rfl (pc' := 106) rfl ?_
            refine y_ineg X17.here hx (hb hby d3_106) (z := (-1 : Int32)) rfl (pc' := 107) rfl ?_
            exact kt)
        obtain ⟨fs, hr, hrun, hended, hW, hsame⟩ := X17.leave (v := some (.int (-1 : Int32))) (fun h => by rw [Bd.returns] at h; cases h)
        refine ⟨_, _, (hGo _).mp (pre105 _ ?_), hrun, hended, _, _, rfl, ?_, ⟨_, rfl⟩, hW, hsame.mono (by decide) (by decide)⟩
        · exact retOut X17 hx Bd.returns rfl (Or.inl ⟨rfl, Or.inl rfl, _, rfl⟩) (hb hby d3_107) hr
        · show Q3a0 Z pr0 pi2 w_SEQUENCE_LENGTH w_SECOND_LOW w_SECOND_HIGH yW yL yH kk_pr0 y0 y1 y2 y3 y4 y5 y6 y7 cc_w_SEQUENCE_LENGTH cc_w_SECOND_LOW cc_w_SECOND_HIGH h0 n0 _ T17.heap _
          rw [e17]
          subst hx3
          exact ⟨(by first | (simp only [fr3a0, if_pos hc36_23, if_neg hc44_25, if_neg hc96_103]; done) | (simp only [fr3a0, if_pos hc36_23, if_neg hc44_25, if_neg hc96_103]; exact rfl) | exact rfl), N0, rfl⟩
  · have pre106 : ∀ t, Steps p.tables e below (T17.setTop (mkF m 96 #[rv pr0, iv (0 : Int32), iv pi2, iv x3, iv yW, iv yL, iv yH, iv (1 : Int32), .unset] [(.int yW), (.int (1 : Int32))])) t → Go t := fun t kt => pre22 t (by
        refine y_icmpYes X17.here hx (hb hby d3_36) (flt hc36_23).2.1 (pc' := 92) (by decide) rfl ?_
        refine y_iload X17.here hx (hb hby d3_92) rfl (pc' := 94) rfl ?_
        refine y_iload X17.here hx (hb hby d3_94) rfl (pc' := 96) rfl ?_
        exact kt)
    by_cases hc96_107 : (1 : Int32) = yW
    · have pre108 : ∀ t, Steps p.tables e below (T17.setTop (mkF m 107 #[rv pr0, iv (0 : Int32), iv pi2, iv x3, iv yW, iv yL, iv yH, iv (1 : Int32), .unset] [(.int yW)])) t → Go t := fun t kt => pre106 t (by
          refine y_icmpNo X17.here hx (hb hby d3_96) (teq hc96_107).2 (pc' := 99) rfl ?_
          refine y_iload X17.here hx (hb hby d3_99) rfl (pc' := 101) rfl ?_
          refine y_goto X17.here hx (hb hby d3_101) (pc' := 107) (by decide) rfl ?_
          exact kt)
      obtain ⟨fs, hr, hrun, hended, hW, hsame⟩ := X17.leave (v := some (.int yW)) (fun h => by rw [Bd.returns] at h; cases h)
      refine ⟨_, _, (hGo _).mp (pre108 _ ?_), hrun, hended, _, _, rfl, ?_, ⟨_, rfl⟩, hW, hsame.mono (by decide) (by decide)⟩
      · exact retOut X17 hx Bd.returns rfl (Or.inl ⟨rfl, Or.inl rfl, _, rfl⟩) (hb hby d3_107) hr
      · show Q3a0 Z pr0 pi2 w_SEQUENCE_LENGTH w_SECOND_LOW w_SECOND_HIGH yW yL yH kk_pr0 y0 y1 y2 y3 y4 y5 y6 y7 cc_w_SEQUENCE_LENGTH cc_w_SECOND_LOW cc_w_SECOND_HIGH h0 n0 _ T17.heap _
        rw [e17]
        subst hx3
        exact ⟨(by first | (simp only [fr3a0, if_neg hc36_23, if_pos hc96_107]; done) | (simp only [fr3a0, if_neg hc36_23, if_pos hc96_107]; exact rfl) | exact rfl), N0, rfl⟩
    · have pre109 : ∀ t, Steps p.tables e below (T17.setTop (mkF m 107 #[rv pr0, iv (0 : Int32), iv pi2, iv x3, iv yW, iv yL, iv yH, iv (1 : Int32), .unset] [(.int (-1 : Int32))])) t → Go t := fun t kt => pre106 t (by
          refine y_icmpYes X17.here hx (hb hby d3_96) (feq hc96_107).2 (pc' := 104) (by decide) rfl ?_
          refine y_iload X17.here hx (hb hby d3_104) rfl (pc' := 106) rfl ?_
          refine y_ineg X17.here hx (hb hby d3_106) (z := (-1 : Int32)) rfl (pc' := 107) rfl ?_
          exact kt)
      obtain ⟨fs, hr, hrun, hended, hW, hsame⟩ := X17.leave (v := some (.int (-1 : Int32))) (fun h => by rw [Bd.returns] at h; cases h)
      refine ⟨_, _, (hGo _).mp (pre109 _ ?_), hrun, hended, _, _, rfl, ?_, ⟨_, rfl⟩, hW, hsame.mono (by decide) (by decide)⟩
      · exact retOut X17 hx Bd.returns rfl (Or.inl ⟨rfl, Or.inl rfl, _, rfl⟩) (hb hby d3_107) hr
      · show Q3a0 Z pr0 pi2 w_SEQUENCE_LENGTH w_SECOND_LOW w_SECOND_HIGH yW yL yH kk_pr0 y0 y1 y2 y3 y4 y5 y6 y7 cc_w_SEQUENCE_LENGTH cc_w_SECOND_LOW cc_w_SECOND_HIGH h0 n0 _ T17.heap _
        rw [e17]
        subst hx3
        exact ⟨(by first | (simp only [fr3a0, if_neg hc36_23, if_neg hc96_107]; done) | (simp only [fr3a0, if_neg hc36_23, if_neg hc96_107]; exact rfl) | exact rfl), N0, rfl⟩
theorem d4_0 : decode prog_19_method_14_code 0 = .ok (.aload_n 0, 1) := by decide +kernel
theorem d4_1 : decode prog_19_method_14_code 1 = .ok (.iload_n 1, 1) := by decide +kernel
theorem d4_2 : decode prog_19_method_14_code 2 = .ok (.baload, 1) := by decide +kernel
theorem d4_3 : decode prog_19_method_14_code 3 = .ok (.getstatic 28, 3) := by decide +kernel
theorem d4_6 : decode prog_19_method_14_code 6 = .ok (.iload_n 2, 1) := by decide +kernel
theorem d4_7 : decode prog_19_method_14_code 7 = .ok (.iaload, 1) := by decide +kernel
theorem d4_8 : decode prog_19_method_14_code 8 = .ok (.iand, 1) := by decide +kernel
theorem d4_9 : decode prog_19_method_14_code 9 = .ok (.istore_n 3, 1) := by decide +kernel
theorem d4_10 : decode prog_19_method_14_code 10 = .ok (.iconst 1, 1) := by decide +kernel
theorem d4_11 : decode prog_19_method_14_code 11 = .ok (.istore 4, 2) := by decide +kernel
theorem d4_13 : decode prog_19_method_14_code 13 = .ok (.iload 4, 2) := by decide +kernel
theorem d4_15 : decode prog_19_method_14_code 15 = .ok (.iload_n 2, 1) := by decide +kernel
theorem d4_16 : decode prog_19_method_14_code 16 = .ok (.if_icmp .ge 24, 3) := by decide +kernel
theorem d4_40 : decode prog_19_method_14_code 40 = .ok (.iload_n 3, 1) := by decide +kernel
theorem d4_41 : decode prog_19_method_14_code 41 = .ok (.ireturn, 1) := by decide +kernel
theorem ef_4a0l1 (m : MethodId) (x0 : Addr) : entryFrame m #[(.ref x0), (.int (0 : Int32)), (.int (1 : Int32))] 5 = mkF m 0 #[rv x0, iv (0 : Int32), iv (1 : Int32), .unset, .unset] [] := by first | (simp [entryFrame, mkF, argsToLocals, Value.category]; done) | rfl
def Q4a0l1 (Z : State) (pr0 : Addr) (w_LEAD_PAYLOAD : Addr) (kk_pr0 : ClassId) (y0 : Int32) (y1 : Int32) (y2 : Int32) (y3 : Int32) (y4 : Int32) (y5 : Int32) (y6 : Int32) (y7 : Int32) (cc_w_LEAD_PAYLOAD : Cell) (h0 : Heap) (n0 : Nat) (v : Option Value) (h : Heap) (L : List Loc) : Prop := v = some (.int (y0 &&& (127 : Int32))) ∧ Fr n0 L ∧ h = h0
set_option maxRecDepth 65536 in
set_option maxHeartbeats 40000000 in
theorem rm4a0l1 (l : Launch) (Z : State) (a0 : Array Value) (hw : ∀ d ∈ tables_1, d.before a0 Z = true) (ws : List Jvm.Cond) (pr0 : Addr) (w_LEAD_PAYLOAD : Addr) (kk_pr0 : ClassId) (y0 : Int32) (y1 : Int32) (y2 : Int32) (y3 : Int32) (y4 : Int32) (y5 : Int32) (y6 : Int32) (y7 : Int32) (cc_w_LEAD_PAYLOAD : Cell) (h0 : Heap) (n0 : Nat) (O0 : Old Z n0 h0) (S_LEAD_PAYLOAD : Sta Z Z.heap "com/example/strict_codec/strictcodec/Utf8Grammar" "LEAD_PAYLOAD" "[I" (.ref w_LEAD_PAYLOAD)) (V_pr0 : Arv Z h0 pr0 kk_pr0 .byte (8 : Int32) [(.int y0), (.int y1), (.int y2), (.int y3), (.int y4), (.int y5), (.int y6), (.int y7)] (.int (0 : Int32))) (AR_w_LEAD_PAYLOAD : Arr Z Z.heap w_LEAD_PAYLOAD cc_w_LEAD_PAYLOAD .int) (IN1_w_LEAD_PAYLOAD : ¬ ((1 : Int32) < 0 ∨ cc_w_LEAD_PAYLOAD.slots.size ≤ (1 : Int32).toNatClampNeg)) (AT1_w_LEAD_PAYLOAD : cc_w_LEAD_PAYLOAD.slots[(1 : Int32).toNatClampNeg]? = some (.int (127 : Int32))) :
    MetFree l (⟨"com/example/strict_codec/strictcodec/Utf8Grammar", "scalarValue", "([BII)I"⟩ : MethodName) (head1 (Jvm.Cond.code (⟨"com/example/strict_codec/strictcodec/Utf8Grammar", "scalarValue", "([BII)I"⟩ : MethodName) prog_19_method_14_code 5 (some .int) :: ws) ({ frames := 0, cells := 0, slots := 0, locals := 0 } : Room)) (fun a U => a = #[(.ref pr0), (.int (0 : Int32)), (.int (1 : Int32))] ∧ Z.Warmed39 U.vm ∧ U.heap = h0) (fun _ _ _ _ _ => True) (fun _ U o U' => ∃ v L, o = .returned v ∧ Q4a0l1 Z pr0 w_LEAD_PAYLOAD kk_pr0 y0 y1 y2 y3 y4 y5 y6 y7 cc_w_LEAD_PAYLOAD h0 n0 v U'.heap L ∧ FrameEnd U o U' L ({ frames := 0, cells := 0, slots := 0, locals := 0 } : Room).cells ({ frames := 0, cells := 0, slots := 0, locals := 0 } : Room).slots) := by
  refine MetFree.of_bodySF (plainFor_of_name pn_com_example_strict_codec_strictcodec_Utf8Grammar) hisR ?_
  intro p e s m args below meth c s₁ Bd hml0 hP hK
  obtain ⟨rfl, hZ, hh⟩ := hP
  have hx := Bd.exec
  have hby := Bd.bytes
  have hml : c.maxLocals = 5 := hml0
  have hown : s.vm.findClass "com/example/strict_codec/strictcodec/Utf8Grammar" = some m.cls := findClass_of_methodNamed Bd.named
  have hnm := (name_of_methodNamed Bd.named Bd.method).1
  have X0 : Stand p l e ({ frames := 0, cells := 0, slots := 0, locals := 0 } : Room) s m #[(.ref pr0), (.int (0 : Int32)), (.int (1 : Int32))] below meth c s₁ [] 0 0 := Stand.of_body Bd
  have e0 : s₁.heap = h0 := by rw [← hh, Bd.state]; rfl
  have N0 := Fr.nil n0
  obtain ⟨Go, hGo⟩ : ∃ P : State → Prop, ∀ t, P t ↔ Steps p.tables e below (s₁.setTop (entryFrame m #[(.ref pr0), (.int (0 : Int32)), (.int (1 : Int32))] 5)) t := ⟨_, fun _ => Iff.rfl⟩
  have pre0 : ∀ t, Steps p.tables e below (s₁.setTop (mkF m 0 #[rv pr0, iv (0 : Int32), iv (1 : Int32), .unset, .unset] [])) t → Go t := fun t k => (hGo t).mpr (castTop (ef_4a0l1 m pr0) k)
  have pre1 : ∀ t, Steps p.tables e below (s₁.setTop (mkF m 2 #[rv pr0, iv (0 : Int32), iv (1 : Int32), .unset, .unset] [(.int (0 : Int32)), (.ref pr0)])) t → Go t := fun t kt => pre0 t (by
      refine y_aloadN X0.here hx (hb hby d4_0) rfl rfl (pc' := 1) rfl ?_
      refine y_iloadN X0.here hx (hb hby d4_1) rfl (pc' := 2) rfl ?_
      exact kt)
  obtain ⟨c2, Ar2, q2, S2, M2, H2, G2⟩ := id V_pr0
  have hin2 : ¬ ((0 : Int32) < 0 ∨ c2.slots.size ≤ ((0 : Int32)).toNatClampNeg) := inb_of S2 ⟨by decide, by decide⟩
  have hat2 : c2.slots[((0 : Int32)).toNatClampNeg]? = some (.int y0) := Has.at H2 hin2 rfl
  have pre3 : ∀ t, Steps p.tables e below (s₁.setTop (mkF m 3 #[rv pr0, iv (0 : Int32), iv (1 : Int32), .unset, .unset] [(.int y0)])) t → Go t := fun t kt => pre1 t (by
      refine X0.baloadBytes hx (j := (0 : Int32)) (v := (.int y0)) (by rw [e0]; exact Ar2.1) (State.isArrayOf_alike hZ.alike Ar2.2.1) Ar2.2.2 hin2 hat2 (g := (mkF m 2 #[rv pr0, iv (0 : Int32), iv (1 : Int32), .unset, .unset] [(.int (0 : Int32)), (.ref pr0)])) rfl rfl (hb hby d4_2) _ ?_
      show Steps p.tables e below (s₁.setTop (mkF m 3 #[rv pr0, iv (0 : Int32), iv (1 : Int32), .unset, .unset] [(.int y0)])) _
      exact kt)
  obtain ⟨T4, X4, e4, st4⟩ := getS2 X0 hx hZ hown (host := "") (Or.inl (hw _ (List.mem_of_getElem? (i := 26) rfl))) Via.refl e0 (S_LEAD_PAYLOAD.ext O0.2) (g := (mkF m 3 #[rv pr0, iv (0 : Int32), iv (1 : Int32), .unset, .unset] [(.int y0)])) rfl (hb hby d4_3)
  have pre5 : ∀ t, Steps p.tables e below (T4.setTop (mkF m 6 #[rv pr0, iv (0 : Int32), iv (1 : Int32), .unset, .unset] [(.ref w_LEAD_PAYLOAD), (.int y0)])) t → Go t := fun t kt => pre3 t (st4 t kt)
  have pre6 : ∀ t, Steps p.tables e below (T4.setTop (mkF m 7 #[rv pr0, iv (0 : Int32), iv (1 : Int32), .unset, .unset] [(.int (1 : Int32)), (.ref w_LEAD_PAYLOAD), (.int y0)])) t → Go t := fun t kt => pre5 t (by
      refine y_iloadN X4.here hx (hb hby d4_6) rfl (pc' := 7) rfl ?_
      exact kt)
  have A7 := AR_w_LEAD_PAYLOAD.ext O0.2
  obtain ⟨x8, hx8⟩ : ∃ z : Int32, z = (y0 &&& (127 : Int32)) := ⟨_, rfl⟩
  have pre9 : ∀ t, Steps p.tables e below (T4.setTop (mkF m 10 #[rv pr0, iv (0 : Int32), iv (1 : Int32), iv x8, .unset] [])) t → Go t := fun t kt => pre6 t (by
      subst hx8
      refine X4.iaload hx (j := (1 : Int32)) (v := (.int (127 : Int32))) (by rw [e4]; exact A7.1) (State.isArrayOf_alike hZ.alike A7.2.1) A7.2.2 IN1_w_LEAD_PAYLOAD AT1_w_LEAD_PAYLOAD (g := (mkF m 7 #[rv pr0, iv (0 : Int32), iv (1 : Int32), .unset, .unset] [(.int (1 : Int32)), (.ref w_LEAD_PAYLOAD), (.int y0)])) rfl rfl (hb hby d4_7) _ ?_
      show Steps p.tables e below (T4.setTop (mkF m 8 #[rv pr0, iv (0 : Int32), iv (1 : Int32), .unset, .unset] [(.int (127 : Int32)), (.int y0)])) _
      refine y_iand X4.here hx (hb hby d4_8) rfl (pc' := 9) rfl ?_
      refine y_istoreN X4.here hx (hb hby d4_9) (l' := #[rv pr0, iv (0 : Int32), iv (1 : Int32), iv (y0 &&& (127 : Int32)), .unset]) rfl (pc' := 10) rfl ?_
      exact kt)
  have pre10 : ∀ t, Steps p.tables e below (T4.setTop (mkF m 41 #[rv pr0, iv (0 : Int32), iv (1 : Int32), iv x8, iv (1 : Int32)] [(.int x8)])) t → Go t := fun t kt => pre9 t (by
      refine y_iconst X4.here hx (hb hby d4_10) (v := (1 : Int32)) rfl (pc' := 11) rfl ?_
      refine y_istore X4.here hx (hb hby d4_11) (l' := #[rv pr0, iv (0 : Int32), iv (1 : Int32), iv x8, iv (1 : Int32)]) rfl (pc' := 13) rfl ?_
      refine y_iload X4.here hx (hb hby d4_13) rfl (pc' := 15) rfl ?_
      refine y_iloadN X4.here hx (hb hby d4_15) rfl (pc' := 16) rfl ?_
      refine y_icmpYes X4.here hx (hb hby d4_16) (flt (by decide : ¬ ((1 : Int32) < (1 : Int32)))).2.1 (pc' := 40) (by decide) rfl ?_
      refine y_iloadN X4.here hx (hb hby d4_40) rfl (pc' := 41) rfl ?_
      exact kt)
  obtain ⟨fs, hr, hrun, hended, hW, hsame⟩ := X4.leave (v := some (.int x8)) (fun h => by rw [Bd.returns] at h; cases h)
  refine ⟨_, _, (hGo _).mp (pre10 _ ?_), hrun, hended, _, _, rfl, ?_, ⟨_, rfl⟩, hW, hsame.mono (by decide) (by decide)⟩
  · exact retOut X4 hx Bd.returns rfl (Or.inl ⟨rfl, Or.inl rfl, _, rfl⟩) (hb hby d4_41) hr
  · show Q4a0l1 Z pr0 w_LEAD_PAYLOAD kk_pr0 y0 y1 y2 y3 y4 y5 y6 y7 cc_w_LEAD_PAYLOAD h0 n0 _ T4.heap _
    rw [e4]
    subst hx8
    exact ⟨rfl, N0, rfl⟩
theorem d4_19 : decode prog_19_method_14_code 19 = .ok (.iload_n 3, 1) := by decide +kernel
theorem d4_20 : decode prog_19_method_14_code 20 = .ok (.bipush 6, 2) := by decide +kernel
theorem d4_22 : decode prog_19_method_14_code 22 = .ok (.ishl, 1) := by decide +kernel
theorem d4_23 : decode prog_19_method_14_code 23 = .ok (.aload_n 0, 1) := by decide +kernel
theorem d4_24 : decode prog_19_method_14_code 24 = .ok (.iload_n 1, 1) := by decide +kernel
theorem d4_25 : decode prog_19_method_14_code 25 = .ok (.iload 4, 2) := by decide +kernel
theorem d4_27 : decode prog_19_method_14_code 27 = .ok (.iadd, 1) := by decide +kernel
theorem d4_28 : decode prog_19_method_14_code 28 = .ok (.baload, 1) := by decide +kernel
theorem d4_29 : decode prog_19_method_14_code 29 = .ok (.bipush 63, 2) := by decide +kernel
theorem d4_31 : decode prog_19_method_14_code 31 = .ok (.iand, 1) := by decide +kernel
theorem d4_32 : decode prog_19_method_14_code 32 = .ok (.ior, 1) := by decide +kernel
theorem d4_33 : decode prog_19_method_14_code 33 = .ok (.istore_n 3, 1) := by decide +kernel
theorem d4_34 : decode prog_19_method_14_code 34 = .ok (.iinc 4 1, 3) := by decide +kernel
theorem d4_37 : decode prog_19_method_14_code 37 = .ok (.goto (-24), 3) := by decide +kernel
theorem ef_4a0l2 (m : MethodId) (x0 : Addr) : entryFrame m #[(.ref x0), (.int (0 : Int32)), (.int (2 : Int32))] 5 = mkF m 0 #[rv x0, iv (0 : Int32), iv (2 : Int32), .unset, .unset] [] := by first | (simp [entryFrame, mkF, argsToLocals, Value.category]; done) | rfl
def Q4a0l2 (Z : State) (pr0 : Addr) (w_LEAD_PAYLOAD : Addr) (kk_pr0 : ClassId) (y0 : Int32) (y1 : Int32) (y2 : Int32) (y3 : Int32) (y4 : Int32) (y5 : Int32) (y6 : Int32) (y7 : Int32) (cc_w_LEAD_PAYLOAD : Cell) (h0 : Heap) (n0 : Nat) (v : Option Value) (h : Heap) (L : List Loc) : Prop := v = some (.int (((y0 &&& (31 : Int32)) <<< ((6 : Int32) &&& 31)) ||| (y1 &&& (63 : Int32)))) ∧ Fr n0 L ∧ h = h0
set_option maxRecDepth 65536 in
set_option maxHeartbeats 40000000 in
theorem rm4a0l2 (l : Launch) (Z : State) (a0 : Array Value) (hw : ∀ d ∈ tables_1, d.before a0 Z = true) (ws : List Jvm.Cond) (pr0 : Addr) (w_LEAD_PAYLOAD : Addr) (kk_pr0 : ClassId) (y0 : Int32) (y1 : Int32) (y2 : Int32) (y3 : Int32) (y4 : Int32) (y5 : Int32) (y6 : Int32) (y7 : Int32) (cc_w_LEAD_PAYLOAD : Cell) (h0 : Heap) (n0 : Nat) (O0 : Old Z n0 h0) (S_LEAD_PAYLOAD : Sta Z Z.heap "com/example/strict_codec/strictcodec/Utf8Grammar" "LEAD_PAYLOAD" "[I" (.ref w_LEAD_PAYLOAD)) (V_pr0 : Arv Z h0 pr0 kk_pr0 .byte (8 : Int32) [(.int y0), (.int y1), (.int y2), (.int y3), (.int y4), (.int y5), (.int y6), (.int y7)] (.int (0 : Int32))) (AR_w_LEAD_PAYLOAD : Arr Z Z.heap w_LEAD_PAYLOAD cc_w_LEAD_PAYLOAD .int) (IN2_w_LEAD_PAYLOAD : ¬ ((2 : Int32) < 0 ∨ cc_w_LEAD_PAYLOAD.slots.size ≤ (2 : Int32).toNatClampNeg)) (AT2_w_LEAD_PAYLOAD : cc_w_LEAD_PAYLOAD.slots[(2 : Int32).toNatClampNeg]? = some (.int (31 : Int32))) :
    MetFree l (⟨"com/example/strict_codec/strictcodec/Utf8Grammar", "scalarValue", "([BII)I"⟩ : MethodName) (head1 (Jvm.Cond.code (⟨"com/example/strict_codec/strictcodec/Utf8Grammar", "scalarValue", "([BII)I"⟩ : MethodName) prog_19_method_14_code 5 (some .int) :: ws) ({ frames := 0, cells := 0, slots := 0, locals := 0 } : Room)) (fun a U => a = #[(.ref pr0), (.int (0 : Int32)), (.int (2 : Int32))] ∧ Z.Warmed39 U.vm ∧ U.heap = h0) (fun _ _ _ _ _ => True) (fun _ U o U' => ∃ v L, o = .returned v ∧ Q4a0l2 Z pr0 w_LEAD_PAYLOAD kk_pr0 y0 y1 y2 y3 y4 y5 y6 y7 cc_w_LEAD_PAYLOAD h0 n0 v U'.heap L ∧ FrameEnd U o U' L ({ frames := 0, cells := 0, slots := 0, locals := 0 } : Room).cells ({ frames := 0, cells := 0, slots := 0, locals := 0 } : Room).slots) := by
  refine MetFree.of_bodySF (plainFor_of_name pn_com_example_strict_codec_strictcodec_Utf8Grammar) hisR ?_
  intro p e s m args below meth c s₁ Bd hml0 hP hK
  obtain ⟨rfl, hZ, hh⟩ := hP
  have hx := Bd.exec
  have hby := Bd.bytes
  have hml : c.maxLocals = 5 := hml0
  have hown : s.vm.findClass "com/example/strict_codec/strictcodec/Utf8Grammar" = some m.cls := findClass_of_methodNamed Bd.named
  have hnm := (name_of_methodNamed Bd.named Bd.method).1
  have X0 : Stand p l e ({ frames := 0, cells := 0, slots := 0, locals := 0 } : Room) s m #[(.ref pr0), (.int (0 : Int32)), (.int (2 : Int32))] below meth c s₁ [] 0 0 := Stand.of_body Bd
  have e0 : s₁.heap = h0 := by rw [← hh, Bd.state]; rfl
  have N0 := Fr.nil n0
  obtain ⟨Go, hGo⟩ : ∃ P : State → Prop, ∀ t, P t ↔ Steps p.tables e below (s₁.setTop (entryFrame m #[(.ref pr0), (.int (0 : Int32)), (.int (2 : Int32))] 5)) t := ⟨_, fun _ => Iff.rfl⟩
  have pre0 : ∀ t, Steps p.tables e below (s₁.setTop (mkF m 0 #[rv pr0, iv (0 : Int32), iv (2 : Int32), .unset, .unset] [])) t → Go t := fun t k => (hGo t).mpr (castTop (ef_4a0l2 m pr0) k)
  have pre1 : ∀ t, Steps p.tables e below (s₁.setTop (mkF m 2 #[rv pr0, iv (0 : Int32), iv (2 : Int32), .unset, .unset] [(.int (0 : Int32)), (.ref pr0)])) t → Go t := fun t kt => pre0 t (by
      refine y_aloadN X0.here hx (hb hby d4_0) rfl rfl (pc' := 1) rfl ?_
      refine y_iloadN X0.here hx (hb hby d4_1) rfl (pc' := 2) rfl ?_
      exact kt)
  obtain ⟨c2, Ar2, q2, S2, M2, H2, G2⟩ := id V_pr0
  have hin2 : ¬ ((0 : Int32) < 0 ∨ c2.slots.size ≤ ((0 : Int32)).toNatClampNeg) := inb_of S2 ⟨by decide, by decide⟩
  have hat2 : c2.slots[((0 : Int32)).toNatClampNeg]? = some (.int y0) := Has.at H2 hin2 rfl
  have pre3 : ∀ t, Steps p.tables e below (s₁.setTop (mkF m 3 #[rv pr0, iv (0 : Int32), iv (2 : Int32), .unset, .unset] [(.int y0)])) t → Go t := fun t kt => pre1 t (by
      refine X0.baloadBytes hx (j := (0 : Int32)) (v := (.int y0)) (by rw [e0]; exact Ar2.1) (State.isArrayOf_alike hZ.alike Ar2.2.1) Ar2.2.2 hin2 hat2 (g := (mkF m 2 #[rv pr0, iv (0 : Int32), iv (2 : Int32), .unset, .unset] [(.int (0 : Int32)), (.ref pr0)])) rfl rfl (hb hby d4_2) _ ?_
      show Steps p.tables e below (s₁.setTop (mkF m 3 #[rv pr0, iv (0 : Int32), iv (2 : Int32), .unset, .unset] [(.int y0)])) _
      exact kt)
  obtain ⟨T4, X4, e4, st4⟩ := getS2 X0 hx hZ hown (host := "") (Or.inl (hw _ (List.mem_of_getElem? (i := 26) rfl))) Via.refl e0 (S_LEAD_PAYLOAD.ext O0.2) (g := (mkF m 3 #[rv pr0, iv (0 : Int32), iv (2 : Int32), .unset, .unset] [(.int y0)])) rfl (hb hby d4_3)
  have pre5 : ∀ t, Steps p.tables e below (T4.setTop (mkF m 6 #[rv pr0, iv (0 : Int32), iv (2 : Int32), .unset, .unset] [(.ref w_LEAD_PAYLOAD), (.int y0)])) t → Go t := fun t kt => pre3 t (st4 t kt)
  have pre6 : ∀ t, Steps p.tables e below (T4.setTop (mkF m 7 #[rv pr0, iv (0 : Int32), iv (2 : Int32), .unset, .unset] [(.int (2 : Int32)), (.ref w_LEAD_PAYLOAD), (.int y0)])) t → Go t := fun t kt => pre5 t (by
      refine y_iloadN X4.here hx (hb hby d4_6) rfl (pc' := 7) rfl ?_
      exact kt)
  have A7 := AR_w_LEAD_PAYLOAD.ext O0.2
  obtain ⟨x8, hx8⟩ : ∃ z : Int32, z = (y0 &&& (31 : Int32)) := ⟨_, rfl⟩
  have pre9 : ∀ t, Steps p.tables e below (T4.setTop (mkF m 10 #[rv pr0, iv (0 : Int32), iv (2 : Int32), iv x8, .unset] [])) t → Go t := fun t kt => pre6 t (by
      subst hx8
      refine X4.iaload hx (j := (2 : Int32)) (v := (.int (31 : Int32))) (by rw [e4]; exact A7.1) (State.isArrayOf_alike hZ.alike A7.2.1) A7.2.2 IN2_w_LEAD_PAYLOAD AT2_w_LEAD_PAYLOAD (g := (mkF m 7 #[rv pr0, iv (0 : Int32), iv (2 : Int32), .unset, .unset] [(.int (2 : Int32)), (.ref w_LEAD_PAYLOAD), (.int y0)])) rfl rfl (hb hby d4_7) _ ?_
      show Steps p.tables e below (T4.setTop (mkF m 8 #[rv pr0, iv (0 : Int32), iv (2 : Int32), .unset, .unset] [(.int (31 : Int32)), (.int y0)])) _
      refine y_iand X4.here hx (hb hby d4_8) rfl (pc' := 9) rfl ?_
      refine y_istoreN X4.here hx (hb hby d4_9) (l' := #[rv pr0, iv (0 : Int32), iv (2 : Int32), iv (y0 &&& (31 : Int32)), .unset]) rfl (pc' := 10) rfl ?_
      exact kt)
  have pre10 : ∀ t, Steps p.tables e below (T4.setTop (mkF m 28 #[rv pr0, iv (0 : Int32), iv (2 : Int32), iv x8, iv (1 : Int32)] [(.int (1 : Int32)), (.ref pr0), (.int (x8 <<< ((6 : Int32) &&& 31)))])) t → Go t := fun t kt => pre9 t (by
      refine y_iconst X4.here hx (hb hby d4_10) (v := (1 : Int32)) rfl (pc' := 11) rfl ?_
      refine y_istore X4.here hx (hb hby d4_11) (l' := #[rv pr0, iv (0 : Int32), iv (2 : Int32), iv x8, iv (1 : Int32)]) rfl (pc' := 13) rfl ?_
      refine y_iload X4.here hx (hb hby d4_13) rfl (pc' := 15) rfl ?_
      refine y_iloadN X4.here hx (hb hby d4_15) rfl (pc' := 16) rfl ?_
      refine y_icmpNo X4.here hx (hb hby d4_16) (tlt (by decide : (1 : Int32) < (2 : Int32))).2.1 (pc' := 19) rfl ?_
      refine y_iloadN X4.here hx (hb hby d4_19) rfl (pc' := 20) rfl ?_
      refine y_bipush X4.here hx (hb hby d4_20) (v := (6 : Int32)) rfl (pc' := 22) rfl ?_
      refine y_ishl X4.here hx (hb hby d4_22) (z := (x8 <<< ((6 : Int32) &&& 31))) rfl (pc' := 23) rfl ?_
      refine y_aloadN X4.here hx (hb hby d4_23) rfl rfl (pc' := 24) rfl ?_
      refine y_iloadN X4.here hx (hb hby d4_24) rfl (pc' := 25) rfl ?_
      refine y_iload X4.here hx (hb hby d4_25) rfl (pc' := 27) rfl ?_
      refine y_iadd X4.here hx (hb hby d4_27) (z := (1 : Int32)) rfl (pc' := 28) rfl ?_
      exact kt)
  obtain ⟨c11, Ar11, q11, S11, M11, H11, G11⟩ := id V_pr0
  have hin11 : ¬ ((1 : Int32) < 0 ∨ c11.slots.size ≤ ((1 : Int32)).toNatClampNeg) := inb_of S11 ⟨by decide, by decide⟩
  have hat11 : c11.slots[((1 : Int32)).toNatClampNeg]? = some (.int y1) := Has.at H11 hin11 rfl
  obtain ⟨x12, hx12⟩ : ∃ z : Int32, z = ((x8 <<< ((6 : Int32) &&& 31)) ||| (y1 &&& (63 : Int32))) := ⟨_, rfl⟩
  have pre13 : ∀ t, Steps p.tables e below (T4.setTop (mkF m 34 #[rv pr0, iv (0 : Int32), iv (2 : Int32), iv x12, iv (1 : Int32)] [])) t → Go t := fun t kt => pre10 t (by
      subst hx12
      refine X4.baloadBytes hx (j := (1 : Int32)) (v := (.int y1)) (by rw [e4]; exact Ar11.1) (State.isArrayOf_alike hZ.alike Ar11.2.1) Ar11.2.2 hin11 hat11 (g := (mkF m 28 #[rv pr0, iv (0 : Int32), iv (2 : Int32), iv x8, iv (1 : Int32)] [(.int (1 : Int32)), (.ref pr0), (.int (x8 <<< ((6 : Int32) &&& 31)))])) rfl rfl (hb hby d4_28) _ ?_
      show Steps p.tables e below (T4.setTop (mkF m 29 #[rv pr0, iv (0 : Int32), iv (2 : Int32), iv x8, iv (1 : Int32)] [(.int y1), (.int (x8 <<< ((6 : Int32) &&& 31)))])) _
      refine y_bipush X4.here hx (hb hby d4_29) (v := (63 : Int32)) rfl (pc' := 31) rfl ?_
      refine y_iand X4.here hx (hb hby d4_31) rfl (pc' := 32) rfl ?_
      refine y_ior X4.here hx (hb hby d4_32) rfl (pc' := 33) rfl ?_
      refine y_istoreN X4.here hx (hb hby d4_33) (l' := #[rv pr0, iv (0 : Int32), iv (2 : Int32), iv ((x8 <<< ((6 : Int32) &&& 31)) ||| (y1 &&& (63 : Int32))), iv (1 : Int32)]) rfl (pc' := 34) rfl ?_
      exact kt)
  have pre14 : ∀ t, Steps p.tables e below (T4.setTop (mkF m 41 #[rv pr0, iv (0 : Int32), iv (2 : Int32), iv x12, iv (2 : Int32)] [(.int x12)])) t → Go t := fun t kt => pre13 t (by
      refine y_iinc X4.here hx (hb hby d4_34) rfl (l' := #[rv pr0, iv (0 : Int32), iv (2 : Int32), iv x12, iv (2 : Int32)]) rfl (pc' := 37) rfl ?_
      refine y_goto X4.here hx (hb hby d4_37) (pc' := 13) (by decide) rfl ?_
      refine y_iload X4.here hx (hb hby d4_13) rfl (pc' := 15) rfl ?_
      refine y_iloadN X4.here hx (hb hby d4_15) rfl (pc' := 16) rfl ?_
      refine y_icmpYes X4.here hx (hb hby d4_16) (flt (by decide : ¬ ((2 : Int32) < (2 : Int32)))).2.1 (pc' := 40) (by decide) rfl ?_
      refine y_iloadN X4.here hx (hb hby d4_40) rfl (pc' := 41) rfl ?_
      exact kt)
  obtain ⟨fs, hr, hrun, hended, hW, hsame⟩ := X4.leave (v := some (.int x12)) (fun h => by rw [Bd.returns] at h; cases h)
  refine ⟨_, _, (hGo _).mp (pre14 _ ?_), hrun, hended, _, _, rfl, ?_, ⟨_, rfl⟩, hW, hsame.mono (by decide) (by decide)⟩
  · exact retOut X4 hx Bd.returns rfl (Or.inl ⟨rfl, Or.inl rfl, _, rfl⟩) (hb hby d4_41) hr
  · show Q4a0l2 Z pr0 w_LEAD_PAYLOAD kk_pr0 y0 y1 y2 y3 y4 y5 y6 y7 cc_w_LEAD_PAYLOAD h0 n0 _ T4.heap _
    rw [e4]
    subst hx8 hx12
    exact ⟨rfl, N0, rfl⟩
theorem ef_4a0l3 (m : MethodId) (x0 : Addr) : entryFrame m #[(.ref x0), (.int (0 : Int32)), (.int (3 : Int32))] 5 = mkF m 0 #[rv x0, iv (0 : Int32), iv (3 : Int32), .unset, .unset] [] := by first | (simp [entryFrame, mkF, argsToLocals, Value.category]; done) | rfl
def Q4a0l3 (Z : State) (pr0 : Addr) (w_LEAD_PAYLOAD : Addr) (kk_pr0 : ClassId) (y0 : Int32) (y1 : Int32) (y2 : Int32) (y3 : Int32) (y4 : Int32) (y5 : Int32) (y6 : Int32) (y7 : Int32) (cc_w_LEAD_PAYLOAD : Cell) (h0 : Heap) (n0 : Nat) (v : Option Value) (h : Heap) (L : List Loc) : Prop := v = some (.int (((((y0 &&& (15 : Int32)) <<< ((6 : Int32) &&& 31)) ||| (y1 &&& (63 : Int32))) <<< ((6 : Int32) &&& 31)) ||| (y2 &&& (63 : Int32)))) ∧ Fr n0 L ∧ h = h0
set_option maxRecDepth 65536 in
set_option maxHeartbeats 40000000 in
theorem rm4a0l3 (l : Launch) (Z : State) (a0 : Array Value) (hw : ∀ d ∈ tables_1, d.before a0 Z = true) (ws : List Jvm.Cond) (pr0 : Addr) (w_LEAD_PAYLOAD : Addr) (kk_pr0 : ClassId) (y0 : Int32) (y1 : Int32) (y2 : Int32) (y3 : Int32) (y4 : Int32) (y5 : Int32) (y6 : Int32) (y7 : Int32) (cc_w_LEAD_PAYLOAD : Cell) (h0 : Heap) (n0 : Nat) (O0 : Old Z n0 h0) (S_LEAD_PAYLOAD : Sta Z Z.heap "com/example/strict_codec/strictcodec/Utf8Grammar" "LEAD_PAYLOAD" "[I" (.ref w_LEAD_PAYLOAD)) (V_pr0 : Arv Z h0 pr0 kk_pr0 .byte (8 : Int32) [(.int y0), (.int y1), (.int y2), (.int y3), (.int y4), (.int y5), (.int y6), (.int y7)] (.int (0 : Int32))) (AR_w_LEAD_PAYLOAD : Arr Z Z.heap w_LEAD_PAYLOAD cc_w_LEAD_PAYLOAD .int) (IN3_w_LEAD_PAYLOAD : ¬ ((3 : Int32) < 0 ∨ cc_w_LEAD_PAYLOAD.slots.size ≤ (3 : Int32).toNatClampNeg)) (AT3_w_LEAD_PAYLOAD : cc_w_LEAD_PAYLOAD.slots[(3 : Int32).toNatClampNeg]? = some (.int (15 : Int32))) :
    MetFree l (⟨"com/example/strict_codec/strictcodec/Utf8Grammar", "scalarValue", "([BII)I"⟩ : MethodName) (head1 (Jvm.Cond.code (⟨"com/example/strict_codec/strictcodec/Utf8Grammar", "scalarValue", "([BII)I"⟩ : MethodName) prog_19_method_14_code 5 (some .int) :: ws) ({ frames := 0, cells := 0, slots := 0, locals := 0 } : Room)) (fun a U => a = #[(.ref pr0), (.int (0 : Int32)), (.int (3 : Int32))] ∧ Z.Warmed39 U.vm ∧ U.heap = h0) (fun _ _ _ _ _ => True) (fun _ U o U' => ∃ v L, o = .returned v ∧ Q4a0l3 Z pr0 w_LEAD_PAYLOAD kk_pr0 y0 y1 y2 y3 y4 y5 y6 y7 cc_w_LEAD_PAYLOAD h0 n0 v U'.heap L ∧ FrameEnd U o U' L ({ frames := 0, cells := 0, slots := 0, locals := 0 } : Room).cells ({ frames := 0, cells := 0, slots := 0, locals := 0 } : Room).slots) := by
  refine MetFree.of_bodySF (plainFor_of_name pn_com_example_strict_codec_strictcodec_Utf8Grammar) hisR ?_
  intro p e s m args below meth c s₁ Bd hml0 hP hK
  obtain ⟨rfl, hZ, hh⟩ := hP
  have hx := Bd.exec
  have hby := Bd.bytes
  have hml : c.maxLocals = 5 := hml0
  have hown : s.vm.findClass "com/example/strict_codec/strictcodec/Utf8Grammar" = some m.cls := findClass_of_methodNamed Bd.named
  have hnm := (name_of_methodNamed Bd.named Bd.method).1
  have X0 : Stand p l e ({ frames := 0, cells := 0, slots := 0, locals := 0 } : Room) s m #[(.ref pr0), (.int (0 : Int32)), (.int (3 : Int32))] below meth c s₁ [] 0 0 := Stand.of_body Bd
  have e0 : s₁.heap = h0 := by rw [← hh, Bd.state]; rfl
  have N0 := Fr.nil n0
  obtain ⟨Go, hGo⟩ : ∃ P : State → Prop, ∀ t, P t ↔ Steps p.tables e below (s₁.setTop (entryFrame m #[(.ref pr0), (.int (0 : Int32)), (.int (3 : Int32))] 5)) t := ⟨_, fun _ => Iff.rfl⟩
  have pre0 : ∀ t, Steps p.tables e below (s₁.setTop (mkF m 0 #[rv pr0, iv (0 : Int32), iv (3 : Int32), .unset, .unset] [])) t → Go t := fun t k => (hGo t).mpr (castTop (ef_4a0l3 m pr0) k)
  have pre1 : ∀ t, Steps p.tables e below (s₁.setTop (mkF m 2 #[rv pr0, iv (0 : Int32), iv (3 : Int32), .unset, .unset] [(.int (0 : Int32)), (.ref pr0)])) t → Go t := fun t kt => pre0 t (by
      refine y_aloadN X0.here hx (hb hby d4_0) rfl rfl (pc' := 1) rfl ?_
      refine y_iloadN X0.here hx (hb hby d4_1) rfl (pc' := 2) rfl ?_
      exact kt)
  obtain ⟨c2, Ar2, q2, S2, M2, H2, G2⟩ := id V_pr0
  have hin2 : ¬ ((0 : Int32) < 0 ∨ c2.slots.size ≤ ((0 : Int32)).toNatClampNeg) := inb_of S2 ⟨by decide, by decide⟩
  have hat2 : c2.slots[((0 : Int32)).toNatClampNeg]? = some (.int y0) := Has.at H2 hin2 rfl
  have pre3 : ∀ t, Steps p.tables e below (s₁.setTop (mkF m 3 #[rv pr0, iv (0 : Int32), iv (3 : Int32), .unset, .unset] [(.int y0)])) t → Go t := fun t kt => pre1 t (by
      refine X0.baloadBytes hx (j := (0 : Int32)) (v := (.int y0)) (by rw [e0]; exact Ar2.1) (State.isArrayOf_alike hZ.alike Ar2.2.1) Ar2.2.2 hin2 hat2 (g := (mkF m 2 #[rv pr0, iv (0 : Int32), iv (3 : Int32), .unset, .unset] [(.int (0 : Int32)), (.ref pr0)])) rfl rfl (hb hby d4_2) _ ?_
      show Steps p.tables e below (s₁.setTop (mkF m 3 #[rv pr0, iv (0 : Int32), iv (3 : Int32), .unset, .unset] [(.int y0)])) _
      exact kt)
  obtain ⟨T4, X4, e4, st4⟩ := getS2 X0 hx hZ hown (host := "") (Or.inl (hw _ (List.mem_of_getElem? (i := 26) rfl))) Via.refl e0 (S_LEAD_PAYLOAD.ext O0.2) (g := (mkF m 3 #[rv pr0, iv (0 : Int32), iv (3 : Int32), .unset, .unset] [(.int y0)])) rfl (hb hby d4_3)
  have pre5 : ∀ t, Steps p.tables e below (T4.setTop (mkF m 6 #[rv pr0, iv (0 : Int32), iv (3 : Int32), .unset, .unset] [(.ref w_LEAD_PAYLOAD), (.int y0)])) t → Go t := fun t kt => pre3 t (st4 t kt)
  have pre6 : ∀ t, Steps p.tables e below (T4.setTop (mkF m 7 #[rv pr0, iv (0 : Int32), iv (3 : Int32), .unset, .unset] [(.int (3 : Int32)), (.ref w_LEAD_PAYLOAD), (.int y0)])) t → Go t := fun t kt => pre5 t (by
      refine y_iloadN X4.here hx (hb hby d4_6) rfl (pc' := 7) rfl ?_
      exact kt)
  have A7 := AR_w_LEAD_PAYLOAD.ext O0.2
  obtain ⟨x8, hx8⟩ : ∃ z : Int32, z = (y0 &&& (15 : Int32)) := ⟨_, rfl⟩
  have pre9 : ∀ t, Steps p.tables e below (T4.setTop (mkF m 10 #[rv pr0, iv (0 : Int32), iv (3 : Int32), iv x8, .unset] [])) t → Go t := fun t kt => pre6 t (by
      subst hx8
      refine X4.iaload hx (j := (3 : Int32)) (v := (.int (15 : Int32))) (by rw [e4]; exact A7.1) (State.isArrayOf_alike hZ.alike A7.2.1) A7.2.2 IN3_w_LEAD_PAYLOAD AT3_w_LEAD_PAYLOAD (g := (mkF m 7 #[rv pr0, iv (0 : Int32), iv (3 : Int32), .unset, .unset] [(.int (3 : Int32)), (.ref w_LEAD_PAYLOAD), (.int y0)])) rfl rfl (hb hby d4_7) _ ?_
      show Steps p.tables e below (T4.setTop (mkF m 8 #[rv pr0, iv (0 : Int32), iv (3 : Int32), .unset, .unset] [(.int (15 : Int32)), (.int y0)])) _
      refine y_iand X4.here hx (hb hby d4_8) rfl (pc' := 9) rfl ?_
      refine y_istoreN X4.here hx (hb hby d4_9) (l' := #[rv pr0, iv (0 : Int32), iv (3 : Int32), iv (y0 &&& (15 : Int32)), .unset]) rfl (pc' := 10) rfl ?_
      exact kt)
  have pre10 : ∀ t, Steps p.tables e below (T4.setTop (mkF m 28 #[rv pr0, iv (0 : Int32), iv (3 : Int32), iv x8, iv (1 : Int32)] [(.int (1 : Int32)), (.ref pr0), (.int (x8 <<< ((6 : Int32) &&& 31)))])) t → Go t := fun t kt => pre9 t (by
      refine y_iconst X4.here hx (hb hby d4_10) (v := (1 : Int32)) rfl (pc' := 11) rfl ?_
      refine y_istore X4.here hx (hb hby d4_11) (l' := #[rv pr0, iv (0 : Int32), iv (3 : Int32), iv x8, iv (1 : Int32)]) rfl (pc' := 13) rfl ?_
      refine y_iload X4.here hx (hb hby d4_13) rfl (pc' := 15) rfl ?_
      refine y_iloadN X4.here hx (hb hby d4_15) rfl (pc' := 16) rfl ?_
      refine y_icmpNo X4.here hx (hb hby d4_16) (tlt (by decide : (1 : Int32) < (3 : Int32))).2.1 (pc' := 19) rfl ?_
      refine y_iloadN X4.here hx (hb hby d4_19) rfl (pc' := 20) rfl ?_
      refine y_bipush X4.here hx (hb hby d4_20) (v := (6 : Int32)) rfl (pc' := 22) rfl ?_
      refine y_ishl X4.here hx (hb hby d4_22) (z := (x8 <<< ((6 : Int32) &&& 31))) rfl (pc' := 23) rfl ?_
      refine y_aloadN X4.here hx (hb hby d4_23) rfl rfl (pc' := 24) rfl ?_
      refine y_iloadN X4.here hx (hb hby d4_24) rfl (pc' := 25) rfl ?_
      refine y_iload X4.here hx (hb hby d4_25) rfl (pc' := 27) rfl ?_
      refine y_iadd X4.here hx (hb hby d4_27) (z := (1 : Int32)) rfl (pc' := 28) rfl ?_
      exact kt)
  obtain ⟨c11, Ar11, q11, S11, M11, H11, G11⟩ := id V_pr0
  have hin11 : ¬ ((1 : Int32) < 0 ∨ c11.slots.size ≤ ((1 : Int32)).toNatClampNeg) := inb_of S11 ⟨by decide, by decide⟩
  have hat11 : c11.slots[((1 : Int32)).toNatClampNeg]? = some (.int y1) := Has.at H11 hin11 rfl
  obtain ⟨x12, hx12⟩ : ∃ z : Int32, z = ((x8 <<< ((6 : Int32) &&& 31)) ||| (y1 &&& (63 : Int32))) := ⟨_, rfl⟩
  have pre13 : ∀ t, Steps p.tables e below (T4.setTop (mkF m 34 #[rv pr0, iv (0 : Int32), iv (3 : Int32), iv x12, iv (1 : Int32)] [])) t → Go t := fun t kt => pre10 t (by
      subst hx12
      refine X4.baloadBytes hx (j := (1 : Int32)) (v := (.int y1)) (by rw [e4]; exact Ar11.1) (State.isArrayOf_alike hZ.alike Ar11.2.1) Ar11.2.2 hin11 hat11 (g := (mkF m 28 #[rv pr0, iv (0 : Int32), iv (3 : Int32), iv x8, iv (1 : Int32)] [(.int (1 : Int32)), (.ref pr0), (.int (x8 <<< ((6 : Int32) &&& 31)))])) rfl rfl (hb hby d4_28) _ ?_
      show Steps p.tables e below (T4.setTop (mkF m 29 #[rv pr0, iv (0 : Int32), iv (3 : Int32), iv x8, iv (1 : Int32)] [(.int y1), (.int (x8 <<< ((6 : Int32) &&& 31)))])) _
      refine y_bipush X4.here hx (hb hby d4_29) (v := (63 : Int32)) rfl (pc' := 31) rfl ?_
      refine y_iand X4.here hx (hb hby d4_31) rfl (pc' := 32) rfl ?_
      refine y_ior X4.here hx (hb hby d4_32) rfl (pc' := 33) rfl ?_
      refine y_istoreN X4.here hx (hb hby d4_33) (l' := #[rv pr0, iv (0 : Int32), iv (3 : Int32), iv ((x8 <<< ((6 : Int32) &&& 31)) ||| (y1 &&& (63 : Int32))), iv (1 : Int32)]) rfl (pc' := 34) rfl ?_
      exact kt)
  have pre14 : ∀ t, Steps p.tables e below (T4.setTop (mkF m 28 #[rv pr0, iv (0 : Int32), iv (3 : Int32), iv x12, iv (2 : Int32)] [(.int (2 : Int32)), (.ref pr0), (.int (x12 <<< ((6 : Int32) &&& 31)))])) t → Go t := fun t kt => pre13 t (by
      refine y_iinc X4.here hx (hb hby d4_34) rfl (l' := #[rv pr0, iv (0 : Int32), iv (3 : Int32), iv x12, iv (2 : Int32)]) rfl (pc' := 37) rfl ?_
      refine y_goto X4.here hx (hb hby d4_37) (pc' := 13) (by decide) rfl ?_
      refine y_iload X4.here hx (hb hby d4_13) rfl (pc' := 15) rfl ?_
      refine y_iloadN X4.here hx (hb hby d4_15) rfl (pc' := 16) rfl ?_
      refine y_icmpNo X4.here hx (hb hby d4_16) (tlt (by decide : (2 : Int32) < (3 : Int32))).2.1 (pc' := 19) rfl ?_
      refine y_iloadN X4.here hx (hb hby d4_19) rfl (pc' := 20) rfl ?_
      refine y_bipush X4.here hx (hb hby d4_20) (v := (6 : Int32)) rfl (pc' := 22) rfl ?_
      refine y_ishl X4.here hx (hb hby d4_22) (z := (x12 <<< ((6 : Int32) &&& 31))) rfl (pc' := 23) rfl ?_
      refine y_aloadN X4.here hx (hb hby d4_23) rfl rfl (pc' := 24) rfl ?_
      refine y_iloadN X4.here hx (hb hby d4_24) rfl (pc' := 25) rfl ?_
      refine y_iload X4.here hx (hb hby d4_25) rfl (pc' := 27) rfl ?_
      refine y_iadd X4.here hx (hb hby d4_27) (z := (2 : Int32)) rfl (pc' := 28) rfl ?_
      exact kt)
  obtain ⟨c15, Ar15, q15, S15, M15, H15, G15⟩ := id V_pr0
  have hin15 : ¬ ((2 : Int32) < 0 ∨ c15.slots.size ≤ ((2 : Int32)).toNatClampNeg) := inb_of S15 ⟨by decide, by decide⟩
  have hat15 : c15.slots[((2 : Int32)).toNatClampNeg]? = some (.int y2) := Has.at H15 hin15 rfl
  obtain ⟨x16, hx16⟩ : ∃ z : Int32, z = ((x12 <<< ((6 : Int32) &&& 31)) ||| (y2 &&& (63 : Int32))) := ⟨_, rfl⟩
  have pre17 : ∀ t, Steps p.tables e below (T4.setTop (mkF m 34 #[rv pr0, iv (0 : Int32), iv (3 : Int32), iv x16, iv (2 : Int32)] [])) t → Go t := fun t kt => pre14 t (by
      subst hx16
      refine X4.baloadBytes hx (j := (2 : Int32)) (v := (.int y2)) (by rw [e4]; exact Ar15.1) (State.isArrayOf_alike hZ.alike Ar15.2.1) Ar15.2.2 hin15 hat15 (g := (mkF m 28 #[rv pr0, iv (0 : Int32), iv (3 : Int32), iv x12, iv (2 : Int32)] [(.int (2 : Int32)), (.ref pr0), (.int (x12 <<< ((6 : Int32) &&& 31)))])) rfl rfl (hb hby d4_28) _ ?_
      show Steps p.tables e below (T4.setTop (mkF m 29 #[rv pr0, iv (0 : Int32), iv (3 : Int32), iv x12, iv (2 : Int32)] [(.int y2), (.int (x12 <<< ((6 : Int32) &&& 31)))])) _
      refine y_bipush X4.here hx (hb hby d4_29) (v := (63 : Int32)) rfl (pc' := 31) rfl ?_
      refine y_iand X4.here hx (hb hby d4_31) rfl (pc' := 32) rfl ?_
      refine y_ior X4.here hx (hb hby d4_32) rfl (pc' := 33) rfl ?_
      refine y_istoreN X4.here hx (hb hby d4_33) (l' := #[rv pr0, iv (0 : Int32), iv (3 : Int32), iv ((x12 <<< ((6 : Int32) &&& 31)) ||| (y2 &&& (63 : Int32))), iv (2 : Int32)]) rfl (pc' := 34) rfl ?_
      exact kt)
  have pre18 : ∀ t, Steps p.tables e below (T4.setTop (mkF m 41 #[rv pr0, iv (0 : Int32), iv (3 : Int32), iv x16, iv (3 : Int32)] [(.int x16)])) t → Go t := fun t kt => pre17 t (by
      refine y_iinc X4.here hx (hb hby d4_34) rfl (l' := #[rv pr0, iv (0 : Int32), iv (3 : Int32), iv x16, iv (3 : Int32)]) rfl (pc' := 37) rfl ?_
      refine y_goto X4.here hx (hb hby d4_37) (pc' := 13) (by decide) rfl ?_
      refine y_iload X4.here hx (hb hby d4_13) rfl (pc' := 15) rfl ?_
      refine y_iloadN X4.here hx (hb hby d4_15) rfl (pc' := 16) rfl ?_
      refine y_icmpYes X4.here hx (hb hby d4_16) (flt (by decide : ¬ ((3 : Int32) < (3 : Int32)))).2.1 (pc' := 40) (by decide) rfl ?_
      refine y_iloadN X4.here hx (hb hby d4_40) rfl (pc' := 41) rfl ?_
      exact kt)
  obtain ⟨fs, hr, hrun, hended, hW, hsame⟩ := X4.leave (v := some (.int x16)) (fun h => by rw [Bd.returns] at h; cases h)
  refine ⟨_, _, (hGo _).mp (pre18 _ ?_), hrun, hended, _, _, rfl, ?_, ⟨_, rfl⟩, hW, hsame.mono (by decide) (by decide)⟩
  · exact retOut X4 hx Bd.returns rfl (Or.inl ⟨rfl, Or.inl rfl, _, rfl⟩) (hb hby d4_41) hr
  · show Q4a0l3 Z pr0 w_LEAD_PAYLOAD kk_pr0 y0 y1 y2 y3 y4 y5 y6 y7 cc_w_LEAD_PAYLOAD h0 n0 _ T4.heap _
    rw [e4]
    subst hx8 hx12 hx16
    exact ⟨rfl, N0, rfl⟩
theorem ef_4a0l4 (m : MethodId) (x0 : Addr) : entryFrame m #[(.ref x0), (.int (0 : Int32)), (.int (4 : Int32))] 5 = mkF m 0 #[rv x0, iv (0 : Int32), iv (4 : Int32), .unset, .unset] [] := by first | (simp [entryFrame, mkF, argsToLocals, Value.category]; done) | rfl
def Q4a0l4 (Z : State) (pr0 : Addr) (w_LEAD_PAYLOAD : Addr) (kk_pr0 : ClassId) (y0 : Int32) (y1 : Int32) (y2 : Int32) (y3 : Int32) (y4 : Int32) (y5 : Int32) (y6 : Int32) (y7 : Int32) (cc_w_LEAD_PAYLOAD : Cell) (h0 : Heap) (n0 : Nat) (v : Option Value) (h : Heap) (L : List Loc) : Prop := v = some (.int (((((((y0 &&& (7 : Int32)) <<< ((6 : Int32) &&& 31)) ||| (y1 &&& (63 : Int32))) <<< ((6 : Int32) &&& 31)) ||| (y2 &&& (63 : Int32))) <<< ((6 : Int32) &&& 31)) ||| (y3 &&& (63 : Int32)))) ∧ Fr n0 L ∧ h = h0
set_option maxRecDepth 65536 in
set_option maxHeartbeats 40000000 in
theorem rm4a0l4 (l : Launch) (Z : State) (a0 : Array Value) (hw : ∀ d ∈ tables_1, d.before a0 Z = true) (ws : List Jvm.Cond) (pr0 : Addr) (w_LEAD_PAYLOAD : Addr) (kk_pr0 : ClassId) (y0 : Int32) (y1 : Int32) (y2 : Int32) (y3 : Int32) (y4 : Int32) (y5 : Int32) (y6 : Int32) (y7 : Int32) (cc_w_LEAD_PAYLOAD : Cell) (h0 : Heap) (n0 : Nat) (O0 : Old Z n0 h0) (S_LEAD_PAYLOAD : Sta Z Z.heap "com/example/strict_codec/strictcodec/Utf8Grammar" "LEAD_PAYLOAD" "[I" (.ref w_LEAD_PAYLOAD)) (V_pr0 : Arv Z h0 pr0 kk_pr0 .byte (8 : Int32) [(.int y0), (.int y1), (.int y2), (.int y3), (.int y4), (.int y5), (.int y6), (.int y7)] (.int (0 : Int32))) (AR_w_LEAD_PAYLOAD : Arr Z Z.heap w_LEAD_PAYLOAD cc_w_LEAD_PAYLOAD .int) (IN4_w_LEAD_PAYLOAD : ¬ ((4 : Int32) < 0 ∨ cc_w_LEAD_PAYLOAD.slots.size ≤ (4 : Int32).toNatClampNeg)) (AT4_w_LEAD_PAYLOAD : cc_w_LEAD_PAYLOAD.slots[(4 : Int32).toNatClampNeg]? = some (.int (7 : Int32))) :
    MetFree l (⟨"com/example/strict_codec/strictcodec/Utf8Grammar", "scalarValue", "([BII)I"⟩ : MethodName) (head1 (Jvm.Cond.code (⟨"com/example/strict_codec/strictcodec/Utf8Grammar", "scalarValue", "([BII)I"⟩ : MethodName) prog_19_method_14_code 5 (some .int) :: ws) ({ frames := 0, cells := 0, slots := 0, locals := 0 } : Room)) (fun a U => a = #[(.ref pr0), (.int (0 : Int32)), (.int (4 : Int32))] ∧ Z.Warmed39 U.vm ∧ U.heap = h0) (fun _ _ _ _ _ => True) (fun _ U o U' => ∃ v L, o = .returned v ∧ Q4a0l4 Z pr0 w_LEAD_PAYLOAD kk_pr0 y0 y1 y2 y3 y4 y5 y6 y7 cc_w_LEAD_PAYLOAD h0 n0 v U'.heap L ∧ FrameEnd U o U' L ({ frames := 0, cells := 0, slots := 0, locals := 0 } : Room).cells ({ frames := 0, cells := 0, slots := 0, locals := 0 } : Room).slots) := by
  refine MetFree.of_bodySF (plainFor_of_name pn_com_example_strict_codec_strictcodec_Utf8Grammar) hisR ?_
  intro p e s m args below meth c s₁ Bd hml0 hP hK
  obtain ⟨rfl, hZ, hh⟩ := hP
  have hx := Bd.exec
  have hby := Bd.bytes
  have hml : c.maxLocals = 5 := hml0
  have hown : s.vm.findClass "com/example/strict_codec/strictcodec/Utf8Grammar" = some m.cls := findClass_of_methodNamed Bd.named
  have hnm := (name_of_methodNamed Bd.named Bd.method).1
  have X0 : Stand p l e ({ frames := 0, cells := 0, slots := 0, locals := 0 } : Room) s m #[(.ref pr0), (.int (0 : Int32)), (.int (4 : Int32))] below meth c s₁ [] 0 0 := Stand.of_body Bd
  have e0 : s₁.heap = h0 := by rw [← hh, Bd.state]; rfl
  have N0 := Fr.nil n0
  obtain ⟨Go, hGo⟩ : ∃ P : State → Prop, ∀ t, P t ↔ Steps p.tables e below (s₁.setTop (entryFrame m #[(.ref pr0), (.int (0 : Int32)), (.int (4 : Int32))] 5)) t := ⟨_, fun _ => Iff.rfl⟩
  have pre0 : ∀ t, Steps p.tables e below (s₁.setTop (mkF m 0 #[rv pr0, iv (0 : Int32), iv (4 : Int32), .unset, .unset] [])) t → Go t := fun t k => (hGo t).mpr (castTop (ef_4a0l4 m pr0) k)
  have pre1 : ∀ t, Steps p.tables e below (s₁.setTop (mkF m 2 #[rv pr0, iv (0 : Int32), iv (4 : Int32), .unset, .unset] [(.int (0 : Int32)), (.ref pr0)])) t → Go t := fun t kt => pre0 t (by
      refine y_aloadN X0.here hx (hb hby d4_0) rfl rfl (pc' := 1) rfl ?_
      refine y_iloadN X0.here hx (hb hby d4_1) rfl (pc' := 2) rfl ?_
      exact kt)
  obtain ⟨c2, Ar2, q2, S2, M2, H2, G2⟩ := id V_pr0
  have hin2 : ¬ ((0 : Int32) < 0 ∨ c2.slots.size ≤ ((0 : Int32)).toNatClampNeg) := inb_of S2 ⟨by decide, by decide⟩
  have hat2 : c2.slots[((0 : Int32)).toNatClampNeg]? = some (.int y0) := Has.at H2 hin2 rfl
  have pre3 : ∀ t, Steps p.tables e below (s₁.setTop (mkF m 3 #[rv pr0, iv (0 : Int32), iv (4 : Int32), .unset, .unset] [(.int y0)])) t → Go t := fun t kt => pre1 t (by
      refine X0.baloadBytes hx (j := (0 : Int32)) (v := (.int y0)) (by rw [e0]; exact Ar2.1) (State.isArrayOf_alike hZ.alike Ar2.2.1) Ar2.2.2 hin2 hat2 (g := (mkF m 2 #[rv pr0, iv (0 : Int32), iv (4 : Int32), .unset, .unset] [(.int (0 : Int32)), (.ref pr0)])) rfl rfl (hb hby d4_2) _ ?_
      show Steps p.tables e below (s₁.setTop (mkF m 3 #[rv pr0, iv (0 : Int32), iv (4 : Int32), .unset, .unset] [(.int y0)])) _
      exact kt)
  obtain ⟨T4, X4, e4, st4⟩ := getS2 X0 hx hZ hown (host := "") (Or.inl (hw _ (List.mem_of_getElem? (i := 26) rfl))) Via.refl e0 (S_LEAD_PAYLOAD.ext O0.2) (g := (mkF m 3 #[rv pr0, iv (0 : Int32), iv (4 : Int32), .unset, .unset] [(.int y0)])) rfl (hb hby d4_3)
  have pre5 : ∀ t, Steps p.tables e below (T4.setTop (mkF m 6 #[rv pr0, iv (0 : Int32), iv (4 : Int32), .unset, .unset] [(.ref w_LEAD_PAYLOAD), (.int y0)])) t → Go t := fun t kt => pre3 t (st4 t kt)
  have pre6 : ∀ t, Steps p.tables e below (T4.setTop (mkF m 7 #[rv pr0, iv (0 : Int32), iv (4 : Int32), .unset, .unset] [(.int (4 : Int32)), (.ref w_LEAD_PAYLOAD), (.int y0)])) t → Go t := fun t kt => pre5 t (by
      refine y_iloadN X4.here hx (hb hby d4_6) rfl (pc' := 7) rfl ?_
      exact kt)
  have A7 := AR_w_LEAD_PAYLOAD.ext O0.2
  obtain ⟨x8, hx8⟩ : ∃ z : Int32, z = (y0 &&& (7 : Int32)) := ⟨_, rfl⟩
  have pre9 : ∀ t, Steps p.tables e below (T4.setTop (mkF m 10 #[rv pr0, iv (0 : Int32), iv (4 : Int32), iv x8, .unset] [])) t → Go t := fun t kt => pre6 t (by
      subst hx8
      refine X4.iaload hx (j := (4 : Int32)) (v := (.int (7 : Int32))) (by rw [e4]; exact A7.1) (State.isArrayOf_alike hZ.alike A7.2.1) A7.2.2 IN4_w_LEAD_PAYLOAD AT4_w_LEAD_PAYLOAD (g := (mkF m 7 #[rv pr0, iv (0 : Int32), iv (4 : Int32), .unset, .unset] [(.int (4 : Int32)), (.ref w_LEAD_PAYLOAD), (.int y0)])) rfl rfl (hb hby d4_7) _ ?_
      show Steps p.tables e below (T4.setTop (mkF m 8 #[rv pr0, iv (0 : Int32), iv (4 : Int32), .unset, .unset] [(.int (7 : Int32)), (.int y0)])) _
      refine y_iand X4.here hx (hb hby d4_8) rfl (pc' := 9) rfl ?_
      refine y_istoreN X4.here hx (hb hby d4_9) (l' := #[rv pr0, iv (0 : Int32), iv (4 : Int32), iv (y0 &&& (7 : Int32)), .unset]) rfl (pc' := 10) rfl ?_
      exact kt)
  have pre10 : ∀ t, Steps p.tables e below (T4.setTop (mkF m 28 #[rv pr0, iv (0 : Int32), iv (4 : Int32), iv x8, iv (1 : Int32)] [(.int (1 : Int32)), (.ref pr0), (.int (x8 <<< ((6 : Int32) &&& 31)))])) t → Go t := fun t kt => pre9 t (by
      refine y_iconst X4.here hx (hb hby d4_10) (v := (1 : Int32)) rfl (pc' := 11) rfl ?_
      refine y_istore X4.here hx (hb hby d4_11) (l' := #[rv pr0, iv (0 : Int32), iv (4 : Int32), iv x8, iv (1 : Int32)]) rfl (pc' := 13) rfl ?_
      refine y_iload X4.here hx (hb hby d4_13) rfl (pc' := 15) rfl ?_
      refine y_iloadN X4.here hx (hb hby d4_15) rfl (pc' := 16) rfl ?_
      refine y_icmpNo X4.here hx (hb hby d4_16) (tlt (by decide : (1 : Int32) < (4 : Int32))).2.1 (pc' := 19) rfl ?_
      refine y_iloadN X4.here hx (hb hby d4_19) rfl (pc' := 20) rfl ?_
      refine y_bipush X4.here hx (hb hby d4_20) (v := (6 : Int32)) rfl (pc' := 22) rfl ?_
      refine y_ishl X4.here hx (hb hby d4_22) (z := (x8 <<< ((6 : Int32) &&& 31))) rfl (pc' := 23) rfl ?_
      refine y_aloadN X4.here hx (hb hby d4_23) rfl rfl (pc' := 24) rfl ?_
      refine y_iloadN X4.here hx (hb hby d4_24) rfl (pc' := 25) rfl ?_
      refine y_iload X4.here hx (hb hby d4_25) rfl (pc' := 27) rfl ?_
      refine y_iadd X4.here hx (hb hby d4_27) (z := (1 : Int32)) rfl (pc' := 28) rfl ?_
      exact kt)
  obtain ⟨c11, Ar11, q11, S11, M11, H11, G11⟩ := id V_pr0
  have hin11 : ¬ ((1 : Int32) < 0 ∨ c11.slots.size ≤ ((1 : Int32)).toNatClampNeg) := inb_of S11 ⟨by decide, by decide⟩
  have hat11 : c11.slots[((1 : Int32)).toNatClampNeg]? = some (.int y1) := Has.at H11 hin11 rfl
  obtain ⟨x12, hx12⟩ : ∃ z : Int32, z = ((x8 <<< ((6 : Int32) &&& 31)) ||| (y1 &&& (63 : Int32))) := ⟨_, rfl⟩
  have pre13 : ∀ t, Steps p.tables e below (T4.setTop (mkF m 34 #[rv pr0, iv (0 : Int32), iv (4 : Int32), iv x12, iv (1 : Int32)] [])) t → Go t := fun t kt => pre10 t (by
      subst hx12
      refine X4.baloadBytes hx (j := (1 : Int32)) (v := (.int y1)) (by rw [e4]; exact Ar11.1) (State.isArrayOf_alike hZ.alike Ar11.2.1) Ar11.2.2 hin11 hat11 (g := (mkF m 28 #[rv pr0, iv (0 : Int32), iv (4 : Int32), iv x8, iv (1 : Int32)] [(.int (1 : Int32)), (.ref pr0), (.int (x8 <<< ((6 : Int32) &&& 31)))])) rfl rfl (hb hby d4_28) _ ?_
      show Steps p.tables e below (T4.setTop (mkF m 29 #[rv pr0, iv (0 : Int32), iv (4 : Int32), iv x8, iv (1 : Int32)] [(.int y1), (.int (x8 <<< ((6 : Int32) &&& 31)))])) _
      refine y_bipush X4.here hx (hb hby d4_29) (v := (63 : Int32)) rfl (pc' := 31) rfl ?_
      refine y_iand X4.here hx (hb hby d4_31) rfl (pc' := 32) rfl ?_
      refine y_ior X4.here hx (hb hby d4_32) rfl (pc' := 33) rfl ?_
      refine y_istoreN X4.here hx (hb hby d4_33) (l' := #[rv pr0, iv (0 : Int32), iv (4 : Int32), iv ((x8 <<< ((6 : Int32) &&& 31)) ||| (y1 &&& (63 : Int32))), iv (1 : Int32)]) rfl (pc' := 34) rfl ?_
      exact kt)
  have pre14 : ∀ t, Steps p.tables e below (T4.setTop (mkF m 28 #[rv pr0, iv (0 : Int32), iv (4 : Int32), iv x12, iv (2 : Int32)] [(.int (2 : Int32)), (.ref pr0), (.int (x12 <<< ((6 : Int32) &&& 31)))])) t → Go t := fun t kt => pre13 t (by
      refine y_iinc X4.here hx (hb hby d4_34) rfl (l' := #[rv pr0, iv (0 : Int32), iv (4 : Int32), iv x12, iv (2 : Int32)]) rfl (pc' := 37) rfl ?_
      refine y_goto X4.here hx (hb hby d4_37) (pc' := 13) (by decide) rfl ?_
      refine y_iload X4.here hx (hb hby d4_13) rfl (pc' := 15) rfl ?_
      refine y_iloadN X4.here hx (hb hby d4_15) rfl (pc' := 16) rfl ?_
      refine y_icmpNo X4.here hx (hb hby d4_16) (tlt (by decide : (2 : Int32) < (4 : Int32))).2.1 (pc' := 19) rfl ?_
      refine y_iloadN X4.here hx (hb hby d4_19) rfl (pc' := 20) rfl ?_
      refine y_bipush X4.here hx (hb hby d4_20) (v := (6 : Int32)) rfl (pc' := 22) rfl ?_
      refine y_ishl X4.here hx (hb hby d4_22) (z := (x12 <<< ((6 : Int32) &&& 31))) rfl (pc' := 23) rfl ?_
      refine y_aloadN X4.here hx (hb hby d4_23) rfl rfl (pc' := 24) rfl ?_
      refine y_iloadN X4.here hx (hb hby d4_24) rfl (pc' := 25) rfl ?_
      refine y_iload X4.here hx (hb hby d4_25) rfl (pc' := 27) rfl ?_
      refine y_iadd X4.here hx (hb hby d4_27) (z := (2 : Int32)) rfl (pc' := 28) rfl ?_
      exact kt)
  obtain ⟨c15, Ar15, q15, S15, M15, H15, G15⟩ := id V_pr0
  have hin15 : ¬ ((2 : Int32) < 0 ∨ c15.slots.size ≤ ((2 : Int32)).toNatClampNeg) := inb_of S15 ⟨by decide, by decide⟩
  have hat15 : c15.slots[((2 : Int32)).toNatClampNeg]? = some (.int y2) := Has.at H15 hin15 rfl
  obtain ⟨x16, hx16⟩ : ∃ z : Int32, z = ((x12 <<< ((6 : Int32) &&& 31)) ||| (y2 &&& (63 : Int32))) := ⟨_, rfl⟩
  have pre17 : ∀ t, Steps p.tables e below (T4.setTop (mkF m 34 #[rv pr0, iv (0 : Int32), iv (4 : Int32), iv x16, iv (2 : Int32)] [])) t → Go t := fun t kt => pre14 t (by
      subst hx16
      refine X4.baloadBytes hx (j := (2 : Int32)) (v := (.int y2)) (by rw [e4]; exact Ar15.1) (State.isArrayOf_alike hZ.alike Ar15.2.1) Ar15.2.2 hin15 hat15 (g := (mkF m 28 #[rv pr0, iv (0 : Int32), iv (4 : Int32), iv x12, iv (2 : Int32)] [(.int (2 : Int32)), (.ref pr0), (.int (x12 <<< ((6 : Int32) &&& 31)))])) rfl rfl (hb hby d4_28) _ ?_
      show Steps p.tables e below (T4.setTop (mkF m 29 #[rv pr0, iv (0 : Int32), iv (4 : Int32), iv x12, iv (2 : Int32)] [(.int y2), (.int (x12 <<< ((6 : Int32) &&& 31)))])) _
      refine y_bipush X4.here hx (hb hby d4_29) (v := (63 : Int32)) rfl (pc' := 31) rfl ?_
      refine y_iand X4.here hx (hb hby d4_31) rfl (pc' := 32) rfl ?_
      refine y_ior X4.here hx (hb hby d4_32) rfl (pc' := 33) rfl ?_
      refine y_istoreN X4.here hx (hb hby d4_33) (l' := #[rv pr0, iv (0 : Int32), iv (4 : Int32), iv ((x12 <<< ((6 : Int32) &&& 31)) ||| (y2 &&& (63 : Int32))), iv (2 : Int32)]) rfl (pc' := 34) rfl ?_
      exact kt)
  have pre18 : ∀ t, Steps p.tables e below (T4.setTop (mkF m 28 #[rv pr0, iv (0 : Int32), iv (4 : Int32), iv x16, iv (3 : Int32)] [(.int (3 : Int32)), (.ref pr0), (.int (x16 <<< ((6 : Int32) &&& 31)))])) t → Go t := fun t kt => pre17 t (by
      refine y_iinc X4.here hx (hb hby d4_34) rfl (l' := #[rv pr0, iv (0 : Int32), iv (4 : Int32), iv x16, iv (3 : Int32)]) rfl (pc' := 37) rfl ?_
      refine y_goto X4.here hx (hb hby d4_37) (pc' := 13) (by decide) rfl ?_
      refine y_iload X4.here hx (hb hby d4_13) rfl (pc' := 15) rfl ?_
      refine y_iloadN X4.here hx (hb hby d4_15) rfl (pc' := 16) rfl ?_
      refine y_icmpNo X4.here hx (hb hby d4_16) (tlt (by decide : (3 : Int32) < (4 : Int32))).2.1 (pc' := 19) rfl ?_
      refine y_iloadN X4.here hx (hb hby d4_19) rfl (pc' := 20) rfl ?_
      refine y_bipush X4.here hx (hb hby d4_20) (v := (6 : Int32)) rfl (pc' := 22) rfl ?_
      refine y_ishl X4.here hx (hb hby d4_22) (z := (x16 <<< ((6 : Int32) &&& 31))) rfl (pc' := 23) rfl ?_
      refine y_aloadN X4.here hx (hb hby d4_23) rfl rfl (pc' := 24) rfl ?_
      refine y_iloadN X4.here hx (hb hby d4_24) rfl (pc' := 25) rfl ?_
      refine y_iload X4.here hx (hb hby d4_25) rfl (pc' := 27) rfl ?_
      refine y_iadd X4.here hx (hb hby d4_27) (z := (3 : Int32)) rfl (pc' := 28) rfl ?_
      exact kt)
  obtain ⟨c19, Ar19, q19, S19, M19, H19, G19⟩ := id V_pr0
  have hin19 : ¬ ((3 : Int32) < 0 ∨ c19.slots.size ≤ ((3 : Int32)).toNatClampNeg) := inb_of S19 ⟨by decide, by decide⟩
  have hat19 : c19.slots[((3 : Int32)).toNatClampNeg]? = some (.int y3) := Has.at H19 hin19 rfl
  obtain ⟨x20, hx20⟩ : ∃ z : Int32, z = ((x16 <<< ((6 : Int32) &&& 31)) ||| (y3 &&& (63 : Int32))) := ⟨_, rfl⟩
  have pre21 : ∀ t, Steps p.tables e below (T4.setTop (mkF m 34 #[rv pr0, iv (0 : Int32), iv (4 : Int32), iv x20, iv (3 : Int32)] [])) t → Go t := fun t kt => pre18 t (by
      subst hx20
      refine X4.baloadBytes hx (j := (3 : Int32)) (v := (.int y3)) (by rw [e4]; exact Ar19.1) (State.isArrayOf_alike hZ.alike Ar19.2.1) Ar19.2.2 hin19 hat19 (g := (mkF m 28 #[rv pr0, iv (0 : Int32), iv (4 : Int32), iv x16, iv (3 : Int32)] [(.int (3 : Int32)), (.ref pr0), (.int (x16 <<< ((6 : Int32) &&& 31)))])) rfl rfl (hb hby d4_28) _ ?_
      show Steps p.tables e below (T4.setTop (mkF m 29 #[rv pr0, iv (0 : Int32), iv (4 : Int32), iv x16, iv (3 : Int32)] [(.int y3), (.int (x16 <<< ((6 : Int32) &&& 31)))])) _
      refine y_bipush X4.here hx (hb hby d4_29) (v := (63 : Int32)) rfl (pc' := 31) rfl ?_
      refine y_iand X4.here hx (hb hby d4_31) rfl (pc' := 32) rfl ?_
      refine y_ior X4.here hx (hb hby d4_32) rfl (pc' := 33) rfl ?_
      refine y_istoreN X4.here hx (hb hby d4_33) (l' := #[rv pr0, iv (0 : Int32), iv (4 : Int32), iv ((x16 <<< ((6 : Int32) &&& 31)) ||| (y3 &&& (63 : Int32))), iv (3 : Int32)]) rfl (pc' := 34) rfl ?_
      exact kt)
  have pre22 : ∀ t, Steps p.tables e below (T4.setTop (mkF m 41 #[rv pr0, iv (0 : Int32), iv (4 : Int32), iv x20, iv (4 : Int32)] [(.int x20)])) t → Go t := fun t kt => pre21 t (by
      refine y_iinc X4.here hx (hb hby d4_34) rfl (l' := #[rv pr0, iv (0 : Int32), iv (4 : Int32), iv x20, iv (4 : Int32)]) rfl (pc' := 37) rfl ?_
      refine y_goto X4.here hx (hb hby d4_37) (pc' := 13) (by decide) rfl ?_
      refine y_iload X4.here hx (hb hby d4_13) rfl (pc' := 15) rfl ?_
      refine y_iloadN X4.here hx (hb hby d4_15) rfl (pc' := 16) rfl ?_
      refine y_icmpYes X4.here hx (hb hby d4_16) (flt (by decide : ¬ ((4 : Int32) < (4 : Int32)))).2.1 (pc' := 40) (by decide) rfl ?_
      refine y_iloadN X4.here hx (hb hby d4_40) rfl (pc' := 41) rfl ?_
      exact kt)
  obtain ⟨fs, hr, hrun, hended, hW, hsame⟩ := X4.leave (v := some (.int x20)) (fun h => by rw [Bd.returns] at h; cases h)
  refine ⟨_, _, (hGo _).mp (pre22 _ ?_), hrun, hended, _, _, rfl, ?_, ⟨_, rfl⟩, hW, hsame.mono (by decide) (by decide)⟩
  · exact retOut X4 hx Bd.returns rfl (Or.inl ⟨rfl, Or.inl rfl, _, rfl⟩) (hb hby d4_41) hr
  · show Q4a0l4 Z pr0 w_LEAD_PAYLOAD kk_pr0 y0 y1 y2 y3 y4 y5 y6 y7 cc_w_LEAD_PAYLOAD h0 n0 _ T4.heap _
    rw [e4]
    subst hx8 hx12 hx16 hx20
    exact ⟨rfl, N0, rfl⟩
theorem d2_0 : decode prog_19_method_12_code 0 = .ok (.iload_n 2, 1) := by decide +kernel
theorem d2_1 : decode prog_19_method_12_code 1 = .ok (.invokestatic 50, 3) := by decide +kernel
theorem d2_4 : decode prog_19_method_12_code 4 = .ok (.istore_n 3, 1) := by decide +kernel
theorem d2_5 : decode prog_19_method_12_code 5 = .ok (.iload_n 2, 1) := by decide +kernel
theorem d2_6 : decode prog_19_method_12_code 6 = .ok (.istore 4, 2) := by decide +kernel
theorem d2_8 : decode prog_19_method_12_code 8 = .ok (.iload_n 3, 1) := by decide +kernel
theorem d2_9 : decode prog_19_method_12_code 9 = .ok (.iconst 1, 1) := by decide +kernel
theorem d2_10 : decode prog_19_method_12_code 10 = .ok (.isub, 1) := by decide +kernel
theorem d2_11 : decode prog_19_method_12_code 11 = .ok (.istore 5, 2) := by decide +kernel
theorem d2_13 : decode prog_19_method_12_code 13 = .ok (.iload 5, 2) := by decide +kernel
theorem d2_15 : decode prog_19_method_12_code 15 = .ok (.ifCond .le 32, 3) := by decide +kernel
theorem d2_47 : decode prog_19_method_12_code 47 = .ok (.aload_n 0, 1) := by decide +kernel
theorem d2_48 : decode prog_19_method_12_code 48 = .ok (.iload_n 1, 1) := by decide +kernel
theorem d2_49 : decode prog_19_method_12_code 49 = .ok (.getstatic 31, 3) := by decide +kernel
theorem d2_52 : decode prog_19_method_12_code 52 = .ok (.iload_n 3, 1) := by decide +kernel
theorem d2_53 : decode prog_19_method_12_code 53 = .ok (.iaload, 1) := by decide +kernel
theorem d2_54 : decode prog_19_method_12_code 54 = .ok (.iload 4, 2) := by decide +kernel
theorem d2_56 : decode prog_19_method_12_code 56 = .ok (.ior, 1) := by decide +kernel
theorem d2_57 : decode prog_19_method_12_code 57 = .ok (.i2b, 1) := by decide +kernel
theorem d2_58 : decode prog_19_method_12_code 58 = .ok (.bastore, 1) := by decide +kernel
theorem d2_59 : decode prog_19_method_12_code 59 = .ok (.iload_n 1, 1) := by decide +kernel
theorem d2_60 : decode prog_19_method_12_code 60 = .ok (.iload_n 3, 1) := by decide +kernel
theorem d2_61 : decode prog_19_method_12_code 61 = .ok (.iadd, 1) := by decide +kernel
theorem d2_62 : decode prog_19_method_12_code 62 = .ok (.ireturn, 1) := by decide +kernel
theorem pd__I_I : parseMethodDescriptor "(I)I" = some ⟨[.int], some .int⟩ := by decide +kernel
theorem ef_2l1 (m : MethodId) (x0 : Addr) (x2 : Int32) : entryFrame m #[(.ref x0), (.int (0 : Int32)), (.int x2)] 6 = mkF m 0 #[rv x0, iv (0 : Int32), iv x2, .unset, .unset, .unset] [] := by first | (simp [entryFrame, mkF, argsToLocals, Value.category]; done) | rfl
def Q2l1 (Z : State) (pr0 : Addr) (pi2 : Int32) (w_LEAD_MARK : Addr) (kk_pr0 : ClassId) (y0 : Int32) (y1 : Int32) (y2 : Int32) (y3 : Int32) (y4 : Int32) (y5 : Int32) (y6 : Int32) (y7 : Int32) (cc_w_LEAD_MARK : Cell) (h0 : Heap) (n0 : Nat) (v : Option Value) (h : Heap) (L : List Loc) : Prop := v = some (.int (1 : Int32)) ∧ Fr n0 L ∧ Keep h0 h [pr0] ∧ Arv Z h pr0 kk_pr0 .byte (8 : Int32) [(.int (nar .byte (((0 : Int32) ||| pi2).toInt8.toInt32))), (.int y1), (.int y2), (.int y3), (.int y4), (.int y5), (.int y6), (.int y7)] (.int (0 : Int32))
set_option maxRecDepth 65536 in
set_option maxHeartbeats 40000000 in
theorem rm2l1 (l : Launch) (Z : State) (a0 : Array Value) (hw : ∀ d ∈ tables_1, d.before a0 Z = true) (ws : List Jvm.Cond) (pr0 : Addr) (pi2 : Int32) (w_LEAD_MARK : Addr) (kk_pr0 : ClassId) (y0 : Int32) (y1 : Int32) (y2 : Int32) (y3 : Int32) (y4 : Int32) (y5 : Int32) (y6 : Int32) (y7 : Int32) (cc_w_LEAD_MARK : Cell) (h0 : Heap) (n0 : Nat) (O0 : Old Z n0 h0) (S_LEAD_MARK : Sta Z Z.heap "com/example/strict_codec/strictcodec/Utf8Grammar" "LEAD_MARK" "[I" (.ref w_LEAD_MARK)) (G_pr0 : n0 ≤ pr0) (LE : (fr1 pi2) = (1 : Int32)) (V_pr0 : Arv Z h0 pr0 kk_pr0 .byte (8 : Int32) [(.int y0), (.int y1), (.int y2), (.int y3), (.int y4), (.int y5), (.int y6), (.int y7)] (.int (0 : Int32))) (AR_w_LEAD_MARK : Arr Z Z.heap w_LEAD_MARK cc_w_LEAD_MARK .int) (IN1_w_LEAD_MARK : ¬ ((1 : Int32) < 0 ∨ cc_w_LEAD_MARK.slots.size ≤ (1 : Int32).toNatClampNeg)) (AT1_w_LEAD_MARK : cc_w_LEAD_MARK.slots[(1 : Int32).toNatClampNeg]? = some (.int (0 : Int32))) :
    MetFree l (⟨"com/example/strict_codec/strictcodec/Utf8Grammar", "put", "([BII)I"⟩ : MethodName) (head1 (Jvm.Cond.code (⟨"com/example/strict_codec/strictcodec/Utf8Grammar", "put", "([BII)I"⟩ : MethodName) prog_19_method_12_code 6 (some .int) :: ws) ({ frames := 1, cells := 0, slots := 0, locals := 13 } : Room)) (fun a U => a = #[(.ref pr0), (.int (0 : Int32)), (.int pi2)] ∧ Z.Warmed39 U.vm ∧ U.heap = h0) (fun _ _ _ _ _ => True) (fun _ U o U' => ∃ v L, o = .returned v ∧ Q2l1 Z pr0 pi2 w_LEAD_MARK kk_pr0 y0 y1 y2 y3 y4 y5 y6 y7 cc_w_LEAD_MARK h0 n0 v U'.heap L ∧ FrameEnd U o U' L ({ frames := 1, cells := 0, slots := 0, locals := 13 } : Room).cells ({ frames := 1, cells := 0, slots := 0, locals := 13 } : Room).slots) := by
  refine MetFree.of_bodySF (plainFor_of_name pn_com_example_strict_codec_strictcodec_Utf8Grammar) hisR ?_
  intro p e s m args below meth c s₁ Bd hml0 hP hK
  obtain ⟨rfl, hZ, hh⟩ := hP
  have hx := Bd.exec
  have hby := Bd.bytes
  have hml : c.maxLocals = 6 := hml0
  have hown : s.vm.findClass "com/example/strict_codec/strictcodec/Utf8Grammar" = some m.cls := findClass_of_methodNamed Bd.named
  have hnm := (name_of_methodNamed Bd.named Bd.method).1
  have X0 : Stand p l e ({ frames := 1, cells := 0, slots := 0, locals := 13 } : Room) s m #[(.ref pr0), (.int (0 : Int32)), (.int pi2)] below meth c s₁ [] 0 0 := Stand.of_body Bd
  have e0 : s₁.heap = h0 := by rw [← hh, Bd.state]; rfl
  have N0 := Fr.nil n0
  obtain ⟨Go, hGo⟩ : ∃ P : State → Prop, ∀ t, P t ↔ Steps p.tables e below (s₁.setTop (entryFrame m #[(.ref pr0), (.int (0 : Int32)), (.int pi2)] 6)) t := ⟨_, fun _ => Iff.rfl⟩
  have pre0 : ∀ t, Steps p.tables e below (s₁.setTop (mkF m 0 #[rv pr0, iv (0 : Int32), iv pi2, .unset, .unset, .unset] [])) t → Go t := fun t k => (hGo t).mpr (castTop (ef_2l1 m pr0 pi2) k)
  have K0 : Keep h0 h0 [pr0] := Keep.refl _ _
  have pre1 : ∀ t, Steps p.tables e below (s₁.setTop (mkF m 1 #[rv pr0, iv (0 : Int32), iv pi2, .unset, .unset, .unset] [(.int pi2)])) t → Go t := fun t kt => pre0 t (by
      refine y_iloadN X0.here hx (hb hby d2_0) rfl (pc' := 1) rfl ?_
      exact kt)
  obtain ⟨v2, _, ⟨T2, L2, k2, n2⟩, -, X2, ⟨Lc2, hQ2, l2, y2, z2⟩, st2⟩ := Jvm.LawKit.callS X0 hx (y := (⟨"com/example/strict_codec/strictcodec/Utf8Grammar", "scalarLength", "(I)I"⟩ : MethodName)) hown (mvT hZ (hw _ (List.mem_of_getElem? (i := 11) rfl))) (mvT hZ (hw _ (List.mem_of_getElem? (i := 4) rfl))) (mvT hZ (hw _ (List.mem_of_getElem? (i := 5) rfl))) (mvT hZ (hw _ (List.mem_of_getElem? (i := 6) rfl))) (by decide) (backOf (W := 0) (rm1 l Z a0 hw [] pi2 h0 n0 O0 ) hZ (hw _ (List.mem_of_getElem? (i := 6) rfl)) (hw _ (List.mem_of_getElem? (i := 5) rfl)) (by decide) (by decide)) (g := (mkF m 1 #[rv pr0, iv (0 : Int32), iv pi2, .unset, .unset, .unset] [(.int pi2)])) rfl (by rw [hml]; rfl) (argsL := [(.int pi2)]) (rest := []) (lenOf pd__I_I rfl) rfl (by show 2 * 0 + _ ≤ _; exact Nat.le_of_eq rfl) (hb hby d2_1) (fun _ _ => ⟨rfl, e0, (by decide : 0 + 0 ≤ _), (by decide : 0 + 0 ≤ _)⟩)
  dsimp only [Pt.U, Pt.locs, Pt.cells, Pt.slots] at X2 l2 y2 z2 st2 hQ2
  subst l2 y2 z2
  obtain ⟨hv2, N2q, e2q⟩ := hQ2
  have N3 := Fr.app N0 N2q
  have hw2 := hv2
  obtain ⟨x4, hx4⟩ : ∃ z : Int32, z = (fr1 pi2) := ⟨_, rfl⟩
  rw [← hx4] at hw2
  subst hw2
  have pre5 : ∀ t, Steps p.tables e below (T2.setTop (mkF m 4 #[rv pr0, iv (0 : Int32), iv pi2, .unset, .unset, .unset] [(.int x4)])) t → Go t := fun t kt => pre1 t (st2 t kt)
  obtain rfl : x4 = (1 : Int32) := by
      rw [hx4]; exact LE
  skip
  have pre6 : ∀ t, Steps p.tables e below (T2.setTop (mkF m 49 #[rv pr0, iv (0 : Int32), iv pi2, iv (1 : Int32), iv pi2, iv (0 : Int32)] [(.int (0 : Int32)), (.ref pr0)])) t → Go t := fun t kt => pre5 t (by
      refine y_istoreN X2.here hx (hb hby d2_4) (l' := #[rv pr0, iv (0 : Int32), iv pi2, iv (1 : Int32), .unset, .unset]) rfl (pc' := 5) rfl ?_
      refine y_iloadN X2.here hx (hb hby d2_5) rfl (pc' := 6) rfl ?_
      refine y_istore X2.here hx (hb hby d2_6) (l' := #[rv pr0, iv (0 : Int32), iv pi2, iv (1 : Int32), iv pi2, .unset]) rfl (pc' := 8) rfl ?_
      refine y_iloadN X2.here hx (hb hby d2_8) rfl (pc' := 9) rfl ?_
      refine y_iconst X2.here hx (hb hby d2_9) (v := (1 : Int32)) rfl (pc' := 10) rfl ?_
      refine y_isub X2.here hx (hb hby d2_10) (z := (0 : Int32)) rfl (pc' := 11) rfl ?_
      refine y_istore X2.here hx (hb hby d2_11) (l' := #[rv pr0, iv (0 : Int32), iv pi2, iv (1 : Int32), iv pi2, iv (0 : Int32)]) rfl (pc' := 13) rfl ?_
      refine y_iload X2.here hx (hb hby d2_13) rfl (pc' := 15) rfl ?_
      refine y_ifYes X2.here hx (hb hby d2_15) ((if0 _ _).trans (flt (by decide : ¬ ((0 : Int32) < (0 : Int32)))).2.2.2) (pc' := 47) (by decide) rfl ?_
      refine y_aloadN X2.here hx (hb hby d2_47) rfl rfl (pc' := 48) rfl ?_
      refine y_iloadN X2.here hx (hb hby d2_48) rfl (pc' := 49) rfl ?_
      exact kt)
  obtain ⟨T7, X7, e7, st7⟩ := getS2 X2 hx hZ hown (host := "") (Or.inl (hw _ (List.mem_of_getElem? (i := 12) rfl))) Via.refl e2q (S_LEAD_MARK.ext O0.2) (g := (mkF m 49 #[rv pr0, iv (0 : Int32), iv pi2, iv (1 : Int32), iv pi2, iv (0 : Int32)] [(.int (0 : Int32)), (.ref pr0)])) rfl (hb hby d2_49)
  have pre8 : ∀ t, Steps p.tables e below (T7.setTop (mkF m 52 #[rv pr0, iv (0 : Int32), iv pi2, iv (1 : Int32), iv pi2, iv (0 : Int32)] [(.ref w_LEAD_MARK), (.int (0 : Int32)), (.ref pr0)])) t → Go t := fun t kt => pre6 t (st7 t kt)
  have pre9 : ∀ t, Steps p.tables e below (T7.setTop (mkF m 53 #[rv pr0, iv (0 : Int32), iv pi2, iv (1 : Int32), iv pi2, iv (0 : Int32)] [(.int (1 : Int32)), (.ref w_LEAD_MARK), (.int (0 : Int32)), (.ref pr0)])) t → Go t := fun t kt => pre8 t (by
      refine y_iloadN X7.here hx (hb hby d2_52) rfl (pc' := 53) rfl ?_
      exact kt)
  have A10 := AR_w_LEAD_MARK.ext O0.2
  have pre11 : ∀ t, Steps p.tables e below (T7.setTop (mkF m 58 #[rv pr0, iv (0 : Int32), iv pi2, iv (1 : Int32), iv pi2, iv (0 : Int32)] [(.int (((0 : Int32) ||| pi2).toInt8.toInt32)), (.int (0 : Int32)), (.ref pr0)])) t → Go t := fun t kt => pre9 t (by
      refine X7.iaload hx (j := (1 : Int32)) (v := (.int (0 : Int32))) (by rw [e7]; exact A10.1) (State.isArrayOf_alike hZ.alike A10.2.1) A10.2.2 IN1_w_LEAD_MARK AT1_w_LEAD_MARK (g := (mkF m 53 #[rv pr0, iv (0 : Int32), iv pi2, iv (1 : Int32), iv pi2, iv (0 : Int32)] [(.int (1 : Int32)), (.ref w_LEAD_MARK), (.int (0 : Int32)), (.ref pr0)])) rfl rfl (hb hby d2_53) _ ?_
      show Steps p.tables e below (T7.setTop (mkF m 54 #[rv pr0, iv (0 : Int32), iv pi2, iv (1 : Int32), iv pi2, iv (0 : Int32)] [(.int (0 : Int32)), (.int (0 : Int32)), (.ref pr0)])) _
      refine y_iload X7.here hx (hb hby d2_54) rfl (pc' := 56) rfl ?_
      refine y_ior X7.here hx (hb hby d2_56) rfl (pc' := 57) rfl ?_
      refine y_i2b X7.here hx (hb hby d2_57) (z := (((0 : Int32) ||| pi2).toInt8.toInt32)) rfl (pc' := 58) rfl ?_
      exact kt)
  obtain ⟨x12, hx12⟩ : ∃ z : Int32, z = (((0 : Int32) ||| pi2).toInt8.toInt32) := ⟨_, rfl⟩
  have pre13 : ∀ t, Steps p.tables e below (T7.setTop (mkF m 58 #[rv pr0, iv (0 : Int32), iv pi2, iv (1 : Int32), iv pi2, iv (0 : Int32)] [(.int x12), (.int (0 : Int32)), (.ref pr0)])) t → Go t := by subst hx12; exact pre11
  obtain ⟨c14, Ar14, q14, S14, M14, H14, G14⟩ := id V_pr0
  have hin14 : ¬ ((0 : Int32) < 0 ∨ c14.slots.size ≤ ((0 : Int32)).toNatClampNeg) := inb_of S14 ⟨by decide, by decide⟩
  obtain ⟨T15, h15, X15, e15, W15, st15⟩ := stB X7 hx hZ e7 Ar14 (j := (0 : Int32)) hin14 (g := (mkF m 58 #[rv pr0, iv (0 : Int32), iv pi2, iv (1 : Int32), iv pi2, iv (0 : Int32)] [(.int x12), (.int (0 : Int32)), (.ref pr0)])) rfl rfl (hb hby d2_58)
  have pre16 : ∀ t, Steps p.tables e below (T15.setTop (mkF m 59 #[rv pr0, iv (0 : Int32), iv pi2, iv (1 : Int32), iv pi2, iv (0 : Int32)] [])) t → Go t := fun t kt => pre13 t (st15 t kt)
  have N18 := Fr.snoc X15 N3 G_pr0
  have O18 := O0.wr W15 G_pr0
  have K18 : Keep h0 h15 [pr0] := K0.wr W15 (Or.inl (List.mem_of_getElem? (i := 0) rfl))
  have f19 : Arv Z h15 pr0 kk_pr0 .byte (8 : Int32) [(.int (nar .byte x12)), (.int y1), (.int y2), (.int y3), (.int y4), (.int y5), (.int y6), (.int y7)] (.int (0 : Int32)) := Arv.set Ar14 q14 S14 M14 H14 G14 (fits_nar_byte _) W15 0 rfl (Nat.le_of_ble_eq_true rfl)
  have pre20 : ∀ t, Steps p.tables e below (T15.setTop (mkF m 62 #[rv pr0, iv (0 : Int32), iv pi2, iv (1 : Int32), iv pi2, iv (0 : Int32)] [(.int (1 : Int32))])) t → Go t := fun t kt => pre16 t (by
      refine y_iloadN X15.here hx (hb hby d2_59) rfl (pc' := 60) rfl ?_
      refine y_iloadN X15.here hx (hb hby d2_60) rfl (pc' := 61) rfl ?_
      refine y_iadd X15.here hx (hb hby d2_61) (z := (1 : Int32)) rfl (pc' := 62) rfl ?_
      exact kt)
  obtain ⟨fs, hr, hrun, hended, hW, hsame⟩ := X15.leave (v := some (.int (1 : Int32))) (fun h => by rw [Bd.returns] at h; cases h)
  refine ⟨_, _, (hGo _).mp (pre20 _ ?_), hrun, hended, _, _, rfl, ?_, ⟨_, rfl⟩, hW, hsame.mono (by decide) (by decide)⟩
  · exact retOut X15 hx Bd.returns rfl (Or.inl ⟨rfl, Or.inl rfl, _, rfl⟩) (hb hby d2_62) hr
  · show Q2l1 Z pr0 pi2 w_LEAD_MARK kk_pr0 y0 y1 y2 y3 y4 y5 y6 y7 cc_w_LEAD_MARK h0 n0 _ T15.heap _
    rw [e15]
    subst hx12
    exact ⟨rfl, N18, K18, f19⟩
theorem d2_18 : decode prog_19_method_12_code 18 = .ok (.aload_n 0, 1) := by decide +kernel
theorem d2_19 : decode prog_19_method_12_code 19 = .ok (.iload_n 1, 1) := by decide +kernel
theorem d2_20 : decode prog_19_method_12_code 20 = .ok (.iload 5, 2) := by decide +kernel
theorem d2_22 : decode prog_19_method_12_code 22 = .ok (.iadd, 1) := by decide +kernel
theorem d2_23 : decode prog_19_method_12_code 23 = .ok (.sipush 128, 3) := by decide +kernel
theorem d2_26 : decode prog_19_method_12_code 26 = .ok (.iload 4, 2) := by decide +kernel
theorem d2_28 : decode prog_19_method_12_code 28 = .ok (.bipush 63, 2) := by decide +kernel
theorem d2_30 : decode prog_19_method_12_code 30 = .ok (.iand, 1) := by decide +kernel
theorem d2_31 : decode prog_19_method_12_code 31 = .ok (.ior, 1) := by decide +kernel
theorem d2_32 : decode prog_19_method_12_code 32 = .ok (.i2b, 1) := by decide +kernel
theorem d2_33 : decode prog_19_method_12_code 33 = .ok (.bastore, 1) := by decide +kernel
theorem d2_34 : decode prog_19_method_12_code 34 = .ok (.iload 4, 2) := by decide +kernel
theorem d2_36 : decode prog_19_method_12_code 36 = .ok (.bipush 6, 2) := by decide +kernel
theorem d2_38 : decode prog_19_method_12_code 38 = .ok (.iushr, 1) := by decide +kernel
theorem d2_39 : decode prog_19_method_12_code 39 = .ok (.istore 4, 2) := by decide +kernel
theorem d2_41 : decode prog_19_method_12_code 41 = .ok (.iinc 5 (-1), 3) := by decide +kernel
theorem d2_44 : decode prog_19_method_12_code 44 = .ok (.goto (-31), 3) := by decide +kernel
theorem ef_2l2 (m : MethodId) (x0 : Addr) (x2 : Int32) : entryFrame m #[(.ref x0), (.int (0 : Int32)), (.int x2)] 6 = mkF m 0 #[rv x0, iv (0 : Int32), iv x2, .unset, .unset, .unset] [] := by first | (simp [entryFrame, mkF, argsToLocals, Value.category]; done) | rfl
def Q2l2 (Z : State) (pr0 : Addr) (pi2 : Int32) (w_LEAD_MARK : Addr) (kk_pr0 : ClassId) (y0 : Int32) (y1 : Int32) (y2 : Int32) (y3 : Int32) (y4 : Int32) (y5 : Int32) (y6 : Int32) (y7 : Int32) (cc_w_LEAD_MARK : Cell) (h0 : Heap) (n0 : Nat) (v : Option Value) (h : Heap) (L : List Loc) : Prop := v = some (.int (2 : Int32)) ∧ Fr n0 L ∧ Keep h0 h [pr0] ∧ Arv Z h pr0 kk_pr0 .byte (8 : Int32) [(.int (nar .byte (((192 : Int32) ||| ((pi2.toUInt32 >>> ((6 : Int32) &&& 31).toUInt32).toInt32)).toInt8.toInt32))), (.int (nar .byte (((128 : Int32) ||| (pi2 &&& (63 : Int32))).toInt8.toInt32))), (.int y2), (.int y3), (.int y4), (.int y5), (.int y6), (.int y7)] (.int (0 : Int32))
set_option maxRecDepth 65536 in
set_option maxHeartbeats 40000000 in
theorem rm2l2 (l : Launch) (Z : State) (a0 : Array Value) (hw : ∀ d ∈ tables_1, d.before a0 Z = true) (ws : List Jvm.Cond) (pr0 : Addr) (pi2 : Int32) (w_LEAD_MARK : Addr) (kk_pr0 : ClassId) (y0 : Int32) (y1 : Int32) (y2 : Int32) (y3 : Int32) (y4 : Int32) (y5 : Int32) (y6 : Int32) (y7 : Int32) (cc_w_LEAD_MARK : Cell) (h0 : Heap) (n0 : Nat) (O0 : Old Z n0 h0) (S_LEAD_MARK : Sta Z Z.heap "com/example/strict_codec/strictcodec/Utf8Grammar" "LEAD_MARK" "[I" (.ref w_LEAD_MARK)) (G_pr0 : n0 ≤ pr0) (LE : (fr1 pi2) = (2 : Int32)) (V_pr0 : Arv Z h0 pr0 kk_pr0 .byte (8 : Int32) [(.int y0), (.int y1), (.int y2), (.int y3), (.int y4), (.int y5), (.int y6), (.int y7)] (.int (0 : Int32))) (AR_w_LEAD_MARK : Arr Z Z.heap w_LEAD_MARK cc_w_LEAD_MARK .int) (IN2_w_LEAD_MARK : ¬ ((2 : Int32) < 0 ∨ cc_w_LEAD_MARK.slots.size ≤ (2 : Int32).toNatClampNeg)) (AT2_w_LEAD_MARK : cc_w_LEAD_MARK.slots[(2 : Int32).toNatClampNeg]? = some (.int (192 : Int32))) :
    MetFree l (⟨"com/example/strict_codec/strictcodec/Utf8Grammar", "put", "([BII)I"⟩ : MethodName) (head1 (Jvm.Cond.code (⟨"com/example/strict_codec/strictcodec/Utf8Grammar", "put", "([BII)I"⟩ : MethodName) prog_19_method_12_code 6 (some .int) :: ws) ({ frames := 1, cells := 0, slots := 0, locals := 13 } : Room)) (fun a U => a = #[(.ref pr0), (.int (0 : Int32)), (.int pi2)] ∧ Z.Warmed39 U.vm ∧ U.heap = h0) (fun _ _ _ _ _ => True) (fun _ U o U' => ∃ v L, o = .returned v ∧ Q2l2 Z pr0 pi2 w_LEAD_MARK kk_pr0 y0 y1 y2 y3 y4 y5 y6 y7 cc_w_LEAD_MARK h0 n0 v U'.heap L ∧ FrameEnd U o U' L ({ frames := 1, cells := 0, slots := 0, locals := 13 } : Room).cells ({ frames := 1, cells := 0, slots := 0, locals := 13 } : Room).slots) := by
  refine MetFree.of_bodySF (plainFor_of_name pn_com_example_strict_codec_strictcodec_Utf8Grammar) hisR ?_
  intro p e s m args below meth c s₁ Bd hml0 hP hK
  obtain ⟨rfl, hZ, hh⟩ := hP
  have hx := Bd.exec
  have hby := Bd.bytes
  have hml : c.maxLocals = 6 := hml0
  have hown : s.vm.findClass "com/example/strict_codec/strictcodec/Utf8Grammar" = some m.cls := findClass_of_methodNamed Bd.named
  have hnm := (name_of_methodNamed Bd.named Bd.method).1
  have X0 : Stand p l e ({ frames := 1, cells := 0, slots := 0, locals := 13 } : Room) s m #[(.ref pr0), (.int (0 : Int32)), (.int pi2)] below meth c s₁ [] 0 0 := Stand.of_body Bd
  have e0 : s₁.heap = h0 := by rw [← hh, Bd.state]; rfl
  have N0 := Fr.nil n0
  obtain ⟨Go, hGo⟩ : ∃ P : State → Prop, ∀ t, P t ↔ Steps p.tables e below (s₁.setTop (entryFrame m #[(.ref pr0), (.int (0 : Int32)), (.int pi2)] 6)) t := ⟨_, fun _ => Iff.rfl⟩
  have pre0 : ∀ t, Steps p.tables e below (s₁.setTop (mkF m 0 #[rv pr0, iv (0 : Int32), iv pi2, .unset, .unset, .unset] [])) t → Go t := fun t k => (hGo t).mpr (castTop (ef_2l2 m pr0 pi2) k)
  have K0 : Keep h0 h0 [pr0] := Keep.refl _ _
  have pre1 : ∀ t, Steps p.tables e below (s₁.setTop (mkF m 1 #[rv pr0, iv (0 : Int32), iv pi2, .unset, .unset, .unset] [(.int pi2)])) t → Go t := fun t kt => pre0 t (by
      refine y_iloadN X0.here hx (hb hby d2_0) rfl (pc' := 1) rfl ?_
      exact kt)
  obtain ⟨v2, _, ⟨T2, L2, k2, n2⟩, -, X2, ⟨Lc2, hQ2, l2, y2, z2⟩, st2⟩ := Jvm.LawKit.callS X0 hx (y := (⟨"com/example/strict_codec/strictcodec/Utf8Grammar", "scalarLength", "(I)I"⟩ : MethodName)) hown (mvT hZ (hw _ (List.mem_of_getElem? (i := 11) rfl))) (mvT hZ (hw _ (List.mem_of_getElem? (i := 4) rfl))) (mvT hZ (hw _ (List.mem_of_getElem? (i := 5) rfl))) (mvT hZ (hw _ (List.mem_of_getElem? (i := 6) rfl))) (by decide) (backOf (W := 0) (rm1 l Z a0 hw [] pi2 h0 n0 O0 ) hZ (hw _ (List.mem_of_getElem? (i := 6) rfl)) (hw _ (List.mem_of_getElem? (i := 5) rfl)) (by decide) (by decide)) (g := (mkF m 1 #[rv pr0, iv (0 : Int32), iv pi2, .unset, .unset, .unset] [(.int pi2)])) rfl (by rw [hml]; rfl) (argsL := [(.int pi2)]) (rest := []) (lenOf pd__I_I rfl) rfl (by show 2 * 0 + _ ≤ _; exact Nat.le_of_eq rfl) (hb hby d2_1) (fun _ _ => ⟨rfl, e0, (by decide : 0 + 0 ≤ _), (by decide : 0 + 0 ≤ _)⟩)
  dsimp only [Pt.U, Pt.locs, Pt.cells, Pt.slots] at X2 l2 y2 z2 st2 hQ2
  subst l2 y2 z2
  obtain ⟨hv2, N2q, e2q⟩ := hQ2
  have N3 := Fr.app N0 N2q
  have hw2 := hv2
  obtain ⟨x4, hx4⟩ : ∃ z : Int32, z = (fr1 pi2) := ⟨_, rfl⟩
  rw [← hx4] at hw2
  subst hw2
  have pre5 : ∀ t, Steps p.tables e below (T2.setTop (mkF m 4 #[rv pr0, iv (0 : Int32), iv pi2, .unset, .unset, .unset] [(.int x4)])) t → Go t := fun t kt => pre1 t (st2 t kt)
  obtain rfl : x4 = (2 : Int32) := by
      rw [hx4]; exact LE
  skip
  have pre6 : ∀ t, Steps p.tables e below (T2.setTop (mkF m 33 #[rv pr0, iv (0 : Int32), iv pi2, iv (2 : Int32), iv pi2, iv (1 : Int32)] [(.int (((128 : Int32) ||| (pi2 &&& (63 : Int32))).toInt8.toInt32)), (.int (1 : Int32)), (.ref pr0)])) t → Go t := fun t kt => pre5 t (by
      refine y_istoreN X2.here hx (hb hby d2_4) (l' := #[rv pr0, iv (0 : Int32), iv pi2, iv (2 : Int32), .unset, .unset]) rfl (pc' := 5) rfl ?_
      refine y_iloadN X2.here hx (hb hby d2_5) rfl (pc' := 6) rfl ?_
      refine y_istore X2.here hx (hb hby d2_6) (l' := #[rv pr0, iv (0 : Int32), iv pi2, iv (2 : Int32), iv pi2, .unset]) rfl (pc' := 8) rfl ?_
      refine y_iloadN X2.here hx (hb hby d2_8) rfl (pc' := 9) rfl ?_
      refine y_iconst X2.here hx (hb hby d2_9) (v := (1 : Int32)) rfl (pc' := 10) rfl ?_
      refine y_isub X2.here hx (hb hby d2_10) (z := (1 : Int32)) rfl (pc' := 11) rfl ?_
      refine y_istore X2.here hx (hb hby d2_11) (l' := #[rv pr0, iv (0 : Int32), iv pi2, iv (2 : Int32), iv pi2, iv (1 : Int32)]) rfl (pc' := 13) rfl ?_
      refine y_iload X2.here hx (hb hby d2_13) rfl (pc' := 15) rfl ?_
      refine y_ifNo X2.here hx (hb hby d2_15) ((if0 _ _).trans (tlt (by decide : (0 : Int32) < (1 : Int32))).2.2.2) (pc' := 18) rfl ?_
      refine y_aloadN X2.here hx (hb hby d2_18) rfl rfl (pc' := 19) rfl ?_
      refine y_iloadN X2.here hx (hb hby d2_19) rfl (pc' := 20) rfl ?_
      refine y_iload X2.here hx (hb hby d2_20) rfl (pc' := 22) rfl ?_
      refine y_iadd X2.here hx (hb hby d2_22) (z := (1 : Int32)) rfl (pc' := 23) rfl ?_
      refine y_sipush X2.here hx (hb hby d2_23) (v := (128 : Int32)) rfl (pc' := 26) rfl ?_
      refine y_iload X2.here hx (hb hby d2_26) rfl (pc' := 28) rfl ?_
      refine y_bipush X2.here hx (hb hby d2_28) (v := (63 : Int32)) rfl (pc' := 30) rfl ?_
      refine y_iand X2.here hx (hb hby d2_30) rfl (pc' := 31) rfl ?_
      refine y_ior X2.here hx (hb hby d2_31) rfl (pc' := 32) rfl ?_
      refine y_i2b X2.here hx (hb hby d2_32) (z := (((128 : Int32) ||| (pi2 &&& (63 : Int32))).toInt8.toInt32)) rfl (pc' := 33) rfl ?_
      exact kt)
  obtain ⟨x7, hx7⟩ : ∃ z : Int32, z = (((128 : Int32) ||| (pi2 &&& (63 : Int32))).toInt8.toInt32) := ⟨_, rfl⟩
  have pre8 : ∀ t, Steps p.tables e below (T2.setTop (mkF m 33 #[rv pr0, iv (0 : Int32), iv pi2, iv (2 : Int32), iv pi2, iv (1 : Int32)] [(.int x7), (.int (1 : Int32)), (.ref pr0)])) t → Go t := by subst hx7; exact pre6
  obtain ⟨c9, Ar9, q9, S9, M9, H9, G9⟩ := id V_pr0
  have hin9 : ¬ ((1 : Int32) < 0 ∨ c9.slots.size ≤ ((1 : Int32)).toNatClampNeg) := inb_of S9 ⟨by decide, by decide⟩
  obtain ⟨T10, h10, X10, e10, W10, st10⟩ := stB X2 hx hZ e2q Ar9 (j := (1 : Int32)) hin9 (g := (mkF m 33 #[rv pr0, iv (0 : Int32), iv pi2, iv (2 : Int32), iv pi2, iv (1 : Int32)] [(.int x7), (.int (1 : Int32)), (.ref pr0)])) rfl rfl (hb hby d2_33)
  have pre11 : ∀ t, Steps p.tables e below (T10.setTop (mkF m 34 #[rv pr0, iv (0 : Int32), iv pi2, iv (2 : Int32), iv pi2, iv (1 : Int32)] [])) t → Go t := fun t kt => pre8 t (st10 t kt)
  have N13 := Fr.snoc X10 N3 G_pr0
  have O13 := O0.wr W10 G_pr0
  have K13 : Keep h0 h10 [pr0] := K0.wr W10 (Or.inl (List.mem_of_getElem? (i := 0) rfl))
  have f14 : Arv Z h10 pr0 kk_pr0 .byte (8 : Int32) [(.int y0), (.int (nar .byte x7)), (.int y2), (.int y3), (.int y4), (.int y5), (.int y6), (.int y7)] (.int (0 : Int32)) := Arv.set Ar9 q9 S9 M9 H9 G9 (fits_nar_byte _) W10 1 rfl (Nat.le_of_ble_eq_true rfl)
  obtain ⟨x15, hx15⟩ : ∃ z : Int32, z = ((pi2.toUInt32 >>> ((6 : Int32) &&& 31).toUInt32).toInt32) := ⟨_, rfl⟩
  have pre16 : ∀ t, Steps p.tables e below (T10.setTop (mkF m 41 #[rv pr0, iv (0 : Int32), iv pi2, iv (2 : Int32), iv x15, iv (1 : Int32)] [])) t → Go t := fun t kt => pre11 t (by
      subst hx15
      refine y_iload X10.here hx (hb hby d2_34) rfl (pc' := 36) rfl ?_
      refine y_bipush X10.here hx (hb hby d2_36) (v := (6 : Int32)) rfl (pc' := 38) rfl ?_
      refine y_iushr X10.here hx (hb hby d2_38) (z := ((pi2.toUInt32 >>> ((6 : Int32) &&& 31).toUInt32).toInt32)) rfl (pc' := 39) rfl ?_
      refine y_istore X10.here hx (hb hby d2_39) (l' := #[rv pr0, iv (0 : Int32), iv pi2, iv (2 : Int32), iv ((pi2.toUInt32 >>> ((6 : Int32) &&& 31).toUInt32).toInt32), iv (1 : Int32)]) rfl (pc' := 41) rfl ?_
      exact kt)
  have pre17 : ∀ t, Steps p.tables e below (T10.setTop (mkF m 49 #[rv pr0, iv (0 : Int32), iv pi2, iv (2 : Int32), iv x15, iv (0 : Int32)] [(.int (0 : Int32)), (.ref pr0)])) t → Go t := fun t kt => pre16 t (by
      refine y_iinc X10.here hx (hb hby d2_41) rfl (l' := #[rv pr0, iv (0 : Int32), iv pi2, iv (2 : Int32), iv x15, iv (0 : Int32)]) rfl (pc' := 44) rfl ?_
      refine y_goto X10.here hx (hb hby d2_44) (pc' := 13) (by decide) rfl ?_
      refine y_iload X10.here hx (hb hby d2_13) rfl (pc' := 15) rfl ?_
      refine y_ifYes X10.here hx (hb hby d2_15) ((if0 _ _).trans (flt (by decide : ¬ ((0 : Int32) < (0 : Int32)))).2.2.2) (pc' := 47) (by decide) rfl ?_
      refine y_aloadN X10.here hx (hb hby d2_47) rfl rfl (pc' := 48) rfl ?_
      refine y_iloadN X10.here hx (hb hby d2_48) rfl (pc' := 49) rfl ?_
      exact kt)
  obtain ⟨T18, X18, e18, st18⟩ := getS2 X10 hx hZ hown (host := "") (Or.inl (hw _ (List.mem_of_getElem? (i := 12) rfl))) Via.refl e10 (S_LEAD_MARK.ext O13.2) (g := (mkF m 49 #[rv pr0, iv (0 : Int32), iv pi2, iv (2 : Int32), iv x15, iv (0 : Int32)] [(.int (0 : Int32)), (.ref pr0)])) rfl (hb hby d2_49)
  have pre19 : ∀ t, Steps p.tables e below (T18.setTop (mkF m 52 #[rv pr0, iv (0 : Int32), iv pi2, iv (2 : Int32), iv x15, iv (0 : Int32)] [(.ref w_LEAD_MARK), (.int (0 : Int32)), (.ref pr0)])) t → Go t := fun t kt => pre17 t (st18 t kt)
  have pre20 : ∀ t, Steps p.tables e below (T18.setTop (mkF m 53 #[rv pr0, iv (0 : Int32), iv pi2, iv (2 : Int32), iv x15, iv (0 : Int32)] [(.int (2 : Int32)), (.ref w_LEAD_MARK), (.int (0 : Int32)), (.ref pr0)])) t → Go t := fun t kt => pre19 t (by
      refine y_iloadN X18.here hx (hb hby d2_52) rfl (pc' := 53) rfl ?_
      exact kt)
  have A21 := AR_w_LEAD_MARK.ext O13.2
  have pre22 : ∀ t, Steps p.tables e below (T18.setTop (mkF m 58 #[rv pr0, iv (0 : Int32), iv pi2, iv (2 : Int32), iv x15, iv (0 : Int32)] [(.int (((192 : Int32) ||| x15).toInt8.toInt32)), (.int (0 : Int32)), (.ref pr0)])) t → Go t := fun t kt => pre20 t (by
      refine X18.iaload hx (j := (2 : Int32)) (v := (.int (192 : Int32))) (by rw [e18]; exact A21.1) (State.isArrayOf_alike hZ.alike A21.2.1) A21.2.2 IN2_w_LEAD_MARK AT2_w_LEAD_MARK (g := (mkF m 53 #[rv pr0, iv (0 : Int32), iv pi2, iv (2 : Int32), iv x15, iv (0 : Int32)] [(.int (2 : Int32)), (.ref w_LEAD_MARK), (.int (0 : Int32)), (.ref pr0)])) rfl rfl (hb hby d2_53) _ ?_
      show Steps p.tables e below (T18.setTop (mkF m 54 #[rv pr0, iv (0 : Int32), iv pi2, iv (2 : Int32), iv x15, iv (0 : Int32)] [(.int (192 : Int32)), (.int (0 : Int32)), (.ref pr0)])) _
      refine y_iload X18.here hx (hb hby d2_54) rfl (pc' := 56) rfl ?_
      refine y_ior X18.here hx (hb hby d2_56) rfl (pc' := 57) rfl ?_
      refine y_i2b X18.here hx (hb hby d2_57) (z := (((192 : Int32) ||| x15).toInt8.toInt32)) rfl (pc' := 58) rfl ?_
      exact kt)
  obtain ⟨x23, hx23⟩ : ∃ z : Int32, z = (((192 : Int32) ||| x15).toInt8.toInt32) := ⟨_, rfl⟩
  have pre24 : ∀ t, Steps p.tables e below (T18.setTop (mkF m 58 #[rv pr0, iv (0 : Int32), iv pi2, iv (2 : Int32), iv x15, iv (0 : Int32)] [(.int x23), (.int (0 : Int32)), (.ref pr0)])) t → Go t := by subst hx23; exact pre22
  obtain ⟨c25, Ar25, q25, S25, M25, H25, G25⟩ := id f14
  have hin25 : ¬ ((0 : Int32) < 0 ∨ c25.slots.size ≤ ((0 : Int32)).toNatClampNeg) := inb_of S25 ⟨by decide, by decide⟩
  obtain ⟨T26, h26, X26, e26, W26, st26⟩ := stB X18 hx hZ e18 Ar25 (j := (0 : Int32)) hin25 (g := (mkF m 58 #[rv pr0, iv (0 : Int32), iv pi2, iv (2 : Int32), iv x15, iv (0 : Int32)] [(.int x23), (.int (0 : Int32)), (.ref pr0)])) rfl rfl (hb hby d2_58)
  have pre27 : ∀ t, Steps p.tables e below (T26.setTop (mkF m 59 #[rv pr0, iv (0 : Int32), iv pi2, iv (2 : Int32), iv x15, iv (0 : Int32)] [])) t → Go t := fun t kt => pre24 t (st26 t kt)
  have N29 := Fr.snoc X26 N13 G_pr0
  have O29 := O13.wr W26 G_pr0
  have K29 : Keep h0 h26 [pr0] := K13.wr W26 (Or.inl (List.mem_of_getElem? (i := 0) rfl))
  have f30 : Arv Z h26 pr0 kk_pr0 .byte (8 : Int32) [(.int (nar .byte x23)), (.int (nar .byte x7)), (.int y2), (.int y3), (.int y4), (.int y5), (.int y6), (.int y7)] (.int (0 : Int32)) := Arv.set Ar25 q25 S25 M25 H25 G25 (fits_nar_byte _) W26 0 rfl (Nat.le_of_ble_eq_true rfl)
  have pre31 : ∀ t, Steps p.tables e below (T26.setTop (mkF m 62 #[rv pr0, iv (0 : Int32), iv pi2, iv (2 : Int32), iv x15, iv (0 : Int32)] [(.int (2 : Int32))])) t → Go t := fun t kt => pre27 t (by
      refine y_iloadN X26.here hx (hb hby d2_59) rfl (pc' := 60) rfl ?_
      refine y_iloadN X26.here hx (hb hby d2_60) rfl (pc' := 61) rfl ?_
      refine y_iadd X26.here hx (hb hby d2_61) (z := (2 : Int32)) rfl (pc' := 62) rfl ?_
      exact kt)
  obtain ⟨fs, hr, hrun, hended, hW, hsame⟩ := X26.leave (v := some (.int (2 : Int32))) (fun h => by rw [Bd.returns] at h; cases h)
  refine ⟨_, _, (hGo _).mp (pre31 _ ?_), hrun, hended, _, _, rfl, ?_, ⟨_, rfl⟩, hW, hsame.mono (by decide) (by decide)⟩
  · exact retOut X26 hx Bd.returns rfl (Or.inl ⟨rfl, Or.inl rfl, _, rfl⟩) (hb hby d2_62) hr
  · show Q2l2 Z pr0 pi2 w_LEAD_MARK kk_pr0 y0 y1 y2 y3 y4 y5 y6 y7 cc_w_LEAD_MARK h0 n0 _ T26.heap _
    rw [e26]
    subst hx7 hx15 hx23
    exact ⟨rfl, N29, K29, f30⟩
theorem ef_2l3 (m : MethodId) (x0 : Addr) (x2 : Int32) : entryFrame m #[(.ref x0), (.int (0 : Int32)), (.int x2)] 6 = mkF m 0 #[rv x0, iv (0 : Int32), iv x2, .unset, .unset, .unset] [] := by first | (simp [entryFrame, mkF, argsToLocals, Value.category]; done) | rfl
def Q2l3 (Z : State) (pr0 : Addr) (pi2 : Int32) (w_LEAD_MARK : Addr) (kk_pr0 : ClassId) (y0 : Int32) (y1 : Int32) (y2 : Int32) (y3 : Int32) (y4 : Int32) (y5 : Int32) (y6 : Int32) (y7 : Int32) (cc_w_LEAD_MARK : Cell) (h0 : Heap) (n0 : Nat) (v : Option Value) (h : Heap) (L : List Loc) : Prop := v = some (.int (3 : Int32)) ∧ Fr n0 L ∧ Keep h0 h [pr0] ∧ Arv Z h pr0 kk_pr0 .byte (8 : Int32) [(.int (nar .byte (((224 : Int32) ||| ((((pi2.toUInt32 >>> ((6 : Int32) &&& 31).toUInt32).toInt32).toUInt32 >>> ((6 : Int32) &&& 31).toUInt32).toInt32)).toInt8.toInt32))), (.int (nar .byte (((128 : Int32) ||| (((pi2.toUInt32 >>> ((6 : Int32) &&& 31).toUInt32).toInt32) &&& (63 : Int32))).toInt8.toInt32))), (.int (nar .byte (((128 : Int32) ||| (pi2 &&& (63 : Int32))).toInt8.toInt32))), (.int y3), (.int y4), (.int y5), (.int y6), (.int y7)] (.int (0 : Int32))
set_option maxRecDepth 65536 in
set_option maxHeartbeats 40000000 in
theorem rm2l3 (l : Launch) (Z : State) (a0 : Array Value) (hw : ∀ d ∈ tables_1, d.before a0 Z = true) (ws : List Jvm.Cond) (pr0 : Addr) (pi2 : Int32) (w_LEAD_MARK : Addr) (kk_pr0 : ClassId) (y0 : Int32) (y1 : Int32) (y2 : Int32) (y3 : Int32) (y4 : Int32) (y5 : Int32) (y6 : Int32) (y7 : Int32) (cc_w_LEAD_MARK : Cell) (h0 : Heap) (n0 : Nat) (O0 : Old Z n0 h0) (S_LEAD_MARK : Sta Z Z.heap "com/example/strict_codec/strictcodec/Utf8Grammar" "LEAD_MARK" "[I" (.ref w_LEAD_MARK)) (G_pr0 : n0 ≤ pr0) (LE : (fr1 pi2) = (3 : Int32)) (V_pr0 : Arv Z h0 pr0 kk_pr0 .byte (8 : Int32) [(.int y0), (.int y1), (.int y2), (.int y3), (.int y4), (.int y5), (.int y6), (.int y7)] (.int (0 : Int32))) (AR_w_LEAD_MARK : Arr Z Z.heap w_LEAD_MARK cc_w_LEAD_MARK .int) (IN3_w_LEAD_MARK : ¬ ((3 : Int32) < 0 ∨ cc_w_LEAD_MARK.slots.size ≤ (3 : Int32).toNatClampNeg)) (AT3_w_LEAD_MARK : cc_w_LEAD_MARK.slots[(3 : Int32).toNatClampNeg]? = some (.int (224 : Int32))) :
    MetFree l (⟨"com/example/strict_codec/strictcodec/Utf8Grammar", "put", "([BII)I"⟩ : MethodName) (head1 (Jvm.Cond.code (⟨"com/example/strict_codec/strictcodec/Utf8Grammar", "put", "([BII)I"⟩ : MethodName) prog_19_method_12_code 6 (some .int) :: ws) ({ frames := 1, cells := 0, slots := 0, locals := 13 } : Room)) (fun a U => a = #[(.ref pr0), (.int (0 : Int32)), (.int pi2)] ∧ Z.Warmed39 U.vm ∧ U.heap = h0) (fun _ _ _ _ _ => True) (fun _ U o U' => ∃ v L, o = .returned v ∧ Q2l3 Z pr0 pi2 w_LEAD_MARK kk_pr0 y0 y1 y2 y3 y4 y5 y6 y7 cc_w_LEAD_MARK h0 n0 v U'.heap L ∧ FrameEnd U o U' L ({ frames := 1, cells := 0, slots := 0, locals := 13 } : Room).cells ({ frames := 1, cells := 0, slots := 0, locals := 13 } : Room).slots) := by
  refine MetFree.of_bodySF (plainFor_of_name pn_com_example_strict_codec_strictcodec_Utf8Grammar) hisR ?_
  intro p e s m args below meth c s₁ Bd hml0 hP hK
  obtain ⟨rfl, hZ, hh⟩ := hP
  have hx := Bd.exec
  have hby := Bd.bytes
  have hml : c.maxLocals = 6 := hml0
  have hown : s.vm.findClass "com/example/strict_codec/strictcodec/Utf8Grammar" = some m.cls := findClass_of_methodNamed Bd.named
  have hnm := (name_of_methodNamed Bd.named Bd.method).1
  have X0 : Stand p l e ({ frames := 1, cells := 0, slots := 0, locals := 13 } : Room) s m #[(.ref pr0), (.int (0 : Int32)), (.int pi2)] below meth c s₁ [] 0 0 := Stand.of_body Bd
  have e0 : s₁.heap = h0 := by rw [← hh, Bd.state]; rfl
  have N0 := Fr.nil n0
  obtain ⟨Go, hGo⟩ : ∃ P : State → Prop, ∀ t, P t ↔ Steps p.tables e below (s₁.setTop (entryFrame m #[(.ref pr0), (.int (0 : Int32)), (.int pi2)] 6)) t := ⟨_, fun _ => Iff.rfl⟩
  have pre0 : ∀ t, Steps p.tables e below (s₁.setTop (mkF m 0 #[rv pr0, iv (0 : Int32), iv pi2, .unset, .unset, .unset] [])) t → Go t := fun t k => (hGo t).mpr (castTop (ef_2l3 m pr0 pi2) k)
  have K0 : Keep h0 h0 [pr0] := Keep.refl _ _
  have pre1 : ∀ t, Steps p.tables e below (s₁.setTop (mkF m 1 #[rv pr0, iv (0 : Int32), iv pi2, .unset, .unset, .unset] [(.int pi2)])) t → Go t := fun t kt => pre0 t (by
      refine y_iloadN X0.here hx (hb hby d2_0) rfl (pc' := 1) rfl ?_
      exact kt)
  obtain ⟨v2, _, ⟨T2, L2, k2, n2⟩, -, X2, ⟨Lc2, hQ2, l2, y2, z2⟩, st2⟩ := Jvm.LawKit.callS X0 hx (y := (⟨"com/example/strict_codec/strictcodec/Utf8Grammar", "scalarLength", "(I)I"⟩ : MethodName)) hown (mvT hZ (hw _ (List.mem_of_getElem? (i := 11) rfl))) (mvT hZ (hw _ (List.mem_of_getElem? (i := 4) rfl))) (mvT hZ (hw _ (List.mem_of_getElem? (i := 5) rfl))) (mvT hZ (hw _ (List.mem_of_getElem? (i := 6) rfl))) (by decide) (backOf (W := 0) (rm1 l Z a0 hw [] pi2 h0 n0 O0 ) hZ (hw _ (List.mem_of_getElem? (i := 6) rfl)) (hw _ (List.mem_of_getElem? (i := 5) rfl)) (by decide) (by decide)) (g := (mkF m 1 #[rv pr0, iv (0 : Int32), iv pi2, .unset, .unset, .unset] [(.int pi2)])) rfl (by rw [hml]; rfl) (argsL := [(.int pi2)]) (rest := []) (lenOf pd__I_I rfl) rfl (by show 2 * 0 + _ ≤ _; exact Nat.le_of_eq rfl) (hb hby d2_1) (fun _ _ => ⟨rfl, e0, (by decide : 0 + 0 ≤ _), (by decide : 0 + 0 ≤ _)⟩)
  dsimp only [Pt.U, Pt.locs, Pt.cells, Pt.slots] at X2 l2 y2 z2 st2 hQ2
  subst l2 y2 z2
  obtain ⟨hv2, N2q, e2q⟩ := hQ2
  have N3 := Fr.app N0 N2q
  have hw2 := hv2
  obtain ⟨x4, hx4⟩ : ∃ z : Int32, z = (fr1 pi2) := ⟨_, rfl⟩
  rw [← hx4] at hw2
  subst hw2
  have pre5 : ∀ t, Steps p.tables e below (T2.setTop (mkF m 4 #[rv pr0, iv (0 : Int32), iv pi2, .unset, .unset, .unset] [(.int x4)])) t → Go t := fun t kt => pre1 t (st2 t kt)
  obtain rfl : x4 = (3 : Int32) := by
      rw [hx4]; exact LE
  skip
  have pre6 : ∀ t, Steps p.tables e below (T2.setTop (mkF m 33 #[rv pr0, iv (0 : Int32), iv pi2, iv (3 : Int32), iv pi2, iv (2 : Int32)] [(.int (((128 : Int32) ||| (pi2 &&& (63 : Int32))).toInt8.toInt32)), (.int (2 : Int32)), (.ref pr0)])) t → Go t := fun t kt => pre5 t (by
      refine y_istoreN X2.here hx (hb hby d2_4) (l' := #[rv pr0, iv (0 : Int32), iv pi2, iv (3 : Int32), .unset, .unset]) rfl (pc' := 5) rfl ?_
      refine y_iloadN X2.here hx (hb hby d2_5) rfl (pc' := 6) rfl ?_
      refine y_istore X2.here hx (hb hby d2_6) (l' := #[rv pr0, iv (0 : Int32), iv pi2, iv (3 : Int32), iv pi2, .unset]) rfl (pc' := 8) rfl ?_
      refine y_iloadN X2.here hx (hb hby d2_8) rfl (pc' := 9) rfl ?_
      refine y_iconst X2.here hx (hb hby d2_9) (v := (1 : Int32)) rfl (pc' := 10) rfl ?_
      refine y_isub X2.here hx (hb hby d2_10) (z := (2 : Int32)) rfl (pc' := 11) rfl ?_
      refine y_istore X2.here hx (hb hby d2_11) (l' := #[rv pr0, iv (0 : Int32), iv pi2, iv (3 : Int32), iv pi2, iv (2 : Int32)]) rfl (pc' := 13) rfl ?_
      refine y_iload X2.here hx (hb hby d2_13) rfl (pc' := 15) rfl ?_
      refine y_ifNo X2.here hx (hb hby d2_15) ((if0 _ _).trans (tlt (by decide : (0 : Int32) < (2 : Int32))).2.2.2) (pc' := 18) rfl ?_
      refine y_aloadN X2.here hx (hb hby d2_18) rfl rfl (pc' := 19) rfl ?_
      refine y_iloadN X2.here hx (hb hby d2_19) rfl (pc' := 20) rfl ?_
      refine y_iload X2.here hx (hb hby d2_20) rfl (pc' := 22) rfl ?_
      refine y_iadd X2.here hx (hb hby d2_22) (z := (2 : Int32)) rfl (pc' := 23) rfl ?_
      refine y_sipush X2.here hx (hb hby d2_23) (v := (128 : Int32)) rfl (pc' := 26) rfl ?_
      refine y_iload X2.here hx (hb hby d2_26) rfl (pc' := 28) rfl ?_
      refine y_bipush X2.here hx (hb hby d2_28) (v := (63 : Int32)) rfl (pc' := 30) rfl ?_
      refine y_iand X2.here hx (hb hby d2_30) rfl (pc' := 31) rfl ?_
      refine y_ior X2.here hx (hb hby d2_31) rfl (pc' := 32) rfl ?_
      refine y_i2b X2.here hx (hb hby d2_32) (z := (((128 : Int32) ||| (pi2 &&& (63 : Int32))).toInt8.toInt32)) rfl (pc' := 33) rfl ?_
      exact kt)
  obtain ⟨x7, hx7⟩ : ∃ z : Int32, z = (((128 : Int32) ||| (pi2 &&& (63 : Int32))).toInt8.toInt32) := ⟨_, rfl⟩
  have pre8 : ∀ t, Steps p.tables e below (T2.setTop (mkF m 33 #[rv pr0, iv (0 : Int32), iv pi2, iv (3 : Int32), iv pi2, iv (2 : Int32)] [(.int x7), (.int (2 : Int32)), (.ref pr0)])) t → Go t := by subst hx7; exact pre6
  obtain ⟨c9, Ar9, q9, S9, M9, H9, G9⟩ := id V_pr0
  have hin9 : ¬ ((2 : Int32) < 0 ∨ c9.slots.size ≤ ((2 : Int32)).toNatClampNeg) := inb_of S9 ⟨by decide, by decide⟩
  obtain ⟨T10, h10, X10, e10, W10, st10⟩ := stB X2 hx hZ e2q Ar9 (j := (2 : Int32)) hin9 (g := (mkF m 33 #[rv pr0, iv (0 : Int32), iv pi2, iv (3 : Int32), iv pi2, iv (2 : Int32)] [(.int x7), (.int (2 : Int32)), (.ref pr0)])) rfl rfl (hb hby d2_33)
  have pre11 : ∀ t, Steps p.tables e below (T10.setTop (mkF m 34 #[rv pr0, iv (0 : Int32), iv pi2, iv (3 : Int32), iv pi2, iv (2 : Int32)] [])) t → Go t := fun t kt => pre8 t (st10 t kt)
  have N13 := Fr.snoc X10 N3 G_pr0
  have O13 := O0.wr W10 G_pr0
  have K13 : Keep h0 h10 [pr0] := K0.wr W10 (Or.inl (List.mem_of_getElem? (i := 0) rfl))
  have f14 : Arv Z h10 pr0 kk_pr0 .byte (8 : Int32) [(.int y0), (.int y1), (.int (nar .byte x7)), (.int y3), (.int y4), (.int y5), (.int y6), (.int y7)] (.int (0 : Int32)) := Arv.set Ar9 q9 S9 M9 H9 G9 (fits_nar_byte _) W10 2 rfl (Nat.le_of_ble_eq_true rfl)
  obtain ⟨x15, hx15⟩ : ∃ z : Int32, z = ((pi2.toUInt32 >>> ((6 : Int32) &&& 31).toUInt32).toInt32) := ⟨_, rfl⟩
  have pre16 : ∀ t, Steps p.tables e below (T10.setTop (mkF m 41 #[rv pr0, iv (0 : Int32), iv pi2, iv (3 : Int32), iv x15, iv (2 : Int32)] [])) t → Go t := fun t kt => pre11 t (by
      subst hx15
      refine y_iload X10.here hx (hb hby d2_34) rfl (pc' := 36) rfl ?_
      refine y_bipush X10.here hx (hb hby d2_36) (v := (6 : Int32)) rfl (pc' := 38) rfl ?_
      refine y_iushr X10.here hx (hb hby d2_38) (z := ((pi2.toUInt32 >>> ((6 : Int32) &&& 31).toUInt32).toInt32)) rfl (pc' := 39) rfl ?_
      refine y_istore X10.here hx (hb hby d2_39) (l' := #[rv pr0, iv (0 : Int32), iv pi2, iv (3 : Int32), iv ((pi2.toUInt32 >>> ((6 : Int32) &&& 31).toUInt32).toInt32), iv (2 : Int32)]) rfl (pc' := 41) rfl ?_
      exact kt)
  have pre17 : ∀ t, Steps p.tables e below (T10.setTop (mkF m 33 #[rv pr0, iv (0 : Int32), iv pi2, iv (3 : Int32), iv x15, iv (1 : Int32)] [(.int (((128 : Int32) ||| (x15 &&& (63 : Int32))).toInt8.toInt32)), (.int (1 : Int32)), (.ref pr0)])) t → Go t := fun t kt => pre16 t (by
      refine y_iinc X10.here hx (hb hby d2_41) rfl (l' := #[rv pr0, iv (0 : Int32), iv pi2, iv (3 : Int32), iv x15, iv (1 : Int32)]) rfl (pc' := 44) rfl ?_
      refine y_goto X10.here hx (hb hby d2_44) (pc' := 13) (by decide) rfl ?_
      refine y_iload X10.here hx (hb hby d2_13) rfl (pc' := 15) rfl ?_
      refine y_ifNo X10.here hx (hb hby d2_15) ((if0 _ _).trans (tlt (by decide : (0 : Int32) < (1 : Int32))).2.2.2) (pc' := 18) rfl ?_
      refine y_aloadN X10.here hx (hb hby d2_18) rfl rfl (pc' := 19) rfl ?_
      refine y_iloadN X10.here hx (hb hby d2_19) rfl (pc' := 20) rfl ?_
      refine y_iload X10.here hx (hb hby d2_20) rfl (pc' := 22) rfl ?_
      refine y_iadd X10.here hx (hb hby d2_22) (z := (1 : Int32)) rfl (pc' := 23) rfl ?_
      refine y_sipush X10.here hx (hb hby d2_23) (v := (128 : Int32)) rfl (pc' := 26) rfl ?_
      refine y_iload X10.here hx (hb hby d2_26) rfl (pc' := 28) rfl ?_
      refine y_bipush X10.here hx (hb hby d2_28) (v := (63 : Int32)) rfl (pc' := 30) rfl ?_
      refine y_iand X10.here hx (hb hby d2_30) rfl (pc' := 31) rfl ?_
      refine y_ior X10.here hx (hb hby d2_31) rfl (pc' := 32) rfl ?_
      refine y_i2b X10.here hx (hb hby d2_32) (z := (((128 : Int32) ||| (x15 &&& (63 : Int32))).toInt8.toInt32)) rfl (pc' := 33) rfl ?_
      exact kt)
  obtain ⟨x18, hx18⟩ : ∃ z : Int32, z = (((128 : Int32) ||| (x15 &&& (63 : Int32))).toInt8.toInt32) := ⟨_, rfl⟩
  have pre19 : ∀ t, Steps p.tables e below (T10.setTop (mkF m 33 #[rv pr0, iv (0 : Int32), iv pi2, iv (3 : Int32), iv x15, iv (1 : Int32)] [(.int x18), (.int (1 : Int32)), (.ref pr0)])) t → Go t := by subst hx18; exact pre17
  obtain ⟨c20, Ar20, q20, S20, M20, H20, G20⟩ := id f14
  have hin20 : ¬ ((1 : Int32) < 0 ∨ c20.slots.size ≤ ((1 : Int32)).toNatClampNeg) := inb_of S20 ⟨by decide, by decide⟩
  obtain ⟨T21, h21, X21, e21, W21, st21⟩ := stB X10 hx hZ e10 Ar20 (j := (1 : Int32)) hin20 (g := (mkF m 33 #[rv pr0, iv (0 : Int32), iv pi2, iv (3 : Int32), iv x15, iv (1 : Int32)] [(.int x18), (.int (1 : Int32)), (.ref pr0)])) rfl rfl (hb hby d2_33)
  have pre22 : ∀ t, Steps p.tables e below (T21.setTop (mkF m 34 #[rv pr0, iv (0 : Int32), iv pi2, iv (3 : Int32), iv x15, iv (1 : Int32)] [])) t → Go t := fun t kt => pre19 t (st21 t kt)
  have N24 := Fr.snoc X21 N13 G_pr0
  have O24 := O13.wr W21 G_pr0
  have K24 : Keep h0 h21 [pr0] := K13.wr W21 (Or.inl (List.mem_of_getElem? (i := 0) rfl))
  have f25 : Arv Z h21 pr0 kk_pr0 .byte (8 : Int32) [(.int y0), (.int (nar .byte x18)), (.int (nar .byte x7)), (.int y3), (.int y4), (.int y5), (.int y6), (.int y7)] (.int (0 : Int32)) := Arv.set Ar20 q20 S20 M20 H20 G20 (fits_nar_byte _) W21 1 rfl (Nat.le_of_ble_eq_true rfl)
  obtain ⟨x26, hx26⟩ : ∃ z : Int32, z = ((x15.toUInt32 >>> ((6 : Int32) &&& 31).toUInt32).toInt32) := ⟨_, rfl⟩
  have pre27 : ∀ t, Steps p.tables e below (T21.setTop (mkF m 41 #[rv pr0, iv (0 : Int32), iv pi2, iv (3 : Int32), iv x26, iv (1 : Int32)] [])) t → Go t := fun t kt => pre22 t (by
      subst hx26
      refine y_iload X21.here hx (hb hby d2_34) rfl (pc' := 36) rfl ?_
      refine y_bipush X21.here hx (hb hby d2_36) (v := (6 : Int32)) rfl (pc' := 38) rfl ?_
      refine y_iushr X21.here hx (hb hby d2_38) (z := ((x15.toUInt32 >>> ((6 : Int32) &&& 31).toUInt32).toInt32)) rfl (pc' := 39) rfl ?_
      refine y_istore X21.here hx (hb hby d2_39) (l' := #[rv pr0, iv (0 : Int32), iv pi2, iv (3 : Int32), iv ((x15.toUInt32 >>> ((6 : Int32) &&& 31).toUInt32).toInt32), iv (1 : Int32)]) rfl (pc' := 41) rfl ?_
      exact kt)
  have pre28 : ∀ t, Steps p.tables e below (T21.setTop (mkF m 49 #[rv pr0, iv (0 : Int32), iv pi2, iv (3 : Int32), iv x26, iv (0 : Int32)] [(.int (0 : Int32)), (.ref pr0)])) t → Go t := fun t kt => pre27 t (by
      refine y_iinc X21.here hx (hb hby d2_41) rfl (l' := #[rv pr0, iv (0 : Int32), iv pi2, iv (3 : Int32), iv x26, iv (0 : Int32)]) rfl (pc' := 44) rfl ?_
      refine y_goto X21.here hx (hb hby d2_44) (pc' := 13) (by decide) rfl ?_
      refine y_iload X21.here hx (hb hby d2_13) rfl (pc' := 15) rfl ?_
      refine y_ifYes X21.here hx (hb hby d2_15) ((if0 _ _).trans (flt (by decide : ¬ ((0 : Int32) < (0 : Int32)))).2.2.2) (pc' := 47) (by decide) rfl ?_
      refine y_aloadN X21.here hx (hb hby d2_47) rfl rfl (pc' := 48) rfl ?_
      refine y_iloadN X21.here hx (hb hby d2_48) rfl (pc' := 49) rfl ?_
      exact kt)
  obtain ⟨T29, X29, e29, st29⟩ := getS2 X21 hx hZ hown (host := "") (Or.inl (hw _ (List.mem_of_getElem? (i := 12) rfl))) Via.refl e21 (S_LEAD_MARK.ext O24.2) (g := (mkF m 49 #[rv pr0, iv (0 : Int32), iv pi2, iv (3 : Int32), iv x26, iv (0 : Int32)] [(.int (0 : Int32)), (.ref pr0)])) rfl (hb hby d2_49)
  have pre30 : ∀ t, Steps p.tables e below (T29.setTop (mkF m 52 #[rv pr0, iv (0 : Int32), iv pi2, iv (3 : Int32), iv x26, iv (0 : Int32)] [(.ref w_LEAD_MARK), (.int (0 : Int32)), (.ref pr0)])) t → Go t := fun t kt => pre28 t (st29 t kt)
  have pre31 : ∀ t, Steps p.tables e below (T29.setTop (mkF m 53 #[rv pr0, iv (0 : Int32), iv pi2, iv (3 : Int32), iv x26, iv (0 : Int32)] [(.int (3 : Int32)), (.ref w_LEAD_MARK), (.int (0 : Int32)), (.ref pr0)])) t → Go t := fun t kt => pre30 t (by
      refine y_iloadN X29.here hx (hb hby d2_52) rfl (pc' := 53) rfl ?_
      exact kt)
  have A32 := AR_w_LEAD_MARK.ext O24.2
  have pre33 : ∀ t, Steps p.tables e below (T29.setTop (mkF m 58 #[rv pr0, iv (0 : Int32), iv pi2, iv (3 : Int32), iv x26, iv (0 : Int32)] [(.int (((224 : Int32) ||| x26).toInt8.toInt32)), (.int (0 : Int32)), (.ref pr0)])) t → Go t := fun t kt => pre31 t (by
      refine X29.iaload hx (j := (3 : Int32)) (v := (.int (224 : Int32))) (by rw [e29]; exact A32.1) (State.isArrayOf_alike hZ.alike A32.2.1) A32.2.2 IN3_w_LEAD_MARK AT3_w_LEAD_MARK (g := (mkF m 53 #[rv pr0, iv (0 : Int32), iv pi2, iv (3 : Int32), iv x26, iv (0 : Int32)] [(.int (3 : Int32)), (.ref w_LEAD_MARK), (.int (0 : Int32)), (.ref pr0)])) rfl rfl (hb hby d2_53) _ ?_
      show Steps p.tables e below (T29.setTop (mkF m 54 #[rv pr0, iv (0 : Int32), iv pi2, iv (3 : Int32), iv x26, iv (0 : Int32)] [(.int (224 : Int32)), (.int (0 : Int32)), (.ref pr0)])) _
      refine y_iload X29.here hx (hb hby d2_54) rfl (pc' := 56) rfl ?_
      refine y_ior X29.here hx (hb hby d2_56) rfl (pc' := 57) rfl ?_
      refine y_i2b X29.here hx (hb hby d2_57) (z := (((224 : Int32) ||| x26).toInt8.toInt32)) rfl (pc' := 58) rfl ?_
      exact kt)
  obtain ⟨x34, hx34⟩ : ∃ z : Int32, z = (((224 : Int32) ||| x26).toInt8.toInt32) := ⟨_, rfl⟩
  have pre35 : ∀ t, Steps p.tables e below (T29.setTop (mkF m 58 #[rv pr0, iv (0 : Int32), iv pi2, iv (3 : Int32), iv x26, iv (0 : Int32)] [(.int x34), (.int (0 : Int32)), (.ref pr0)])) t → Go t := by subst hx34; exact pre33
  obtain ⟨c36, Ar36, q36, S36, M36, H36, G36⟩ := id f25
  have hin36 : ¬ ((0 : Int32) < 0 ∨ c36.slots.size ≤ ((0 : Int32)).toNatClampNeg) := inb_of S36 ⟨by decide, by decide⟩
  obtain ⟨T37, h37, X37, e37, W37, st37⟩ := stB X29 hx hZ e29 Ar36 (j := (0 : Int32)) hin36 (g := (mkF m 58 #[rv pr0, iv (0 : Int32), iv pi2, iv (3 : Int32), iv x26, iv (0 : Int32)] [(.int x34), (.int (0 : Int32)), (.ref pr0)])) rfl rfl (hb hby d2_58)
  have pre38 : ∀ t, Steps p.tables e below (T37.setTop (mkF m 59 #[rv pr0, iv (0 : Int32), iv pi2, iv (3 : Int32), iv x26, iv (0 : Int32)] [])) t → Go t := fun t kt => pre35 t (st37 t kt)
  have N40 := Fr.snoc X37 N24 G_pr0
  have O40 := O24.wr W37 G_pr0
  have K40 : Keep h0 h37 [pr0] := K24.wr W37 (Or.inl (List.mem_of_getElem? (i := 0) rfl))
  have f41 : Arv Z h37 pr0 kk_pr0 .byte (8 : Int32) [(.int (nar .byte x34)), (.int (nar .byte x18)), (.int (nar .byte x7)), (.int y3), (.int y4), (.int y5), (.int y6), (.int y7)] (.int (0 : Int32)) := Arv.set Ar36 q36 S36 M36 H36 G36 (fits_nar_byte _) W37 0 rfl (Nat.le_of_ble_eq_true rfl)
  have pre42 : ∀ t, Steps p.tables e below (T37.setTop (mkF m 62 #[rv pr0, iv (0 : Int32), iv pi2, iv (3 : Int32), iv x26, iv (0 : Int32)] [(.int (3 : Int32))])) t → Go t := fun t kt => pre38 t (by
      refine y_iloadN X37.here hx (hb hby d2_59) rfl (pc' := 60) rfl ?_
      refine y_iloadN X37.here hx (hb hby d2_60) rfl (pc' := 61) rfl ?_
      refine y_iadd X37.here hx (hb hby d2_61) (z := (3 : Int32)) rfl (pc' := 62) rfl ?_
      exact kt)
  obtain ⟨fs, hr, hrun, hended, hW, hsame⟩ := X37.leave (v := some (.int (3 : Int32))) (fun h => by rw [Bd.returns] at h; cases h)
  refine ⟨_, _, (hGo _).mp (pre42 _ ?_), hrun, hended, _, _, rfl, ?_, ⟨_, rfl⟩, hW, hsame.mono (by decide) (by decide)⟩
  · exact retOut X37 hx Bd.returns rfl (Or.inl ⟨rfl, Or.inl rfl, _, rfl⟩) (hb hby d2_62) hr
  · show Q2l3 Z pr0 pi2 w_LEAD_MARK kk_pr0 y0 y1 y2 y3 y4 y5 y6 y7 cc_w_LEAD_MARK h0 n0 _ T37.heap _
    rw [e37]
    subst hx7 hx15 hx18 hx26 hx34
    exact ⟨rfl, N40, K40, f41⟩
theorem ef_2l4 (m : MethodId) (x0 : Addr) (x2 : Int32) : entryFrame m #[(.ref x0), (.int (0 : Int32)), (.int x2)] 6 = mkF m 0 #[rv x0, iv (0 : Int32), iv x2, .unset, .unset, .unset] [] := by first | (simp [entryFrame, mkF, argsToLocals, Value.category]; done) | rfl
def Q2l4 (Z : State) (pr0 : Addr) (pi2 : Int32) (w_LEAD_MARK : Addr) (kk_pr0 : ClassId) (y0 : Int32) (y1 : Int32) (y2 : Int32) (y3 : Int32) (y4 : Int32) (y5 : Int32) (y6 : Int32) (y7 : Int32) (cc_w_LEAD_MARK : Cell) (h0 : Heap) (n0 : Nat) (v : Option Value) (h : Heap) (L : List Loc) : Prop := v = some (.int (4 : Int32)) ∧ Fr n0 L ∧ Keep h0 h [pr0] ∧ Arv Z h pr0 kk_pr0 .byte (8 : Int32) [(.int (nar .byte (((240 : Int32) ||| ((((((pi2.toUInt32 >>> ((6 : Int32) &&& 31).toUInt32).toInt32).toUInt32 >>> ((6 : Int32) &&& 31).toUInt32).toInt32).toUInt32 >>> ((6 : Int32) &&& 31).toUInt32).toInt32)).toInt8.toInt32))), (.int (nar .byte (((128 : Int32) ||| (((((pi2.toUInt32 >>> ((6 : Int32) &&& 31).toUInt32).toInt32).toUInt32 >>> ((6 : Int32) &&& 31).toUInt32).toInt32) &&& (63 : Int32))).toInt8.toInt32))), (.int (nar .byte (((128 : Int32) ||| (((pi2.toUInt32 >>> ((6 : Int32) &&& 31).toUInt32).toInt32) &&& (63 : Int32))).toInt8.toInt32))), (.int (nar .byte (((128 : Int32) ||| (pi2 &&& (63 : Int32))).toInt8.toInt32))), (.int y4), (.int y5), (.int y6), (.int y7)] (.int (0 : Int32))
set_option maxRecDepth 65536 in
set_option maxHeartbeats 40000000 in
theorem rm2l4 (l : Launch) (Z : State) (a0 : Array Value) (hw : ∀ d ∈ tables_1, d.before a0 Z = true) (ws : List Jvm.Cond) (pr0 : Addr) (pi2 : Int32) (w_LEAD_MARK : Addr) (kk_pr0 : ClassId) (y0 : Int32) (y1 : Int32) (y2 : Int32) (y3 : Int32) (y4 : Int32) (y5 : Int32) (y6 : Int32) (y7 : Int32) (cc_w_LEAD_MARK : Cell) (h0 : Heap) (n0 : Nat) (O0 : Old Z n0 h0) (S_LEAD_MARK : Sta Z Z.heap "com/example/strict_codec/strictcodec/Utf8Grammar" "LEAD_MARK" "[I" (.ref w_LEAD_MARK)) (G_pr0 : n0 ≤ pr0) (LE : (fr1 pi2) = (4 : Int32)) (V_pr0 : Arv Z h0 pr0 kk_pr0 .byte (8 : Int32) [(.int y0), (.int y1), (.int y2), (.int y3), (.int y4), (.int y5), (.int y6), (.int y7)] (.int (0 : Int32))) (AR_w_LEAD_MARK : Arr Z Z.heap w_LEAD_MARK cc_w_LEAD_MARK .int) (IN4_w_LEAD_MARK : ¬ ((4 : Int32) < 0 ∨ cc_w_LEAD_MARK.slots.size ≤ (4 : Int32).toNatClampNeg)) (AT4_w_LEAD_MARK : cc_w_LEAD_MARK.slots[(4 : Int32).toNatClampNeg]? = some (.int (240 : Int32))) :
    MetFree l (⟨"com/example/strict_codec/strictcodec/Utf8Grammar", "put", "([BII)I"⟩ : MethodName) (head1 (Jvm.Cond.code (⟨"com/example/strict_codec/strictcodec/Utf8Grammar", "put", "([BII)I"⟩ : MethodName) prog_19_method_12_code 6 (some .int) :: ws) ({ frames := 1, cells := 0, slots := 0, locals := 13 } : Room)) (fun a U => a = #[(.ref pr0), (.int (0 : Int32)), (.int pi2)] ∧ Z.Warmed39 U.vm ∧ U.heap = h0) (fun _ _ _ _ _ => True) (fun _ U o U' => ∃ v L, o = .returned v ∧ Q2l4 Z pr0 pi2 w_LEAD_MARK kk_pr0 y0 y1 y2 y3 y4 y5 y6 y7 cc_w_LEAD_MARK h0 n0 v U'.heap L ∧ FrameEnd U o U' L ({ frames := 1, cells := 0, slots := 0, locals := 13 } : Room).cells ({ frames := 1, cells := 0, slots := 0, locals := 13 } : Room).slots) := by
  refine MetFree.of_bodySF (plainFor_of_name pn_com_example_strict_codec_strictcodec_Utf8Grammar) hisR ?_
  intro p e s m args below meth c s₁ Bd hml0 hP hK
  obtain ⟨rfl, hZ, hh⟩ := hP
  have hx := Bd.exec
  have hby := Bd.bytes
  have hml : c.maxLocals = 6 := hml0
  have hown : s.vm.findClass "com/example/strict_codec/strictcodec/Utf8Grammar" = some m.cls := findClass_of_methodNamed Bd.named
  have hnm := (name_of_methodNamed Bd.named Bd.method).1
  have X0 : Stand p l e ({ frames := 1, cells := 0, slots := 0, locals := 13 } : Room) s m #[(.ref pr0), (.int (0 : Int32)), (.int pi2)] below meth c s₁ [] 0 0 := Stand.of_body Bd
  have e0 : s₁.heap = h0 := by rw [← hh, Bd.state]; rfl
  have N0 := Fr.nil n0
  obtain ⟨Go, hGo⟩ : ∃ P : State → Prop, ∀ t, P t ↔ Steps p.tables e below (s₁.setTop (entryFrame m #[(.ref pr0), (.int (0 : Int32)), (.int pi2)] 6)) t := ⟨_, fun _ => Iff.rfl⟩
  have pre0 : ∀ t, Steps p.tables e below (s₁.setTop (mkF m 0 #[rv pr0, iv (0 : Int32), iv pi2, .unset, .unset, .unset] [])) t → Go t := fun t k => (hGo t).mpr (castTop (ef_2l4 m pr0 pi2) k)
  have K0 : Keep h0 h0 [pr0] := Keep.refl _ _
  have pre1 : ∀ t, Steps p.tables e below (s₁.setTop (mkF m 1 #[rv pr0, iv (0 : Int32), iv pi2, .unset, .unset, .unset] [(.int pi2)])) t → Go t := fun t kt => pre0 t (by
      refine y_iloadN X0.here hx (hb hby d2_0) rfl (pc' := 1) rfl ?_
      exact kt)
  obtain ⟨v2, _, ⟨T2, L2, k2, n2⟩, -, X2, ⟨Lc2, hQ2, l2, y2, z2⟩, st2⟩ := Jvm.LawKit.callS X0 hx (y := (⟨"com/example/strict_codec/strictcodec/Utf8Grammar", "scalarLength", "(I)I"⟩ : MethodName)) hown (mvT hZ (hw _ (List.mem_of_getElem? (i := 11) rfl))) (mvT hZ (hw _ (List.mem_of_getElem? (i := 4) rfl))) (mvT hZ (hw _ (List.mem_of_getElem? (i := 5) rfl))) (mvT hZ (hw _ (List.mem_of_getElem? (i := 6) rfl))) (by decide) (backOf (W := 0) (rm1 l Z a0 hw [] pi2 h0 n0 O0 ) hZ (hw _ (List.mem_of_getElem? (i := 6) rfl)) (hw _ (List.mem_of_getElem? (i := 5) rfl)) (by decide) (by decide)) (g := (mkF m 1 #[rv pr0, iv (0 : Int32), iv pi2, .unset, .unset, .unset] [(.int pi2)])) rfl (by rw [hml]; rfl) (argsL := [(.int pi2)]) (rest := []) (lenOf pd__I_I rfl) rfl (by show 2 * 0 + _ ≤ _; exact Nat.le_of_eq rfl) (hb hby d2_1) (fun _ _ => ⟨rfl, e0, (by decide : 0 + 0 ≤ _), (by decide : 0 + 0 ≤ _)⟩)
  dsimp only [Pt.U, Pt.locs, Pt.cells, Pt.slots] at X2 l2 y2 z2 st2 hQ2
  subst l2 y2 z2
  obtain ⟨hv2, N2q, e2q⟩ := hQ2
  have N3 := Fr.app N0 N2q
  have hw2 := hv2
  obtain ⟨x4, hx4⟩ : ∃ z : Int32, z = (fr1 pi2) := ⟨_, rfl⟩
  rw [← hx4] at hw2
  subst hw2
  have pre5 : ∀ t, Steps p.tables e below (T2.setTop (mkF m 4 #[rv pr0, iv (0 : Int32), iv pi2, .unset, .unset, .unset] [(.int x4)])) t → Go t := fun t kt => pre1 t (st2 t kt)
  obtain rfl : x4 = (4 : Int32) := by
      rw [hx4]; exact LE
  skip
  have pre6 : ∀ t, Steps p.tables e below (T2.setTop (mkF m 33 #[rv pr0, iv (0 : Int32), iv pi2, iv (4 : Int32), iv pi2, iv (3 : Int32)] [(.int (((128 : Int32) ||| (pi2 &&& (63 : Int32))).toInt8.toInt32)), (.int (3 : Int32)), (.ref pr0)])) t → Go t := fun t kt => pre5 t (by
      refine y_istoreN X2.here hx (hb hby d2_4) (l' := #[rv pr0, iv (0 : Int32), iv pi2, iv (4 : Int32), .unset, .unset]) rfl (pc' := 5) rfl ?_
      refine y_iloadN X2.here hx (hb hby d2_5) rfl (pc' := 6) rfl ?_
      refine y_istore X2.here hx (hb hby d2_6) (l' := #[rv pr0, iv (0 : Int32), iv pi2, iv (4 : Int32), iv pi2, .unset]) rfl (pc' := 8) rfl ?_
      refine y_iloadN X2.here hx (hb hby d2_8) rfl (pc' := 9) rfl ?_
      refine y_iconst X2.here hx (hb hby d2_9) (v := (1 : Int32)) rfl (pc' := 10) rfl ?_
      refine y_isub X2.here hx (hb hby d2_10) (z := (3 : Int32)) rfl (pc' := 11) rfl ?_
      refine y_istore X2.here hx (hb hby d2_11) (l' := #[rv pr0, iv (0 : Int32), iv pi2, iv (4 : Int32), iv pi2, iv (3 : Int32)]) rfl (pc' := 13) rfl ?_
      refine y_iload X2.here hx (hb hby d2_13) rfl (pc' := 15) rfl ?_
      refine y_ifNo X2.here hx (hb hby d2_15) ((if0 _ _).trans (tlt (by decide : (0 : Int32) < (3 : Int32))).2.2.2) (pc' := 18) rfl ?_
      refine y_aloadN X2.here hx (hb hby d2_18) rfl rfl (pc' := 19) rfl ?_
      refine y_iloadN X2.here hx (hb hby d2_19) rfl (pc' := 20) rfl ?_
      refine y_iload X2.here hx (hb hby d2_20) rfl (pc' := 22) rfl ?_
      refine y_iadd X2.here hx (hb hby d2_22) (z := (3 : Int32)) rfl (pc' := 23) rfl ?_
      refine y_sipush X2.here hx (hb hby d2_23) (v := (128 : Int32)) rfl (pc' := 26) rfl ?_
      refine y_iload X2.here hx (hb hby d2_26) rfl (pc' := 28) rfl ?_
      refine y_bipush X2.here hx (hb hby d2_28) (v := (63 : Int32)) rfl (pc' := 30) rfl ?_
      refine y_iand X2.here hx (hb hby d2_30) rfl (pc' := 31) rfl ?_
      refine y_ior X2.here hx (hb hby d2_31) rfl (pc' := 32) rfl ?_
      refine y_i2b X2.here hx (hb hby d2_32) (z := (((128 : Int32) ||| (pi2 &&& (63 : Int32))).toInt8.toInt32)) rfl (pc' := 33) rfl ?_
      exact kt)
  obtain ⟨x7, hx7⟩ : ∃ z : Int32, z = (((128 : Int32) ||| (pi2 &&& (63 : Int32))).toInt8.toInt32) := ⟨_, rfl⟩
  have pre8 : ∀ t, Steps p.tables e below (T2.setTop (mkF m 33 #[rv pr0, iv (0 : Int32), iv pi2, iv (4 : Int32), iv pi2, iv (3 : Int32)] [(.int x7), (.int (3 : Int32)), (.ref pr0)])) t → Go t := by subst hx7; exact pre6
  obtain ⟨c9, Ar9, q9, S9, M9, H9, G9⟩ := id V_pr0
  have hin9 : ¬ ((3 : Int32) < 0 ∨ c9.slots.size ≤ ((3 : Int32)).toNatClampNeg) := inb_of S9 ⟨by decide, by decide⟩
  obtain ⟨T10, h10, X10, e10, W10, st10⟩ := stB X2 hx hZ e2q Ar9 (j := (3 : Int32)) hin9 (g := (mkF m 33 #[rv pr0, iv (0 : Int32), iv pi2, iv (4 : Int32), iv pi2, iv (3 : Int32)] [(.int x7), (.int (3 : Int32)), (.ref pr0)])) rfl rfl (hb hby d2_33)
  have pre11 : ∀ t, Steps p.tables e below (T10.setTop (mkF m 34 #[rv pr0, iv (0 : Int32), iv pi2, iv (4 : Int32), iv pi2, iv (3 : Int32)] [])) t → Go t := fun t kt => pre8 t (st10 t kt)
  have N13 := Fr.snoc X10 N3 G_pr0
  have O13 := O0.wr W10 G_pr0
  have K13 : Keep h0 h10 [pr0] := K0.wr W10 (Or.inl (List.mem_of_getElem? (i := 0) rfl))
  have f14 : Arv Z h10 pr0 kk_pr0 .byte (8 : Int32) [(.int y0), (.int y1), (.int y2), (.int (nar .byte x7)), (.int y4), (.int y5), (.int y6), (.int y7)] (.int (0 : Int32)) := Arv.set Ar9 q9 S9 M9 H9 G9 (fits_nar_byte _) W10 3 rfl (Nat.le_of_ble_eq_true rfl)
  obtain ⟨x15, hx15⟩ : ∃ z : Int32, z = ((pi2.toUInt32 >>> ((6 : Int32) &&& 31).toUInt32).toInt32) := ⟨_, rfl⟩
  have pre16 : ∀ t, Steps p.tables e below (T10.setTop (mkF m 41 #[rv pr0, iv (0 : Int32), iv pi2, iv (4 : Int32), iv x15, iv (3 : Int32)] [])) t → Go t := fun t kt => pre11 t (by
      subst hx15
      refine y_iload X10.here hx (hb hby d2_34) rfl (pc' := 36) rfl ?_
      refine y_bipush X10.here hx (hb hby d2_36) (v := (6 : Int32)) rfl (pc' := 38) rfl ?_
      refine y_iushr X10.here hx (hb hby d2_38) (z := ((pi2.toUInt32 >>> ((6 : Int32) &&& 31).toUInt32).toInt32)) rfl (pc' := 39) rfl ?_
      refine y_istore X10.here hx (hb hby d2_39) (l' := #[rv pr0, iv (0 : Int32), iv pi2, iv (4 : Int32), iv ((pi2.toUInt32 >>> ((6 : Int32) &&& 31).toUInt32).toInt32), iv (3 : Int32)]) rfl (pc' := 41) rfl ?_
      exact kt)
  have pre17 : ∀ t, Steps p.tables e below (T10.setTop (mkF m 33 #[rv pr0, iv (0 : Int32), iv pi2, iv (4 : Int32), iv x15, iv (2 : Int32)] [(.int (((128 : Int32) ||| (x15 &&& (63 : Int32))).toInt8.toInt32)), (.int (2 : Int32)), (.ref pr0)])) t → Go t := fun t kt => pre16 t (by
      refine y_iinc X10.here hx (hb hby d2_41) rfl (l' := #[rv pr0, iv (0 : Int32), iv pi2, iv (4 : Int32), iv x15, iv (2 : Int32)]) rfl (pc' := 44) rfl ?_
      refine y_goto X10.here hx (hb hby d2_44) (pc' := 13) (by decide) rfl ?_
      refine y_iload X10.here hx (hb hby d2_13) rfl (pc' := 15) rfl ?_
      refine y_ifNo X10.here hx (hb hby d2_15) ((if0 _ _).trans (tlt (by decide : (0 : Int32) < (2 : Int32))).2.2.2) (pc' := 18) rfl ?_
      refine y_aloadN X10.here hx (hb hby d2_18) rfl rfl (pc' := 19) rfl ?_
      refine y_iloadN X10.here hx (hb hby d2_19) rfl (pc' := 20) rfl ?_
      refine y_iload X10.here hx (hb hby d2_20) rfl (pc' := 22) rfl ?_
      refine y_iadd X10.here hx (hb hby d2_22) (z := (2 : Int32)) rfl (pc' := 23) rfl ?_
      refine y_sipush X10.here hx (hb hby d2_23) (v := (128 : Int32)) rfl (pc' := 26) rfl ?_
      refine y_iload X10.here hx (hb hby d2_26) rfl (pc' := 28) rfl ?_
      refine y_bipush X10.here hx (hb hby d2_28) (v := (63 : Int32)) rfl (pc' := 30) rfl ?_
      refine y_iand X10.here hx (hb hby d2_30) rfl (pc' := 31) rfl ?_
      refine y_ior X10.here hx (hb hby d2_31) rfl (pc' := 32) rfl ?_
      refine y_i2b X10.here hx (hb hby d2_32) (z := (((128 : Int32) ||| (x15 &&& (63 : Int32))).toInt8.toInt32)) rfl (pc' := 33) rfl ?_
      exact kt)
  obtain ⟨x18, hx18⟩ : ∃ z : Int32, z = (((128 : Int32) ||| (x15 &&& (63 : Int32))).toInt8.toInt32) := ⟨_, rfl⟩
  have pre19 : ∀ t, Steps p.tables e below (T10.setTop (mkF m 33 #[rv pr0, iv (0 : Int32), iv pi2, iv (4 : Int32), iv x15, iv (2 : Int32)] [(.int x18), (.int (2 : Int32)), (.ref pr0)])) t → Go t := by subst hx18; exact pre17
  obtain ⟨c20, Ar20, q20, S20, M20, H20, G20⟩ := id f14
  have hin20 : ¬ ((2 : Int32) < 0 ∨ c20.slots.size ≤ ((2 : Int32)).toNatClampNeg) := inb_of S20 ⟨by decide, by decide⟩
  obtain ⟨T21, h21, X21, e21, W21, st21⟩ := stB X10 hx hZ e10 Ar20 (j := (2 : Int32)) hin20 (g := (mkF m 33 #[rv pr0, iv (0 : Int32), iv pi2, iv (4 : Int32), iv x15, iv (2 : Int32)] [(.int x18), (.int (2 : Int32)), (.ref pr0)])) rfl rfl (hb hby d2_33)
  have pre22 : ∀ t, Steps p.tables e below (T21.setTop (mkF m 34 #[rv pr0, iv (0 : Int32), iv pi2, iv (4 : Int32), iv x15, iv (2 : Int32)] [])) t → Go t := fun t kt => pre19 t (st21 t kt)
  have N24 := Fr.snoc X21 N13 G_pr0
  have O24 := O13.wr W21 G_pr0
  have K24 : Keep h0 h21 [pr0] := K13.wr W21 (Or.inl (List.mem_of_getElem? (i := 0) rfl))
  have f25 : Arv Z h21 pr0 kk_pr0 .byte (8 : Int32) [(.int y0), (.int y1), (.int (nar .byte x18)), (.int (nar .byte x7)), (.int y4), (.int y5), (.int y6), (.int y7)] (.int (0 : Int32)) := Arv.set Ar20 q20 S20 M20 H20 G20 (fits_nar_byte _) W21 2 rfl (Nat.le_of_ble_eq_true rfl)
  obtain ⟨x26, hx26⟩ : ∃ z : Int32, z = ((x15.toUInt32 >>> ((6 : Int32) &&& 31).toUInt32).toInt32) := ⟨_, rfl⟩
  have pre27 : ∀ t, Steps p.tables e below (T21.setTop (mkF m 41 #[rv pr0, iv (0 : Int32), iv pi2, iv (4 : Int32), iv x26, iv (2 : Int32)] [])) t → Go t := fun t kt => pre22 t (by
      subst hx26
      refine y_iload X21.here hx (hb hby d2_34) rfl (pc' := 36) rfl ?_
      refine y_bipush X21.here hx (hb hby d2_36) (v := (6 : Int32)) rfl (pc' := 38) rfl ?_
      refine y_iushr X21.here hx (hb hby d2_38) (z := ((x15.toUInt32 >>> ((6 : Int32) &&& 31).toUInt32).toInt32)) rfl (pc' := 39) rfl ?_
      refine y_istore X21.here hx (hb hby d2_39) (l' := #[rv pr0, iv (0 : Int32), iv pi2, iv (4 : Int32), iv ((x15.toUInt32 >>> ((6 : Int32) &&& 31).toUInt32).toInt32), iv (2 : Int32)]) rfl (pc' := 41) rfl ?_
      exact kt)
  have pre28 : ∀ t, Steps p.tables e below (T21.setTop (mkF m 33 #[rv pr0, iv (0 : Int32), iv pi2, iv (4 : Int32), iv x26, iv (1 : Int32)] [(.int (((128 : Int32) ||| (x26 &&& (63 : Int32))).toInt8.toInt32)), (.int (1 : Int32)), (.ref pr0)])) t → Go t := fun t kt => pre27 t (by
      refine y_iinc X21.here hx (hb hby d2_41) rfl (l' := #[rv pr0, iv (0 : Int32), iv pi2, iv (4 : Int32), iv x26, iv (1 : Int32)]) rfl (pc' := 44) rfl ?_
      refine y_goto X21.here hx (hb hby d2_44) (pc' := 13) (by decide) rfl ?_
      refine y_iload X21.here hx (hb hby d2_13) rfl (pc' := 15) rfl ?_
      refine y_ifNo X21.here hx (hb hby d2_15) ((if0 _ _).trans (tlt (by decide : (0 : Int32) < (1 : Int32))).2.2.2) (pc' := 18) rfl ?_
      refine y_aloadN X21.here hx (hb hby d2_18) rfl rfl (pc' := 19) rfl ?_
      refine y_iloadN X21.here hx (hb hby d2_19) rfl (pc' := 20) rfl ?_
      refine y_iload X21.here hx (hb hby d2_20) rfl (pc' := 22) rfl ?_
      refine y_iadd X21.here hx (hb hby d2_22) (z := (1 : Int32)) rfl (pc' := 23) rfl ?_
      refine y_sipush X21.here hx (hb hby d2_23) (v := (128 : Int32)) rfl (pc' := 26) rfl ?_
      refine y_iload X21.here hx (hb hby d2_26) rfl (pc' := 28) rfl ?_
      refine y_bipush X21.here hx (hb hby d2_28) (v := (63 : Int32)) rfl (pc' := 30) rfl ?_
      refine y_iand X21.here hx (hb hby d2_30) rfl (pc' := 31) rfl ?_
      refine y_ior X21.here hx (hb hby d2_31) rfl (pc' := 32) rfl ?_
      refine y_i2b X21.here hx (hb hby d2_32) (z := (((128 : Int32) ||| (x26 &&& (63 : Int32))).toInt8.toInt32)) rfl (pc' := 33) rfl ?_
      exact kt)
  obtain ⟨x29, hx29⟩ : ∃ z : Int32, z = (((128 : Int32) ||| (x26 &&& (63 : Int32))).toInt8.toInt32) := ⟨_, rfl⟩
  have pre30 : ∀ t, Steps p.tables e below (T21.setTop (mkF m 33 #[rv pr0, iv (0 : Int32), iv pi2, iv (4 : Int32), iv x26, iv (1 : Int32)] [(.int x29), (.int (1 : Int32)), (.ref pr0)])) t → Go t := by subst hx29; exact pre28
  obtain ⟨c31, Ar31, q31, S31, M31, H31, G31⟩ := id f25
  have hin31 : ¬ ((1 : Int32) < 0 ∨ c31.slots.size ≤ ((1 : Int32)).toNatClampNeg) := inb_of S31 ⟨by decide, by decide⟩
  obtain ⟨T32, h32, X32, e32, W32, st32⟩ := stB X21 hx hZ e21 Ar31 (j := (1 : Int32)) hin31 (g := (mkF m 33 #[rv pr0, iv (0 : Int32), iv pi2, iv (4 : Int32), iv x26, iv (1 : Int32)] [(.int x29), (.int (1 : Int32)), (.ref pr0)])) rfl rfl (hb hby d2_33)
  have pre33 : ∀ t, Steps p.tables e below (T32.setTop (mkF m 34 #[rv pr0, iv (0 : Int32), iv pi2, iv (4 : Int32), iv x26, iv (1 : Int32)] [])) t → Go t := fun t kt => pre30 t (st32 t kt)
  have N35 := Fr.snoc X32 N24 G_pr0
  have O35 := O24.wr W32 G_pr0
  have K35 : Keep h0 h32 [pr0] := K24.wr W32 (Or.inl (List.mem_of_getElem? (i := 0) rfl))
  have f36 : Arv Z h32 pr0 kk_pr0 .byte (8 : Int32) [(.int y0), (.int (nar .byte x29)), (.int (nar .byte x18)), (.int (nar .byte x7)), (.int y4), (.int y5), (.int y6), (.int y7)] (.int (0 : Int32)) := Arv.set Ar31 q31 S31 M31 H31 G31 (fits_nar_byte _) W32 1 rfl (Nat.le_of_ble_eq_true rfl)
  obtain ⟨x37, hx37⟩ : ∃ z : Int32, z = ((x26.toUInt32 >>> ((6 : Int32) &&& 31).toUInt32).toInt32) := ⟨_, rfl⟩
  have pre38 : ∀ t, Steps p.tables e below (T32.setTop (mkF m 41 #[rv pr0, iv (0 : Int32), iv pi2, iv (4 : Int32), iv x37, iv (1 : Int32)] [])) t → Go t := fun t kt => pre33 t (by
      subst hx37
      refine y_iload X32.here hx (hb hby d2_34) rfl (pc' := 36) rfl ?_
      refine y_bipush X32.here hx (hb hby d2_36) (v := (6 : Int32)) rfl (pc' := 38) rfl ?_
      refine y_iushr X32.here hx (hb hby d2_38) (z := ((x26.toUInt32 >>> ((6 : Int32) &&& 31).toUInt32).toInt32)) rfl (pc' := 39) rfl ?_
      refine y_istore X32.here hx (hb hby d2_39) (l' := #[rv pr0, iv (0 : Int32), iv pi2, iv (4 : Int32), iv ((x26.toUInt32 >>> ((6 : Int32) &&& 31).toUInt32).toInt32), iv (1 : Int32)]) rfl (pc' := 41) rfl ?_
      exact kt)
  have pre39 : ∀ t, Steps p.tables e below (T32.setTop (mkF m 49 #[rv pr0, iv (0 : Int32), iv pi2, iv (4 : Int32), iv x37, iv (0 : Int32)] [(.int (0 : Int32)), (.ref pr0)])) t → Go t := fun t kt => pre38 t (by
      refine y_iinc X32.here hx (hb hby d2_41) rfl (l' := #[rv pr0, iv (0 : Int32), iv pi2, iv (4 : Int32), iv x37, iv (0 : Int32)]) rfl (pc' := 44) rfl ?_
      refine y_goto X32.here hx (hb hby d2_44) (pc' := 13) (by decide) rfl ?_
      refine y_iload X32.here hx (hb hby d2_13) rfl (pc' := 15) rfl ?_
      refine y_ifYes X32.here hx (hb hby d2_15) ((if0 _ _).trans (flt (by decide : ¬ ((0 : Int32) < (0 : Int32)))).2.2.2) (pc' := 47) (by decide) rfl ?_
      refine y_aloadN X32.here hx (hb hby d2_47) rfl rfl (pc' := 48) rfl ?_
      refine y_iloadN X32.here hx (hb hby d2_48) rfl (pc' := 49) rfl ?_
      exact kt)
  obtain ⟨T40, X40, e40, st40⟩ := getS2 X32 hx hZ hown (host := "") (Or.inl (hw _ (List.mem_of_getElem? (i := 12) rfl))) Via.refl e32 (S_LEAD_MARK.ext O35.2) (g := (mkF m 49 #[rv pr0, iv (0 : Int32), iv pi2, iv (4 : Int32), iv x37, iv (0 : Int32)] [(.int (0 : Int32)), (.ref pr0)])) rfl (hb hby d2_49)
  have pre41 : ∀ t, Steps p.tables e below (T40.setTop (mkF m 52 #[rv pr0, iv (0 : Int32), iv pi2, iv (4 : Int32), iv x37, iv (0 : Int32)] [(.ref w_LEAD_MARK), (.int (0 : Int32)), (.ref pr0)])) t → Go t := fun t kt => pre39 t (st40 t kt)
  have pre42 : ∀ t, Steps p.tables e below (T40.setTop (mkF m 53 #[rv pr0, iv (0 : Int32), iv pi2, iv (4 : Int32), iv x37, iv (0 : Int32)] [(.int (4 : Int32)), (.ref w_LEAD_MARK), (.int (0 : Int32)), (.ref pr0)])) t → Go t := fun t kt => pre41 t (by
      refine y_iloadN X40.here hx (hb hby d2_52) rfl (pc' := 53) rfl ?_
      exact kt)
  have A43 := AR_w_LEAD_MARK.ext O35.2
  have pre44 : ∀ t, Steps p.tables e below (T40.setTop (mkF m 58 #[rv pr0, iv (0 : Int32), iv pi2, iv (4 : Int32), iv x37, iv (0 : Int32)] [(.int (((240 : Int32) ||| x37).toInt8.toInt32)), (.int (0 : Int32)), (.ref pr0)])) t → Go t := fun t kt => pre42 t (by
      refine X40.iaload hx (j := (4 : Int32)) (v := (.int (240 : Int32))) (by rw [e40]; exact A43.1) (State.isArrayOf_alike hZ.alike A43.2.1) A43.2.2 IN4_w_LEAD_MARK AT4_w_LEAD_MARK (g := (mkF m 53 #[rv pr0, iv (0 : Int32), iv pi2, iv (4 : Int32), iv x37, iv (0 : Int32)] [(.int (4 : Int32)), (.ref w_LEAD_MARK), (.int (0 : Int32)), (.ref pr0)])) rfl rfl (hb hby d2_53) _ ?_
      show Steps p.tables e below (T40.setTop (mkF m 54 #[rv pr0, iv (0 : Int32), iv pi2, iv (4 : Int32), iv x37, iv (0 : Int32)] [(.int (240 : Int32)), (.int (0 : Int32)), (.ref pr0)])) _
      refine y_iload X40.here hx (hb hby d2_54) rfl (pc' := 56) rfl ?_
      refine y_ior X40.here hx (hb hby d2_56) rfl (pc' := 57) rfl ?_
      refine y_i2b X40.here hx (hb hby d2_57) (z := (((240 : Int32) ||| x37).toInt8.toInt32)) rfl (pc' := 58) rfl ?_
      exact kt)
  obtain ⟨x45, hx45⟩ : ∃ z : Int32, z = (((240 : Int32) ||| x37).toInt8.toInt32) := ⟨_, rfl⟩
  have pre46 : ∀ t, Steps p.tables e below (T40.setTop (mkF m 58 #[rv pr0, iv (0 : Int32), iv pi2, iv (4 : Int32), iv x37, iv (0 : Int32)] [(.int x45), (.int (0 : Int32)), (.ref pr0)])) t → Go t := by subst hx45; exact pre44
  obtain ⟨c47, Ar47, q47, S47, M47, H47, G47⟩ := id f36
  have hin47 : ¬ ((0 : Int32) < 0 ∨ c47.slots.size ≤ ((0 : Int32)).toNatClampNeg) := inb_of S47 ⟨by decide, by decide⟩
  obtain ⟨T48, h48, X48, e48, W48, st48⟩ := stB X40 hx hZ e40 Ar47 (j := (0 : Int32)) hin47 (g := (mkF m 58 #[rv pr0, iv (0 : Int32), iv pi2, iv (4 : Int32), iv x37, iv (0 : Int32)] [(.int x45), (.int (0 : Int32)), (.ref pr0)])) rfl rfl (hb hby d2_58)
  have pre49 : ∀ t, Steps p.tables e below (T48.setTop (mkF m 59 #[rv pr0, iv (0 : Int32), iv pi2, iv (4 : Int32), iv x37, iv (0 : Int32)] [])) t → Go t := fun t kt => pre46 t (st48 t kt)
  have N51 := Fr.snoc X48 N35 G_pr0
  have O51 := O35.wr W48 G_pr0
  have K51 : Keep h0 h48 [pr0] := K35.wr W48 (Or.inl (List.mem_of_getElem? (i := 0) rfl))
  have f52 : Arv Z h48 pr0 kk_pr0 .byte (8 : Int32) [(.int (nar .byte x45)), (.int (nar .byte x29)), (.int (nar .byte x18)), (.int (nar .byte x7)), (.int y4), (.int y5), (.int y6), (.int y7)] (.int (0 : Int32)) := Arv.set Ar47 q47 S47 M47 H47 G47 (fits_nar_byte _) W48 0 rfl (Nat.le_of_ble_eq_true rfl)
  have pre53 : ∀ t, Steps p.tables e below (T48.setTop (mkF m 62 #[rv pr0, iv (0 : Int32), iv pi2, iv (4 : Int32), iv x37, iv (0 : Int32)] [(.int (4 : Int32))])) t → Go t := fun t kt => pre49 t (by
      refine y_iloadN X48.here hx (hb hby d2_59) rfl (pc' := 60) rfl ?_
      refine y_iloadN X48.here hx (hb hby d2_60) rfl (pc' := 61) rfl ?_
      refine y_iadd X48.here hx (hb hby d2_61) (z := (4 : Int32)) rfl (pc' := 62) rfl ?_
      exact kt)
  obtain ⟨fs, hr, hrun, hended, hW, hsame⟩ := X48.leave (v := some (.int (4 : Int32))) (fun h => by rw [Bd.returns] at h; cases h)
  refine ⟨_, _, (hGo _).mp (pre53 _ ?_), hrun, hended, _, _, rfl, ?_, ⟨_, rfl⟩, hW, hsame.mono (by decide) (by decide)⟩
  · exact retOut X48 hx Bd.returns rfl (Or.inl ⟨rfl, Or.inl rfl, _, rfl⟩) (hb hby d2_62) hr
  · show Q2l4 Z pr0 pi2 w_LEAD_MARK kk_pr0 y0 y1 y2 y3 y4 y5 y6 y7 cc_w_LEAD_MARK h0 n0 _ T48.heap _
    rw [e48]
    subst hx7 hx15 hx18 hx26 hx29 hx37 hx45
    exact ⟨rfl, N51, K51, f52⟩
theorem own_fr (s : Int32) : (s.toInt < 128 ∧ fr1 s = 1) ∨ (128 ≤ s.toInt ∧ s.toInt < 2048 ∧ fr1 s = 2) ∨ (2048 ≤ s.toInt ∧ s.toInt < 65536 ∧ fr1 s = 3) ∨ (65536 ≤ s.toInt ∧ fr1 s = 4) := by
  have q : s.toInt < 128 ∨ (128 ≤ s.toInt ∧ s.toInt < 2048) ∨ (2048 ≤ s.toInt ∧ s.toInt < 65536) ∨ 65536 ≤ s.toInt := by omega
  rcases q with q | q | q | q
  · have a := own_lt s 128 128 rfl q
    exact Or.inl ⟨q, by simp only [fr1, a, ↓reduceIte]⟩
  · have a := own_nlt s 128 128 rfl q.1
    have b := own_lt s 2048 2048 rfl q.2
    exact Or.inr (Or.inl ⟨q.1, q.2, by simp only [fr1, a, b, ↓reduceIte]⟩)
  · have a := own_nlt s 128 128 rfl (by omega)
    have b := own_nlt s 2048 2048 rfl q.1
    have c := own_lt s 65536 65536 rfl q.2
    exact Or.inr (Or.inr (Or.inl ⟨q.1, q.2, by simp only [fr1, a, b, c, ↓reduceIte]⟩))
  · have a := own_nlt s 128 128 rfl (by omega)
    have b := own_nlt s 2048 2048 rfl (by omega)
    have c := own_nlt s 65536 65536 rfl q
    exact Or.inr (Or.inr (Or.inr ⟨q, by simp only [fr1, a, b, c, ↓reduceIte]⟩))
theorem own_fr1 {s : Int32} (h : (1 : Int32) = fr1 s) : s.toInt < 128 := by
  rcases own_fr s with ⟨a, z⟩ | ⟨a, b, z⟩ | ⟨a, b, z⟩ | ⟨a, z⟩
  · exact a
  · exact absurd (h.trans z) (by decide)
  · exact absurd (h.trans z) (by decide)
  · exact absurd (h.trans z) (by decide)
theorem own_fr2 {s : Int32} (h : (2 : Int32) = fr1 s) : 128 ≤ s.toInt ∧ s.toInt < 2048 := by
  rcases own_fr s with ⟨a, z⟩ | ⟨a, b, z⟩ | ⟨a, b, z⟩ | ⟨a, z⟩
  · exact absurd (h.trans z) (by decide)
  · exact ⟨a, b⟩
  · exact absurd (h.trans z) (by decide)
  · exact absurd (h.trans z) (by decide)
theorem own_fr3 {s : Int32} (h : (3 : Int32) = fr1 s) : 2048 ≤ s.toInt ∧ s.toInt < 65536 := by
  rcases own_fr s with ⟨a, z⟩ | ⟨a, b, z⟩ | ⟨a, b, z⟩ | ⟨a, z⟩
  · exact absurd (h.trans z) (by decide)
  · exact absurd (h.trans z) (by decide)
  · exact ⟨a, b⟩
  · exact absurd (h.trans z) (by decide)
theorem own_fr4 {s : Int32} (h : (4 : Int32) = fr1 s) : 65536 ≤ s.toInt := by
  rcases own_fr s with ⟨a, z⟩ | ⟨a, b, z⟩ | ⟨a, b, z⟩ | ⟨a, z⟩
  · exact absurd (h.trans z) (by decide)
  · exact absurd (h.trans z) (by decide)
  · exact absurd (h.trans z) (by decide)
  · exact a
theorem own_m192 (t : Int32) (h : 0 ≤ t.toInt ∧ t.toInt < 32) : ((nar .byte (((192 : Int32) ||| t).toInt8.toInt32)) &&& (255 : Int32)).toInt = 192 + t.toInt := by
  rw [own_b255]
  have e : (192 : Int32).toInt = 192 := rfl
  have q := c_or 192 t 5 (by decide) 32 rfl (by decide) h.1 h.2
  have q1 : (((192 : Int32) ||| t) &&& (255 : Int32)).toInt = ((192 : Int32) ||| t).toInt % 256 := c_mask ((192 : Int32) ||| t) 255 8 (by decide) (by decide)
  omega
theorem own_m224 (t : Int32) (h : 0 ≤ t.toInt ∧ t.toInt < 16) : ((nar .byte (((224 : Int32) ||| t).toInt8.toInt32)) &&& (255 : Int32)).toInt = 224 + t.toInt := by
  rw [own_b255]
  have e : (224 : Int32).toInt = 224 := rfl
  have q := c_or 224 t 4 (by decide) 16 rfl (by decide) h.1 h.2
  have q1 : (((224 : Int32) ||| t) &&& (255 : Int32)).toInt = ((224 : Int32) ||| t).toInt % 256 := c_mask ((224 : Int32) ||| t) 255 8 (by decide) (by decide)
  omega
theorem own_m240 (t : Int32) (h : 0 ≤ t.toInt ∧ t.toInt < 8) : ((nar .byte (((240 : Int32) ||| t).toInt8.toInt32)) &&& (255 : Int32)).toInt = 240 + t.toInt := by
  rw [own_b255]
  have e : (240 : Int32).toInt = 240 := rfl
  have q := c_or 240 t 3 (by decide) 8 rfl (by decide) h.1 h.2
  have q1 : (((240 : Int32) ||| t) &&& (255 : Int32)).toInt = ((240 : Int32) ||| t).toInt % 256 := c_mask ((240 : Int32) ||| t) 255 8 (by decide) (by decide)
  omega
theorem own_m128 (p : Int32) : ((nar .byte (((128 : Int32) ||| (p &&& (63 : Int32))).toInt8.toInt32)) &&& (255 : Int32)).toInt = 128 + p.toInt % 64 := by
  rw [own_b255]
  have a : (p &&& (63 : Int32)).toInt = p.toInt % 64 := c_mask p 63 6 (by decide) (by decide)
  have e : (128 : Int32).toInt = 128 := rfl
  have q := c_or 128 (p &&& (63 : Int32)) 6 (by decide) 64 rfl (by decide) (by omega) (by omega)
  have q1 : (((128 : Int32) ||| (p &&& (63 : Int32))) &&& (255 : Int32)).toInt = ((128 : Int32) ||| (p &&& (63 : Int32))).toInt % 256 := c_mask ((128 : Int32) ||| (p &&& (63 : Int32))) 255 8 (by decide) (by decide)
  omega
theorem own_q0 (l y1 y2 y3 : Int32) (hl : 0 ≤ l.toInt ∧ l.toInt ≤ 127)  : fr3a0 (8 : Int32) (tb_SEQUENCE_LENGTH l) (tb_SECOND_LOW l) (tb_SECOND_HIGH l) y1 y2 y3 = 1 := by
  have l128 := own_lt l 128 128 rfl (by omega)
  have l194 := own_lt l 194 194 rfl (by omega)
  have l224 := own_lt l 224 224 rfl (by omega)
  have l225 := own_lt l 225 225 rfl (by omega)
  have l237 := own_lt l 237 237 rfl (by omega)
  have l238 := own_lt l 238 238 rfl (by omega)
  have l240 := own_lt l 240 240 rfl (by omega)
  have l241 := own_lt l 241 241 rfl (by omega)
  have l244 := own_lt l 244 244 rfl (by omega)
  have l245 := own_lt l 245 245 rfl (by omega)
  simp only [fr3a0, tb_SEQUENCE_LENGTH, tb_SECOND_LOW, tb_SECOND_HIGH, ↓reduceIte, l128, l194, l224, l225, l237, l238, l240, l241, l244, l245]
  simp
theorem own_q2 (l y1 y2 y3 : Int32) (hl : 194 ≤ l.toInt ∧ l.toInt ≤ 223) (h1 : 128 ≤ (y1 &&& (255 : Int32)).toInt ∧ (y1 &&& (255 : Int32)).toInt ≤ 191) : fr3a0 (8 : Int32) (tb_SEQUENCE_LENGTH l) (tb_SECOND_LOW l) (tb_SECOND_HIGH l) y1 y2 y3 = 2 := by
  have l128 := own_nlt l 128 128 rfl (by omega)
  have l194 := own_nlt l 194 194 rfl (by omega)
  have l224 := own_lt l 224 224 rfl (by omega)
  have l225 := own_lt l 225 225 rfl (by omega)
  have l237 := own_lt l 237 237 rfl (by omega)
  have l238 := own_lt l 238 238 rfl (by omega)
  have l240 := own_lt l 240 240 rfl (by omega)
  have l241 := own_lt l 241 241 rfl (by omega)
  have l244 := own_lt l 244 244 rfl (by omega)
  have l245 := own_lt l 245 245 rfl (by omega)
  have c1 := own_nlt (y1 &&& (255 : Int32)) 128 128 rfl h1.1
  have d1 := own_ngt (y1 &&& (255 : Int32)) 191 191 rfl h1.2
  simp only [fr3a0, tb_SEQUENCE_LENGTH, tb_SECOND_LOW, tb_SECOND_HIGH, ↓reduceIte, l128, l194, l224, l225, l237, l238, l240, l241, l244, l245, c1, d1]
  simp
theorem own_q3 (l y1 y2 y3 : Int32) (hl : 224 ≤ l.toInt ∧ l.toInt ≤ 224) (h1 : 160 ≤ (y1 &&& (255 : Int32)).toInt ∧ (y1 &&& (255 : Int32)).toInt ≤ 191) (h2 : 128 ≤ (y2 &&& (255 : Int32)).toInt ∧ (y2 &&& (255 : Int32)).toInt ≤ 191) : fr3a0 (8 : Int32) (tb_SEQUENCE_LENGTH l) (tb_SECOND_LOW l) (tb_SECOND_HIGH l) y1 y2 y3 = 3 := by
  have l128 := own_nlt l 128 128 rfl (by omega)
  have l194 := own_nlt l 194 194 rfl (by omega)
  have l224 := own_nlt l 224 224 rfl (by omega)
  have l225 := own_lt l 225 225 rfl (by omega)
  have l237 := own_lt l 237 237 rfl (by omega)
  have l238 := own_lt l 238 238 rfl (by omega)
  have l240 := own_lt l 240 240 rfl (by omega)
  have l241 := own_lt l 241 241 rfl (by omega)
  have l244 := own_lt l 244 244 rfl (by omega)
  have l245 := own_lt l 245 245 rfl (by omega)
  have c1 := own_nlt (y1 &&& (255 : Int32)) 160 160 rfl h1.1
  have d1 := own_ngt (y1 &&& (255 : Int32)) 191 191 rfl h1.2
  have c2 := own_nlt (y2 &&& (255 : Int32)) 128 128 rfl h2.1
  have d2 := own_ngt (y2 &&& (255 : Int32)) 191 191 rfl h2.2
  simp only [fr3a0, tb_SEQUENCE_LENGTH, tb_SECOND_LOW, tb_SECOND_HIGH, ↓reduceIte, l128, l194, l224, l225, l237, l238, l240, l241, l244, l245, c1, d1, c2, d2]
  simp
theorem own_q4 (l y1 y2 y3 : Int32) (hl : 225 ≤ l.toInt ∧ l.toInt ≤ 236) (h1 : 128 ≤ (y1 &&& (255 : Int32)).toInt ∧ (y1 &&& (255 : Int32)).toInt ≤ 191) (h2 : 128 ≤ (y2 &&& (255 : Int32)).toInt ∧ (y2 &&& (255 : Int32)).toInt ≤ 191) : fr3a0 (8 : Int32) (tb_SEQUENCE_LENGTH l) (tb_SECOND_LOW l) (tb_SECOND_HIGH l) y1 y2 y3 = 3 := by
  have l128 := own_nlt l 128 128 rfl (by omega)
  have l194 := own_nlt l 194 194 rfl (by omega)
  have l224 := own_nlt l 224 224 rfl (by omega)
  have l225 := own_nlt l 225 225 rfl (by omega)
  have l237 := own_lt l 237 237 rfl (by omega)
  have l238 := own_lt l 238 238 rfl (by omega)
  have l240 := own_lt l 240 240 rfl (by omega)
  have l241 := own_lt l 241 241 rfl (by omega)
  have l244 := own_lt l 244 244 rfl (by omega)
  have l245 := own_lt l 245 245 rfl (by omega)
  have c1 := own_nlt (y1 &&& (255 : Int32)) 128 128 rfl h1.1
  have d1 := own_ngt (y1 &&& (255 : Int32)) 191 191 rfl h1.2
  have c2 := own_nlt (y2 &&& (255 : Int32)) 128 128 rfl h2.1
  have d2 := own_ngt (y2 &&& (255 : Int32)) 191 191 rfl h2.2
  simp only [fr3a0, tb_SEQUENCE_LENGTH, tb_SECOND_LOW, tb_SECOND_HIGH, ↓reduceIte, l128, l194, l224, l225, l237, l238, l240, l241, l244, l245, c1, d1, c2, d2]
  simp
theorem own_q5 (l y1 y2 y3 : Int32) (hl : 237 ≤ l.toInt ∧ l.toInt ≤ 237) (h1 : 128 ≤ (y1 &&& (255 : Int32)).toInt ∧ (y1 &&& (255 : Int32)).toInt ≤ 159) (h2 : 128 ≤ (y2 &&& (255 : Int32)).toInt ∧ (y2 &&& (255 : Int32)).toInt ≤ 191) : fr3a0 (8 : Int32) (tb_SEQUENCE_LENGTH l) (tb_SECOND_LOW l) (tb_SECOND_HIGH l) y1 y2 y3 = 3 := by
  have l128 := own_nlt l 128 128 rfl (by omega)
  have l194 := own_nlt l 194 194 rfl (by omega)
  have l224 := own_nlt l 224 224 rfl (by omega)
  have l225 := own_nlt l 225 225 rfl (by omega)
  have l237 := own_nlt l 237 237 rfl (by omega)
  have l238 := own_lt l 238 238 rfl (by omega)
  have l240 := own_lt l 240 240 rfl (by omega)
  have l241 := own_lt l 241 241 rfl (by omega)
  have l244 := own_lt l 244 244 rfl (by omega)
  have l245 := own_lt l 245 245 rfl (by omega)
  have c1 := own_nlt (y1 &&& (255 : Int32)) 128 128 rfl h1.1
  have d1 := own_ngt (y1 &&& (255 : Int32)) 159 159 rfl h1.2
  have c2 := own_nlt (y2 &&& (255 : Int32)) 128 128 rfl h2.1
  have d2 := own_ngt (y2 &&& (255 : Int32)) 191 191 rfl h2.2
  simp only [fr3a0, tb_SEQUENCE_LENGTH, tb_SECOND_LOW, tb_SECOND_HIGH, ↓reduceIte, l128, l194, l224, l225, l237, l238, l240, l241, l244, l245, c1, d1, c2, d2]
  simp
theorem own_q6 (l y1 y2 y3 : Int32) (hl : 238 ≤ l.toInt ∧ l.toInt ≤ 239) (h1 : 128 ≤ (y1 &&& (255 : Int32)).toInt ∧ (y1 &&& (255 : Int32)).toInt ≤ 191) (h2 : 128 ≤ (y2 &&& (255 : Int32)).toInt ∧ (y2 &&& (255 : Int32)).toInt ≤ 191) : fr3a0 (8 : Int32) (tb_SEQUENCE_LENGTH l) (tb_SECOND_LOW l) (tb_SECOND_HIGH l) y1 y2 y3 = 3 := by
  have l128 := own_nlt l 128 128 rfl (by omega)
  have l194 := own_nlt l 194 194 rfl (by omega)
  have l224 := own_nlt l 224 224 rfl (by omega)
  have l225 := own_nlt l 225 225 rfl (by omega)
  have l237 := own_nlt l 237 237 rfl (by omega)
  have l238 := own_nlt l 238 238 rfl (by omega)
  have l240 := own_lt l 240 240 rfl (by omega)
  have l241 := own_lt l 241 241 rfl (by omega)
  have l244 := own_lt l 244 244 rfl (by omega)
  have l245 := own_lt l 245 245 rfl (by omega)
  have c1 := own_nlt (y1 &&& (255 : Int32)) 128 128 rfl h1.1
  have d1 := own_ngt (y1 &&& (255 : Int32)) 191 191 rfl h1.2
  have c2 := own_nlt (y2 &&& (255 : Int32)) 128 128 rfl h2.1
  have d2 := own_ngt (y2 &&& (255 : Int32)) 191 191 rfl h2.2
  simp only [fr3a0, tb_SEQUENCE_LENGTH, tb_SECOND_LOW, tb_SECOND_HIGH, ↓reduceIte, l128, l194, l224, l225, l237, l238, l240, l241, l244, l245, c1, d1, c2, d2]
  simp
theorem own_q7 (l y1 y2 y3 : Int32) (hl : 240 ≤ l.toInt ∧ l.toInt ≤ 240) (h1 : 144 ≤ (y1 &&& (255 : Int32)).toInt ∧ (y1 &&& (255 : Int32)).toInt ≤ 191) (h2 : 128 ≤ (y2 &&& (255 : Int32)).toInt ∧ (y2 &&& (255 : Int32)).toInt ≤ 191) (h3 : 128 ≤ (y3 &&& (255 : Int32)).toInt ∧ (y3 &&& (255 : Int32)).toInt ≤ 191) : fr3a0 (8 : Int32) (tb_SEQUENCE_LENGTH l) (tb_SECOND_LOW l) (tb_SECOND_HIGH l) y1 y2 y3 = 4 := by
  have l128 := own_nlt l 128 128 rfl (by omega)
  have l194 := own_nlt l 194 194 rfl (by omega)
  have l224 := own_nlt l 224 224 rfl (by omega)
  have l225 := own_nlt l 225 225 rfl (by omega)
  have l237 := own_nlt l 237 237 rfl (by omega)
  have l238 := own_nlt l 238 238 rfl (by omega)
  have l240 := own_nlt l 240 240 rfl (by omega)
  have l241 := own_lt l 241 241 rfl (by omega)
  have l244 := own_lt l 244 244 rfl (by omega)
  have l245 := own_lt l 245 245 rfl (by omega)
  have c1 := own_nlt (y1 &&& (255 : Int32)) 144 144 rfl h1.1
  have d1 := own_ngt (y1 &&& (255 : Int32)) 191 191 rfl h1.2
  have c2 := own_nlt (y2 &&& (255 : Int32)) 128 128 rfl h2.1
  have d2 := own_ngt (y2 &&& (255 : Int32)) 191 191 rfl h2.2
  have c3 := own_nlt (y3 &&& (255 : Int32)) 128 128 rfl h3.1
  have d3 := own_ngt (y3 &&& (255 : Int32)) 191 191 rfl h3.2
  simp only [fr3a0, tb_SEQUENCE_LENGTH, tb_SECOND_LOW, tb_SECOND_HIGH, ↓reduceIte, l128, l194, l224, l225, l237, l238, l240, l241, l244, l245, c1, d1, c2, d2, c3, d3]
  simp
theorem own_q8 (l y1 y2 y3 : Int32) (hl : 241 ≤ l.toInt ∧ l.toInt ≤ 243) (h1 : 128 ≤ (y1 &&& (255 : Int32)).toInt ∧ (y1 &&& (255 : Int32)).toInt ≤ 191) (h2 : 128 ≤ (y2 &&& (255 : Int32)).toInt ∧ (y2 &&& (255 : Int32)).toInt ≤ 191) (h3 : 128 ≤ (y3 &&& (255 : Int32)).toInt ∧ (y3 &&& (255 : Int32)).toInt ≤ 191) : fr3a0 (8 : Int32) (tb_SEQUENCE_LENGTH l) (tb_SECOND_LOW l) (tb_SECOND_HIGH l) y1 y2 y3 = 4 := by
  have l128 := own_nlt l 128 128 rfl (by omega)
  have l194 := own_nlt l 194 194 rfl (by omega)
  have l224 := own_nlt l 224 224 rfl (by omega)
  have l225 := own_nlt l 225 225 rfl (by omega)
  have l237 := own_nlt l 237 237 rfl (by omega)
  have l238 := own_nlt l 238 238 rfl (by omega)
  have l240 := own_nlt l 240 240 rfl (by omega)
  have l241 := own_nlt l 241 241 rfl (by omega)
  have l244 := own_lt l 244 244 rfl (by omega)
  have l245 := own_lt l 245 245 rfl (by omega)
  have c1 := own_nlt (y1 &&& (255 : Int32)) 128 128 rfl h1.1
  have d1 := own_ngt (y1 &&& (255 : Int32)) 191 191 rfl h1.2
  have c2 := own_nlt (y2 &&& (255 : Int32)) 128 128 rfl h2.1
  have d2 := own_ngt (y2 &&& (255 : Int32)) 191 191 rfl h2.2
  have c3 := own_nlt (y3 &&& (255 : Int32)) 128 128 rfl h3.1
  have d3 := own_ngt (y3 &&& (255 : Int32)) 191 191 rfl h3.2
  simp only [fr3a0, tb_SEQUENCE_LENGTH, tb_SECOND_LOW, tb_SECOND_HIGH, ↓reduceIte, l128, l194, l224, l225, l237, l238, l240, l241, l244, l245, c1, d1, c2, d2, c3, d3]
  simp
theorem own_q9 (l y1 y2 y3 : Int32) (hl : 244 ≤ l.toInt ∧ l.toInt ≤ 244) (h1 : 128 ≤ (y1 &&& (255 : Int32)).toInt ∧ (y1 &&& (255 : Int32)).toInt ≤ 143) (h2 : 128 ≤ (y2 &&& (255 : Int32)).toInt ∧ (y2 &&& (255 : Int32)).toInt ≤ 191) (h3 : 128 ≤ (y3 &&& (255 : Int32)).toInt ∧ (y3 &&& (255 : Int32)).toInt ≤ 191) : fr3a0 (8 : Int32) (tb_SEQUENCE_LENGTH l) (tb_SECOND_LOW l) (tb_SECOND_HIGH l) y1 y2 y3 = 4 := by
  have l128 := own_nlt l 128 128 rfl (by omega)
  have l194 := own_nlt l 194 194 rfl (by omega)
  have l224 := own_nlt l 224 224 rfl (by omega)
  have l225 := own_nlt l 225 225 rfl (by omega)
  have l237 := own_nlt l 237 237 rfl (by omega)
  have l238 := own_nlt l 238 238 rfl (by omega)
  have l240 := own_nlt l 240 240 rfl (by omega)
  have l241 := own_nlt l 241 241 rfl (by omega)
  have l244 := own_nlt l 244 244 rfl (by omega)
  have l245 := own_lt l 245 245 rfl (by omega)
  have c1 := own_nlt (y1 &&& (255 : Int32)) 128 128 rfl h1.1
  have d1 := own_ngt (y1 &&& (255 : Int32)) 143 143 rfl h1.2
  have c2 := own_nlt (y2 &&& (255 : Int32)) 128 128 rfl h2.1
  have d2 := own_ngt (y2 &&& (255 : Int32)) 191 191 rfl h2.2
  have c3 := own_nlt (y3 &&& (255 : Int32)) 128 128 rfl h3.1
  have d3 := own_ngt (y3 &&& (255 : Int32)) 191 191 rfl h3.2
  simp only [fr3a0, tb_SEQUENCE_LENGTH, tb_SECOND_LOW, tb_SECOND_HIGH, ↓reduceIte, l128, l194, l224, l225, l237, l238, l240, l241, l244, l245, c1, d1, c2, d2, c3, d3]
  simp
theorem own_z1 (s : Int32) (b : 0 ≤ s.toInt ∧ s.toInt ≤ 1114111) (n : s.toInt < 55296 ∨ 57343 < s.toInt) (r : s.toInt < 128) : fr3a0 (8 : Int32) (tb_SEQUENCE_LENGTH ((nar .byte (((0 : Int32) ||| s).toInt8.toInt32)) &&& (255 : Int32))) (tb_SECOND_LOW ((nar .byte (((0 : Int32) ||| s).toInt8.toInt32)) &&& (255 : Int32))) (tb_SECOND_HIGH ((nar .byte (((0 : Int32) ||| s).toInt8.toInt32)) &&& (255 : Int32))) (0 : Int32) (0 : Int32) (0 : Int32) = 1 := by
  have e := own_b255 ((0 : Int32) ||| s)
  rw [own_zor] at e ⊢
  have q1 : (s &&& (255 : Int32)).toInt = s.toInt % 256 := c_mask s 255 8 (by decide) (by decide)
  rw [e]
  exact own_q0 _ _ _ _ ⟨by omega, by omega⟩
theorem own_z2 (s t6 : Int32) (b : 0 ≤ s.toInt ∧ s.toInt ≤ 1114111) (n : s.toInt < 55296 ∨ 57343 < s.toInt) (r : 128 ≤ s.toInt ∧ s.toInt < 2048) (h6 : t6.toInt = s.toInt / 64) : fr3a0 (8 : Int32) (tb_SEQUENCE_LENGTH ((nar .byte (((192 : Int32) ||| t6).toInt8.toInt32)) &&& (255 : Int32))) (tb_SECOND_LOW ((nar .byte (((192 : Int32) ||| t6).toInt8.toInt32)) &&& (255 : Int32))) (tb_SECOND_HIGH ((nar .byte (((192 : Int32) ||| t6).toInt8.toInt32)) &&& (255 : Int32))) (nar .byte (((128 : Int32) ||| (s &&& (63 : Int32))).toInt8.toInt32)) (0 : Int32) (0 : Int32) = 2 := by
  have a := own_m192 t6 (by omega)
  have c := own_m128 s
  exact own_q2 _ _ _ _ (by omega) (by omega)
theorem own_z3 (s t6 t12 : Int32) (b : 0 ≤ s.toInt ∧ s.toInt ≤ 1114111) (n : s.toInt < 55296 ∨ 57343 < s.toInt) (r : 2048 ≤ s.toInt ∧ s.toInt < 65536) (h6 : t6.toInt = s.toInt / 64) (h12 : t12.toInt = s.toInt / 4096) : fr3a0 (8 : Int32) (tb_SEQUENCE_LENGTH ((nar .byte (((224 : Int32) ||| t12).toInt8.toInt32)) &&& (255 : Int32))) (tb_SECOND_LOW ((nar .byte (((224 : Int32) ||| t12).toInt8.toInt32)) &&& (255 : Int32))) (tb_SECOND_HIGH ((nar .byte (((224 : Int32) ||| t12).toInt8.toInt32)) &&& (255 : Int32))) (nar .byte (((128 : Int32) ||| (t6 &&& (63 : Int32))).toInt8.toInt32)) (nar .byte (((128 : Int32) ||| (s &&& (63 : Int32))).toInt8.toInt32)) (0 : Int32) = 3 := by
  have a := own_m224 t12 (by omega)
  have c := own_m128 t6
  have d := own_m128 s
  have q : t12.toInt = 0 ∨ (1 ≤ t12.toInt ∧ t12.toInt ≤ 12) ∨ t12.toInt = 13 ∨ (14 ≤ t12.toInt ∧ t12.toInt ≤ 15) := by omega
  rcases q with q | q | q | q
  · exact own_q3 _ _ _ _ (by omega) (by omega) (by omega)
  · exact own_q4 _ _ _ _ (by omega) (by omega) (by omega)
  · exact own_q5 _ _ _ _ (by omega) (by omega) (by omega)
  · exact own_q6 _ _ _ _ (by omega) (by omega) (by omega)
theorem own_z4 (s t6 t12 t18 : Int32) (b : 0 ≤ s.toInt ∧ s.toInt ≤ 1114111) (n : s.toInt < 55296 ∨ 57343 < s.toInt) (r : 65536 ≤ s.toInt) (h6 : t6.toInt = s.toInt / 64) (h12 : t12.toInt = s.toInt / 4096) (h18 : t18.toInt = s.toInt / 262144) : fr3a0 (8 : Int32) (tb_SEQUENCE_LENGTH ((nar .byte (((240 : Int32) ||| t18).toInt8.toInt32)) &&& (255 : Int32))) (tb_SECOND_LOW ((nar .byte (((240 : Int32) ||| t18).toInt8.toInt32)) &&& (255 : Int32))) (tb_SECOND_HIGH ((nar .byte (((240 : Int32) ||| t18).toInt8.toInt32)) &&& (255 : Int32))) (nar .byte (((128 : Int32) ||| (t12 &&& (63 : Int32))).toInt8.toInt32)) (nar .byte (((128 : Int32) ||| (t6 &&& (63 : Int32))).toInt8.toInt32)) (nar .byte (((128 : Int32) ||| (s &&& (63 : Int32))).toInt8.toInt32)) = 4 := by
  have a := own_m240 t18 (by omega)
  have c := own_m128 t12
  have d := own_m128 t6
  have f := own_m128 s
  have q : t18.toInt = 0 ∨ (1 ≤ t18.toInt ∧ t18.toInt ≤ 3) ∨ t18.toInt = 4 := by omega
  rcases q with q | q | q
  · exact own_q7 _ _ _ _ (by omega) (by omega) (by omega) (by omega)
  · exact own_q8 _ _ _ _ (by omega) (by omega) (by omega) (by omega)
  · exact own_q9 _ _ _ _ (by omega) (by omega) (by omega) (by omega)
theorem own_len4 (x : Int32) : fr1 x = 1 ∨ fr1 x = 2 ∨ fr1 x = 3 ∨ fr1 x = 4 := by
  rcases own_fr x with ⟨_, z⟩ | ⟨_, _, z⟩ | ⟨_, _, z⟩ | ⟨_, z⟩
  · exact Or.inl z
  · exact Or.inr (Or.inl z)
  · exact Or.inr (Or.inr (Or.inl z))
  · exact Or.inr (Or.inr (Or.inr z))
theorem law0_48 (pi0 : Int32) (pi1 : Int32) (x1 : Int32) (x4 : Int32) (x34 : Int32) (x39 : Int32) (hx1 : x1 = ((((pi0 &&& (2147483647 : Int32)) % (1114112 : Int32)).toUInt32 >>> ((pi1 &&& (15 : Int32)) &&& 31).toUInt32).toInt32)) (hx4 : x4 = (if x1 < (55296 : Int32) then x1 else (if (57343 : Int32) < x1 then x1 else (x1 ^^^ (2048 : Int32))))) (hx34 : x34 = (nar .byte (((0 : Int32) ||| x4).toInt8.toInt32))) (hx39 : x39 = (fr3a0 (8 : Int32) (tb_SEQUENCE_LENGTH (x34 &&& (255 : Int32))) (tb_SECOND_LOW (x34 &&& (255 : Int32))) (tb_SECOND_HIGH (x34 &&& (255 : Int32))) (0 : Int32) (0 : Int32) (0 : Int32))) (hx16 : (1 : Int32) = (fr1 x4)) : x39 = (1 : Int32) := by
  have B : 0 ≤ x4.toInt ∧ x4.toInt ≤ 1114111 ∧ (x4.toInt < 55296 ∨ 57343 < x4.toInt) := by rw [hx4]; exact own_x4 (by rw [hx1]; exact own_x1 _ _)
  have R := own_fr1 hx16
  clear hx4 hx1 hx16
  subst hx34 hx39
  exact own_z1 x4  ⟨B.1, B.2.1⟩ B.2.2 R 
theorem law0_51 (pi0 : Int32) (pi1 : Int32) (x1 : Int32) (x4 : Int32) (x34 : Int32) (x44 : Int32) (hx1 : x1 = ((((pi0 &&& (2147483647 : Int32)) % (1114112 : Int32)).toUInt32 >>> ((pi1 &&& (15 : Int32)) &&& 31).toUInt32).toInt32)) (hx4 : x4 = (if x1 < (55296 : Int32) then x1 else (if (57343 : Int32) < x1 then x1 else (x1 ^^^ (2048 : Int32))))) (hx34 : x34 = (nar .byte (((0 : Int32) ||| x4).toInt8.toInt32))) (hx44 : x44 = (x34 &&& (127 : Int32))) (hx16 : (1 : Int32) = (fr1 x4)) : x44 = x4 := by
  have B : 0 ≤ x4.toInt ∧ x4.toInt ≤ 1114111 ∧ (x4.toInt < 55296 ∨ 57343 < x4.toInt) := by rw [hx4]; exact own_x4 (by rw [hx1]; exact own_x1 _ _)
  have R := own_fr1 hx16
  clear hx4 hx1 hx16
  subst hx34 hx44
  rw [own_zor]
  exact own_v1 x4 ⟨B.1, R⟩
theorem law0_78 (pi0 : Int32) (pi1 : Int32) (x1 : Int32) (x4 : Int32) (x63 : Int32) (x64 : Int32) (x69 : Int32) (hx1 : x1 = ((((pi0 &&& (2147483647 : Int32)) % (1114112 : Int32)).toUInt32 >>> ((pi1 &&& (15 : Int32)) &&& 31).toUInt32).toInt32)) (hx4 : x4 = (if x1 < (55296 : Int32) then x1 else (if (57343 : Int32) < x1 then x1 else (x1 ^^^ (2048 : Int32))))) (hx63 : x63 = (nar .byte (((192 : Int32) ||| ((x4.toUInt32 >>> ((6 : Int32) &&& 31).toUInt32).toInt32)).toInt8.toInt32))) (hx64 : x64 = (nar .byte (((128 : Int32) ||| (x4 &&& (63 : Int32))).toInt8.toInt32))) (hx69 : x69 = (fr3a0 (8 : Int32) (tb_SEQUENCE_LENGTH (x63 &&& (255 : Int32))) (tb_SECOND_LOW (x63 &&& (255 : Int32))) (tb_SECOND_HIGH (x63 &&& (255 : Int32))) x64 (0 : Int32) (0 : Int32))) (hx16 : (2 : Int32) = (fr1 x4)) : x69 = (2 : Int32) := by
  have B : 0 ≤ x4.toInt ∧ x4.toInt ≤ 1114111 ∧ (x4.toInt < 55296 ∨ 57343 < x4.toInt) := by rw [hx4]; exact own_x4 (by rw [hx1]; exact own_x1 _ _)
  have R := own_fr2 hx16
  clear hx4 hx1 hx16
  have h6 : ((x4.toUInt32 >>> ((6 : Int32) &&& 31).toUInt32).toInt32).toInt = x4.toInt / 64 := (own_u6 _ (by omega)).trans (by omega)
  subst hx63 hx64 hx69
  exact own_z2 x4 _ ⟨B.1, B.2.1⟩ B.2.2 R h6
theorem law0_81 (pi0 : Int32) (pi1 : Int32) (x1 : Int32) (x4 : Int32) (x63 : Int32) (x64 : Int32) (x74 : Int32) (hx1 : x1 = ((((pi0 &&& (2147483647 : Int32)) % (1114112 : Int32)).toUInt32 >>> ((pi1 &&& (15 : Int32)) &&& 31).toUInt32).toInt32)) (hx4 : x4 = (if x1 < (55296 : Int32) then x1 else (if (57343 : Int32) < x1 then x1 else (x1 ^^^ (2048 : Int32))))) (hx63 : x63 = (nar .byte (((192 : Int32) ||| ((x4.toUInt32 >>> ((6 : Int32) &&& 31).toUInt32).toInt32)).toInt8.toInt32))) (hx64 : x64 = (nar .byte (((128 : Int32) ||| (x4 &&& (63 : Int32))).toInt8.toInt32))) (hx74 : x74 = (((x63 &&& (31 : Int32)) <<< ((6 : Int32) &&& 31)) ||| (x64 &&& (63 : Int32)))) (hx16 : (2 : Int32) = (fr1 x4)) : x74 = x4 := by
  have B : 0 ≤ x4.toInt ∧ x4.toInt ≤ 1114111 ∧ (x4.toInt < 55296 ∨ 57343 < x4.toInt) := by rw [hx4]; exact own_x4 (by rw [hx1]; exact own_x1 _ _)
  have R := own_fr2 hx16
  clear hx4 hx1 hx16
  have h6 : ((x4.toUInt32 >>> ((6 : Int32) &&& 31).toUInt32).toInt32).toInt = x4.toInt / 64 := (own_u6 _ (by omega)).trans (by omega)
  subst hx63 hx64 hx74
  exact own_w2 x4 _ ⟨B.1, by omega⟩ h6
theorem law0_109 (pi0 : Int32) (pi1 : Int32) (x1 : Int32) (x4 : Int32) (x93 : Int32) (x94 : Int32) (x95 : Int32) (x100 : Int32) (hx1 : x1 = ((((pi0 &&& (2147483647 : Int32)) % (1114112 : Int32)).toUInt32 >>> ((pi1 &&& (15 : Int32)) &&& 31).toUInt32).toInt32)) (hx4 : x4 = (if x1 < (55296 : Int32) then x1 else (if (57343 : Int32) < x1 then x1 else (x1 ^^^ (2048 : Int32))))) (hx93 : x93 = (nar .byte (((224 : Int32) ||| ((((x4.toUInt32 >>> ((6 : Int32) &&& 31).toUInt32).toInt32).toUInt32 >>> ((6 : Int32) &&& 31).toUInt32).toInt32)).toInt8.toInt32))) (hx94 : x94 = (nar .byte (((128 : Int32) ||| (((x4.toUInt32 >>> ((6 : Int32) &&& 31).toUInt32).toInt32) &&& (63 : Int32))).toInt8.toInt32))) (hx95 : x95 = (nar .byte (((128 : Int32) ||| (x4 &&& (63 : Int32))).toInt8.toInt32))) (hx100 : x100 = (fr3a0 (8 : Int32) (tb_SEQUENCE_LENGTH (x93 &&& (255 : Int32))) (tb_SECOND_LOW (x93 &&& (255 : Int32))) (tb_SECOND_HIGH (x93 &&& (255 : Int32))) x94 x95 (0 : Int32))) (hx16 : (3 : Int32) = (fr1 x4)) : x100 = (3 : Int32) := by
  have B : 0 ≤ x4.toInt ∧ x4.toInt ≤ 1114111 ∧ (x4.toInt < 55296 ∨ 57343 < x4.toInt) := by rw [hx4]; exact own_x4 (by rw [hx1]; exact own_x1 _ _)
  have R := own_fr3 hx16
  clear hx4 hx1 hx16
  have h6 : ((x4.toUInt32 >>> ((6 : Int32) &&& 31).toUInt32).toInt32).toInt = x4.toInt / 64 := (own_u6 _ (by omega)).trans (by omega)
  have h12 : ((((x4.toUInt32 >>> ((6 : Int32) &&& 31).toUInt32).toInt32).toUInt32 >>> ((6 : Int32) &&& 31).toUInt32).toInt32).toInt = x4.toInt / 4096 := (own_u6 _ (by omega)).trans (by omega)
  subst hx93 hx94 hx95 hx100
  exact own_z3 x4 _ _ ⟨B.1, B.2.1⟩ B.2.2 R h6 h12
theorem law0_112 (pi0 : Int32) (pi1 : Int32) (x1 : Int32) (x4 : Int32) (x93 : Int32) (x94 : Int32) (x95 : Int32) (x105 : Int32) (hx1 : x1 = ((((pi0 &&& (2147483647 : Int32)) % (1114112 : Int32)).toUInt32 >>> ((pi1 &&& (15 : Int32)) &&& 31).toUInt32).toInt32)) (hx4 : x4 = (if x1 < (55296 : Int32) then x1 else (if (57343 : Int32) < x1 then x1 else (x1 ^^^ (2048 : Int32))))) (hx93 : x93 = (nar .byte (((224 : Int32) ||| ((((x4.toUInt32 >>> ((6 : Int32) &&& 31).toUInt32).toInt32).toUInt32 >>> ((6 : Int32) &&& 31).toUInt32).toInt32)).toInt8.toInt32))) (hx94 : x94 = (nar .byte (((128 : Int32) ||| (((x4.toUInt32 >>> ((6 : Int32) &&& 31).toUInt32).toInt32) &&& (63 : Int32))).toInt8.toInt32))) (hx95 : x95 = (nar .byte (((128 : Int32) ||| (x4 &&& (63 : Int32))).toInt8.toInt32))) (hx105 : x105 = (((((x93 &&& (15 : Int32)) <<< ((6 : Int32) &&& 31)) ||| (x94 &&& (63 : Int32))) <<< ((6 : Int32) &&& 31)) ||| (x95 &&& (63 : Int32)))) (hx16 : (3 : Int32) = (fr1 x4)) : x105 = x4 := by
  have B : 0 ≤ x4.toInt ∧ x4.toInt ≤ 1114111 ∧ (x4.toInt < 55296 ∨ 57343 < x4.toInt) := by rw [hx4]; exact own_x4 (by rw [hx1]; exact own_x1 _ _)
  have R := own_fr3 hx16
  clear hx4 hx1 hx16
  have h6 : ((x4.toUInt32 >>> ((6 : Int32) &&& 31).toUInt32).toInt32).toInt = x4.toInt / 64 := (own_u6 _ (by omega)).trans (by omega)
  have h12 : ((((x4.toUInt32 >>> ((6 : Int32) &&& 31).toUInt32).toInt32).toUInt32 >>> ((6 : Int32) &&& 31).toUInt32).toInt32).toInt = x4.toInt / 4096 := (own_u6 _ (by omega)).trans (by omega)
  subst hx93 hx94 hx95 hx105
  exact own_w3 x4 _ _ ⟨B.1, by omega⟩ h6 h12
theorem law0_141 (pi0 : Int32) (pi1 : Int32) (x1 : Int32) (x4 : Int32) (x124 : Int32) (x125 : Int32) (x126 : Int32) (x127 : Int32) (x132 : Int32) (hx1 : x1 = ((((pi0 &&& (2147483647 : Int32)) % (1114112 : Int32)).toUInt32 >>> ((pi1 &&& (15 : Int32)) &&& 31).toUInt32).toInt32)) (hx4 : x4 = (if x1 < (55296 : Int32) then x1 else (if (57343 : Int32) < x1 then x1 else (x1 ^^^ (2048 : Int32))))) (hx124 : x124 = (nar .byte (((240 : Int32) ||| ((((((x4.toUInt32 >>> ((6 : Int32) &&& 31).toUInt32).toInt32).toUInt32 >>> ((6 : Int32) &&& 31).toUInt32).toInt32).toUInt32 >>> ((6 : Int32) &&& 31).toUInt32).toInt32)).toInt8.toInt32))) (hx125 : x125 = (nar .byte (((128 : Int32) ||| (((((x4.toUInt32 >>> ((6 : Int32) &&& 31).toUInt32).toInt32).toUInt32 >>> ((6 : Int32) &&& 31).toUInt32).toInt32) &&& (63 : Int32))).toInt8.toInt32))) (hx126 : x126 = (nar .byte (((128 : Int32) ||| (((x4.toUInt32 >>> ((6 : Int32) &&& 31).toUInt32).toInt32) &&& (63 : Int32))).toInt8.toInt32))) (hx127 : x127 = (nar .byte (((128 : Int32) ||| (x4 &&& (63 : Int32))).toInt8.toInt32))) (hx132 : x132 = (fr3a0 (8 : Int32) (tb_SEQUENCE_LENGTH (x124 &&& (255 : Int32))) (tb_SECOND_LOW (x124 &&& (255 : Int32))) (tb_SECOND_HIGH (x124 &&& (255 : Int32))) x125 x126 x127)) (hx16 : (4 : Int32) = (fr1 x4)) : x132 = (4 : Int32) := by
  have B : 0 ≤ x4.toInt ∧ x4.toInt ≤ 1114111 ∧ (x4.toInt < 55296 ∨ 57343 < x4.toInt) := by rw [hx4]; exact own_x4 (by rw [hx1]; exact own_x1 _ _)
  have R := own_fr4 hx16
  clear hx4 hx1 hx16
  have h6 : ((x4.toUInt32 >>> ((6 : Int32) &&& 31).toUInt32).toInt32).toInt = x4.toInt / 64 := (own_u6 _ (by omega)).trans (by omega)
  have h12 : ((((x4.toUInt32 >>> ((6 : Int32) &&& 31).toUInt32).toInt32).toUInt32 >>> ((6 : Int32) &&& 31).toUInt32).toInt32).toInt = x4.toInt / 4096 := (own_u6 _ (by omega)).trans (by omega)
  have h18 : ((((((x4.toUInt32 >>> ((6 : Int32) &&& 31).toUInt32).toInt32).toUInt32 >>> ((6 : Int32) &&& 31).toUInt32).toInt32).toUInt32 >>> ((6 : Int32) &&& 31).toUInt32).toInt32).toInt = x4.toInt / 262144 := (own_u6 _ (by omega)).trans (by omega)
  subst hx124 hx125 hx126 hx127 hx132
  exact own_z4 x4 _ _ _ ⟨B.1, B.2.1⟩ B.2.2 R h6 h12 h18
theorem law0_144 (pi0 : Int32) (pi1 : Int32) (x1 : Int32) (x4 : Int32) (x124 : Int32) (x125 : Int32) (x126 : Int32) (x127 : Int32) (x137 : Int32) (hx1 : x1 = ((((pi0 &&& (2147483647 : Int32)) % (1114112 : Int32)).toUInt32 >>> ((pi1 &&& (15 : Int32)) &&& 31).toUInt32).toInt32)) (hx4 : x4 = (if x1 < (55296 : Int32) then x1 else (if (57343 : Int32) < x1 then x1 else (x1 ^^^ (2048 : Int32))))) (hx124 : x124 = (nar .byte (((240 : Int32) ||| ((((((x4.toUInt32 >>> ((6 : Int32) &&& 31).toUInt32).toInt32).toUInt32 >>> ((6 : Int32) &&& 31).toUInt32).toInt32).toUInt32 >>> ((6 : Int32) &&& 31).toUInt32).toInt32)).toInt8.toInt32))) (hx125 : x125 = (nar .byte (((128 : Int32) ||| (((((x4.toUInt32 >>> ((6 : Int32) &&& 31).toUInt32).toInt32).toUInt32 >>> ((6 : Int32) &&& 31).toUInt32).toInt32) &&& (63 : Int32))).toInt8.toInt32))) (hx126 : x126 = (nar .byte (((128 : Int32) ||| (((x4.toUInt32 >>> ((6 : Int32) &&& 31).toUInt32).toInt32) &&& (63 : Int32))).toInt8.toInt32))) (hx127 : x127 = (nar .byte (((128 : Int32) ||| (x4 &&& (63 : Int32))).toInt8.toInt32))) (hx137 : x137 = (((((((x124 &&& (7 : Int32)) <<< ((6 : Int32) &&& 31)) ||| (x125 &&& (63 : Int32))) <<< ((6 : Int32) &&& 31)) ||| (x126 &&& (63 : Int32))) <<< ((6 : Int32) &&& 31)) ||| (x127 &&& (63 : Int32)))) (hx16 : (4 : Int32) = (fr1 x4)) : x137 = x4 := by
  have B : 0 ≤ x4.toInt ∧ x4.toInt ≤ 1114111 ∧ (x4.toInt < 55296 ∨ 57343 < x4.toInt) := by rw [hx4]; exact own_x4 (by rw [hx1]; exact own_x1 _ _)
  have R := own_fr4 hx16
  clear hx4 hx1 hx16
  have h6 : ((x4.toUInt32 >>> ((6 : Int32) &&& 31).toUInt32).toInt32).toInt = x4.toInt / 64 := (own_u6 _ (by omega)).trans (by omega)
  have h12 : ((((x4.toUInt32 >>> ((6 : Int32) &&& 31).toUInt32).toInt32).toUInt32 >>> ((6 : Int32) &&& 31).toUInt32).toInt32).toInt = x4.toInt / 4096 := (own_u6 _ (by omega)).trans (by omega)
  have h18 : ((((((x4.toUInt32 >>> ((6 : Int32) &&& 31).toUInt32).toInt32).toUInt32 >>> ((6 : Int32) &&& 31).toUInt32).toInt32).toUInt32 >>> ((6 : Int32) &&& 31).toUInt32).toInt32).toInt = x4.toInt / 262144 := (own_u6 _ (by omega)).trans (by omega)
  subst hx124 hx125 hx126 hx127 hx137
  exact own_w4 x4 _ _ _ ⟨B.1, by omega⟩ h6 h12 h18
theorem pn_com_example_strict_codec_strictcodec_Utf8GrammarScalarLengthPinLaw : plainName "com/example/strict_codec/strictcodec/Utf8GrammarScalarLengthPinLaw" = true := by first | (simp [plainName, overriddenIn]; done) | decide +kernel
theorem pd___BII_I : parseMethodDescriptor "([BII)I" = some ⟨[(.array .byte), .int, .int], some .int⟩ := by decide +kernel
theorem ef_0 (m : MethodId) (x0 : Int32) (x1 : Int32) : entryFrame m #[(.int x0), (.int x1)] maxLocals = mkF m 0 #[iv x0, iv x1, .unset, .unset, .unset, .unset, .unset, .unset] [] := by first | (simp [entryFrame, mkF, argsToLocals, Value.category, maxLocals]; done) | rfl
def Q0 (Z : State) (pi0 : Int32) (pi1 : Int32) (w_SEQUENCE_LENGTH : Addr) (w_SECOND_LOW : Addr) (w_SECOND_HIGH : Addr) (w_LEAD_MARK : Addr) (w_LEAD_PAYLOAD : Addr) (cc_w_SEQUENCE_LENGTH : Cell) (cc_w_SECOND_LOW : Cell) (cc_w_SECOND_HIGH : Cell) (cc_w_LEAD_MARK : Cell) (cc_w_LEAD_PAYLOAD : Cell) (h0 : Heap) (n0 : Nat) (v : Option Value) (h : Heap) (L : List Loc) : Prop := v = some (.int (1 : Int32)) ∧ Fr n0 L
set_option maxRecDepth 65536 in
set_option maxHeartbeats 40000000 in
theorem rm0 (l : Launch) (Z : State) (a0 : Array Value) (hw : ∀ d ∈ tables_1, d.before a0 Z = true) (ws : List Jvm.Cond) (pi0 : Int32) (pi1 : Int32) (w_SEQUENCE_LENGTH : Addr) (w_SECOND_LOW : Addr) (w_SECOND_HIGH : Addr) (w_LEAD_MARK : Addr) (w_LEAD_PAYLOAD : Addr) (cc_w_SEQUENCE_LENGTH : Cell) (cc_w_SECOND_LOW : Cell) (cc_w_SECOND_HIGH : Cell) (cc_w_LEAD_MARK : Cell) (cc_w_LEAD_PAYLOAD : Cell) (h0 : Heap) (n0 : Nat) (O0 : Old Z n0 h0) (S_SEQUENCE_LENGTH : Sta Z Z.heap "com/example/strict_codec/strictcodec/Utf8Grammar" "SEQUENCE_LENGTH" "[B" (.ref w_SEQUENCE_LENGTH)) (S_SECOND_LOW : Sta Z Z.heap "com/example/strict_codec/strictcodec/Utf8Grammar" "SECOND_LOW" "[I" (.ref w_SECOND_LOW)) (S_SECOND_HIGH : Sta Z Z.heap "com/example/strict_codec/strictcodec/Utf8Grammar" "SECOND_HIGH" "[I" (.ref w_SECOND_HIGH)) (S_LEAD_MARK : Sta Z Z.heap "com/example/strict_codec/strictcodec/Utf8Grammar" "LEAD_MARK" "[I" (.ref w_LEAD_MARK)) (S_LEAD_PAYLOAD : Sta Z Z.heap "com/example/strict_codec/strictcodec/Utf8Grammar" "LEAD_PAYLOAD" "[I" (.ref w_LEAD_PAYLOAD)) (TB_SEQUENCE_LENGTH : ∀ j : Int32, ¬ j < 0 → j < (256 : Int32) → ¬ (j < 0 ∨ cc_w_SEQUENCE_LENGTH.slots.size ≤ j.toNatClampNeg) ∧ cc_w_SEQUENCE_LENGTH.slots[j.toNatClampNeg]? = some (.int (tb_SEQUENCE_LENGTH j))) (TB_SECOND_LOW : ∀ j : Int32, ¬ j < 0 → j < (256 : Int32) → ¬ (j < 0 ∨ cc_w_SECOND_LOW.slots.size ≤ j.toNatClampNeg) ∧ cc_w_SECOND_LOW.slots[j.toNatClampNeg]? = some (.int (tb_SECOND_LOW j))) (TB_SECOND_HIGH : ∀ j : Int32, ¬ j < 0 → j < (256 : Int32) → ¬ (j < 0 ∨ cc_w_SECOND_HIGH.slots.size ≤ j.toNatClampNeg) ∧ cc_w_SECOND_HIGH.slots[j.toNatClampNeg]? = some (.int (tb_SECOND_HIGH j))) (AR_w_SEQUENCE_LENGTH : Arr Z Z.heap w_SEQUENCE_LENGTH cc_w_SEQUENCE_LENGTH .byte) (AR_w_SECOND_LOW : Arr Z Z.heap w_SECOND_LOW cc_w_SECOND_LOW .int) (AR_w_SECOND_HIGH : Arr Z Z.heap w_SECOND_HIGH cc_w_SECOND_HIGH .int) (AR_w_LEAD_MARK : Arr Z Z.heap w_LEAD_MARK cc_w_LEAD_MARK .int) (IN1_w_LEAD_MARK : ¬ ((1 : Int32) < 0 ∨ cc_w_LEAD_MARK.slots.size ≤ (1 : Int32).toNatClampNeg)) (AT1_w_LEAD_MARK : cc_w_LEAD_MARK.slots[(1 : Int32).toNatClampNeg]? = some (.int (0 : Int32))) (IN2_w_LEAD_MARK : ¬ ((2 : Int32) < 0 ∨ cc_w_LEAD_MARK.slots.size ≤ (2 : Int32).toNatClampNeg)) (AT2_w_LEAD_MARK : cc_w_LEAD_MARK.slots[(2 : Int32).toNatClampNeg]? = some (.int (192 : Int32))) (IN3_w_LEAD_MARK : ¬ ((3 : Int32) < 0 ∨ cc_w_LEAD_MARK.slots.size ≤ (3 : Int32).toNatClampNeg)) (AT3_w_LEAD_MARK : cc_w_LEAD_MARK.slots[(3 : Int32).toNatClampNeg]? = some (.int (224 : Int32))) (IN4_w_LEAD_MARK : ¬ ((4 : Int32) < 0 ∨ cc_w_LEAD_MARK.slots.size ≤ (4 : Int32).toNatClampNeg)) (AT4_w_LEAD_MARK : cc_w_LEAD_MARK.slots[(4 : Int32).toNatClampNeg]? = some (.int (240 : Int32))) (AR_w_LEAD_PAYLOAD : Arr Z Z.heap w_LEAD_PAYLOAD cc_w_LEAD_PAYLOAD .int) (IN1_w_LEAD_PAYLOAD : ¬ ((1 : Int32) < 0 ∨ cc_w_LEAD_PAYLOAD.slots.size ≤ (1 : Int32).toNatClampNeg)) (AT1_w_LEAD_PAYLOAD : cc_w_LEAD_PAYLOAD.slots[(1 : Int32).toNatClampNeg]? = some (.int (127 : Int32))) (IN2_w_LEAD_PAYLOAD : ¬ ((2 : Int32) < 0 ∨ cc_w_LEAD_PAYLOAD.slots.size ≤ (2 : Int32).toNatClampNeg)) (AT2_w_LEAD_PAYLOAD : cc_w_LEAD_PAYLOAD.slots[(2 : Int32).toNatClampNeg]? = some (.int (31 : Int32))) (IN3_w_LEAD_PAYLOAD : ¬ ((3 : Int32) < 0 ∨ cc_w_LEAD_PAYLOAD.slots.size ≤ (3 : Int32).toNatClampNeg)) (AT3_w_LEAD_PAYLOAD : cc_w_LEAD_PAYLOAD.slots[(3 : Int32).toNatClampNeg]? = some (.int (15 : Int32))) (IN4_w_LEAD_PAYLOAD : ¬ ((4 : Int32) < 0 ∨ cc_w_LEAD_PAYLOAD.slots.size ≤ (4 : Int32).toNatClampNeg)) (AT4_w_LEAD_PAYLOAD : cc_w_LEAD_PAYLOAD.slots[(4 : Int32).toNatClampNeg]? = some (.int (7 : Int32))) :
    MetFree l x (head1 (Jvm.Cond.code x code maxLocals ret :: ws) room_1) (fun a U => a = #[(.int pi0), (.int pi1)] ∧ Z.Warmed39 U.vm ∧ U.heap = h0) (fun _ _ _ _ _ => True) (fun _ U o U' => ∃ v L, o = .returned v ∧ Q0 Z pi0 pi1 w_SEQUENCE_LENGTH w_SECOND_LOW w_SECOND_HIGH w_LEAD_MARK w_LEAD_PAYLOAD cc_w_SEQUENCE_LENGTH cc_w_SECOND_LOW cc_w_SECOND_HIGH cc_w_LEAD_MARK cc_w_LEAD_PAYLOAD h0 n0 v U'.heap L ∧ FrameEnd U o U' L room_1.cells room_1.slots) := by
  refine MetFree.of_bodySF (plainFor_of_name pn_com_example_strict_codec_strictcodec_Utf8GrammarScalarLengthPinLaw) hisR ?_
  intro p e s m args below meth c s₁ Bd hml0 hP hK
  obtain ⟨rfl, hZ, hh⟩ := hP
  have hx := Bd.exec
  have hby := Bd.bytes
  have hml : c.maxLocals = 8 := hml0
  have hown : s.vm.findClass "com/example/strict_codec/strictcodec/Utf8GrammarScalarLengthPinLaw" = some m.cls := findClass_of_methodNamed Bd.named
  have hnm := (name_of_methodNamed Bd.named Bd.method).1
  have X0 : Stand p l e room_1 s m #[(.int pi0), (.int pi1)] below meth c s₁ [] 0 0 := Stand.of_body Bd
  have e0 : s₁.heap = h0 := by rw [← hh, Bd.state]; rfl
  have N0 := Fr.nil n0
  obtain ⟨Go, hGo⟩ : ∃ P : State → Prop, ∀ t, P t ↔ Steps p.tables e below (s₁.setTop (entryFrame m #[(.int pi0), (.int pi1)] maxLocals)) t := ⟨_, fun _ => Iff.rfl⟩
  have pre0 : ∀ t, Steps p.tables e below (s₁.setTop (mkF m 0 #[iv pi0, iv pi1, .unset, .unset, .unset, .unset, .unset, .unset] [])) t → Go t := fun t k => (hGo t).mpr (castTop (ef_0 m pi0 pi1) k)
  obtain ⟨x1, hx1⟩ : ∃ z : Int32, z = ((((pi0 &&& (2147483647 : Int32)) % (1114112 : Int32)).toUInt32 >>> ((pi1 &&& (15 : Int32)) &&& 31).toUInt32).toInt32) := ⟨_, rfl⟩
  have pre2 : ∀ t, Steps p.tables e below (s₁.setTop (mkF m 13 #[iv pi0, iv pi1, iv x1, .unset, .unset, .unset, .unset, .unset] [])) t → Go t := fun t kt => pre0 t (by
      subst hx1
      refine y_iloadN X0.here hx (hb hby at_0) rfl (pc' := 1) rfl ?_
      refine X0.ldcInt hx hown (mvT hZ (hw _ (List.mem_of_getElem? (i := 0) rfl))) (g := (mkF m 1 #[iv pi0, iv pi1, .unset, .unset, .unset, .unset, .unset, .unset] [(.int pi0)])) rfl (hb hby at_1) _ ?_
      show Steps p.tables e below (s₁.setTop (mkF m 3 #[iv pi0, iv pi1, .unset, .unset, .unset, .unset, .unset, .unset] [(.int (2147483647 : Int32)), (.int pi0)])) _
      refine y_iand X0.here hx (hb hby at_3) rfl (pc' := 4) rfl ?_
      refine X0.ldcInt hx hown (mvT hZ (hw _ (List.mem_of_getElem? (i := 1) rfl))) (g := (mkF m 4 #[iv pi0, iv pi1, .unset, .unset, .unset, .unset, .unset, .unset] [(.int (pi0 &&& (2147483647 : Int32)))])) rfl (hb hby at_4) _ ?_
      show Steps p.tables e below (s₁.setTop (mkF m 6 #[iv pi0, iv pi1, .unset, .unset, .unset, .unset, .unset, .unset] [(.int (1114112 : Int32)), (.int (pi0 &&& (2147483647 : Int32)))])) _
      refine iremM (g := (mkF m 6 #[iv pi0, iv pi1, .unset, .unset, .unset, .unset, .unset, .unset] [(.int (1114112 : Int32)), (.int (pi0 &&& (2147483647 : Int32)))])) X0 hx rfl (hb hby at_6) rfl (by decide) ?_
      show Steps p.tables e below (s₁.setTop (mkF m 7 #[iv pi0, iv pi1, .unset, .unset, .unset, .unset, .unset, .unset] [(.int ((pi0 &&& (2147483647 : Int32)) % (1114112 : Int32)))])) _
      refine y_iloadN X0.here hx (hb hby at_7) rfl (pc' := 8) rfl ?_
      refine y_bipush X0.here hx (hb hby at_8) (v := (15 : Int32)) rfl (pc' := 10) rfl ?_
      refine y_iand X0.here hx (hb hby at_10) rfl (pc' := 11) rfl ?_
      refine y_iushr X0.here hx (hb hby at_11) (z := ((((pi0 &&& (2147483647 : Int32)) % (1114112 : Int32)).toUInt32 >>> ((pi1 &&& (15 : Int32)) &&& 31).toUInt32).toInt32)) rfl (pc' := 12) rfl ?_
      refine y_istoreN X0.here hx (hb hby at_12) (l' := #[iv pi0, iv pi1, iv ((((pi0 &&& (2147483647 : Int32)) % (1114112 : Int32)).toUInt32 >>> ((pi1 &&& (15 : Int32)) &&& 31).toUInt32).toInt32), .unset, .unset, .unset, .unset, .unset]) rfl (pc' := 13) rfl ?_
      exact kt)
  have pre3 : ∀ t, Steps p.tables e below (s₁.setTop (mkF m 16 #[iv pi0, iv pi1, iv x1, .unset, .unset, .unset, .unset, .unset] [(.int (55296 : Int32)), (.int x1)])) t → Go t := fun t kt => pre2 t (by
      refine y_iloadN X0.here hx (hb hby at_13) rfl (pc' := 14) rfl ?_
      refine X0.ldcInt hx hown (mvT hZ (hw _ (List.mem_of_getElem? (i := 2) rfl))) (g := (mkF m 14 #[iv pi0, iv pi1, iv x1, .unset, .unset, .unset, .unset, .unset] [(.int x1)])) rfl (hb hby at_14) _ ?_
      show Steps p.tables e below (s₁.setTop (mkF m 16 #[iv pi0, iv pi1, iv x1, .unset, .unset, .unset, .unset, .unset] [(.int (55296 : Int32)), (.int x1)])) _
      exact kt)
  obtain ⟨x4, hx4⟩ : ∃ z : Int32, z = (if x1 < (55296 : Int32) then x1 else (if (57343 : Int32) < x1 then x1 else (x1 ^^^ (2048 : Int32)))) := ⟨_, rfl⟩
  obtain ⟨T5, ⟨X5, q5⟩, st5⟩ : ∃ T', Nx X0 T' ∧ ∀ t, Steps p.tables e below (T'.setTop (mkF m 31 #[iv pi0, iv pi1, iv x4, .unset, .unset, .unset, .unset, .unset] [])) t → Steps p.tables e below (s₁.setTop (mkF m 16 #[iv pi0, iv pi1, iv x1, .unset, .unset, .unset, .unset, .unset] [(.int (55296 : Int32)), (.int x1)])) t := by
    have pre5_ : ∀ t, Steps p.tables e below (s₁.setTop (mkF m 16 #[iv pi0, iv pi1, iv x1, .unset, .unset, .unset, .unset, .unset] [(.int (55296 : Int32)), (.int x1)])) t → Steps p.tables e below (s₁.setTop (mkF m 16 #[iv pi0, iv pi1, iv x1, .unset, .unset, .unset, .unset, .unset] [(.int (55296 : Int32)), (.int x1)])) t := fun t kt => kt
    subst hx4
    by_cases hm16_6 : x1 < (55296 : Int32)
    · have pre7 : ∀ t, Steps p.tables e below (s₁.setTop (mkF m 31 #[iv pi0, iv pi1, iv x1, .unset, .unset, .unset, .unset, .unset] [])) t → Steps p.tables e below (s₁.setTop (mkF m 16 #[iv pi0, iv pi1, iv x1, .unset, .unset, .unset, .unset, .unset] [(.int (55296 : Int32)), (.int x1)])) t := fun t kt => pre5_ t (by
          refine y_icmpYes X0.here hx (hb hby at_16) (tlt hm16_6).1 (pc' := 31) (by decide) rfl ?_
          exact kt)
      refine ⟨s₁, ⟨X0, e0.trans e0.symm⟩, fun t kt => pre7 t ?_⟩
      (try simp only [if_pos hm16_6] at kt)
      exact kt
    · have pre8 : ∀ t, Steps p.tables e below (s₁.setTop (mkF m 22 #[iv pi0, iv pi1, iv x1, .unset, .unset, .unset, .unset, .unset] [(.int (57343 : Int32)), (.int x1)])) t → Steps p.tables e below (s₁.setTop (mkF m 16 #[iv pi0, iv pi1, iv x1, .unset, .unset, .unset, .unset, .unset] [(.int (55296 : Int32)), (.int x1)])) t := fun t kt => pre5_ t (by
          refine y_icmpNo X0.here hx (hb hby at_16) (flt hm16_6).1 (pc' := 19) rfl ?_
          refine y_iloadN X0.here hx (hb hby at_19) rfl (pc' := 20) rfl ?_
          refine X0.ldcInt hx hown (mvT hZ (hw _ (List.mem_of_getElem? (i := 29) rfl))) (g := (mkF m 20 #[iv pi0, iv pi1, iv x1, .unset, .unset, .unset, .unset, .unset] [(.int x1)])) rfl (hb hby at_20) _ ?_
          show Steps p.tables e below (s₁.setTop (mkF m 22 #[iv pi0, iv pi1, iv x1, .unset, .unset, .unset, .unset, .unset] [(.int (57343 : Int32)), (.int x1)])) _
          exact kt)
      by_cases hm22_9 : (57343 : Int32) < x1
      · have pre10 : ∀ t, Steps p.tables e below (s₁.setTop (mkF m 31 #[iv pi0, iv pi1, iv x1, .unset, .unset, .unset, .unset, .unset] [])) t → Steps p.tables e below (s₁.setTop (mkF m 16 #[iv pi0, iv pi1, iv x1, .unset, .unset, .unset, .unset, .unset] [(.int (55296 : Int32)), (.int x1)])) t := fun t kt => pre8 t (by
            refine y_icmpYes X0.here hx (hb hby at_22) (tlt hm22_9).2.2.1 (pc' := 31) (by decide) rfl ?_
            exact kt)
        refine ⟨s₁, ⟨X0, e0.trans e0.symm⟩, fun t kt => pre10 t ?_⟩
        (try simp only [if_neg hm16_6, if_pos hm22_9] at kt)
        exact kt
      · have pre11 : ∀ t, Steps p.tables e below (s₁.setTop (mkF m 31 #[iv pi0, iv pi1, iv (x1 ^^^ (2048 : Int32)), .unset, .unset, .unset, .unset, .unset] [])) t → Steps p.tables e below (s₁.setTop (mkF m 16 #[iv pi0, iv pi1, iv x1, .unset, .unset, .unset, .unset, .unset] [(.int (55296 : Int32)), (.int x1)])) t := fun t kt => pre8 t (by
            refine y_icmpNo X0.here hx (hb hby at_22) (flt hm22_9).2.2.1 (pc' := 25) rfl ?_
            refine y_iloadN X0.here hx (hb hby at_25) rfl (pc' := 26) rfl ?_
            refine y_sipush X0.here hx (hb hby at_26) (v := (2048 : Int32)) rfl (pc' := 29) rfl ?_
            refine y_ixor X0.here hx (hb hby at_29) rfl (pc' := 30) rfl ?_
            refine y_istoreN X0.here hx (hb hby at_30) (l' := #[iv pi0, iv pi1, iv (x1 ^^^ (2048 : Int32)), .unset, .unset, .unset, .unset, .unset]) rfl (pc' := 31) rfl ?_
            exact kt)
        refine ⟨s₁, ⟨X0, e0.trans e0.symm⟩, fun t kt => pre11 t ?_⟩
        (try simp only [if_neg hm16_6, if_neg hm22_9] at kt)
        exact kt
  have e5 : T5.heap = h0 := q5.trans e0
  have pre12 : ∀ t, Steps p.tables e below (T5.setTop (mkF m 31 #[iv pi0, iv pi1, iv x4, .unset, .unset, .unset, .unset, .unset] [])) t → Go t := fun t kt => pre3 t (st5 t kt)
  have pre13 : ∀ t, Steps p.tables e below (T5.setTop (mkF m 32 #[iv pi0, iv pi1, iv x4, .unset, .unset, .unset, .unset, .unset] [(.int x4)])) t → Go t := fun t kt => pre12 t (by
      refine y_iloadN X5.here hx (hb hby at_31) rfl (pc' := 32) rfl ?_
      exact kt)
  obtain ⟨v14, _, ⟨T14, L14, k14, n14⟩, -, X14, ⟨Lc14, hQ14, l14, y14, z14⟩, st14⟩ := Jvm.LawKit.callS X5 hx (y := (⟨"com/example/strict_codec/strictcodec/Utf8Grammar", "scalarLength", "(I)I"⟩ : MethodName)) hown (mvT hZ (hw _ (List.mem_of_getElem? (i := 3) rfl))) (mvT hZ (hw _ (List.mem_of_getElem? (i := 4) rfl))) (mvT hZ (hw _ (List.mem_of_getElem? (i := 5) rfl))) (mvT hZ (hw _ (List.mem_of_getElem? (i := 6) rfl))) (by decide) (backOf (W := 0) (rm1 l Z a0 hw [] x4 h0 n0 O0 ) hZ (hw _ (List.mem_of_getElem? (i := 6) rfl)) (hw _ (List.mem_of_getElem? (i := 5) rfl)) (by decide) (by decide)) (g := (mkF m 32 #[iv pi0, iv pi1, iv x4, .unset, .unset, .unset, .unset, .unset] [(.int x4)])) rfl (by rw [hml]; rfl) (argsL := [(.int x4)]) (rest := []) (lenOf pd__I_I rfl) rfl (by show 2 * 0 + _ ≤ _; exact Nat.le_of_eq rfl) (hb hby at_32) (fun _ _ => ⟨rfl, e5, (by decide : 0 + 0 ≤ _), (by decide : 0 + 0 ≤ _)⟩)
  dsimp only [Pt.U, Pt.locs, Pt.cells, Pt.slots] at X14 l14 y14 z14 st14 hQ14
  subst l14 y14 z14
  obtain ⟨hv14, N14q, e14q⟩ := hQ14
  have N15 := Fr.app N0 N14q
  have hw14 := hv14
  obtain ⟨x16, hx16⟩ : ∃ z : Int32, z = (fr1 x4) := ⟨_, rfl⟩
  rw [← hx16] at hw14
  subst hw14
  have pre17 : ∀ t, Steps p.tables e below (T14.setTop (mkF m 35 #[iv pi0, iv pi1, iv x4, .unset, .unset, .unset, .unset, .unset] [(.int x16)])) t → Go t := fun t kt => pre13 t (st14 t kt)
  have pre19 : ∀ t, Steps p.tables e below (T14.setTop (mkF m 38 #[iv pi0, iv pi1, iv x4, iv x16, .unset, .unset, .unset, .unset] [(.int (1 : Int32)), (.int x16)])) t → Go t := fun t kt => pre17 t (by
      refine y_istoreN X14.here hx (hb hby at_35) (l' := #[iv pi0, iv pi1, iv x4, iv x16, .unset, .unset, .unset, .unset]) rfl (pc' := 36) rfl ?_
      refine y_iloadN X14.here hx (hb hby at_36) rfl (pc' := 37) rfl ?_
      refine y_iconst X14.here hx (hb hby at_37) (v := (1 : Int32)) rfl (pc' := 38) rfl ?_
      exact kt)
  have hf38_18 : ¬ (x16 < (1 : Int32)) := by
      rw [hx16]; rcases own_len4 x4 with h | h | h | h <;> rw [h] <;> decide
  have pre21 : ∀ t, Steps p.tables e below (T14.setTop (mkF m 43 #[iv pi0, iv pi1, iv x4, iv x16, .unset, .unset, .unset, .unset] [(.int (4 : Int32)), (.int x16)])) t → Go t := fun t kt => pre19 t (by
      refine y_icmpNo X14.here hx (hb hby at_38) (flt hf38_18).1 (pc' := 41) rfl ?_
      refine y_iloadN X14.here hx (hb hby at_41) rfl (pc' := 42) rfl ?_
      refine y_iconst X14.here hx (hb hby at_42) (v := (4 : Int32)) rfl (pc' := 43) rfl ?_
      exact kt)
  have hf43_20 : ¬ ((4 : Int32) < x16) := by
      rw [hx16]; rcases own_len4 x4 with h | h | h | h <;> rw [h] <;> decide
  have pre22 : ∀ t, Steps p.tables e below (T14.setTop (mkF m 48 #[iv pi0, iv pi1, iv x4, iv x16, .unset, .unset, .unset, .unset] [])) t → Go t := fun t kt => pre21 t (by
      refine y_icmpYes X14.here hx (hb hby at_43) (flt hf43_20).2.2.2 (pc' := 48) (by decide) rfl ?_
      exact kt)
  (try clear pre2)
  (try clear pre3)
  (try clear q5)
  (try clear st5)
  (try clear e5)
  (try clear pre12)
  (try clear pre13)
  (try clear st14)
  (try clear hv14)
  (try clear N14q)
  (try clear hw14)
  (try clear pre17)
  (try clear pre19)
  (try clear pre21)
  have hs48_23 : x16 = (1 : Int32) ∨ x16 = (2 : Int32) ∨ x16 = (3 : Int32) ∨ x16 = (4 : Int32) := by
      rw [hx16]; exact own_len4 _
  rcases hs48_23 with rfl | rfl | rfl | rfl
  · skip
    have pre24 : ∀ t, Steps p.tables e below (T14.setTop (mkF m 50 #[iv pi0, iv pi1, iv x4, iv (1 : Int32), .unset, .unset, .unset, .unset] [(.int (8 : Int32))])) t → Go t := fun t kt => pre22 t (by
        refine y_bipush X14.here hx (hb hby at_48) (v := (8 : Int32)) rfl (pc' := 50) rfl ?_
        exact kt)
    obtain ⟨T25, h25, k25, X25, e25, E25, A25, st25⟩ := newP X14 hx hZ (hw _ (List.mem_of_getElem? (i := 7) rfl)) e14q (g := (mkF m 50 #[iv pi0, iv pi1, iv x4, iv (1 : Int32), .unset, .unset, .unset, .unset] [(.int (8 : Int32))])) rfl (hb hby at_50) rfl (by decide) (cap := 8) (by decide) (by decide) (by decide) (by decide)
    obtain ⟨b25, g25⟩ : ∃ z, z = h0.size := ⟨_, rfl⟩
    rw [← g25] at A25 st25
    have pre26 : ∀ t, Steps p.tables e below (T25.setTop (mkF m 52 #[iv pi0, iv pi1, iv x4, iv (1 : Int32), .unset, .unset, .unset, .unset] [(.ref b25)])) t → Go t := fun t kt => pre24 t (st25 t kt)
    have G27 : n0 ≤ b25 := Nat.le_trans (O0.1 ▸ O0.2.1) (Nat.le_of_eq g25.symm)
    have O27 := O0.ext E25
    have f28 : Arv Z h25 b25 k25 .byte (8 : Int32) [(.int (0 : Int32)), (.int (0 : Int32)), (.int (0 : Int32)), (.int (0 : Int32)), (.int (0 : Int32)), (.int (0 : Int32)), (.int (0 : Int32)), (.int (0 : Int32))] (.int (0 : Int32)) := (Arv.new A25 (by decide)).pad (pad_rep [] (.int (0 : Int32)) 8)
    have pre29 : ∀ t, Steps p.tables e below (T25.setTop (mkF m 58 #[iv pi0, iv pi1, iv x4, iv (1 : Int32), rv b25, .unset, .unset, .unset] [(.int x4), (.int (0 : Int32)), (.ref b25)])) t → Go t := fun t kt => pre26 t (by
        refine y_astore X25.here hx (hb hby at_52) rfl (l' := #[iv pi0, iv pi1, iv x4, iv (1 : Int32), rv b25, .unset, .unset, .unset]) rfl (pc' := 54) rfl ?_
        refine y_aload X25.here hx (hb hby at_54) rfl rfl (pc' := 56) rfl ?_
        refine y_iconst X25.here hx (hb hby at_56) (v := (0 : Int32)) rfl (pc' := 57) rfl ?_
        refine y_iloadN X25.here hx (hb hby at_57) rfl (pc' := 58) rfl ?_
        exact kt)
    obtain ⟨v30, _, ⟨T30, L30, k30, n30⟩, -, X30, ⟨Lc30, hQ30, l30, y30, z30⟩, st30⟩ := Jvm.LawKit.callS X25 hx (y := (⟨"com/example/strict_codec/strictcodec/Utf8Grammar", "put", "([BII)I"⟩ : MethodName)) hown (mvT hZ (hw _ (List.mem_of_getElem? (i := 8) rfl))) (mvT hZ (hw _ (List.mem_of_getElem? (i := 9) rfl))) (mvT hZ (hw _ (List.mem_of_getElem? (i := 5) rfl))) (mvT hZ (hw _ (List.mem_of_getElem? (i := 10) rfl))) (by decide) (backOf (W := 0) (rm2l1 l Z a0 hw [] b25 x4 w_LEAD_MARK k25 (0 : Int32) (0 : Int32) (0 : Int32) (0 : Int32) (0 : Int32) (0 : Int32) (0 : Int32) (0 : Int32) cc_w_LEAD_MARK h25 n0 O27 S_LEAD_MARK G27 hx16.symm f28 AR_w_LEAD_MARK IN1_w_LEAD_MARK AT1_w_LEAD_MARK) hZ (hw _ (List.mem_of_getElem? (i := 10) rfl)) (hw _ (List.mem_of_getElem? (i := 5) rfl)) (by decide) (by decide)) (g := (mkF m 58 #[iv pi0, iv pi1, iv x4, iv (1 : Int32), rv b25, .unset, .unset, .unset] [(.int x4), (.int (0 : Int32)), (.ref b25)])) rfl (by rw [hml]; rfl) (argsL := [(.ref b25), (.int (0 : Int32)), (.int x4)]) (rest := []) (lenOf pd___BII_I rfl) rfl (by show 2 * 0 + _ ≤ _; exact Nat.le_of_eq rfl) (hb hby at_58) (fun _ _ => ⟨rfl, e25, (by decide : 1 + 0 ≤ _), (by decide : 8 + 0 ≤ _)⟩)
    dsimp only [Pt.U, Pt.locs, Pt.cells, Pt.slots] at X30 l30 y30 z30 st30 hQ30
    subst l30 y30 z30
    obtain ⟨hv30, N30q, K30q, p30_0⟩ := hQ30
    have N31 := Fr.app N15 N30q
    have hw30 := hv30
    subst hw30
    have pre32 : ∀ t, Steps p.tables e below (T30.setTop (mkF m 61 #[iv pi0, iv pi1, iv x4, iv (1 : Int32), rv b25, .unset, .unset, .unset] [(.int (1 : Int32))])) t → Go t := fun t kt => pre29 t (st30 t kt)
    obtain ⟨h30, eh30⟩ : ∃ z, T30.heap = z := ⟨_, rfl⟩
    rw [eh30] at K30q p30_0
    obtain ⟨x34, hx34⟩ : ∃ z : Int32, z = (nar .byte (((0 : Int32) ||| x4).toInt8.toInt32)) := ⟨_, rfl⟩
    rw [← hx34] at p30_0
    have O35 := O27.keep K30q (allS G27 all0)
    have pre36 : ∀ t, Steps p.tables e below (T30.setTop (mkF m 68 #[iv pi0, iv pi1, iv x4, iv (1 : Int32), rv b25, iv (1 : Int32), .unset, .unset] [(.int (8 : Int32)), (.int (0 : Int32)), (.ref b25)])) t → Go t := fun t kt => pre32 t (by
        refine y_istore X30.here hx (hb hby at_61) (l' := #[iv pi0, iv pi1, iv x4, iv (1 : Int32), rv b25, iv (1 : Int32), .unset, .unset]) rfl (pc' := 63) rfl ?_
        refine y_aload X30.here hx (hb hby at_63) rfl rfl (pc' := 65) rfl ?_
        refine y_iconst X30.here hx (hb hby at_65) (v := (0 : Int32)) rfl (pc' := 66) rfl ?_
        refine y_bipush X30.here hx (hb hby at_66) (v := (8 : Int32)) rfl (pc' := 68) rfl ?_
        exact kt)
    obtain ⟨v37, _, ⟨T37, L37, k37, n37⟩, -, X37, ⟨Lc37, hQ37, l37, y37, z37⟩, st37⟩ := Jvm.LawKit.callS X30 hx (y := (⟨"com/example/strict_codec/strictcodec/Utf8Grammar", "span", "([BII)I"⟩ : MethodName)) hown (mvT hZ (hw _ (List.mem_of_getElem? (i := 14) rfl))) (mvT hZ (hw _ (List.mem_of_getElem? (i := 15) rfl))) (mvT hZ (hw _ (List.mem_of_getElem? (i := 5) rfl))) (mvT hZ (hw _ (List.mem_of_getElem? (i := 16) rfl))) (by decide) (backOf (W := 0) (rm3a0 l Z a0 hw [] b25 (8 : Int32) w_SEQUENCE_LENGTH w_SECOND_LOW w_SECOND_HIGH (tb_SEQUENCE_LENGTH (x34 &&& (255 : Int32))) (tb_SECOND_LOW (x34 &&& (255 : Int32))) (tb_SECOND_HIGH (x34 &&& (255 : Int32))) k25 x34 (0 : Int32) (0 : Int32) (0 : Int32) (0 : Int32) (0 : Int32) (0 : Int32) (0 : Int32) cc_w_SEQUENCE_LENGTH cc_w_SECOND_LOW cc_w_SECOND_HIGH h30 n0 O35 S_SEQUENCE_LENGTH S_SECOND_LOW S_SECOND_HIGH (TB_SEQUENCE_LENGTH _ (own_b x34).1 (own_b x34).2).1 (TB_SEQUENCE_LENGTH _ (own_b x34).1 (own_b x34).2).2 (TB_SECOND_LOW _ (own_b x34).1 (own_b x34).2).1 (TB_SECOND_LOW _ (own_b x34).1 (own_b x34).2).2 (TB_SECOND_HIGH _ (own_b x34).1 (own_b x34).2).1 (TB_SECOND_HIGH _ (own_b x34).1 (own_b x34).2).2 (own_wq _) p30_0 AR_w_SEQUENCE_LENGTH AR_w_SECOND_LOW AR_w_SECOND_HIGH) hZ (hw _ (List.mem_of_getElem? (i := 16) rfl)) (hw _ (List.mem_of_getElem? (i := 5) rfl)) (by decide) (by decide)) (g := (mkF m 68 #[iv pi0, iv pi1, iv x4, iv (1 : Int32), rv b25, iv (1 : Int32), .unset, .unset] [(.int (8 : Int32)), (.int (0 : Int32)), (.ref b25)])) rfl (by rw [hml]; rfl) (argsL := [(.ref b25), (.int (0 : Int32)), (.int (8 : Int32))]) (rest := []) (lenOf pd___BII_I rfl) rfl (by show 2 * 0 + _ ≤ _; exact Nat.le_of_eq rfl) (hb hby at_68) (fun _ _ => ⟨rfl, eh30, (by decide : 1 + 0 ≤ _), (by decide : 8 + 0 ≤ _)⟩)
    dsimp only [Pt.U, Pt.locs, Pt.cells, Pt.slots] at X37 l37 y37 z37 st37 hQ37
    subst l37 y37 z37
    obtain ⟨hv37, N37q, e37q⟩ := hQ37
    have N38 := Fr.app N31 N37q
    have hw37 := hv37
    obtain ⟨x39, hx39⟩ : ∃ z : Int32, z = (fr3a0 (8 : Int32) (tb_SEQUENCE_LENGTH (x34 &&& (255 : Int32))) (tb_SECOND_LOW (x34 &&& (255 : Int32))) (tb_SECOND_HIGH (x34 &&& (255 : Int32))) (0 : Int32) (0 : Int32) (0 : Int32)) := ⟨_, rfl⟩
    rw [← hx39] at hw37
    subst hw37
    have pre40 : ∀ t, Steps p.tables e below (T37.setTop (mkF m 71 #[iv pi0, iv pi1, iv x4, iv (1 : Int32), rv b25, iv (1 : Int32), .unset, .unset] [(.int x39)])) t → Go t := fun t kt => pre36 t (st37 t kt)
    have pre41 : ∀ t, Steps p.tables e below (T37.setTop (mkF m 77 #[iv pi0, iv pi1, iv x4, iv (1 : Int32), rv b25, iv (1 : Int32), iv x39, .unset] [(.int (1 : Int32)), (.int (0 : Int32)), (.ref b25)])) t → Go t := fun t kt => pre40 t (by
        refine y_istore X37.here hx (hb hby at_71) (l' := #[iv pi0, iv pi1, iv x4, iv (1 : Int32), rv b25, iv (1 : Int32), iv x39, .unset]) rfl (pc' := 73) rfl ?_
        refine y_aload X37.here hx (hb hby at_73) rfl rfl (pc' := 75) rfl ?_
        refine y_iconst X37.here hx (hb hby at_75) (v := (0 : Int32)) rfl (pc' := 76) rfl ?_
        refine y_iloadN X37.here hx (hb hby at_76) rfl (pc' := 77) rfl ?_
        exact kt)
    obtain ⟨v42, _, ⟨T42, L42, k42, n42⟩, -, X42, ⟨Lc42, hQ42, l42, y42, z42⟩, st42⟩ := Jvm.LawKit.callS X37 hx (y := (⟨"com/example/strict_codec/strictcodec/Utf8Grammar", "scalarValue", "([BII)I"⟩ : MethodName)) hown (mvT hZ (hw _ (List.mem_of_getElem? (i := 23) rfl))) (mvT hZ (hw _ (List.mem_of_getElem? (i := 24) rfl))) (mvT hZ (hw _ (List.mem_of_getElem? (i := 5) rfl))) (mvT hZ (hw _ (List.mem_of_getElem? (i := 25) rfl))) (by decide) (backOf (W := 0) (rm4a0l1 l Z a0 hw [] b25 w_LEAD_PAYLOAD k25 x34 (0 : Int32) (0 : Int32) (0 : Int32) (0 : Int32) (0 : Int32) (0 : Int32) (0 : Int32) cc_w_LEAD_PAYLOAD h30 n0 O35 S_LEAD_PAYLOAD p30_0 AR_w_LEAD_PAYLOAD IN1_w_LEAD_PAYLOAD AT1_w_LEAD_PAYLOAD) hZ (hw _ (List.mem_of_getElem? (i := 25) rfl)) (hw _ (List.mem_of_getElem? (i := 5) rfl)) (by decide) (by decide)) (g := (mkF m 77 #[iv pi0, iv pi1, iv x4, iv (1 : Int32), rv b25, iv (1 : Int32), iv x39, .unset] [(.int (1 : Int32)), (.int (0 : Int32)), (.ref b25)])) rfl (by rw [hml]; rfl) (argsL := [(.ref b25), (.int (0 : Int32)), (.int (1 : Int32))]) (rest := []) (lenOf pd___BII_I rfl) rfl (by show 2 * 0 + _ ≤ _; exact Nat.le_of_eq rfl) (hb hby at_77) (fun _ _ => ⟨rfl, e37q, (by decide : 1 + 0 ≤ _), (by decide : 8 + 0 ≤ _)⟩)
    dsimp only [Pt.U, Pt.locs, Pt.cells, Pt.slots] at X42 l42 y42 z42 st42 hQ42
    subst l42 y42 z42
    obtain ⟨hv42, N42q, e42q⟩ := hQ42
    have N43 := Fr.app N38 N42q
    have hw42 := hv42
    obtain ⟨x44, hx44⟩ : ∃ z : Int32, z = (x34 &&& (127 : Int32)) := ⟨_, rfl⟩
    rw [← hx44] at hw42
    subst hw42
    have pre45 : ∀ t, Steps p.tables e below (T42.setTop (mkF m 80 #[iv pi0, iv pi1, iv x4, iv (1 : Int32), rv b25, iv (1 : Int32), iv x39, .unset] [(.int x44)])) t → Go t := fun t kt => pre41 t (st42 t kt)
    have pre47 : ∀ t, Steps p.tables e below (T42.setTop (mkF m 91 #[iv pi0, iv pi1, iv x4, iv (1 : Int32), rv b25, iv (1 : Int32), iv x39, iv x44] [(.int (1 : Int32)), (.int x39)])) t → Go t := fun t kt => pre45 t (by
        refine y_istore X42.here hx (hb hby at_80) (l' := #[iv pi0, iv pi1, iv x4, iv (1 : Int32), rv b25, iv (1 : Int32), iv x39, iv x44]) rfl (pc' := 82) rfl ?_
        refine y_iload X42.here hx (hb hby at_82) rfl (pc' := 84) rfl ?_
        refine y_iloadN X42.here hx (hb hby at_84) rfl (pc' := 85) rfl ?_
        refine y_icmpNo X42.here hx (hb hby at_85) (teq (rfl : (1 : Int32) = (1 : Int32))).2 (pc' := 88) rfl ?_
        refine y_iload X42.here hx (hb hby at_88) rfl (pc' := 90) rfl ?_
        refine y_iloadN X42.here hx (hb hby at_90) rfl (pc' := 91) rfl ?_
        exact kt)
    have hf91_46 : x39 = (1 : Int32) := by
        exact law0_48 pi0 pi1 x1 x4 x34 x39 hx1 hx4 hx34 hx39 hx16
    have pre50 : ∀ t, Steps p.tables e below (T42.setTop (mkF m 97 #[iv pi0, iv pi1, iv x4, iv (1 : Int32), rv b25, iv (1 : Int32), iv x39, iv x44] [(.int x4), (.int x44)])) t → Go t := fun t kt => pre47 t (by
        refine y_icmpNo X42.here hx (hb hby at_91) (teq hf91_46).2 (pc' := 94) rfl ?_
        refine y_iload X42.here hx (hb hby at_94) rfl (pc' := 96) rfl ?_
        refine y_iloadN X42.here hx (hb hby at_96) rfl (pc' := 97) rfl ?_
        exact kt)
    have hf97_49 : x44 = x4 := by
        exact law0_51 pi0 pi1 x1 x4 x34 x44 hx1 hx4 hx34 hx44 hx16
    have pre52 : ∀ t, Steps p.tables e below (T42.setTop (mkF m 105 #[iv pi0, iv pi1, iv x4, iv (1 : Int32), rv b25, iv (1 : Int32), iv x39, iv x44] [(.int (1 : Int32))])) t → Go t := fun t kt => pre50 t (by
        refine y_icmpNo X42.here hx (hb hby at_97) (teq hf97_49).2 (pc' := 100) rfl ?_
        refine y_iconst X42.here hx (hb hby at_100) (v := (1 : Int32)) rfl (pc' := 101) rfl ?_
        refine y_goto X42.here hx (hb hby at_101) (pc' := 105) (by decide) rfl ?_
        exact kt)
    obtain ⟨fs, hr, hrun, hended, hW, hsame⟩ := X42.leave (v := some (.int (1 : Int32))) (fun h => by rw [Bd.returns] at h; cases h)
    refine ⟨_, _, (hGo _).mp (pre52 _ ?_), hrun, hended, _, _, rfl, ?_, ⟨_, rfl⟩, hW, hsame.mono (by decide) (by decide)⟩
    · exact retN X42 hx (t := .boolean) Bd.returns (by simp) (hb hby at_105) hr
    · show Q0 Z pi0 pi1 w_SEQUENCE_LENGTH w_SECOND_LOW w_SECOND_HIGH w_LEAD_MARK w_LEAD_PAYLOAD cc_w_SEQUENCE_LENGTH cc_w_SECOND_LOW cc_w_SECOND_HIGH cc_w_LEAD_MARK cc_w_LEAD_PAYLOAD h0 n0 _ T42.heap _
      rw [e42q]
      exact ⟨rfl, N43⟩
  · skip
    have pre53 : ∀ t, Steps p.tables e below (T14.setTop (mkF m 50 #[iv pi0, iv pi1, iv x4, iv (2 : Int32), .unset, .unset, .unset, .unset] [(.int (8 : Int32))])) t → Go t := fun t kt => pre22 t (by
        refine y_bipush X14.here hx (hb hby at_48) (v := (8 : Int32)) rfl (pc' := 50) rfl ?_
        exact kt)
    obtain ⟨T54, h54, k54, X54, e54, E54, A54, st54⟩ := newP X14 hx hZ (hw _ (List.mem_of_getElem? (i := 7) rfl)) e14q (g := (mkF m 50 #[iv pi0, iv pi1, iv x4, iv (2 : Int32), .unset, .unset, .unset, .unset] [(.int (8 : Int32))])) rfl (hb hby at_50) rfl (by decide) (cap := 8) (by decide) (by decide) (by decide) (by decide)
    obtain ⟨b54, g54⟩ : ∃ z, z = h0.size := ⟨_, rfl⟩
    rw [← g54] at A54 st54
    have pre55 : ∀ t, Steps p.tables e below (T54.setTop (mkF m 52 #[iv pi0, iv pi1, iv x4, iv (2 : Int32), .unset, .unset, .unset, .unset] [(.ref b54)])) t → Go t := fun t kt => pre53 t (st54 t kt)
    have G56 : n0 ≤ b54 := Nat.le_trans (O0.1 ▸ O0.2.1) (Nat.le_of_eq g54.symm)
    have O56 := O0.ext E54
    have f57 : Arv Z h54 b54 k54 .byte (8 : Int32) [(.int (0 : Int32)), (.int (0 : Int32)), (.int (0 : Int32)), (.int (0 : Int32)), (.int (0 : Int32)), (.int (0 : Int32)), (.int (0 : Int32)), (.int (0 : Int32))] (.int (0 : Int32)) := (Arv.new A54 (by decide)).pad (pad_rep [] (.int (0 : Int32)) 8)
    have pre58 : ∀ t, Steps p.tables e below (T54.setTop (mkF m 58 #[iv pi0, iv pi1, iv x4, iv (2 : Int32), rv b54, .unset, .unset, .unset] [(.int x4), (.int (0 : Int32)), (.ref b54)])) t → Go t := fun t kt => pre55 t (by
        refine y_astore X54.here hx (hb hby at_52) rfl (l' := #[iv pi0, iv pi1, iv x4, iv (2 : Int32), rv b54, .unset, .unset, .unset]) rfl (pc' := 54) rfl ?_
        refine y_aload X54.here hx (hb hby at_54) rfl rfl (pc' := 56) rfl ?_
        refine y_iconst X54.here hx (hb hby at_56) (v := (0 : Int32)) rfl (pc' := 57) rfl ?_
        refine y_iloadN X54.here hx (hb hby at_57) rfl (pc' := 58) rfl ?_
        exact kt)
    obtain ⟨v59, _, ⟨T59, L59, k59, n59⟩, -, X59, ⟨Lc59, hQ59, l59, y59, z59⟩, st59⟩ := Jvm.LawKit.callS X54 hx (y := (⟨"com/example/strict_codec/strictcodec/Utf8Grammar", "put", "([BII)I"⟩ : MethodName)) hown (mvT hZ (hw _ (List.mem_of_getElem? (i := 8) rfl))) (mvT hZ (hw _ (List.mem_of_getElem? (i := 9) rfl))) (mvT hZ (hw _ (List.mem_of_getElem? (i := 5) rfl))) (mvT hZ (hw _ (List.mem_of_getElem? (i := 10) rfl))) (by decide) (backOf (W := 0) (rm2l2 l Z a0 hw [] b54 x4 w_LEAD_MARK k54 (0 : Int32) (0 : Int32) (0 : Int32) (0 : Int32) (0 : Int32) (0 : Int32) (0 : Int32) (0 : Int32) cc_w_LEAD_MARK h54 n0 O56 S_LEAD_MARK G56 hx16.symm f57 AR_w_LEAD_MARK IN2_w_LEAD_MARK AT2_w_LEAD_MARK) hZ (hw _ (List.mem_of_getElem? (i := 10) rfl)) (hw _ (List.mem_of_getElem? (i := 5) rfl)) (by decide) (by decide)) (g := (mkF m 58 #[iv pi0, iv pi1, iv x4, iv (2 : Int32), rv b54, .unset, .unset, .unset] [(.int x4), (.int (0 : Int32)), (.ref b54)])) rfl (by rw [hml]; rfl) (argsL := [(.ref b54), (.int (0 : Int32)), (.int x4)]) (rest := []) (lenOf pd___BII_I rfl) rfl (by show 2 * 0 + _ ≤ _; exact Nat.le_of_eq rfl) (hb hby at_58) (fun _ _ => ⟨rfl, e54, (by decide : 1 + 0 ≤ _), (by decide : 8 + 0 ≤ _)⟩)
    dsimp only [Pt.U, Pt.locs, Pt.cells, Pt.slots] at X59 l59 y59 z59 st59 hQ59
    subst l59 y59 z59
    obtain ⟨hv59, N59q, K59q, p59_0⟩ := hQ59
    have N60 := Fr.app N15 N59q
    have hw59 := hv59
    subst hw59
    have pre61 : ∀ t, Steps p.tables e below (T59.setTop (mkF m 61 #[iv pi0, iv pi1, iv x4, iv (2 : Int32), rv b54, .unset, .unset, .unset] [(.int (2 : Int32))])) t → Go t := fun t kt => pre58 t (st59 t kt)
    obtain ⟨h59, eh59⟩ : ∃ z, T59.heap = z := ⟨_, rfl⟩
    rw [eh59] at K59q p59_0
    obtain ⟨x63, hx63⟩ : ∃ z : Int32, z = (nar .byte (((192 : Int32) ||| ((x4.toUInt32 >>> ((6 : Int32) &&& 31).toUInt32).toInt32)).toInt8.toInt32)) := ⟨_, rfl⟩
    rw [← hx63] at p59_0
    obtain ⟨x64, hx64⟩ : ∃ z : Int32, z = (nar .byte (((128 : Int32) ||| (x4 &&& (63 : Int32))).toInt8.toInt32)) := ⟨_, rfl⟩
    rw [← hx64] at p59_0
    have O65 := O56.keep K59q (allS G56 all0)
    have pre66 : ∀ t, Steps p.tables e below (T59.setTop (mkF m 68 #[iv pi0, iv pi1, iv x4, iv (2 : Int32), rv b54, iv (2 : Int32), .unset, .unset] [(.int (8 : Int32)), (.int (0 : Int32)), (.ref b54)])) t → Go t := fun t kt => pre61 t (by
        refine y_istore X59.here hx (hb hby at_61) (l' := #[iv pi0, iv pi1, iv x4, iv (2 : Int32), rv b54, iv (2 : Int32), .unset, .unset]) rfl (pc' := 63) rfl ?_
        refine y_aload X59.here hx (hb hby at_63) rfl rfl (pc' := 65) rfl ?_
        refine y_iconst X59.here hx (hb hby at_65) (v := (0 : Int32)) rfl (pc' := 66) rfl ?_
        refine y_bipush X59.here hx (hb hby at_66) (v := (8 : Int32)) rfl (pc' := 68) rfl ?_
        exact kt)
    obtain ⟨v67, _, ⟨T67, L67, k67, n67⟩, -, X67, ⟨Lc67, hQ67, l67, y67, z67⟩, st67⟩ := Jvm.LawKit.callS X59 hx (y := (⟨"com/example/strict_codec/strictcodec/Utf8Grammar", "span", "([BII)I"⟩ : MethodName)) hown (mvT hZ (hw _ (List.mem_of_getElem? (i := 14) rfl))) (mvT hZ (hw _ (List.mem_of_getElem? (i := 15) rfl))) (mvT hZ (hw _ (List.mem_of_getElem? (i := 5) rfl))) (mvT hZ (hw _ (List.mem_of_getElem? (i := 16) rfl))) (by decide) (backOf (W := 0) (rm3a0 l Z a0 hw [] b54 (8 : Int32) w_SEQUENCE_LENGTH w_SECOND_LOW w_SECOND_HIGH (tb_SEQUENCE_LENGTH (x63 &&& (255 : Int32))) (tb_SECOND_LOW (x63 &&& (255 : Int32))) (tb_SECOND_HIGH (x63 &&& (255 : Int32))) k54 x63 x64 (0 : Int32) (0 : Int32) (0 : Int32) (0 : Int32) (0 : Int32) (0 : Int32) cc_w_SEQUENCE_LENGTH cc_w_SECOND_LOW cc_w_SECOND_HIGH h59 n0 O65 S_SEQUENCE_LENGTH S_SECOND_LOW S_SECOND_HIGH (TB_SEQUENCE_LENGTH _ (own_b x63).1 (own_b x63).2).1 (TB_SEQUENCE_LENGTH _ (own_b x63).1 (own_b x63).2).2 (TB_SECOND_LOW _ (own_b x63).1 (own_b x63).2).1 (TB_SECOND_LOW _ (own_b x63).1 (own_b x63).2).2 (TB_SECOND_HIGH _ (own_b x63).1 (own_b x63).2).1 (TB_SECOND_HIGH _ (own_b x63).1 (own_b x63).2).2 (own_wq _) p59_0 AR_w_SEQUENCE_LENGTH AR_w_SECOND_LOW AR_w_SECOND_HIGH) hZ (hw _ (List.mem_of_getElem? (i := 16) rfl)) (hw _ (List.mem_of_getElem? (i := 5) rfl)) (by decide) (by decide)) (g := (mkF m 68 #[iv pi0, iv pi1, iv x4, iv (2 : Int32), rv b54, iv (2 : Int32), .unset, .unset] [(.int (8 : Int32)), (.int (0 : Int32)), (.ref b54)])) rfl (by rw [hml]; rfl) (argsL := [(.ref b54), (.int (0 : Int32)), (.int (8 : Int32))]) (rest := []) (lenOf pd___BII_I rfl) rfl (by show 2 * 0 + _ ≤ _; exact Nat.le_of_eq rfl) (hb hby at_68) (fun _ _ => ⟨rfl, eh59, (by decide : 1 + 0 ≤ _), (by decide : 8 + 0 ≤ _)⟩)
    dsimp only [Pt.U, Pt.locs, Pt.cells, Pt.slots] at X67 l67 y67 z67 st67 hQ67
    subst l67 y67 z67
    obtain ⟨hv67, N67q, e67q⟩ := hQ67
    have N68 := Fr.app N60 N67q
    have hw67 := hv67
    obtain ⟨x69, hx69⟩ : ∃ z : Int32, z = (fr3a0 (8 : Int32) (tb_SEQUENCE_LENGTH (x63 &&& (255 : Int32))) (tb_SECOND_LOW (x63 &&& (255 : Int32))) (tb_SECOND_HIGH (x63 &&& (255 : Int32))) x64 (0 : Int32) (0 : Int32)) := ⟨_, rfl⟩
    rw [← hx69] at hw67
    subst hw67
    have pre70 : ∀ t, Steps p.tables e below (T67.setTop (mkF m 71 #[iv pi0, iv pi1, iv x4, iv (2 : Int32), rv b54, iv (2 : Int32), .unset, .unset] [(.int x69)])) t → Go t := fun t kt => pre66 t (st67 t kt)
    have pre71 : ∀ t, Steps p.tables e below (T67.setTop (mkF m 77 #[iv pi0, iv pi1, iv x4, iv (2 : Int32), rv b54, iv (2 : Int32), iv x69, .unset] [(.int (2 : Int32)), (.int (0 : Int32)), (.ref b54)])) t → Go t := fun t kt => pre70 t (by
        refine y_istore X67.here hx (hb hby at_71) (l' := #[iv pi0, iv pi1, iv x4, iv (2 : Int32), rv b54, iv (2 : Int32), iv x69, .unset]) rfl (pc' := 73) rfl ?_
        refine y_aload X67.here hx (hb hby at_73) rfl rfl (pc' := 75) rfl ?_
        refine y_iconst X67.here hx (hb hby at_75) (v := (0 : Int32)) rfl (pc' := 76) rfl ?_
        refine y_iloadN X67.here hx (hb hby at_76) rfl (pc' := 77) rfl ?_
        exact kt)
    obtain ⟨v72, _, ⟨T72, L72, k72, n72⟩, -, X72, ⟨Lc72, hQ72, l72, y72, z72⟩, st72⟩ := Jvm.LawKit.callS X67 hx (y := (⟨"com/example/strict_codec/strictcodec/Utf8Grammar", "scalarValue", "([BII)I"⟩ : MethodName)) hown (mvT hZ (hw _ (List.mem_of_getElem? (i := 23) rfl))) (mvT hZ (hw _ (List.mem_of_getElem? (i := 24) rfl))) (mvT hZ (hw _ (List.mem_of_getElem? (i := 5) rfl))) (mvT hZ (hw _ (List.mem_of_getElem? (i := 25) rfl))) (by decide) (backOf (W := 0) (rm4a0l2 l Z a0 hw [] b54 w_LEAD_PAYLOAD k54 x63 x64 (0 : Int32) (0 : Int32) (0 : Int32) (0 : Int32) (0 : Int32) (0 : Int32) cc_w_LEAD_PAYLOAD h59 n0 O65 S_LEAD_PAYLOAD p59_0 AR_w_LEAD_PAYLOAD IN2_w_LEAD_PAYLOAD AT2_w_LEAD_PAYLOAD) hZ (hw _ (List.mem_of_getElem? (i := 25) rfl)) (hw _ (List.mem_of_getElem? (i := 5) rfl)) (by decide) (by decide)) (g := (mkF m 77 #[iv pi0, iv pi1, iv x4, iv (2 : Int32), rv b54, iv (2 : Int32), iv x69, .unset] [(.int (2 : Int32)), (.int (0 : Int32)), (.ref b54)])) rfl (by rw [hml]; rfl) (argsL := [(.ref b54), (.int (0 : Int32)), (.int (2 : Int32))]) (rest := []) (lenOf pd___BII_I rfl) rfl (by show 2 * 0 + _ ≤ _; exact Nat.le_of_eq rfl) (hb hby at_77) (fun _ _ => ⟨rfl, e67q, (by decide : 1 + 0 ≤ _), (by decide : 8 + 0 ≤ _)⟩)
    dsimp only [Pt.U, Pt.locs, Pt.cells, Pt.slots] at X72 l72 y72 z72 st72 hQ72
    subst l72 y72 z72
    obtain ⟨hv72, N72q, e72q⟩ := hQ72
    have N73 := Fr.app N68 N72q
    have hw72 := hv72
    obtain ⟨x74, hx74⟩ : ∃ z : Int32, z = (((x63 &&& (31 : Int32)) <<< ((6 : Int32) &&& 31)) ||| (x64 &&& (63 : Int32))) := ⟨_, rfl⟩
    rw [← hx74] at hw72
    subst hw72
    have pre75 : ∀ t, Steps p.tables e below (T72.setTop (mkF m 80 #[iv pi0, iv pi1, iv x4, iv (2 : Int32), rv b54, iv (2 : Int32), iv x69, .unset] [(.int x74)])) t → Go t := fun t kt => pre71 t (st72 t kt)
    have pre77 : ∀ t, Steps p.tables e below (T72.setTop (mkF m 91 #[iv pi0, iv pi1, iv x4, iv (2 : Int32), rv b54, iv (2 : Int32), iv x69, iv x74] [(.int (2 : Int32)), (.int x69)])) t → Go t := fun t kt => pre75 t (by
        refine y_istore X72.here hx (hb hby at_80) (l' := #[iv pi0, iv pi1, iv x4, iv (2 : Int32), rv b54, iv (2 : Int32), iv x69, iv x74]) rfl (pc' := 82) rfl ?_
        refine y_iload X72.here hx (hb hby at_82) rfl (pc' := 84) rfl ?_
        refine y_iloadN X72.here hx (hb hby at_84) rfl (pc' := 85) rfl ?_
        refine y_icmpNo X72.here hx (hb hby at_85) (teq (rfl : (2 : Int32) = (2 : Int32))).2 (pc' := 88) rfl ?_
        refine y_iload X72.here hx (hb hby at_88) rfl (pc' := 90) rfl ?_
        refine y_iloadN X72.here hx (hb hby at_90) rfl (pc' := 91) rfl ?_
        exact kt)
    have hf91_76 : x69 = (2 : Int32) := by
        exact law0_78 pi0 pi1 x1 x4 x63 x64 x69 hx1 hx4 hx63 hx64 hx69 hx16
    have pre80 : ∀ t, Steps p.tables e below (T72.setTop (mkF m 97 #[iv pi0, iv pi1, iv x4, iv (2 : Int32), rv b54, iv (2 : Int32), iv x69, iv x74] [(.int x4), (.int x74)])) t → Go t := fun t kt => pre77 t (by
        refine y_icmpNo X72.here hx (hb hby at_91) (teq hf91_76).2 (pc' := 94) rfl ?_
        refine y_iload X72.here hx (hb hby at_94) rfl (pc' := 96) rfl ?_
        refine y_iloadN X72.here hx (hb hby at_96) rfl (pc' := 97) rfl ?_
        exact kt)
    have hf97_79 : x74 = x4 := by
        exact law0_81 pi0 pi1 x1 x4 x63 x64 x74 hx1 hx4 hx63 hx64 hx74 hx16
    have pre82 : ∀ t, Steps p.tables e below (T72.setTop (mkF m 105 #[iv pi0, iv pi1, iv x4, iv (2 : Int32), rv b54, iv (2 : Int32), iv x69, iv x74] [(.int (1 : Int32))])) t → Go t := fun t kt => pre80 t (by
        refine y_icmpNo X72.here hx (hb hby at_97) (teq hf97_79).2 (pc' := 100) rfl ?_
        refine y_iconst X72.here hx (hb hby at_100) (v := (1 : Int32)) rfl (pc' := 101) rfl ?_
        refine y_goto X72.here hx (hb hby at_101) (pc' := 105) (by decide) rfl ?_
        exact kt)
    obtain ⟨fs, hr, hrun, hended, hW, hsame⟩ := X72.leave (v := some (.int (1 : Int32))) (fun h => by rw [Bd.returns] at h; cases h)
    refine ⟨_, _, (hGo _).mp (pre82 _ ?_), hrun, hended, _, _, rfl, ?_, ⟨_, rfl⟩, hW, hsame.mono (by decide) (by decide)⟩
    · exact retN X72 hx (t := .boolean) Bd.returns (by simp) (hb hby at_105) hr
    · show Q0 Z pi0 pi1 w_SEQUENCE_LENGTH w_SECOND_LOW w_SECOND_HIGH w_LEAD_MARK w_LEAD_PAYLOAD cc_w_SEQUENCE_LENGTH cc_w_SECOND_LOW cc_w_SECOND_HIGH cc_w_LEAD_MARK cc_w_LEAD_PAYLOAD h0 n0 _ T72.heap _
      rw [e72q]
      exact ⟨rfl, N73⟩
  · skip
    have pre83 : ∀ t, Steps p.tables e below (T14.setTop (mkF m 50 #[iv pi0, iv pi1, iv x4, iv (3 : Int32), .unset, .unset, .unset, .unset] [(.int (8 : Int32))])) t → Go t := fun t kt => pre22 t (by
        refine y_bipush X14.here hx (hb hby at_48) (v := (8 : Int32)) rfl (pc' := 50) rfl ?_
        exact kt)
    obtain ⟨T84, h84, k84, X84, e84, E84, A84, st84⟩ := newP X14 hx hZ (hw _ (List.mem_of_getElem? (i := 7) rfl)) e14q (g := (mkF m 50 #[iv pi0, iv pi1, iv x4, iv (3 : Int32), .unset, .unset, .unset, .unset] [(.int (8 : Int32))])) rfl (hb hby at_50) rfl (by decide) (cap := 8) (by decide) (by decide) (by decide) (by decide)
    obtain ⟨b84, g84⟩ : ∃ z, z = h0.size := ⟨_, rfl⟩
    rw [← g84] at A84 st84
    have pre85 : ∀ t, Steps p.tables e below (T84.setTop (mkF m 52 #[iv pi0, iv pi1, iv x4, iv (3 : Int32), .unset, .unset, .unset, .unset] [(.ref b84)])) t → Go t := fun t kt => pre83 t (st84 t kt)
    have G86 : n0 ≤ b84 := Nat.le_trans (O0.1 ▸ O0.2.1) (Nat.le_of_eq g84.symm)
    have O86 := O0.ext E84
    have f87 : Arv Z h84 b84 k84 .byte (8 : Int32) [(.int (0 : Int32)), (.int (0 : Int32)), (.int (0 : Int32)), (.int (0 : Int32)), (.int (0 : Int32)), (.int (0 : Int32)), (.int (0 : Int32)), (.int (0 : Int32))] (.int (0 : Int32)) := (Arv.new A84 (by decide)).pad (pad_rep [] (.int (0 : Int32)) 8)
    have pre88 : ∀ t, Steps p.tables e below (T84.setTop (mkF m 58 #[iv pi0, iv pi1, iv x4, iv (3 : Int32), rv b84, .unset, .unset, .unset] [(.int x4), (.int (0 : Int32)), (.ref b84)])) t → Go t := fun t kt => pre85 t (by
        refine y_astore X84.here hx (hb hby at_52) rfl (l' := #[iv pi0, iv pi1, iv x4, iv (3 : Int32), rv b84, .unset, .unset, .unset]) rfl (pc' := 54) rfl ?_
        refine y_aload X84.here hx (hb hby at_54) rfl rfl (pc' := 56) rfl ?_
        refine y_iconst X84.here hx (hb hby at_56) (v := (0 : Int32)) rfl (pc' := 57) rfl ?_
        refine y_iloadN X84.here hx (hb hby at_57) rfl (pc' := 58) rfl ?_
        exact kt)
    obtain ⟨v89, _, ⟨T89, L89, k89, n89⟩, -, X89, ⟨Lc89, hQ89, l89, y89, z89⟩, st89⟩ := Jvm.LawKit.callS X84 hx (y := (⟨"com/example/strict_codec/strictcodec/Utf8Grammar", "put", "([BII)I"⟩ : MethodName)) hown (mvT hZ (hw _ (List.mem_of_getElem? (i := 8) rfl))) (mvT hZ (hw _ (List.mem_of_getElem? (i := 9) rfl))) (mvT hZ (hw _ (List.mem_of_getElem? (i := 5) rfl))) (mvT hZ (hw _ (List.mem_of_getElem? (i := 10) rfl))) (by decide) (backOf (W := 0) (rm2l3 l Z a0 hw [] b84 x4 w_LEAD_MARK k84 (0 : Int32) (0 : Int32) (0 : Int32) (0 : Int32) (0 : Int32) (0 : Int32) (0 : Int32) (0 : Int32) cc_w_LEAD_MARK h84 n0 O86 S_LEAD_MARK G86 hx16.symm f87 AR_w_LEAD_MARK IN3_w_LEAD_MARK AT3_w_LEAD_MARK) hZ (hw _ (List.mem_of_getElem? (i := 10) rfl)) (hw _ (List.mem_of_getElem? (i := 5) rfl)) (by decide) (by decide)) (g := (mkF m 58 #[iv pi0, iv pi1, iv x4, iv (3 : Int32), rv b84, .unset, .unset, .unset] [(.int x4), (.int (0 : Int32)), (.ref b84)])) rfl (by rw [hml]; rfl) (argsL := [(.ref b84), (.int (0 : Int32)), (.int x4)]) (rest := []) (lenOf pd___BII_I rfl) rfl (by show 2 * 0 + _ ≤ _; exact Nat.le_of_eq rfl) (hb hby at_58) (fun _ _ => ⟨rfl, e84, (by decide : 1 + 0 ≤ _), (by decide : 8 + 0 ≤ _)⟩)
    dsimp only [Pt.U, Pt.locs, Pt.cells, Pt.slots] at X89 l89 y89 z89 st89 hQ89
    subst l89 y89 z89
    obtain ⟨hv89, N89q, K89q, p89_0⟩ := hQ89
    have N90 := Fr.app N15 N89q
    have hw89 := hv89
    subst hw89
    have pre91 : ∀ t, Steps p.tables e below (T89.setTop (mkF m 61 #[iv pi0, iv pi1, iv x4, iv (3 : Int32), rv b84, .unset, .unset, .unset] [(.int (3 : Int32))])) t → Go t := fun t kt => pre88 t (st89 t kt)
    obtain ⟨h89, eh89⟩ : ∃ z, T89.heap = z := ⟨_, rfl⟩
    rw [eh89] at K89q p89_0
    obtain ⟨x93, hx93⟩ : ∃ z : Int32, z = (nar .byte (((224 : Int32) ||| ((((x4.toUInt32 >>> ((6 : Int32) &&& 31).toUInt32).toInt32).toUInt32 >>> ((6 : Int32) &&& 31).toUInt32).toInt32)).toInt8.toInt32)) := ⟨_, rfl⟩
    rw [← hx93] at p89_0
    obtain ⟨x94, hx94⟩ : ∃ z : Int32, z = (nar .byte (((128 : Int32) ||| (((x4.toUInt32 >>> ((6 : Int32) &&& 31).toUInt32).toInt32) &&& (63 : Int32))).toInt8.toInt32)) := ⟨_, rfl⟩
    rw [← hx94] at p89_0
    obtain ⟨x95, hx95⟩ : ∃ z : Int32, z = (nar .byte (((128 : Int32) ||| (x4 &&& (63 : Int32))).toInt8.toInt32)) := ⟨_, rfl⟩
    rw [← hx95] at p89_0
    have O96 := O86.keep K89q (allS G86 all0)
    have pre97 : ∀ t, Steps p.tables e below (T89.setTop (mkF m 68 #[iv pi0, iv pi1, iv x4, iv (3 : Int32), rv b84, iv (3 : Int32), .unset, .unset] [(.int (8 : Int32)), (.int (0 : Int32)), (.ref b84)])) t → Go t := fun t kt => pre91 t (by
        refine y_istore X89.here hx (hb hby at_61) (l' := #[iv pi0, iv pi1, iv x4, iv (3 : Int32), rv b84, iv (3 : Int32), .unset, .unset]) rfl (pc' := 63) rfl ?_
        refine y_aload X89.here hx (hb hby at_63) rfl rfl (pc' := 65) rfl ?_
        refine y_iconst X89.here hx (hb hby at_65) (v := (0 : Int32)) rfl (pc' := 66) rfl ?_
        refine y_bipush X89.here hx (hb hby at_66) (v := (8 : Int32)) rfl (pc' := 68) rfl ?_
        exact kt)
    obtain ⟨v98, _, ⟨T98, L98, k98, n98⟩, -, X98, ⟨Lc98, hQ98, l98, y98, z98⟩, st98⟩ := Jvm.LawKit.callS X89 hx (y := (⟨"com/example/strict_codec/strictcodec/Utf8Grammar", "span", "([BII)I"⟩ : MethodName)) hown (mvT hZ (hw _ (List.mem_of_getElem? (i := 14) rfl))) (mvT hZ (hw _ (List.mem_of_getElem? (i := 15) rfl))) (mvT hZ (hw _ (List.mem_of_getElem? (i := 5) rfl))) (mvT hZ (hw _ (List.mem_of_getElem? (i := 16) rfl))) (by decide) (backOf (W := 0) (rm3a0 l Z a0 hw [] b84 (8 : Int32) w_SEQUENCE_LENGTH w_SECOND_LOW w_SECOND_HIGH (tb_SEQUENCE_LENGTH (x93 &&& (255 : Int32))) (tb_SECOND_LOW (x93 &&& (255 : Int32))) (tb_SECOND_HIGH (x93 &&& (255 : Int32))) k84 x93 x94 x95 (0 : Int32) (0 : Int32) (0 : Int32) (0 : Int32) (0 : Int32) cc_w_SEQUENCE_LENGTH cc_w_SECOND_LOW cc_w_SECOND_HIGH h89 n0 O96 S_SEQUENCE_LENGTH S_SECOND_LOW S_SECOND_HIGH (TB_SEQUENCE_LENGTH _ (own_b x93).1 (own_b x93).2).1 (TB_SEQUENCE_LENGTH _ (own_b x93).1 (own_b x93).2).2 (TB_SECOND_LOW _ (own_b x93).1 (own_b x93).2).1 (TB_SECOND_LOW _ (own_b x93).1 (own_b x93).2).2 (TB_SECOND_HIGH _ (own_b x93).1 (own_b x93).2).1 (TB_SECOND_HIGH _ (own_b x93).1 (own_b x93).2).2 (own_wq _) p89_0 AR_w_SEQUENCE_LENGTH AR_w_SECOND_LOW AR_w_SECOND_HIGH) hZ (hw _ (List.mem_of_getElem? (i := 16) rfl)) (hw _ (List.mem_of_getElem? (i := 5) rfl)) (by decide) (by decide)) (g := (mkF m 68 #[iv pi0, iv pi1, iv x4, iv (3 : Int32), rv b84, iv (3 : Int32), .unset, .unset] [(.int (8 : Int32)), (.int (0 : Int32)), (.ref b84)])) rfl (by rw [hml]; rfl) (argsL := [(.ref b84), (.int (0 : Int32)), (.int (8 : Int32))]) (rest := []) (lenOf pd___BII_I rfl) rfl (by show 2 * 0 + _ ≤ _; exact Nat.le_of_eq rfl) (hb hby at_68) (fun _ _ => ⟨rfl, eh89, (by decide : 1 + 0 ≤ _), (by decide : 8 + 0 ≤ _)⟩)
    dsimp only [Pt.U, Pt.locs, Pt.cells, Pt.slots] at X98 l98 y98 z98 st98 hQ98
    subst l98 y98 z98
    obtain ⟨hv98, N98q, e98q⟩ := hQ98
    have N99 := Fr.app N90 N98q
    have hw98 := hv98
    obtain ⟨x100, hx100⟩ : ∃ z : Int32, z = (fr3a0 (8 : Int32) (tb_SEQUENCE_LENGTH (x93 &&& (255 : Int32))) (tb_SECOND_LOW (x93 &&& (255 : Int32))) (tb_SECOND_HIGH (x93 &&& (255 : Int32))) x94 x95 (0 : Int32)) := ⟨_, rfl⟩
    rw [← hx100] at hw98
    subst hw98
    have pre101 : ∀ t, Steps p.tables e below (T98.setTop (mkF m 71 #[iv pi0, iv pi1, iv x4, iv (3 : Int32), rv b84, iv (3 : Int32), .unset, .unset] [(.int x100)])) t → Go t := fun t kt => pre97 t (st98 t kt)
    have pre102 : ∀ t, Steps p.tables e below (T98.setTop (mkF m 77 #[iv pi0, iv pi1, iv x4, iv (3 : Int32), rv b84, iv (3 : Int32), iv x100, .unset] [(.int (3 : Int32)), (.int (0 : Int32)), (.ref b84)])) t → Go t := fun t kt => pre101 t (by
        refine y_istore X98.here hx (hb hby at_71) (l' := #[iv pi0, iv pi1, iv x4, iv (3 : Int32), rv b84, iv (3 : Int32), iv x100, .unset]) rfl (pc' := 73) rfl ?_
        refine y_aload X98.here hx (hb hby at_73) rfl rfl (pc' := 75) rfl ?_
        refine y_iconst X98.here hx (hb hby at_75) (v := (0 : Int32)) rfl (pc' := 76) rfl ?_
        refine y_iloadN X98.here hx (hb hby at_76) rfl (pc' := 77) rfl ?_
        exact kt)
    obtain ⟨v103, _, ⟨T103, L103, k103, n103⟩, -, X103, ⟨Lc103, hQ103, l103, y103, z103⟩, st103⟩ := Jvm.LawKit.callS X98 hx (y := (⟨"com/example/strict_codec/strictcodec/Utf8Grammar", "scalarValue", "([BII)I"⟩ : MethodName)) hown (mvT hZ (hw _ (List.mem_of_getElem? (i := 23) rfl))) (mvT hZ (hw _ (List.mem_of_getElem? (i := 24) rfl))) (mvT hZ (hw _ (List.mem_of_getElem? (i := 5) rfl))) (mvT hZ (hw _ (List.mem_of_getElem? (i := 25) rfl))) (by decide) (backOf (W := 0) (rm4a0l3 l Z a0 hw [] b84 w_LEAD_PAYLOAD k84 x93 x94 x95 (0 : Int32) (0 : Int32) (0 : Int32) (0 : Int32) (0 : Int32) cc_w_LEAD_PAYLOAD h89 n0 O96 S_LEAD_PAYLOAD p89_0 AR_w_LEAD_PAYLOAD IN3_w_LEAD_PAYLOAD AT3_w_LEAD_PAYLOAD) hZ (hw _ (List.mem_of_getElem? (i := 25) rfl)) (hw _ (List.mem_of_getElem? (i := 5) rfl)) (by decide) (by decide)) (g := (mkF m 77 #[iv pi0, iv pi1, iv x4, iv (3 : Int32), rv b84, iv (3 : Int32), iv x100, .unset] [(.int (3 : Int32)), (.int (0 : Int32)), (.ref b84)])) rfl (by rw [hml]; rfl) (argsL := [(.ref b84), (.int (0 : Int32)), (.int (3 : Int32))]) (rest := []) (lenOf pd___BII_I rfl) rfl (by show 2 * 0 + _ ≤ _; exact Nat.le_of_eq rfl) (hb hby at_77) (fun _ _ => ⟨rfl, e98q, (by decide : 1 + 0 ≤ _), (by decide : 8 + 0 ≤ _)⟩)
    dsimp only [Pt.U, Pt.locs, Pt.cells, Pt.slots] at X103 l103 y103 z103 st103 hQ103
    subst l103 y103 z103
    obtain ⟨hv103, N103q, e103q⟩ := hQ103
    have N104 := Fr.app N99 N103q
    have hw103 := hv103
    obtain ⟨x105, hx105⟩ : ∃ z : Int32, z = (((((x93 &&& (15 : Int32)) <<< ((6 : Int32) &&& 31)) ||| (x94 &&& (63 : Int32))) <<< ((6 : Int32) &&& 31)) ||| (x95 &&& (63 : Int32))) := ⟨_, rfl⟩
    rw [← hx105] at hw103
    subst hw103
    have pre106 : ∀ t, Steps p.tables e below (T103.setTop (mkF m 80 #[iv pi0, iv pi1, iv x4, iv (3 : Int32), rv b84, iv (3 : Int32), iv x100, .unset] [(.int x105)])) t → Go t := fun t kt => pre102 t (st103 t kt)
    have pre108 : ∀ t, Steps p.tables e below (T103.setTop (mkF m 91 #[iv pi0, iv pi1, iv x4, iv (3 : Int32), rv b84, iv (3 : Int32), iv x100, iv x105] [(.int (3 : Int32)), (.int x100)])) t → Go t := fun t kt => pre106 t (by
        refine y_istore X103.here hx (hb hby at_80) (l' := #[iv pi0, iv pi1, iv x4, iv (3 : Int32), rv b84, iv (3 : Int32), iv x100, iv x105]) rfl (pc' := 82) rfl ?_
        refine y_iload X103.here hx (hb hby at_82) rfl (pc' := 84) rfl ?_
        refine y_iloadN X103.here hx (hb hby at_84) rfl (pc' := 85) rfl ?_
        refine y_icmpNo X103.here hx (hb hby at_85) (teq (rfl : (3 : Int32) = (3 : Int32))).2 (pc' := 88) rfl ?_
        refine y_iload X103.here hx (hb hby at_88) rfl (pc' := 90) rfl ?_
        refine y_iloadN X103.here hx (hb hby at_90) rfl (pc' := 91) rfl ?_
        exact kt)
    have hf91_107 : x100 = (3 : Int32) := by
        exact law0_109 pi0 pi1 x1 x4 x93 x94 x95 x100 hx1 hx4 hx93 hx94 hx95 hx100 hx16
    have pre111 : ∀ t, Steps p.tables e below (T103.setTop (mkF m 97 #[iv pi0, iv pi1, iv x4, iv (3 : Int32), rv b84, iv (3 : Int32), iv x100, iv x105] [(.int x4), (.int x105)])) t → Go t := fun t kt => pre108 t (by
        refine y_icmpNo X103.here hx (hb hby at_91) (teq hf91_107).2 (pc' := 94) rfl ?_
        refine y_iload X103.here hx (hb hby at_94) rfl (pc' := 96) rfl ?_
        refine y_iloadN X103.here hx (hb hby at_96) rfl (pc' := 97) rfl ?_
        exact kt)
    have hf97_110 : x105 = x4 := by
        exact law0_112 pi0 pi1 x1 x4 x93 x94 x95 x105 hx1 hx4 hx93 hx94 hx95 hx105 hx16
    have pre113 : ∀ t, Steps p.tables e below (T103.setTop (mkF m 105 #[iv pi0, iv pi1, iv x4, iv (3 : Int32), rv b84, iv (3 : Int32), iv x100, iv x105] [(.int (1 : Int32))])) t → Go t := fun t kt => pre111 t (by
        refine y_icmpNo X103.here hx (hb hby at_97) (teq hf97_110).2 (pc' := 100) rfl ?_
        refine y_iconst X103.here hx (hb hby at_100) (v := (1 : Int32)) rfl (pc' := 101) rfl ?_
        refine y_goto X103.here hx (hb hby at_101) (pc' := 105) (by decide) rfl ?_
        exact kt)
    obtain ⟨fs, hr, hrun, hended, hW, hsame⟩ := X103.leave (v := some (.int (1 : Int32))) (fun h => by rw [Bd.returns] at h; cases h)
    refine ⟨_, _, (hGo _).mp (pre113 _ ?_), hrun, hended, _, _, rfl, ?_, ⟨_, rfl⟩, hW, hsame.mono (by decide) (by decide)⟩
    · exact retN X103 hx (t := .boolean) Bd.returns (by simp) (hb hby at_105) hr
    · show Q0 Z pi0 pi1 w_SEQUENCE_LENGTH w_SECOND_LOW w_SECOND_HIGH w_LEAD_MARK w_LEAD_PAYLOAD cc_w_SEQUENCE_LENGTH cc_w_SECOND_LOW cc_w_SECOND_HIGH cc_w_LEAD_MARK cc_w_LEAD_PAYLOAD h0 n0 _ T103.heap _
      rw [e103q]
      exact ⟨rfl, N104⟩
  · skip
    have pre114 : ∀ t, Steps p.tables e below (T14.setTop (mkF m 50 #[iv pi0, iv pi1, iv x4, iv (4 : Int32), .unset, .unset, .unset, .unset] [(.int (8 : Int32))])) t → Go t := fun t kt => pre22 t (by
        refine y_bipush X14.here hx (hb hby at_48) (v := (8 : Int32)) rfl (pc' := 50) rfl ?_
        exact kt)
    obtain ⟨T115, h115, k115, X115, e115, E115, A115, st115⟩ := newP X14 hx hZ (hw _ (List.mem_of_getElem? (i := 7) rfl)) e14q (g := (mkF m 50 #[iv pi0, iv pi1, iv x4, iv (4 : Int32), .unset, .unset, .unset, .unset] [(.int (8 : Int32))])) rfl (hb hby at_50) rfl (by decide) (cap := 8) (by decide) (by decide) (by decide) (by decide)
    obtain ⟨b115, g115⟩ : ∃ z, z = h0.size := ⟨_, rfl⟩
    rw [← g115] at A115 st115
    have pre116 : ∀ t, Steps p.tables e below (T115.setTop (mkF m 52 #[iv pi0, iv pi1, iv x4, iv (4 : Int32), .unset, .unset, .unset, .unset] [(.ref b115)])) t → Go t := fun t kt => pre114 t (st115 t kt)
    have G117 : n0 ≤ b115 := Nat.le_trans (O0.1 ▸ O0.2.1) (Nat.le_of_eq g115.symm)
    have O117 := O0.ext E115
    have f118 : Arv Z h115 b115 k115 .byte (8 : Int32) [(.int (0 : Int32)), (.int (0 : Int32)), (.int (0 : Int32)), (.int (0 : Int32)), (.int (0 : Int32)), (.int (0 : Int32)), (.int (0 : Int32)), (.int (0 : Int32))] (.int (0 : Int32)) := (Arv.new A115 (by decide)).pad (pad_rep [] (.int (0 : Int32)) 8)
    have pre119 : ∀ t, Steps p.tables e below (T115.setTop (mkF m 58 #[iv pi0, iv pi1, iv x4, iv (4 : Int32), rv b115, .unset, .unset, .unset] [(.int x4), (.int (0 : Int32)), (.ref b115)])) t → Go t := fun t kt => pre116 t (by
        refine y_astore X115.here hx (hb hby at_52) rfl (l' := #[iv pi0, iv pi1, iv x4, iv (4 : Int32), rv b115, .unset, .unset, .unset]) rfl (pc' := 54) rfl ?_
        refine y_aload X115.here hx (hb hby at_54) rfl rfl (pc' := 56) rfl ?_
        refine y_iconst X115.here hx (hb hby at_56) (v := (0 : Int32)) rfl (pc' := 57) rfl ?_
        refine y_iloadN X115.here hx (hb hby at_57) rfl (pc' := 58) rfl ?_
        exact kt)
    obtain ⟨v120, _, ⟨T120, L120, k120, n120⟩, -, X120, ⟨Lc120, hQ120, l120, y120, z120⟩, st120⟩ := Jvm.LawKit.callS X115 hx (y := (⟨"com/example/strict_codec/strictcodec/Utf8Grammar", "put", "([BII)I"⟩ : MethodName)) hown (mvT hZ (hw _ (List.mem_of_getElem? (i := 8) rfl))) (mvT hZ (hw _ (List.mem_of_getElem? (i := 9) rfl))) (mvT hZ (hw _ (List.mem_of_getElem? (i := 5) rfl))) (mvT hZ (hw _ (List.mem_of_getElem? (i := 10) rfl))) (by decide) (backOf (W := 0) (rm2l4 l Z a0 hw [] b115 x4 w_LEAD_MARK k115 (0 : Int32) (0 : Int32) (0 : Int32) (0 : Int32) (0 : Int32) (0 : Int32) (0 : Int32) (0 : Int32) cc_w_LEAD_MARK h115 n0 O117 S_LEAD_MARK G117 hx16.symm f118 AR_w_LEAD_MARK IN4_w_LEAD_MARK AT4_w_LEAD_MARK) hZ (hw _ (List.mem_of_getElem? (i := 10) rfl)) (hw _ (List.mem_of_getElem? (i := 5) rfl)) (by decide) (by decide)) (g := (mkF m 58 #[iv pi0, iv pi1, iv x4, iv (4 : Int32), rv b115, .unset, .unset, .unset] [(.int x4), (.int (0 : Int32)), (.ref b115)])) rfl (by rw [hml]; rfl) (argsL := [(.ref b115), (.int (0 : Int32)), (.int x4)]) (rest := []) (lenOf pd___BII_I rfl) rfl (by show 2 * 0 + _ ≤ _; exact Nat.le_of_eq rfl) (hb hby at_58) (fun _ _ => ⟨rfl, e115, (by decide : 1 + 0 ≤ _), (by decide : 8 + 0 ≤ _)⟩)
    dsimp only [Pt.U, Pt.locs, Pt.cells, Pt.slots] at X120 l120 y120 z120 st120 hQ120
    subst l120 y120 z120
    obtain ⟨hv120, N120q, K120q, p120_0⟩ := hQ120
    have N121 := Fr.app N15 N120q
    have hw120 := hv120
    subst hw120
    have pre122 : ∀ t, Steps p.tables e below (T120.setTop (mkF m 61 #[iv pi0, iv pi1, iv x4, iv (4 : Int32), rv b115, .unset, .unset, .unset] [(.int (4 : Int32))])) t → Go t := fun t kt => pre119 t (st120 t kt)
    obtain ⟨h120, eh120⟩ : ∃ z, T120.heap = z := ⟨_, rfl⟩
    rw [eh120] at K120q p120_0
    obtain ⟨x124, hx124⟩ : ∃ z : Int32, z = (nar .byte (((240 : Int32) ||| ((((((x4.toUInt32 >>> ((6 : Int32) &&& 31).toUInt32).toInt32).toUInt32 >>> ((6 : Int32) &&& 31).toUInt32).toInt32).toUInt32 >>> ((6 : Int32) &&& 31).toUInt32).toInt32)).toInt8.toInt32)) := ⟨_, rfl⟩
    rw [← hx124] at p120_0
    obtain ⟨x125, hx125⟩ : ∃ z : Int32, z = (nar .byte (((128 : Int32) ||| (((((x4.toUInt32 >>> ((6 : Int32) &&& 31).toUInt32).toInt32).toUInt32 >>> ((6 : Int32) &&& 31).toUInt32).toInt32) &&& (63 : Int32))).toInt8.toInt32)) := ⟨_, rfl⟩
    rw [← hx125] at p120_0
    obtain ⟨x126, hx126⟩ : ∃ z : Int32, z = (nar .byte (((128 : Int32) ||| (((x4.toUInt32 >>> ((6 : Int32) &&& 31).toUInt32).toInt32) &&& (63 : Int32))).toInt8.toInt32)) := ⟨_, rfl⟩
    rw [← hx126] at p120_0
    obtain ⟨x127, hx127⟩ : ∃ z : Int32, z = (nar .byte (((128 : Int32) ||| (x4 &&& (63 : Int32))).toInt8.toInt32)) := ⟨_, rfl⟩
    rw [← hx127] at p120_0
    have O128 := O117.keep K120q (allS G117 all0)
    have pre129 : ∀ t, Steps p.tables e below (T120.setTop (mkF m 68 #[iv pi0, iv pi1, iv x4, iv (4 : Int32), rv b115, iv (4 : Int32), .unset, .unset] [(.int (8 : Int32)), (.int (0 : Int32)), (.ref b115)])) t → Go t := fun t kt => pre122 t (by
        refine y_istore X120.here hx (hb hby at_61) (l' := #[iv pi0, iv pi1, iv x4, iv (4 : Int32), rv b115, iv (4 : Int32), .unset, .unset]) rfl (pc' := 63) rfl ?_
        refine y_aload X120.here hx (hb hby at_63) rfl rfl (pc' := 65) rfl ?_
        refine y_iconst X120.here hx (hb hby at_65) (v := (0 : Int32)) rfl (pc' := 66) rfl ?_
        refine y_bipush X120.here hx (hb hby at_66) (v := (8 : Int32)) rfl (pc' := 68) rfl ?_
        exact kt)
    obtain ⟨v130, _, ⟨T130, L130, k130, n130⟩, -, X130, ⟨Lc130, hQ130, l130, y130, z130⟩, st130⟩ := Jvm.LawKit.callS X120 hx (y := (⟨"com/example/strict_codec/strictcodec/Utf8Grammar", "span", "([BII)I"⟩ : MethodName)) hown (mvT hZ (hw _ (List.mem_of_getElem? (i := 14) rfl))) (mvT hZ (hw _ (List.mem_of_getElem? (i := 15) rfl))) (mvT hZ (hw _ (List.mem_of_getElem? (i := 5) rfl))) (mvT hZ (hw _ (List.mem_of_getElem? (i := 16) rfl))) (by decide) (backOf (W := 0) (rm3a0 l Z a0 hw [] b115 (8 : Int32) w_SEQUENCE_LENGTH w_SECOND_LOW w_SECOND_HIGH (tb_SEQUENCE_LENGTH (x124 &&& (255 : Int32))) (tb_SECOND_LOW (x124 &&& (255 : Int32))) (tb_SECOND_HIGH (x124 &&& (255 : Int32))) k115 x124 x125 x126 x127 (0 : Int32) (0 : Int32) (0 : Int32) (0 : Int32) cc_w_SEQUENCE_LENGTH cc_w_SECOND_LOW cc_w_SECOND_HIGH h120 n0 O128 S_SEQUENCE_LENGTH S_SECOND_LOW S_SECOND_HIGH (TB_SEQUENCE_LENGTH _ (own_b x124).1 (own_b x124).2).1 (TB_SEQUENCE_LENGTH _ (own_b x124).1 (own_b x124).2).2 (TB_SECOND_LOW _ (own_b x124).1 (own_b x124).2).1 (TB_SECOND_LOW _ (own_b x124).1 (own_b x124).2).2 (TB_SECOND_HIGH _ (own_b x124).1 (own_b x124).2).1 (TB_SECOND_HIGH _ (own_b x124).1 (own_b x124).2).2 (own_wq _) p120_0 AR_w_SEQUENCE_LENGTH AR_w_SECOND_LOW AR_w_SECOND_HIGH) hZ (hw _ (List.mem_of_getElem? (i := 16) rfl)) (hw _ (List.mem_of_getElem? (i := 5) rfl)) (by decide) (by decide)) (g := (mkF m 68 #[iv pi0, iv pi1, iv x4, iv (4 : Int32), rv b115, iv (4 : Int32), .unset, .unset] [(.int (8 : Int32)), (.int (0 : Int32)), (.ref b115)])) rfl (by rw [hml]; rfl) (argsL := [(.ref b115), (.int (0 : Int32)), (.int (8 : Int32))]) (rest := []) (lenOf pd___BII_I rfl) rfl (by show 2 * 0 + _ ≤ _; exact Nat.le_of_eq rfl) (hb hby at_68) (fun _ _ => ⟨rfl, eh120, (by decide : 1 + 0 ≤ _), (by decide : 8 + 0 ≤ _)⟩)
    dsimp only [Pt.U, Pt.locs, Pt.cells, Pt.slots] at X130 l130 y130 z130 st130 hQ130
    subst l130 y130 z130
    obtain ⟨hv130, N130q, e130q⟩ := hQ130
    have N131 := Fr.app N121 N130q
    have hw130 := hv130
    obtain ⟨x132, hx132⟩ : ∃ z : Int32, z = (fr3a0 (8 : Int32) (tb_SEQUENCE_LENGTH (x124 &&& (255 : Int32))) (tb_SECOND_LOW (x124 &&& (255 : Int32))) (tb_SECOND_HIGH (x124 &&& (255 : Int32))) x125 x126 x127) := ⟨_, rfl⟩
    rw [← hx132] at hw130
    subst hw130
    have pre133 : ∀ t, Steps p.tables e below (T130.setTop (mkF m 71 #[iv pi0, iv pi1, iv x4, iv (4 : Int32), rv b115, iv (4 : Int32), .unset, .unset] [(.int x132)])) t → Go t := fun t kt => pre129 t (st130 t kt)
    have pre134 : ∀ t, Steps p.tables e below (T130.setTop (mkF m 77 #[iv pi0, iv pi1, iv x4, iv (4 : Int32), rv b115, iv (4 : Int32), iv x132, .unset] [(.int (4 : Int32)), (.int (0 : Int32)), (.ref b115)])) t → Go t := fun t kt => pre133 t (by
        refine y_istore X130.here hx (hb hby at_71) (l' := #[iv pi0, iv pi1, iv x4, iv (4 : Int32), rv b115, iv (4 : Int32), iv x132, .unset]) rfl (pc' := 73) rfl ?_
        refine y_aload X130.here hx (hb hby at_73) rfl rfl (pc' := 75) rfl ?_
        refine y_iconst X130.here hx (hb hby at_75) (v := (0 : Int32)) rfl (pc' := 76) rfl ?_
        refine y_iloadN X130.here hx (hb hby at_76) rfl (pc' := 77) rfl ?_
        exact kt)
    obtain ⟨v135, _, ⟨T135, L135, k135, n135⟩, -, X135, ⟨Lc135, hQ135, l135, y135, z135⟩, st135⟩ := Jvm.LawKit.callS X130 hx (y := (⟨"com/example/strict_codec/strictcodec/Utf8Grammar", "scalarValue", "([BII)I"⟩ : MethodName)) hown (mvT hZ (hw _ (List.mem_of_getElem? (i := 23) rfl))) (mvT hZ (hw _ (List.mem_of_getElem? (i := 24) rfl))) (mvT hZ (hw _ (List.mem_of_getElem? (i := 5) rfl))) (mvT hZ (hw _ (List.mem_of_getElem? (i := 25) rfl))) (by decide) (backOf (W := 0) (rm4a0l4 l Z a0 hw [] b115 w_LEAD_PAYLOAD k115 x124 x125 x126 x127 (0 : Int32) (0 : Int32) (0 : Int32) (0 : Int32) cc_w_LEAD_PAYLOAD h120 n0 O128 S_LEAD_PAYLOAD p120_0 AR_w_LEAD_PAYLOAD IN4_w_LEAD_PAYLOAD AT4_w_LEAD_PAYLOAD) hZ (hw _ (List.mem_of_getElem? (i := 25) rfl)) (hw _ (List.mem_of_getElem? (i := 5) rfl)) (by decide) (by decide)) (g := (mkF m 77 #[iv pi0, iv pi1, iv x4, iv (4 : Int32), rv b115, iv (4 : Int32), iv x132, .unset] [(.int (4 : Int32)), (.int (0 : Int32)), (.ref b115)])) rfl (by rw [hml]; rfl) (argsL := [(.ref b115), (.int (0 : Int32)), (.int (4 : Int32))]) (rest := []) (lenOf pd___BII_I rfl) rfl (by show 2 * 0 + _ ≤ _; exact Nat.le_of_eq rfl) (hb hby at_77) (fun _ _ => ⟨rfl, e130q, (by decide : 1 + 0 ≤ _), (by decide : 8 + 0 ≤ _)⟩)
    dsimp only [Pt.U, Pt.locs, Pt.cells, Pt.slots] at X135 l135 y135 z135 st135 hQ135
    subst l135 y135 z135
    obtain ⟨hv135, N135q, e135q⟩ := hQ135
    have N136 := Fr.app N131 N135q
    have hw135 := hv135
    obtain ⟨x137, hx137⟩ : ∃ z : Int32, z = (((((((x124 &&& (7 : Int32)) <<< ((6 : Int32) &&& 31)) ||| (x125 &&& (63 : Int32))) <<< ((6 : Int32) &&& 31)) ||| (x126 &&& (63 : Int32))) <<< ((6 : Int32) &&& 31)) ||| (x127 &&& (63 : Int32))) := ⟨_, rfl⟩
    rw [← hx137] at hw135
    subst hw135
    have pre138 : ∀ t, Steps p.tables e below (T135.setTop (mkF m 80 #[iv pi0, iv pi1, iv x4, iv (4 : Int32), rv b115, iv (4 : Int32), iv x132, .unset] [(.int x137)])) t → Go t := fun t kt => pre134 t (st135 t kt)
    have pre140 : ∀ t, Steps p.tables e below (T135.setTop (mkF m 91 #[iv pi0, iv pi1, iv x4, iv (4 : Int32), rv b115, iv (4 : Int32), iv x132, iv x137] [(.int (4 : Int32)), (.int x132)])) t → Go t := fun t kt => pre138 t (by
        refine y_istore X135.here hx (hb hby at_80) (l' := #[iv pi0, iv pi1, iv x4, iv (4 : Int32), rv b115, iv (4 : Int32), iv x132, iv x137]) rfl (pc' := 82) rfl ?_
        refine y_iload X135.here hx (hb hby at_82) rfl (pc' := 84) rfl ?_
        refine y_iloadN X135.here hx (hb hby at_84) rfl (pc' := 85) rfl ?_
        refine y_icmpNo X135.here hx (hb hby at_85) (teq (rfl : (4 : Int32) = (4 : Int32))).2 (pc' := 88) rfl ?_
        refine y_iload X135.here hx (hb hby at_88) rfl (pc' := 90) rfl ?_
        refine y_iloadN X135.here hx (hb hby at_90) rfl (pc' := 91) rfl ?_
        exact kt)
    have hf91_139 : x132 = (4 : Int32) := by
        exact law0_141 pi0 pi1 x1 x4 x124 x125 x126 x127 x132 hx1 hx4 hx124 hx125 hx126 hx127 hx132 hx16
    have pre143 : ∀ t, Steps p.tables e below (T135.setTop (mkF m 97 #[iv pi0, iv pi1, iv x4, iv (4 : Int32), rv b115, iv (4 : Int32), iv x132, iv x137] [(.int x4), (.int x137)])) t → Go t := fun t kt => pre140 t (by
        refine y_icmpNo X135.here hx (hb hby at_91) (teq hf91_139).2 (pc' := 94) rfl ?_
        refine y_iload X135.here hx (hb hby at_94) rfl (pc' := 96) rfl ?_
        refine y_iloadN X135.here hx (hb hby at_96) rfl (pc' := 97) rfl ?_
        exact kt)
    have hf97_142 : x137 = x4 := by
        exact law0_144 pi0 pi1 x1 x4 x124 x125 x126 x127 x137 hx1 hx4 hx124 hx125 hx126 hx127 hx137 hx16
    have pre145 : ∀ t, Steps p.tables e below (T135.setTop (mkF m 105 #[iv pi0, iv pi1, iv x4, iv (4 : Int32), rv b115, iv (4 : Int32), iv x132, iv x137] [(.int (1 : Int32))])) t → Go t := fun t kt => pre143 t (by
        refine y_icmpNo X135.here hx (hb hby at_97) (teq hf97_142).2 (pc' := 100) rfl ?_
        refine y_iconst X135.here hx (hb hby at_100) (v := (1 : Int32)) rfl (pc' := 101) rfl ?_
        refine y_goto X135.here hx (hb hby at_101) (pc' := 105) (by decide) rfl ?_
        exact kt)
    obtain ⟨fs, hr, hrun, hended, hW, hsame⟩ := X135.leave (v := some (.int (1 : Int32))) (fun h => by rw [Bd.returns] at h; cases h)
    refine ⟨_, _, (hGo _).mp (pre145 _ ?_), hrun, hended, _, _, rfl, ?_, ⟨_, rfl⟩, hW, hsame.mono (by decide) (by decide)⟩
    · exact retN X135 hx (t := .boolean) Bd.returns (by simp) (hb hby at_105) hr
    · show Q0 Z pi0 pi1 w_SEQUENCE_LENGTH w_SECOND_LOW w_SECOND_HIGH w_LEAD_MARK w_LEAD_PAYLOAD cc_w_SEQUENCE_LENGTH cc_w_SECOND_LOW cc_w_SECOND_HIGH cc_w_LEAD_MARK cc_w_LEAD_PAYLOAD h0 n0 _ T135.heap _
      rw [e135q]
      exact ⟨rfl, N136⟩
set_option maxRecDepth 65536 in
set_option maxHeartbeats 40000000 in
theorem comes_1 {Post : Tables → Env → Array Value → State → Outcome → State → Prop} (hpost : ∀ tb e args s v u, (limb_1_1.after args s (.returned v) u = true ∧ limb_1_2.after args s (.returned v) u = true ∧ True) → FrameEnd s (.returned v) u (Jvm.fieldLocs frame_1_writes args s ++ Jvm.arrayLocs frame_1_arrays args s ++ Jvm.staticLocs frame_1_statics s) 16 128 → Post tb e args s (.returned v) u) :
    ArmFor flags0 classFile x code maxLocals ret World_1 tables_1 room_1 Calls_1 rest_1 Pre_1 Post := by
  intro l hfl _ _ p e ha hc hk s m args below hf hA hF happ hP
  obtain ⟨hcalls, hrest, hpre⟩ := hP
  obtain ⟨-, -, -, hnamed, -, -, -, hat⟩ := (Spec.applies_iff hf).mp happ
  obtain ⟨hg, hn⟩ := and_e (Cond.before_iff.mp (show (Jvm.Cond.and given_1 narrow_1).before args s = true from hpre))
  obtain ⟨g0, gr0⟩ := and_e hg
  obtain ⟨g1, gr1⟩ := and_e gr0
  obtain ⟨w0, w1, rfl⟩ : ∃ w0 w1 : Value, args = #[w0, w1] := by
    have hs : args.size = 2 := by simpa [Cond.value, given_1] using g0
    obtain ⟨L⟩ := args
    match L, hs with
    | [w0, w1], _ => exact ⟨w0, w1, rfl⟩
  have hw := fun d (hd : d ∈ tables_1) => atoms_spec (ws := Jvm.Cond.code x code maxLocals ret :: tables_1) hat d (List.mem_cons_of_mem _ hd)
  have hfit : Fit s := fun {y c} hc i hi => by
    obtain ⟨ha, rfl⟩ := Array.getElem?_eq_some_iff.mp hc
    have q := List.all_eq_true.mp ((Array.all_eq_true_iff_forall_mem.mp hF) _ (Array.getElem_mem ha)) i (List.mem_range.mpr hi)
    simpa [Array.getElem?_eq_getElem hi] using q
  obtain ⟨i0, ei0⟩ := is_v g1
  obtain rfl : w0 = (.int i0) := Option.some.inj ei0
  obtain ⟨i1, ei1⟩ := is_v gr1
  obtain rfl : w1 = (.int i1) := Option.some.inj ei1
  obtain ⟨n0, nr0⟩ := and_e hn
  obtain ⟨n1, nr1⟩ := and_e nr0
  obtain ⟨n2, nr2⟩ := and_e nr1
  obtain ⟨n3, nr3⟩ := and_e nr2
  obtain ⟨n4, nr4⟩ := and_e nr3
  obtain ⟨n5, nr5⟩ := and_e nr4
  obtain ⟨n6, nr6⟩ := and_e nr5
  obtain ⟨n7, nr7⟩ := and_e nr6
  obtain ⟨n8, nr8⟩ := and_e nr7
  obtain ⟨n9, nr9⟩ := and_e nr8
  obtain ⟨n10, nr10⟩ := and_e nr9
  obtain ⟨n11, nr11⟩ := and_e nr10
  obtain ⟨n12, nr12⟩ := and_e nr11
  obtain ⟨n13, nr13⟩ := and_e nr12
  obtain ⟨n14, nr14⟩ := and_e nr13
  obtain ⟨n15, nr15⟩ := and_e nr14
  obtain ⟨n16, nr16⟩ := and_e nr15
  obtain ⟨n17, nr17⟩ := and_e nr16
  obtain ⟨n18, nr18⟩ := and_e nr17
  obtain ⟨n19, nr19⟩ := and_e nr18
  obtain ⟨n20, nr20⟩ := and_e nr19
  obtain ⟨n21, nr21⟩ := and_e nr20
  obtain ⟨n22, nr22⟩ := and_e nr21
  obtain ⟨n23, nr23⟩ := and_e nr22
  obtain ⟨n24, nr24⟩ := and_e nr23
  obtain ⟨n25, nr25⟩ := and_e nr24
  obtain ⟨n26, nr26⟩ := and_e nr25
  obtain ⟨n27, nr27⟩ := and_e nr26
  obtain ⟨n28, nr28⟩ := and_e nr27
  obtain ⟨n29, nr29⟩ := and_e nr28
  obtain ⟨n30, nr30⟩ := and_e nr29
  obtain ⟨n31, nr31⟩ := and_e nr30
  obtain ⟨n32, nr32⟩ := and_e nr31
  obtain ⟨n33, nr33⟩ := and_e nr32
  obtain ⟨n34, nr34⟩ := and_e nr33
  obtain ⟨n35, nr35⟩ := and_e nr34
  obtain ⟨n36, nr36⟩ := and_e nr35
  obtain ⟨n37, nr37⟩ := and_e nr36
  obtain ⟨w_SEQUENCE_LENGTH, ev_SEQUENCE_LENGTH⟩ := arr_v n2
  have S_SEQUENCE_LENGTH := Sta.start ev_SEQUENCE_LENGTH (Or.inr ⟨(hw _ (List.mem_of_getElem? (i := 5) rfl)), (hw _ (List.mem_of_getElem? (i := 18) rfl))⟩)
  obtain ⟨cc_w_SEQUENCE_LENGTH, AR_w_SEQUENCE_LENGTH⟩ := Arr.start ev_SEQUENCE_LENGTH n2
  have SZ_w_SEQUENCE_LENGTH := own_sz (own_len ev_SEQUENCE_LENGTH (AR_w_SEQUENCE_LENGTH.fin (Vm.Alike.refl _)) (own_eqI n3))
  have TB_SEQUENCE_LENGTH : ∀ j : Int32, ¬ j < 0 → j < (256 : Int32) → ¬ (j < 0 ∨ cc_w_SEQUENCE_LENGTH.slots.size ≤ j.toNatClampNeg) ∧ cc_w_SEQUENCE_LENGTH.slots[j.toNatClampNeg]? = some (.int (tb_SEQUENCE_LENGTH j)) := by
    intro j hj hj2
    have hin := inb_of SZ_w_SEQUENCE_LENGTH ⟨hj, hj2⟩
    obtain ⟨v, hv1, hv2⟩ := elem_fit hfit AR_w_SEQUENCE_LENGTH hin
    obtain ⟨x, rfl⟩ := fit_I hv2 (by simp)
    refine ⟨hin, hv1.trans (congrArg (fun z => some (Value.int z)) ?_)⟩
    have hlt := Nat.lt_of_not_le fun q => hin (Or.inr q)
    have eI := idx_at (args := (#[(.int i0), (.int i1)] : Array Value)) (first := s) (o := none) (s := s) hj
    have evj : (Jvm.Term.static "com/example/strict_codec/strictcodec/Utf8Grammar" "SEQUENCE_LENGTH" "[B").eval (#[(.int i0), (.int i1)] : Array Value) s none [j.toNatClampNeg] s = some (.ref w_SEQUENCE_LENGTH) := by first | exact ev_SEQUENCE_LENGTH | simpa [Term.eval] using ev_SEQUENCE_LENGTH
    have eE : (Jvm.Term.elem (Jvm.Term.static "com/example/strict_codec/strictcodec/Utf8Grammar" "SEQUENCE_LENGTH" "[B") (Jvm.Term.index 0)).eval (#[(.int i0), (.int i1)] : Array Value) s none [j.toNatClampNeg] s = some (.int x) := (elem_f evj eI (AR_w_SEQUENCE_LENGTH.fin (Vm.Alike.refl _)) hj).trans hv1
    have c0 : (128 : Int32) ≤ j ∨ x = (1 : Int32) := or_e2 (Cond.le_ints (Term.int_eval _) eI) (Cond.eq_ints eE (Term.int_eval _)) (Cond.all_elim ev_SEQUENCE_LENGTH (AR_w_SEQUENCE_LENGTH.fin (Vm.Alike.refl _)) n15 _ hlt)
    have c1 : j < (128 : Int32) ∨ ¬ j < (194 : Int32) ∨ x = (0 : Int32) := or3 (Cond.all_elim ev_SEQUENCE_LENGTH (AR_w_SEQUENCE_LENGTH.fin (Vm.Alike.refl _)) n16 _ hlt) (Cond.lt_ints eI (Term.int_eval _)) (Cond.le_ints (Term.int_eval _) eI) (Cond.eq_ints eE (Term.int_eval _))
    have c2 : j < (194 : Int32) ∨ ¬ j < (224 : Int32) ∨ x = (2 : Int32) := or3 (Cond.all_elim ev_SEQUENCE_LENGTH (AR_w_SEQUENCE_LENGTH.fin (Vm.Alike.refl _)) n17 _ hlt) (Cond.lt_ints eI (Term.int_eval _)) (Cond.le_ints (Term.int_eval _) eI) (Cond.eq_ints eE (Term.int_eval _))
    have c3 : j < (224 : Int32) ∨ ¬ j < (240 : Int32) ∨ x = (3 : Int32) := or3 (Cond.all_elim ev_SEQUENCE_LENGTH (AR_w_SEQUENCE_LENGTH.fin (Vm.Alike.refl _)) n18 _ hlt) (Cond.lt_ints eI (Term.int_eval _)) (Cond.le_ints (Term.int_eval _) eI) (Cond.eq_ints eE (Term.int_eval _))
    have c4 : j < (240 : Int32) ∨ ¬ j < (245 : Int32) ∨ x = (4 : Int32) := or3 (Cond.all_elim ev_SEQUENCE_LENGTH (AR_w_SEQUENCE_LENGTH.fin (Vm.Alike.refl _)) n19 _ hlt) (Cond.lt_ints eI (Term.int_eval _)) (Cond.le_ints (Term.int_eval _) eI) (Cond.eq_ints eE (Term.int_eval _))
    have c5 : j < (245 : Int32) ∨ x = (0 : Int32) := or_e2 (Cond.lt_ints eI (Term.int_eval _)) (Cond.eq_ints eE (Term.int_eval _)) (Cond.all_elim ev_SEQUENCE_LENGTH (AR_w_SEQUENCE_LENGTH.fin (Vm.Alike.refl _)) n20 _ hlt)
    exact own_tb_SEQUENCE_LENGTH j x hj hj2 c0 c1 c2 c3 c4 c5
  obtain ⟨w_SECOND_LOW, ev_SECOND_LOW⟩ := arr_v n4
  have S_SECOND_LOW := Sta.start ev_SECOND_LOW (Or.inr ⟨(hw _ (List.mem_of_getElem? (i := 5) rfl)), (hw _ (List.mem_of_getElem? (i := 20) rfl))⟩)
  obtain ⟨cc_w_SECOND_LOW, AR_w_SECOND_LOW⟩ := Arr.start ev_SECOND_LOW n4
  have SZ_w_SECOND_LOW := own_sz (own_len ev_SECOND_LOW (AR_w_SECOND_LOW.fin (Vm.Alike.refl _)) (own_eqI n5))
  have TB_SECOND_LOW : ∀ j : Int32, ¬ j < 0 → j < (256 : Int32) → ¬ (j < 0 ∨ cc_w_SECOND_LOW.slots.size ≤ j.toNatClampNeg) ∧ cc_w_SECOND_LOW.slots[j.toNatClampNeg]? = some (.int (tb_SECOND_LOW j)) := by
    intro j hj hj2
    have hin := inb_of SZ_w_SECOND_LOW ⟨hj, hj2⟩
    obtain ⟨v, hv1, hv2⟩ := elem_fit hfit AR_w_SECOND_LOW hin
    obtain ⟨x, rfl⟩ := fit_I hv2 (by simp)
    refine ⟨hin, hv1.trans (congrArg (fun z => some (Value.int z)) ?_)⟩
    have hlt := Nat.lt_of_not_le fun q => hin (Or.inr q)
    have eI := idx_at (args := (#[(.int i0), (.int i1)] : Array Value)) (first := s) (o := none) (s := s) hj
    have evj : (Jvm.Term.static "com/example/strict_codec/strictcodec/Utf8Grammar" "SECOND_LOW" "[I").eval (#[(.int i0), (.int i1)] : Array Value) s none [j.toNatClampNeg] s = some (.ref w_SECOND_LOW) := by first | exact ev_SECOND_LOW | simpa [Term.eval] using ev_SECOND_LOW
    have eE : (Jvm.Term.elem (Jvm.Term.static "com/example/strict_codec/strictcodec/Utf8Grammar" "SECOND_LOW" "[I") (Jvm.Term.index 0)).eval (#[(.int i0), (.int i1)] : Array Value) s none [j.toNatClampNeg] s = some (.int x) := (elem_f evj eI (AR_w_SECOND_LOW.fin (Vm.Alike.refl _)) hj).trans hv1
    have c0 : (194 : Int32) ≤ j ∨ x = (0 : Int32) := or_e2 (Cond.le_ints (Term.int_eval _) eI) (Cond.eq_ints eE (Term.int_eval _)) (Cond.all_elim ev_SECOND_LOW (AR_w_SECOND_LOW.fin (Vm.Alike.refl _)) n21 _ hlt)
    have c1 : j < (194 : Int32) ∨ ¬ j < (224 : Int32) ∨ x = (128 : Int32) := or3 (Cond.all_elim ev_SECOND_LOW (AR_w_SECOND_LOW.fin (Vm.Alike.refl _)) n22 _ hlt) (Cond.lt_ints eI (Term.int_eval _)) (Cond.le_ints (Term.int_eval _) eI) (Cond.eq_ints eE (Term.int_eval _))
    have c2 : j = (224 : Int32) → x = (160 : Int32) := fun q => by subst q; exact Value.int.inj (Option.some.inj (hv1.symm.trans (elem_in (own_eqI n23) ev_SECOND_LOW (Term.int_eval _) AR_w_SECOND_LOW.1).2))
    have c3 : j < (225 : Int32) ∨ ¬ j < (240 : Int32) ∨ x = (128 : Int32) := or3 (Cond.all_elim ev_SECOND_LOW (AR_w_SECOND_LOW.fin (Vm.Alike.refl _)) n24 _ hlt) (Cond.lt_ints eI (Term.int_eval _)) (Cond.le_ints (Term.int_eval _) eI) (Cond.eq_ints eE (Term.int_eval _))
    have c4 : j = (240 : Int32) → x = (144 : Int32) := fun q => by subst q; exact Value.int.inj (Option.some.inj (hv1.symm.trans (elem_in (own_eqI n25) ev_SECOND_LOW (Term.int_eval _) AR_w_SECOND_LOW.1).2))
    have c5 : j < (241 : Int32) ∨ ¬ j < (245 : Int32) ∨ x = (128 : Int32) := or3 (Cond.all_elim ev_SECOND_LOW (AR_w_SECOND_LOW.fin (Vm.Alike.refl _)) n26 _ hlt) (Cond.lt_ints eI (Term.int_eval _)) (Cond.le_ints (Term.int_eval _) eI) (Cond.eq_ints eE (Term.int_eval _))
    have c6 : j < (245 : Int32) ∨ x = (0 : Int32) := or_e2 (Cond.lt_ints eI (Term.int_eval _)) (Cond.eq_ints eE (Term.int_eval _)) (Cond.all_elim ev_SECOND_LOW (AR_w_SECOND_LOW.fin (Vm.Alike.refl _)) n27 _ hlt)
    exact own_tb_SECOND_LOW j x hj hj2 c0 c1 c2 c3 c4 c5 c6
  obtain ⟨w_SECOND_HIGH, ev_SECOND_HIGH⟩ := arr_v n6
  have S_SECOND_HIGH := Sta.start ev_SECOND_HIGH (Or.inr ⟨(hw _ (List.mem_of_getElem? (i := 5) rfl)), (hw _ (List.mem_of_getElem? (i := 22) rfl))⟩)
  obtain ⟨cc_w_SECOND_HIGH, AR_w_SECOND_HIGH⟩ := Arr.start ev_SECOND_HIGH n6
  have SZ_w_SECOND_HIGH := own_sz (own_len ev_SECOND_HIGH (AR_w_SECOND_HIGH.fin (Vm.Alike.refl _)) (own_eqI n7))
  have TB_SECOND_HIGH : ∀ j : Int32, ¬ j < 0 → j < (256 : Int32) → ¬ (j < 0 ∨ cc_w_SECOND_HIGH.slots.size ≤ j.toNatClampNeg) ∧ cc_w_SECOND_HIGH.slots[j.toNatClampNeg]? = some (.int (tb_SECOND_HIGH j)) := by
    intro j hj hj2
    have hin := inb_of SZ_w_SECOND_HIGH ⟨hj, hj2⟩
    obtain ⟨v, hv1, hv2⟩ := elem_fit hfit AR_w_SECOND_HIGH hin
    obtain ⟨x, rfl⟩ := fit_I hv2 (by simp)
    refine ⟨hin, hv1.trans (congrArg (fun z => some (Value.int z)) ?_)⟩
    have hlt := Nat.lt_of_not_le fun q => hin (Or.inr q)
    have eI := idx_at (args := (#[(.int i0), (.int i1)] : Array Value)) (first := s) (o := none) (s := s) hj
    have evj : (Jvm.Term.static "com/example/strict_codec/strictcodec/Utf8Grammar" "SECOND_HIGH" "[I").eval (#[(.int i0), (.int i1)] : Array Value) s none [j.toNatClampNeg] s = some (.ref w_SECOND_HIGH) := by first | exact ev_SECOND_HIGH | simpa [Term.eval] using ev_SECOND_HIGH
    have eE : (Jvm.Term.elem (Jvm.Term.static "com/example/strict_codec/strictcodec/Utf8Grammar" "SECOND_HIGH" "[I") (Jvm.Term.index 0)).eval (#[(.int i0), (.int i1)] : Array Value) s none [j.toNatClampNeg] s = some (.int x) := (elem_f evj eI (AR_w_SECOND_HIGH.fin (Vm.Alike.refl _)) hj).trans hv1
    have c0 : (194 : Int32) ≤ j ∨ x = (0 : Int32) := or_e2 (Cond.le_ints (Term.int_eval _) eI) (Cond.eq_ints eE (Term.int_eval _)) (Cond.all_elim ev_SECOND_HIGH (AR_w_SECOND_HIGH.fin (Vm.Alike.refl _)) n28 _ hlt)
    have c1 : j < (194 : Int32) ∨ ¬ j < (237 : Int32) ∨ x = (191 : Int32) := or3 (Cond.all_elim ev_SECOND_HIGH (AR_w_SECOND_HIGH.fin (Vm.Alike.refl _)) n29 _ hlt) (Cond.lt_ints eI (Term.int_eval _)) (Cond.le_ints (Term.int_eval _) eI) (Cond.eq_ints eE (Term.int_eval _))
    have c2 : j = (237 : Int32) → x = (159 : Int32) := fun q => by subst q; exact Value.int.inj (Option.some.inj (hv1.symm.trans (elem_in (own_eqI n30) ev_SECOND_HIGH (Term.int_eval _) AR_w_SECOND_HIGH.1).2))
    have c3 : j < (238 : Int32) ∨ ¬ j < (244 : Int32) ∨ x = (191 : Int32) := or3 (Cond.all_elim ev_SECOND_HIGH (AR_w_SECOND_HIGH.fin (Vm.Alike.refl _)) n31 _ hlt) (Cond.lt_ints eI (Term.int_eval _)) (Cond.le_ints (Term.int_eval _) eI) (Cond.eq_ints eE (Term.int_eval _))
    have c4 : j = (244 : Int32) → x = (143 : Int32) := fun q => by subst q; exact Value.int.inj (Option.some.inj (hv1.symm.trans (elem_in (own_eqI n32) ev_SECOND_HIGH (Term.int_eval _) AR_w_SECOND_HIGH.1).2))
    have c5 : j < (245 : Int32) ∨ x = (0 : Int32) := or_e2 (Cond.lt_ints eI (Term.int_eval _)) (Cond.eq_ints eE (Term.int_eval _)) (Cond.all_elim ev_SECOND_HIGH (AR_w_SECOND_HIGH.fin (Vm.Alike.refl _)) n33 _ hlt)
    exact own_tb_SECOND_HIGH j x hj hj2 c0 c1 c2 c3 c4 c5
  obtain ⟨w_LEAD_MARK, ev_LEAD_MARK⟩ := arr_v n0
  have S_LEAD_MARK := Sta.start ev_LEAD_MARK (Or.inr ⟨(hw _ (List.mem_of_getElem? (i := 5) rfl)), (hw _ (List.mem_of_getElem? (i := 13) rfl))⟩)
  obtain ⟨cc_w_LEAD_MARK, AR_w_LEAD_MARK⟩ := Arr.start ev_LEAD_MARK n0
  obtain ⟨IN1_w_LEAD_MARK, AT1_w_LEAD_MARK⟩ := elem_in (own_eqI n11) ev_LEAD_MARK (Term.int_eval _) AR_w_LEAD_MARK.1
  obtain ⟨IN2_w_LEAD_MARK, AT2_w_LEAD_MARK⟩ := elem_in (own_eqI n12) ev_LEAD_MARK (Term.int_eval _) AR_w_LEAD_MARK.1
  obtain ⟨IN3_w_LEAD_MARK, AT3_w_LEAD_MARK⟩ := elem_in (own_eqI n13) ev_LEAD_MARK (Term.int_eval _) AR_w_LEAD_MARK.1
  obtain ⟨IN4_w_LEAD_MARK, AT4_w_LEAD_MARK⟩ := elem_in (own_eqI n14) ev_LEAD_MARK (Term.int_eval _) AR_w_LEAD_MARK.1
  obtain ⟨w_LEAD_PAYLOAD, ev_LEAD_PAYLOAD⟩ := arr_v n8
  have S_LEAD_PAYLOAD := Sta.start ev_LEAD_PAYLOAD (Or.inr ⟨(hw _ (List.mem_of_getElem? (i := 5) rfl)), (hw _ (List.mem_of_getElem? (i := 27) rfl))⟩)
  obtain ⟨cc_w_LEAD_PAYLOAD, AR_w_LEAD_PAYLOAD⟩ := Arr.start ev_LEAD_PAYLOAD n8
  obtain ⟨IN1_w_LEAD_PAYLOAD, AT1_w_LEAD_PAYLOAD⟩ := elem_in (own_eqI n35) ev_LEAD_PAYLOAD (Term.int_eval _) AR_w_LEAD_PAYLOAD.1
  obtain ⟨IN2_w_LEAD_PAYLOAD, AT2_w_LEAD_PAYLOAD⟩ := elem_in (own_eqI n36) ev_LEAD_PAYLOAD (Term.int_eval _) AR_w_LEAD_PAYLOAD.1
  obtain ⟨IN3_w_LEAD_PAYLOAD, AT3_w_LEAD_PAYLOAD⟩ := elem_in (own_eqI n37) ev_LEAD_PAYLOAD (Term.int_eval _) AR_w_LEAD_PAYLOAD.1
  obtain ⟨IN4_w_LEAD_PAYLOAD, AT4_w_LEAD_PAYLOAD⟩ := elem_in (own_eqI nr37) ev_LEAD_PAYLOAD (Term.int_eval _) AR_w_LEAD_PAYLOAD.1
  obtain ⟨n, o, h1, h2, h3, _, L, rfl, ⟨rfl, N⟩, hq⟩ := rm0 l s _ hw tables_1 i0 i1 w_SEQUENCE_LENGTH w_SECOND_LOW w_SECOND_HIGH w_LEAD_MARK w_LEAD_PAYLOAD cc_w_SEQUENCE_LENGTH cc_w_SECOND_LOW cc_w_SECOND_HIGH cc_w_LEAD_MARK cc_w_LEAD_PAYLOAD s.heap s.heap.size (Old.start s) S_SEQUENCE_LENGTH S_SECOND_LOW S_SECOND_HIGH S_LEAD_MARK S_LEAD_PAYLOAD TB_SEQUENCE_LENGTH TB_SECOND_LOW TB_SECOND_HIGH AR_w_SEQUENCE_LENGTH AR_w_SECOND_LOW AR_w_SECOND_HIGH AR_w_LEAD_MARK IN1_w_LEAD_MARK AT1_w_LEAD_MARK IN2_w_LEAD_MARK AT2_w_LEAD_MARK IN3_w_LEAD_MARK AT3_w_LEAD_MARK IN4_w_LEAD_MARK AT4_w_LEAD_MARK AR_w_LEAD_PAYLOAD IN1_w_LEAD_PAYLOAD AT1_w_LEAD_PAYLOAD IN2_w_LEAD_PAYLOAD AT2_w_LEAD_PAYLOAD IN3_w_LEAD_PAYLOAD AT3_w_LEAD_PAYLOAD IN4_w_LEAD_PAYLOAD AT4_w_LEAD_PAYLOAD p e ha hc hk s m _ below hf ((Spec.applies_iff_loose hf).mp happ).1 ⟨rfl, State.Warmed39.refl s, rfl⟩ trivial
  refine ⟨n, _, h1, h2, h3, hpost _ _ _ _ _ _ ⟨Cond.after_iff.mpr rfl, Cond.after_iff.mpr (eq_i res_at (Term.int_eval (1)) rfl), trivial⟩ ⟨hq.1, hq.2.1, (hq.2.2.sift fun y hy => Or.inr (N y hy)).mono (by decide) (by decide)⟩⟩
theorem main_1_1 : Claimed_1_1 := comes_1 fun _ _ _ _ _ _ h hF => ⟨h.1, hF⟩
theorem main_1_2 : Claimed_1_2 := comes_1 fun _ _ _ _ _ _ h hF => ⟨h.2.1, hF⟩
end Jvm.Pilot.@@N@@
namespace Jvm.Pilot.@@N@@
open Jvm Jvm.ClassFile Sem Op Lib Jvm.Free Jvm.Stand Jvm.Pilot.@@N@@.Jvm.D
/-! MADE BY PROGRAM (witnessworld.py) out of the Statement's table words and the real class files: 9 classes; the members and pool entries that the words name. The judged class is class 1, her method 1. -/
namespace start1
open Jvm.ClassFile
def u (s : String) : CpInfo := .utf8 (stringToUtf16 s)
/-- a pool by its gaps: so many unusable entries, then the entry; so many at the end -/
def gap : Nat → List CpInfo → List CpInfo
  | 0, r => r
  | n + 1, r => .unusable :: gap n r
def poolList (es : List (Nat × CpInfo)) (last : Nat) : List CpInfo := es.foldr (fun e r => gap e.1 (e.2 :: r)) (gap last [])
def pool (es : List (Nat × CpInfo)) (last : Nat) : Array CpInfo := ⟨poolList es last⟩
def fileOf (pool : Array CpInfo) (this : Nat) (attrs : Array Attribute := #[]) (ms : Array MethodInfo := #[]) (fl : Nat := 33) (sup : Nat := 0) (ifs : Array Nat := #[]) (fds : Array FieldInfo := #[]) : ClassFile where
  minorVersion := 0
  majorVersion := 65
  constantPool := pool
  accessFlags := fl
  thisClass := this
  superClass := sup
  interfaces := ifs
  fields := fds
  methods := ms
  attributes := attrs
def plain (name : String) (sup : Option ClassId) : Class where
  name := name
  kind := .ordinary
  loader := none
  accessFlags := 33
  super := sup
  interfaces := #[]
  cf := none
  fields := #[]
  methods := #[]
  instanceTypes := #[]
  staticTypes := #[]
  resolved := #[]
  callSites := []
  init := .initialized
  statics := none
  mirror := none

def pool0 : Array CpInfo := pool [(5, u "<init>"), (0, u "()V"), (1, .class_ 10), (1, u "java/lang/Object")] 113

def k0m0 : Method := { name := "<init>", desc := "()V", sig := { parameters := [], returnType := none }, accessFlags := 1, code := none }
/-- java/lang/Object -/
def k0 : Class := { plain "java/lang/Object" none with
  accessFlags := 33
  interfaces := #[]
  cf := some (fileOf pool0 8 #[] #[{ accessFlags := 1, nameIndex := 5, descriptorIndex := 6, attributes := #[] }] 33 0 #[] #[])
  fields := #[]
  methods := #[k0m0]
  instanceTypes := #[]
  staticTypes := #[]
  resolved := Array.replicate 124 none
  statics := none }

def pool1 : Array CpInfo := pool [(2, .class_ 4), (1, u "java/lang/Object"), (0, u "<init>"), (0, u "()V"), (0, .integer 2147483647), (0, .integer 1114112), (0, .integer 55296), (0, .integer 57343), (0, .methodref 12 13), (0, .class_ 14), (0, .nameAndType 15 16), (0, u "com/example/strict_codec/strictcodec/Utf8Grammar"), (0, u "scalarLength"), (0, u "(I)I"), (0, .methodref 12 18), (0, .nameAndType 19 20), (0, u "put"), (0, u "([BII)I"), (0, .methodref 12 22), (0, .nameAndType 23 20), (0, u "span"), (0, .methodref 12 25), (0, .nameAndType 26 20), (0, u "scalarValue"), (0, .class_ 28), (0, u "com/example/strict_codec/strictcodec/Utf8GrammarScalarLengthPinLaw"), (2, u "law"), (0, u "(II)Z")] 5

def k1m0 : Method := { name := "<init>", desc := "()V", sig := { parameters := [], returnType := none }, accessFlags := 2, code := none }
def k1c1 : Code := { maxStack := 3, maxLocals := 8, code := code, exceptionTable := #[], attributes := #[] }
def k1m1 : Method := { name := "law", desc := "(II)Z", sig := { parameters := [.int, .int], returnType := some .boolean }, accessFlags := 9, code := some k1c1 }
/-- com/example/strict_codec/strictcodec/Utf8GrammarScalarLengthPinLaw -/
def k1 : Class := { plain "com/example/strict_codec/strictcodec/Utf8GrammarScalarLengthPinLaw" (some 0) with
  accessFlags := 49
  interfaces := #[]
  cf := some (fileOf pool1 27 #[] #[{ accessFlags := 2, nameIndex := 5, descriptorIndex := 6, attributes := #[] }, { accessFlags := 9, nameIndex := 31, descriptorIndex := 32, attributes := #[] }] 49 2 #[] #[])
  fields := #[]
  methods := #[k1m0, k1m1]
  instanceTypes := #[]
  staticTypes := #[]
  resolved := Array.replicate 38 none
  statics := none }

def pool2 : Array CpInfo := pool [(2, .class_ 4), (1, u "java/lang/Object"), (0, u "<init>"), (0, u "()V"), (0, .class_ 8), (0, u "com/example/strict_codec/strictcodec/Utf8Grammar"), (0, .fieldref 7 10), (0, .nameAndType 11 12), (0, u "SEQUENCE_LENGTH"), (0, u "[B"), (0, .fieldref 7 14), (0, .nameAndType 15 16), (0, u "SECOND_LOW"), (0, u "[I"), (0, .fieldref 7 18), (0, .nameAndType 19 16), (0, u "SECOND_HIGH"), (6, u "REFUSAL"), (0, u "[Lcom/example/strict_codec/strictcodec/Reason;"), (0, .fieldref 7 29), (0, .nameAndType 30 16), (0, u "LEAD_PAYLOAD"), (0, .fieldref 7 32), (0, .nameAndType 33 16), (0, u "LEAD_MARK"), (2, u "$assertionsDisabled"), (0, u "Z"), (11, .integer 65536), (0, .methodref 7 51), (0, .nameAndType 52 53), (0, u "scalarLength"), (0, u "(I)I"), (29, u "LONGS"), (0, u "Ljava/lang/invoke/VarHandle;"), (11, u "([BII)I"), (4, u "NEXT"), (0, u "[J"), (2, u "REJECT"), (0, u "I"), (9, u "FIXED_2"), (2, u "FORM_2"), (12, u "FIXED_3"), (2, u "FORM_3"), (5, u "INTS"), (5, u "FIXED_1_3"), (2, u "FORM_1_3"), (2, u "FIXED_4"), (2, u "FORM_4"), (3, u "FOUR_BYTE_LEAST"), (2, u "FOUR_BYTE_MOST"), (15, u "LANE_PAYLOADS"), (0, u "J"), (2, u "LANE_FIXED"), (2, u "LANE_FORM"), (2, u "LANE_FLOOR"), (2, u "LANE_CEILING"), (2, u "LANE_GUARDS"), (11, u "THREE_BYTE_LEAST"), (2, u "THREE_BYTE_MOST"), (2, u "THREE_BYTE_GAP_FIRST"), (2, u "THREE_BYTE_GAP_LAST"), (113, u "CONTINUATION_PAYLOAD"), (2, u "CONTINUATION_MARK"), (1, u "STATE_BITS"), (0, u "ACCEPT"), (1, u "REFUSED"), (1, u "HIGH_BITS"), (7, u "put"), (0, u "span"), (1, u "scalarValue")] 27

def k2m0 : Method := { name := "<init>", desc := "()V", sig := { parameters := [], returnType := none }, accessFlags := 2, code := none }
def k2c1 : Code := { maxStack := 2, maxLocals := 2, code := prog_19_method_11_code, exceptionTable := #[], attributes := #[] }
def k2m1 : Method := { name := "scalarLength", desc := "(I)I", sig := { parameters := [.int], returnType := some .int }, accessFlags := 8, code := some k2c1 }
def k2c2 : Code := { maxStack := 5, maxLocals := 6, code := prog_19_method_12_code, exceptionTable := #[], attributes := #[] }
def k2m2 : Method := { name := "put", desc := "([BII)I", sig := { parameters := [(.array .byte), .int, .int], returnType := some .int }, accessFlags := 8, code := some k2c2 }
def k2c3 : Code := { maxStack := 3, maxLocals := 9, code := prog_19_method_13_code, exceptionTable := #[], attributes := #[] }
def k2m3 : Method := { name := "span", desc := "([BII)I", sig := { parameters := [(.array .byte), .int, .int], returnType := some .int }, accessFlags := 8, code := some k2c3 }
def k2c4 : Code := { maxStack := 4, maxLocals := 5, code := prog_19_method_14_code, exceptionTable := #[], attributes := #[] }
def k2m4 : Method := { name := "scalarValue", desc := "([BII)I", sig := { parameters := [(.array .byte), .int, .int], returnType := some .int }, accessFlags := 8, code := some k2c4 }
/-- com/example/strict_codec/strictcodec/Utf8Grammar -/
def k2 : Class := { plain "com/example/strict_codec/strictcodec/Utf8Grammar" (some 0) with
  accessFlags := 48
  interfaces := #[]
  cf := some (fileOf pool2 7 #[] #[{ accessFlags := 2, nameIndex := 5, descriptorIndex := 6, attributes := #[] }, { accessFlags := 8, nameIndex := 52, descriptorIndex := 53, attributes := #[] }, { accessFlags := 8, nameIndex := 348, descriptorIndex := 96, attributes := #[] }, { accessFlags := 8, nameIndex := 349, descriptorIndex := 96, attributes := #[] }, { accessFlags := 8, nameIndex := 351, descriptorIndex := 96, attributes := #[] }] 48 2 #[] #[{ accessFlags := 26, nameIndex := 11, descriptorIndex := 12, attributes := #[] }, { accessFlags := 26, nameIndex := 15, descriptorIndex := 16, attributes := #[] }, { accessFlags := 26, nameIndex := 19, descriptorIndex := 16, attributes := #[] }, { accessFlags := 26, nameIndex := 26, descriptorIndex := 27, attributes := #[] }, { accessFlags := 26, nameIndex := 30, descriptorIndex := 16, attributes := #[] }, { accessFlags := 26, nameIndex := 33, descriptorIndex := 16, attributes := #[] }, { accessFlags := 26, nameIndex := 330, descriptorIndex := 106, attributes := #[] }, { accessFlags := 26, nameIndex := 333, descriptorIndex := 106, attributes := #[] }, { accessFlags := 26, nameIndex := 101, descriptorIndex := 102, attributes := #[] }, { accessFlags := 26, nameIndex := 335, descriptorIndex := 106, attributes := #[] }, { accessFlags := 26, nameIndex := 336, descriptorIndex := 106, attributes := #[] }, { accessFlags := 26, nameIndex := 105, descriptorIndex := 106, attributes := #[] }, { accessFlags := 26, nameIndex := 338, descriptorIndex := 106, attributes := #[] }, { accessFlags := 26, nameIndex := 141, descriptorIndex := 84, attributes := #[] }, { accessFlags := 26, nameIndex := 83, descriptorIndex := 84, attributes := #[] }, { accessFlags := 26, nameIndex := 340, descriptorIndex := 180, attributes := #[] }, { accessFlags := 26, nameIndex := 207, descriptorIndex := 106, attributes := #[] }, { accessFlags := 26, nameIndex := 210, descriptorIndex := 106, attributes := #[] }, { accessFlags := 26, nameIndex := 213, descriptorIndex := 106, attributes := #[] }, { accessFlags := 26, nameIndex := 216, descriptorIndex := 106, attributes := #[] }, { accessFlags := 26, nameIndex := 160, descriptorIndex := 106, attributes := #[] }, { accessFlags := 26, nameIndex := 163, descriptorIndex := 106, attributes := #[] }, { accessFlags := 26, nameIndex := 116, descriptorIndex := 106, attributes := #[] }, { accessFlags := 26, nameIndex := 119, descriptorIndex := 106, attributes := #[] }, { accessFlags := 26, nameIndex := 132, descriptorIndex := 106, attributes := #[] }, { accessFlags := 26, nameIndex := 135, descriptorIndex := 106, attributes := #[] }, { accessFlags := 26, nameIndex := 147, descriptorIndex := 106, attributes := #[] }, { accessFlags := 26, nameIndex := 150, descriptorIndex := 106, attributes := #[] }, { accessFlags := 26, nameIndex := 153, descriptorIndex := 106, attributes := #[] }, { accessFlags := 26, nameIndex := 156, descriptorIndex := 106, attributes := #[] }, { accessFlags := 26, nameIndex := 183, descriptorIndex := 180, attributes := #[] }, { accessFlags := 26, nameIndex := 186, descriptorIndex := 180, attributes := #[] }, { accessFlags := 26, nameIndex := 179, descriptorIndex := 180, attributes := #[] }, { accessFlags := 26, nameIndex := 195, descriptorIndex := 180, attributes := #[] }, { accessFlags := 26, nameIndex := 189, descriptorIndex := 180, attributes := #[] }, { accessFlags := 26, nameIndex := 192, descriptorIndex := 180, attributes := #[] }, { accessFlags := 4120, nameIndex := 36, descriptorIndex := 37, attributes := #[] }])
  fields := #[{ name := "SEQUENCE_LENGTH", type := (.array .byte), accessFlags := 26, slot := 0, constantValue := 0 }, { name := "SECOND_LOW", type := (.array .int), accessFlags := 26, slot := 1, constantValue := 0 }, { name := "SECOND_HIGH", type := (.array .int), accessFlags := 26, slot := 2, constantValue := 0 }, { name := "REFUSAL", type := (.array (.object "com/example/strict_codec/strictcodec/Reason")), accessFlags := 26, slot := 3, constantValue := 0 }, { name := "LEAD_PAYLOAD", type := (.array .int), accessFlags := 26, slot := 4, constantValue := 0 }, { name := "LEAD_MARK", type := (.array .int), accessFlags := 26, slot := 5, constantValue := 0 }, { name := "CONTINUATION_PAYLOAD", type := .int, accessFlags := 26, slot := 6, constantValue := 0 }, { name := "CONTINUATION_MARK", type := .int, accessFlags := 26, slot := 7, constantValue := 0 }, { name := "NEXT", type := (.array .long), accessFlags := 26, slot := 8, constantValue := 0 }, { name := "STATE_BITS", type := .int, accessFlags := 26, slot := 9, constantValue := 0 }, { name := "ACCEPT", type := .int, accessFlags := 26, slot := 10, constantValue := 0 }, { name := "REJECT", type := .int, accessFlags := 26, slot := 11, constantValue := 0 }, { name := "REFUSED", type := .int, accessFlags := 26, slot := 12, constantValue := 0 }, { name := "INTS", type := (.object "java/lang/invoke/VarHandle"), accessFlags := 26, slot := 13, constantValue := 0 }, { name := "LONGS", type := (.object "java/lang/invoke/VarHandle"), accessFlags := 26, slot := 14, constantValue := 0 }, { name := "HIGH_BITS", type := .long, accessFlags := 26, slot := 15, constantValue := 0 }, { name := "THREE_BYTE_LEAST", type := .int, accessFlags := 26, slot := 16, constantValue := 0 }, { name := "THREE_BYTE_MOST", type := .int, accessFlags := 26, slot := 17, constantValue := 0 }, { name := "THREE_BYTE_GAP_FIRST", type := .int, accessFlags := 26, slot := 18, constantValue := 0 }, { name := "THREE_BYTE_GAP_LAST", type := .int, accessFlags := 26, slot := 19, constantValue := 0 }, { name := "FOUR_BYTE_LEAST", type := .int, accessFlags := 26, slot := 20, constantValue := 0 }, { name := "FOUR_BYTE_MOST", type := .int, accessFlags := 26, slot := 21, constantValue := 0 }, { name := "FIXED_2", type := .int, accessFlags := 26, slot := 22, constantValue := 0 }, { name := "FORM_2", type := .int, accessFlags := 26, slot := 23, constantValue := 0 }, { name := "FIXED_3", type := .int, accessFlags := 26, slot := 24, constantValue := 0 }, { name := "FORM_3", type := .int, accessFlags := 26, slot := 25, constantValue := 0 }, { name := "FIXED_1_3", type := .int, accessFlags := 26, slot := 26, constantValue := 0 }, { name := "FORM_1_3", type := .int, accessFlags := 26, slot := 27, constantValue := 0 }, { name := "FIXED_4", type := .int, accessFlags := 26, slot := 28, constantValue := 0 }, { name := "FORM_4", type := .int, accessFlags := 26, slot := 29, constantValue := 0 }, { name := "LANE_FIXED", type := .long, accessFlags := 26, slot := 30, constantValue := 0 }, { name := "LANE_FORM", type := .long, accessFlags := 26, slot := 31, constantValue := 0 }, { name := "LANE_PAYLOADS", type := .long, accessFlags := 26, slot := 32, constantValue := 0 }, { name := "LANE_GUARDS", type := .long, accessFlags := 26, slot := 33, constantValue := 0 }, { name := "LANE_FLOOR", type := .long, accessFlags := 26, slot := 34, constantValue := 0 }, { name := "LANE_CEILING", type := .long, accessFlags := 26, slot := 35, constantValue := 0 }, { name := "$assertionsDisabled", type := .boolean, accessFlags := 4120, slot := 36, constantValue := 0 }]
  methods := #[k2m0, k2m1, k2m2, k2m3, k2m4]
  instanceTypes := #[]
  staticTypes := #[(.array .byte), (.array .int), (.array .int), (.array (.object "com/example/strict_codec/strictcodec/Reason")), (.array .int), (.array .int), .int, .int, (.array .long), .int, .int, .int, .int, (.object "java/lang/invoke/VarHandle"), (.object "java/lang/invoke/VarHandle"), .long, .int, .int, .int, .int, .int, .int, .int, .int, .int, .int, .int, .int, .int, .int, .long, .long, .long, .long, .long, .long, .boolean]
  resolved := Array.replicate 379 none
  statics := some 0 }

def pool3 : Array CpInfo := pool [(1, u "java/lang/Cloneable"), (0, .class_ 1), (0, u "java/lang/Object"), (0, .class_ 3)] 3

/-- java/lang/Cloneable -/
def k3 : Class := { plain "java/lang/Cloneable" (some 0) with
  accessFlags := 1537
  interfaces := #[]
  cf := some (fileOf pool3 2 #[] #[] 1537 4 #[] #[])
  fields := #[]
  methods := #[]
  instanceTypes := #[]
  staticTypes := #[]
  resolved := Array.replicate 8 none
  statics := none }

def pool4 : Array CpInfo := pool [(1, u "java/io/Serializable"), (0, .class_ 1), (0, u "java/lang/Object"), (0, .class_ 3)] 3

/-- java/io/Serializable -/
def k4 : Class := { plain "java/io/Serializable" (some 0) with
  accessFlags := 1537
  interfaces := #[]
  cf := some (fileOf pool4 2 #[] #[] 1537 4 #[] #[])
  fields := #[]
  methods := #[]
  instanceTypes := #[]
  staticTypes := #[]
  resolved := Array.replicate 8 none
  statics := none }

/-- the primitive byte -/
def k5 : Class := { plain "byte" none with kind := .primitive 'B', accessFlags := 0x411 }
/-- [B -/
def k6 : Class := { plain "[B" (some 0) with kind := .array 5 .byte, interfaces := #[3, 4], accessFlags := 1041 }

/-- the primitive int -/
def k7 : Class := { plain "int" none with kind := .primitive 'I', accessFlags := 0x411 }
/-- [I -/
def k8 : Class := { plain "[I" (some 0) with kind := .array 7 .int, interfaces := #[3, 4], accessFlags := 1041 }

def heap : Heap := #[{ cls := 2, slots := #[.ref 1, .ref 2, .ref 3, .null, .ref 5, .ref 4, .int 0, .int 0, .null, .int 0, .int 0, .int 0, .int 0, .null, .null, .long 0, .int 0, .int 0, .int 0, .int 0, .int 0, .int 0, .int 0, .int 0, .int 0, .int 0, .int 0, .int 0, .int 0, .int 0, .long 0, .long 0, .long 0, .long 0, .long 0, .long 0, .int 0], vm := .statics 2 },
  { cls := 6, slots := #[.int 1, .int 1, .int 1, .int 1, .int 1, .int 1, .int 1, .int 1, .int 1, .int 1, .int 1, .int 1, .int 1, .int 1, .int 1, .int 1, .int 1, .int 1, .int 1, .int 1, .int 1, .int 1, .int 1, .int 1, .int 1, .int 1, .int 1, .int 1, .int 1, .int 1, .int 1, .int 1, .int 1, .int 1, .int 1, .int 1, .int 1, .int 1, .int 1, .int 1, .int 1, .int 1, .int 1, .int 1, .int 1, .int 1, .int 1, .int 1, .int 1, .int 1, .int 1, .int 1, .int 1, .int 1, .int 1, .int 1, .int 1, .int 1, .int 1, .int 1, .int 1, .int 1, .int 1, .int 1, .int 1, .int 1, .int 1, .int 1, .int 1, .int 1, .int 1, .int 1, .int 1, .int 1, .int 1, .int 1, .int 1, .int 1, .int 1, .int 1, .int 1, .int 1, .int 1, .int 1, .int 1, .int 1, .int 1, .int 1, .int 1, .int 1, .int 1, .int 1, .int 1, .int 1, .int 1, .int 1, .int 1, .int 1, .int 1, .int 1, .int 1, .int 1, .int 1, .int 1, .int 1, .int 1, .int 1, .int 1, .int 1, .int 1, .int 1, .int 1, .int 1, .int 1, .int 1, .int 1, .int 1, .int 1, .int 1, .int 1, .int 1, .int 1, .int 1, .int 1, .int 1, .int 1, .int 1, .int 1, .int 0, .int 0, .int 0, .int 0, .int 0, .int 0, .int 0, .int 0, .int 0, .int 0, .int 0, .int 0, .int 0, .int 0, .int 0, .int 0, .int 0, .int 0, .int 0, .int 0, .int 0, .int 0, .int 0, .int 0, .int 0, .int 0, .int 0, .int 0, .int 0, .int 0, .int 0, .int 0, .int 0, .int 0, .int 0, .int 0, .int 0, .int 0, .int 0, .int 0, .int 0, .int 0, .int 0, .int 0, .int 0, .int 0, .int 0, .int 0, .int 0, .int 0, .int 0, .int 0, .int 0, .int 0, .int 0, .int 0, .int 0, .int 0, .int 0, .int 0, .int 0, .int 0, .int 0, .int 0, .int 0, .int 0, .int 2, .int 2, .int 2, .int 2, .int 2, .int 2, .int 2, .int 2, .int 2, .int 2, .int 2, .int 2, .int 2, .int 2, .int 2, .int 2, .int 2, .int 2, .int 2, .int 2, .int 2, .int 2, .int 2, .int 2, .int 2, .int 2, .int 2, .int 2, .int 2, .int 2, .int 3, .int 3, .int 3, .int 3, .int 3, .int 3, .int 3, .int 3, .int 3, .int 3, .int 3, .int 3, .int 3, .int 3, .int 3, .int 3, .int 4, .int 4, .int 4, .int 4, .int 4, .int 0, .int 0, .int 0, .int 0, .int 0, .int 0, .int 0, .int 0, .int 0, .int 0, .int 0], vm := .none },
  { cls := 8, slots := #[.int 0, .int 0, .int 0, .int 0, .int 0, .int 0, .int 0, .int 0, .int 0, .int 0, .int 0, .int 0, .int 0, .int 0, .int 0, .int 0, .int 0, .int 0, .int 0, .int 0, .int 0, .int 0, .int 0, .int 0, .int 0, .int 0, .int 0, .int 0, .int 0, .int 0, .int 0, .int 0, .int 0, .int 0, .int 0, .int 0, .int 0, .int 0, .int 0, .int 0, .int 0, .int 0, .int 0, .int 0, .int 0, .int 0, .int 0, .int 0, .int 0, .int 0, .int 0, .int 0, .int 0, .int 0, .int 0, .int 0, .int 0, .int 0, .int 0, .int 0, .int 0, .int 0, .int 0, .int 0, .int 0, .int 0, .int 0, .int 0, .int 0, .int 0, .int 0, .int 0, .int 0, .int 0, .int 0, .int 0, .int 0, .int 0, .int 0, .int 0, .int 0, .int 0, .int 0, .int 0, .int 0, .int 0, .int 0, .int 0, .int 0, .int 0, .int 0, .int 0, .int 0, .int 0, .int 0, .int 0, .int 0, .int 0, .int 0, .int 0, .int 0, .int 0, .int 0, .int 0, .int 0, .int 0, .int 0, .int 0, .int 0, .int 0, .int 0, .int 0, .int 0, .int 0, .int 0, .int 0, .int 0, .int 0, .int 0, .int 0, .int 0, .int 0, .int 0, .int 0, .int 0, .int 0, .int 0, .int 0, .int 0, .int 0, .int 0, .int 0, .int 0, .int 0, .int 0, .int 0, .int 0, .int 0, .int 0, .int 0, .int 0, .int 0, .int 0, .int 0, .int 0, .int 0, .int 0, .int 0, .int 0, .int 0, .int 0, .int 0, .int 0, .int 0, .int 0, .int 0, .int 0, .int 0, .int 0, .int 0, .int 0, .int 0, .int 0, .int 0, .int 0, .int 0, .int 0, .int 0, .int 0, .int 0, .int 0, .int 0, .int 0, .int 0, .int 0, .int 0, .int 0, .int 0, .int 0, .int 0, .int 0, .int 0, .int 0, .int 0, .int 0, .int 0, .int 0, .int 0, .int 0, .int 0, .int 0, .int 0, .int 0, .int 0, .int 128, .int 128, .int 128, .int 128, .int 128, .int 128, .int 128, .int 128, .int 128, .int 128, .int 128, .int 128, .int 128, .int 128, .int 128, .int 128, .int 128, .int 128, .int 128, .int 128, .int 128, .int 128, .int 128, .int 128, .int 128, .int 128, .int 128, .int 128, .int 128, .int 128, .int 160, .int 128, .int 128, .int 128, .int 128, .int 128, .int 128, .int 128, .int 128, .int 128, .int 128, .int 128, .int 128, .int 128, .int 128, .int 128, .int 144, .int 128, .int 128, .int 128, .int 128, .int 0, .int 0, .int 0, .int 0, .int 0, .int 0, .int 0, .int 0, .int 0, .int 0, .int 0], vm := .none },
  { cls := 8, slots := #[.int 0, .int 0, .int 0, .int 0, .int 0, .int 0, .int 0, .int 0, .int 0, .int 0, .int 0, .int 0, .int 0, .int 0, .int 0, .int 0, .int 0, .int 0, .int 0, .int 0, .int 0, .int 0, .int 0, .int 0, .int 0, .int 0, .int 0, .int 0, .int 0, .int 0, .int 0, .int 0, .int 0, .int 0, .int 0, .int 0, .int 0, .int 0, .int 0, .int 0, .int 0, .int 0, .int 0, .int 0, .int 0, .int 0, .int 0, .int 0, .int 0, .int 0, .int 0, .int 0, .int 0, .int 0, .int 0, .int 0, .int 0, .int 0, .int 0, .int 0, .int 0, .int 0, .int 0, .int 0, .int 0, .int 0, .int 0, .int 0, .int 0, .int 0, .int 0, .int 0, .int 0, .int 0, .int 0, .int 0, .int 0, .int 0, .int 0, .int 0, .int 0, .int 0, .int 0, .int 0, .int 0, .int 0, .int 0, .int 0, .int 0, .int 0, .int 0, .int 0, .int 0, .int 0, .int 0, .int 0, .int 0, .int 0, .int 0, .int 0, .int 0, .int 0, .int 0, .int 0, .int 0, .int 0, .int 0, .int 0, .int 0, .int 0, .int 0, .int 0, .int 0, .int 0, .int 0, .int 0, .int 0, .int 0, .int 0, .int 0, .int 0, .int 0, .int 0, .int 0, .int 0, .int 0, .int 0, .int 0, .int 0, .int 0, .int 0, .int 0, .int 0, .int 0, .int 0, .int 0, .int 0, .int 0, .int 0, .int 0, .int 0, .int 0, .int 0, .int 0, .int 0, .int 0, .int 0, .int 0, .int 0, .int 0, .int 0, .int 0, .int 0, .int 0, .int 0, .int 0, .int 0, .int 0, .int 0, .int 0, .int 0, .int 0, .int 0, .int 0, .int 0, .int 0, .int 0, .int 0, .int 0, .int 0, .int 0, .int 0, .int 0, .int 0, .int 0, .int 0, .int 0, .int 0, .int 0, .int 0, .int 0, .int 0, .int 0, .int 0, .int 0, .int 0, .int 0, .int 0, .int 0, .int 0, .int 0, .int 0, .int 0, .int 0, .int 191, .int 191, .int 191, .int 191, .int 191, .int 191, .int 191, .int 191, .int 191, .int 191, .int 191, .int 191, .int 191, .int 191, .int 191, .int 191, .int 191, .int 191, .int 191, .int 191, .int 191, .int 191, .int 191, .int 191, .int 191, .int 191, .int 191, .int 191, .int 191, .int 191, .int 191, .int 191, .int 191, .int 191, .int 191, .int 191, .int 191, .int 191, .int 191, .int 191, .int 191, .int 191, .int 191, .int 159, .int 191, .int 191, .int 191, .int 191, .int 191, .int 191, .int 143, .int 0, .int 0, .int 0, .int 0, .int 0, .int 0, .int 0, .int 0, .int 0, .int 0, .int 0], vm := .none },
  { cls := 8, slots := #[.int 0, .int 0, .int 192, .int 224, .int 240], vm := .none },
  { cls := 8, slots := #[.int 0, .int 127, .int 31, .int 15, .int 7], vm := .none }]
def classes : Array Class := #[k0, k1, k2, k3, k4, k5, k6, k7, k8]
def interned : List (Array UInt16 × Addr) := []
def slotsUsed : Nat := 815
def theMethod : MethodId := ⟨1, 1⟩
def args0 : Array Value := #[.int 1, .int 2]
def aboutOver (below : List Frame) : State where
  vm := { classes := classes, interned := interned.toArray }
  heap := heap
  slotsUsed := slotsUsed
  threads := #[{ frames := .invoking theMethod args0 :: below }]
def below0 : List Frame := [.native { method := ⟨0, 0⟩, args := #[] }]
def about1 : State := aboutOver below0
def p0 : Program := .bare "" "" ""
def e0 : Env := launch0.env 0 0 0
theorem w_frames : about1.frames = Frame.invoking theMethod args0 :: below0 := rfl
set_option maxRecDepth 65536 in
theorem w_args : argsFit about1.vm theMethod args0 = true := by decide +kernel
set_option maxRecDepth 65536 in
theorem w_heap : heapFits about1 = true := by decide +kernel
set_option maxRecDepth 65536 in
theorem w_runnable : about1.curStatus? = some .runnable := by decide +kernel
set_option maxRecDepth 65536 in
theorem w_alone : about1.alone = true := by decide +kernel
set_option maxRecDepth 65536 in
theorem w_named : about1.methodNamed? x = some theMethod := by decide +kernel
set_option maxRecDepth 65536 in
theorem w_hears : about1.hears theMethod below0 = true := by decide +kernel
set_option maxRecDepth 65536 in
theorem w_ripe : about1.ripe theMethod args0 below0 = true := by decide +kernel
theorem w_running : about1.status = .running := rfl
set_option maxRecDepth 65536 in
theorem w_room : about1.hasRoom e0.platform room_1 = true :=
  launch0.hasRoom_least _ room_1 (by decide +kernel) (by decide +kernel) (by decide +kernel) (by decide +kernel) (by decide +kernel) (by decide +kernel)
theorem allAtoms_all (ts : List Jvm.Cond) (a : Array Jvm.Value) (st : Jvm.State) : (allAtoms ts).before a st = ts.all (fun c => c.before a st) := by
  induction ts with
  | nil => rfl
  | cons c t ih =>
    show (Jvm.Cond.and c (allAtoms t)).before a st = _
    rw [Jvm.Cond.before_and, ih, List.all_cons]
def words1 : List Jvm.Cond := Jvm.Cond.code x code maxLocals ret :: tables_1
/-- a 'code' word, met by the world's own term for the bytes: nothing is compared byte by byte -/
theorem code_word {y : MethodName} {bytes : ByteArray} {mx : Nat} {rt : Option FieldType} {a : Array Value} {s : State} {m : MethodId} {meth : Method} {c : Code} (h1 : s.methodNamed? y = some m) (h2 : s.vm.method? m = some meth) (h3 : meth.code = some c) (h4 : c.code = bytes)
    (h5 : (c.maxLocals == mx && c.exceptionTable.isEmpty && decide (c.maxStack ≤ mostOperands) && decide (meth.sig.returnType = rt) && !meth.locks && decide (parseMethodDescriptor y.desc = some meth.sig)) = true) : (Jvm.Cond.code y bytes mx rt).before a s = true := by
  simp only [Bool.and_eq_true, beq_iff_eq, Bool.not_eq_true', decide_eq_true_eq] at h5
  obtain ⟨⟨⟨⟨⟨g1, g2⟩, g3⟩, g4⟩, g5⟩, g6⟩ := h5
  simp [Cond.before, Cond.holds, Cond.value, h1, h2, h3, h4, g1, g2, g3, g4, g5, g6]
def isCode : Jvm.Cond → Bool
  | .code _ _ _ _ => true
  | _ => false
theorem all_split {L : List Jvm.Cond} {P : Jvm.Cond → Bool} (h1 : L.all (fun c => isCode c || P c) = true) (h2 : ∀ c ∈ L.filter isCode, P c = true) : L.all P = true := by
  refine List.all_eq_true.mpr fun c hc => ?_
  have h := List.all_eq_true.mp h1 c hc
  rcases Bool.eq_false_or_eq_true (isCode c) with hi | hi
  · exact h2 c (List.mem_filter.mpr ⟨hc, hi⟩)
  · simpa [hi] using h
set_option maxRecDepth 65536 in
theorem w_c0 : (Jvm.Cond.code x code maxLocals ret).before args0 about1 = true := code_word (m := ⟨1, 1⟩) (meth := k1m1) (c := k1c1) (by decide +kernel) rfl rfl rfl (by decide +kernel)
set_option maxRecDepth 65536 in
theorem w_c1 : (Jvm.Cond.code ({ cls := "com/example/strict_codec/strictcodec/Utf8Grammar", name := "scalarLength", desc := "(I)I" } : Jvm.MethodName) prog_19_method_11_code (2 : Nat) (Option.some Jvm.ClassFile.FieldType.int)).before args0 about1 = true := code_word (m := ⟨2, 1⟩) (meth := k2m1) (c := k2c1) (by decide +kernel) rfl rfl rfl (by decide +kernel)
set_option maxRecDepth 65536 in
theorem w_c2 : (Jvm.Cond.code ({ cls := "com/example/strict_codec/strictcodec/Utf8Grammar", name := "put", desc := "([BII)I" } : Jvm.MethodName) prog_19_method_12_code (6 : Nat) (Option.some Jvm.ClassFile.FieldType.int)).before args0 about1 = true := code_word (m := ⟨2, 2⟩) (meth := k2m2) (c := k2c2) (by decide +kernel) rfl rfl rfl (by decide +kernel)
set_option maxRecDepth 65536 in
theorem w_c3 : (Jvm.Cond.code ({ cls := "com/example/strict_codec/strictcodec/Utf8Grammar", name := "span", desc := "([BII)I" } : Jvm.MethodName) prog_19_method_13_code (9 : Nat) (Option.some Jvm.ClassFile.FieldType.int)).before args0 about1 = true := code_word (m := ⟨2, 3⟩) (meth := k2m3) (c := k2c3) (by decide +kernel) rfl rfl rfl (by decide +kernel)
set_option maxRecDepth 65536 in
theorem w_c4 : (Jvm.Cond.code ({ cls := "com/example/strict_codec/strictcodec/Utf8Grammar", name := "scalarValue", desc := "([BII)I" } : Jvm.MethodName) prog_19_method_14_code (5 : Nat) (Option.some Jvm.ClassFile.FieldType.int)).before args0 about1 = true := code_word (m := ⟨2, 4⟩) (meth := k2m4) (c := k2c4) (by decide +kernel) rfl rfl rfl (by decide +kernel)
def codes1 : List Jvm.Cond := [Jvm.Cond.code x code maxLocals ret, Jvm.Cond.code ({ cls := "com/example/strict_codec/strictcodec/Utf8Grammar", name := "scalarLength", desc := "(I)I" } : Jvm.MethodName) prog_19_method_11_code (2 : Nat) (Option.some Jvm.ClassFile.FieldType.int), Jvm.Cond.code ({ cls := "com/example/strict_codec/strictcodec/Utf8Grammar", name := "put", desc := "([BII)I" } : Jvm.MethodName) prog_19_method_12_code (6 : Nat) (Option.some Jvm.ClassFile.FieldType.int), Jvm.Cond.code ({ cls := "com/example/strict_codec/strictcodec/Utf8Grammar", name := "span", desc := "([BII)I" } : Jvm.MethodName) prog_19_method_13_code (9 : Nat) (Option.some Jvm.ClassFile.FieldType.int), Jvm.Cond.code ({ cls := "com/example/strict_codec/strictcodec/Utf8Grammar", name := "scalarValue", desc := "([BII)I" } : Jvm.MethodName) prog_19_method_14_code (5 : Nat) (Option.some Jvm.ClassFile.FieldType.int)]
set_option maxRecDepth 65536 in
theorem codes_eq : words1.filter isCode = codes1 := rfl
theorem w_codes : ∀ c ∈ words1.filter isCode, c.before args0 about1 = true := by
  rw [codes_eq]
  intro c hc
  simp only [codes1, List.mem_cons, List.not_mem_nil, or_false] at hc
  rcases hc with rfl | rfl | rfl | rfl | rfl
  · exact w_c0
  · exact w_c1
  · exact w_c2
  · exact w_c3
  · exact w_c4
set_option maxRecDepth 65536 in
theorem w_t1 : (words1.take 24).all (fun c => isCode c || c.before args0 about1) = true := by decide +kernel
set_option maxRecDepth 65536 in
theorem w_t2 : (words1.drop 24).all (fun c => isCode c || c.before args0 about1) = true := by decide +kernel
theorem w_tables : (allAtoms (Jvm.Cond.code x code maxLocals ret :: tables_1)).before args0 about1 = true := by
  rw [allAtoms_all]
  show words1.all (fun c => c.before args0 about1) = true
  refine all_split ?_ w_codes
  rw [← List.take_append_drop 24 words1, List.all_append, w_t1, w_t2]
  rfl
set_option maxRecDepth 65536 in
theorem w_case : (Jvm.Cond.and given_1 narrow_1).before args0 about1 = true := by decide +kernel
theorem w_applies : (headSpec (Jvm.Cond.code x code maxLocals ret :: tables_1) room_1).applies x e0.platform about1 = true :=
  (Spec.applies_iff w_frames).mpr ⟨w_running, w_runnable, w_alone, w_named, w_hears, w_ripe, w_room, w_tables⟩
theorem atStart : AtStart classFile x code maxLocals ret World_1 tables_1 room_1 Calls_1 rest_1 Pre_1 launch0 p0 e0 about1 theMethod args0 below0 :=
  ⟨lists_1, trivial, launch0.admits_env _ _ _, launch0.least_env, fairChoices_fair.cas, fairChoices_fair.clock, w_frames, w_args, w_heap, w_applies, trivial, trivial, w_case⟩
end start1
theorem witness_1 : WitnessClaimed_1 := ⟨start1.p0, start1.e0, start1.about1, start1.theMethod, start1.args0, start1.below0, start1.atStart⟩
end Jvm.Pilot.@@N@@
